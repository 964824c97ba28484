/-
  Data can be written byte by byte (at most 4096 bytes).
-/
import Derived.Test.YtaknphghhlljmabRows
import Derived.Test.YtaknphghhlljmabOpen
import Derived.Test.YtaknphghhlljmabSteps224
import Derived.Test.YtaknphghhlljmabCut1
import Derived.Test.YtaknphghhlljmabCutB
namespace Go.Proofs.Ytaknphghhlljmab.fnByteByByte224
open Go.ChangeShapes Go.WideShapes Go.ChangeAt Go.RowKit
set_option linter.unusedVariables false

theorem flat_one (l : List Int) : (l.map fun x => [x]).flatten = l := by
  induction l with
  | nil => rfl
  | cons x r ih => simp [ih]

set_option maxRecDepth 100000 in
set_option maxHeartbeats 2000000 in
theorem walk (K : Nat → Int) (v0 : Value) (l0 : List Int) (w : World) (hK : KAt w K) (h0 : Bts w v0 l0) (z0 : l0.length ≤ 140737488351232) :
    Calls Try.prog 12 #[v0] w fun e w' => e = .returned (.bool true) ∧ Bel w w' := by
  have HB0 := Lib.hid h0
  have HK := Lib.hid hK
  have HLEN := Lib.hid (show ∀ l, (digest K true l).length = 28 from fun l => digest_length K true l)
  obtain ⟨a0, c0, rfl, n0, m0, s0⟩ := h0
  have HW := Lib.hid (whole224_any K l0 a0 c0 w s0 hK n0 m0)
  clear s0 hK
  by_cases hz : l0.length ≤ 4096
  · have t1 : decide ((4096 : Int) < (l0.length : Int)) = false := by simp; omega
    go_enter Try.func12, Try.ntmps12
    go_wp2_with (go_at_call 22; refine HW.out.mono ?_; rintro e w1 ⟨v1, rfl, h1⟩; obtain ⟨a1, c1, e1⟩ := h1.slc (HLEN.out _); subst e1; have H1 := Lib.hid h1; clear h1)
    have hal : Bel w1 (w1.alloc (.cells #[.int .i64 1] 3)) := Bel.alloc (Below.refl _ _) _
    have hcl : (w1.alloc (.cells #[.int .i64 1] 3)).cell? ⟨w1.heap.size, 0, none⟩ = some (.int .i64 1) := by
      rw [cell_of_row _ _ 0 _ _ _ (heap_alloc_new w1 _)]; rfl
    refine (cut1_any _ l0 w1.heap.size _ ((HB0.out.bel H1.out.2.1).bel hal) hcl hz).mono ?_
    rintro e w2 ⟨v2, vs, rfl, hp, hb2⟩
    obtain ⟨ad, cap, rfl, hpts⟩ := hp.pts
    have hbel2 : Bel w w2 := (H1.out.2.1.trans' hal).trans' hb2
    have hst := steps224_any K _ ad cap w2 hpts (HK.out.bel hbel2) (by simp; omega)
    have hfl := flat_one l0
    rw [hfl, List.length_map] at hst
    rw [List.length_map]
    have HST := Lib.hid hst
    have HA2 := Lib.hid ((H1.out.1.bel hal).bel hb2)
    have HE2 := Lib.hid hbel2
    clear hp hpts hb2 hbel2 hal hcl hfl hst
    go_wp2_with (go_at_call 25; refine HST.out.mono ?_; rintro e w3 ⟨v3, rfl, h3⟩; have HSM := Lib.hid (same_any _ _ _ w3 (HA2.out.bel h3.2.1) h3.1); have HE3 := Lib.hid (HE2.out.trans' h3.2.1); clear h3)
    refine HSM.out.mono ?_
    rintro e w4 ⟨rfl, m, rfl⟩
    go_wp2_with fail
    go_ret
    exact ⟨rfl, HE3.out.drewN _⟩
  · have t1 : decide ((4096 : Int) < (l0.length : Int)) = true := by simp; omega
    go_enter Try.func12, Try.ntmps12
    go_wp2_with fail
    go_ret
    exact ⟨rfl, Below.refl _ _⟩

set_option maxRecDepth 100000 in
theorem lifted (os : Os) (started : os.Started) (H : Type) (enc : TypeId × Value → H) :
    ReturnsInHanded {} Try.checked os 12 .any (Rows.fnByteByByte224Spec.pre6 enc Try.prog Try.f12 Rows.fnByteByByte224Row.domain false) (Rows.fnByteByByte224Spec.post enc Try.prog Try.f12 false true false false) := by
  refine returnsInHanded_of_change_shaped (C := Try.checked) ownN started (by kernel_rfl) Try.func12
    (ChangeSpec.witness6 (enc := enc) (C := Try.checked) false ⟨#[], #[.slice none 0 0], []⟩ 8 (by kernel_rfl) (by kernel_rfl) (by kernel_rfl) (by kernel_rfl)) ?_
  intro W base args ds gs before hval0 hW hcnd hz0 hsh _
  have hval : ∀ (j : Nat) t v, Try.f12.params[j]? = some t → args[j]? = some v → Value.okWide Try.prog W .any base t v := hval0
  have hz : (DataW.weightsEach Try.prog (Try.f12.params.toList ++ (Rows.fnByteByByte224Spec.plain.varTypes Try.prog)) (ds ++ gs)).all (· ≤ reachBytes) = true := hz0
  have hW' := hW
  obtain ⟨p, q, hA0, hV, rfl, hfz, hnd⟩ := hW
  have hA : DataW.TrodAll enc Try.prog W 0 (fun _ => true) true Try.f12.params.toList args.toList ds p := hA0
  rw [Try.params12] at hA hval hz
  obtain ⟨v0, vs0, d0, ds0, p0, q0, hargs, rfl, rfl, h0, r0⟩ := trodAll_cons hA
  obtain ⟨rfl, rfl, rfl⟩ := trodAll_nil r0
  obtain rfl : args = #[v0] := by cases args; simp_all
  obtain ⟨rfl, rfl⟩ := trodVars_none hV
  obtain ⟨K, hK⟩ := kat_of_shaped hsh
  have k0 := h0
  have lt0 : ∀ x ∈ p0, x.block < W.heap.size := by obtain ⟨m, hm⟩ := k0; exact DataW.trod_lt m _ _ _ hm
  obtain ⟨l0, b0, z0⟩ := open_arg rfl (hval 0 22 v0 rfl rfl) h0 hz (j := 0) rfl rfl
  clear hA0 hval0 hz hz0
  refine (walk K v0 l0 W hK b0 z0).mono fun e W' ⟨he, bel⟩ => ?_
  subst he
  exact ⟨_, rfl, _, _, _, [], _, [], hW', trodAll_mk1 (shut_bool Try.underlying4 _), (trodAll_cons_mk (Below.trod laidOutN (by kernel_rfl) (of_decide_eq_true (by kernel_rfl)) k0 bel lt0) trodAll_mk0), rfl, bel.frame _, fun h => by cases h⟩

theorem over : Rows.fnByteByByte224Row.holds Try.pinned (OpenSpec.ofChange Rows.fnByteByByte224Spec) :=
  OpenClaim.holds_of_wide 12 Try.f12 rfl rfl rfl rfl rfl rfl rfl ⟨rfl, rfl, rfl, rfl, rfl⟩ rfl rfl rfl rfl rfl (by kernel_rfl) Try.func12 (by kernel_rfl)
    (of_decide_eq_true (by kernel_rfl)) (by unfold Func.isWrapper; first | (rw [if_pos (by decide +kernel)]; kernel_rfl) | (rw [if_neg (by decide +kernel)]; exact ⟨rfl, rfl⟩))
    (fun os started H enc _ => lifted os started H enc)

theorem proved : Rows.FnByteByByte224Said := over
end Go.Proofs.Ytaknphghhlljmab.fnByteByByte224

/-
  Sum appends the checksum to a prefix.
-/
import Derived.Test.YtaknphghhlljmabRows
import Derived.Test.YtaknphghhlljmabOpen
import Derived.Test.YtaknphghhlljmabOnto224
import Derived.Test.YtaknphghhlljmabJoin
import Derived.Test.YtaknphghhlljmabCutB
namespace Go.Proofs.Ytaknphghhlljmab.fnExactOnto224
open Go.ChangeShapes Go.WideShapes Go.ChangeAt Go.RowKit
set_option linter.unusedVariables false

set_option maxRecDepth 100000 in
set_option maxHeartbeats 2000000 in
theorem walk (K : Nat → Int) (v0 : Value) (l0 : List Int) (v1 : Value) (l1 : List Int) (w : World) (hK : KAt w K) (h0 : Bts w v0 l0) (z0 : l0.length ≤ 140737488351232) (h1 : Bts w v1 l1) (z1 : l1.length ≤ 140737488351232) :
    Calls Try.prog 7 #[v0, v1] w fun e w' => e = .returned (.bool true) ∧ Bel w w' := by
  have HB0 := Lib.hid h0
  have HB1 := Lib.hid h1
  have HK := Lib.hid hK
  have HLEN := Lib.hid (show ∀ l, (digest K true l).length = 28 from fun l => digest_length K true l)
  have HW := Lib.hid (show ∀ W, Bel w W → Calls Try.prog 22 #[v1] W fun e w' => ∃ v, e = .returned v ∧ NewB W w' v (digest K true l1) from fun W hW => by obtain ⟨a0, c0, rfl, n0, m0, s0⟩ := h1; exact whole224_any K l1 a0 c0 W (s0.bel hW) (hK.bel hW) n0 m0)
  have HO := Lib.hid (onto224_any K v0 v1 l0 l1 w h0 h1 hK z0)
  obtain ⟨a0, c0, rfl, _⟩ := h0
  obtain ⟨a1, c1, rfl, _⟩ := h1
  clear hK
  have hwr : IntKind.i64.wrap ((l0.length : Int) + 28) = (l0.length : Int) + 28 := by rw [IntKind.wrap_i64]; omega
  have hcast : ((l0.length + 28 : Nat) : Int) = (l0.length : Int) + 28 := by omega
  go_enter Try.func7, Try.ntmps7
  go_wp2_with (fail)
  refine HO.out.mono ?_
  rintro e w1 ⟨va, rfl, ha⟩
  obtain ⟨a3, c3, rfl⟩ := ha.1.slc (n := l0.length + 28) (by rw [List.length_append, HLEN.out])
  have HA := Lib.hid ha
  clear ha
  go_wp2_with (fail)
  refine (HW.out _ HA.out.2.1).mono ?_
  rintro e w2 ⟨vb, rfl, hb⟩
  obtain ⟨a4, c4, rfl⟩ := hb.1.slc (HLEN.out _)
  have hal : Bel w2 (w2.alloc (.cells #[.slice a0 l0.length c0, .slice a4 28 c4] 22)) := Bel.alloc (Below.refl _ _) _
  have hp := pts_two (((HB0.out.bel HA.out.2.1).bel hb.2.1).bel hal) (hb.1.bel hal) (heap_alloc_new w2 (.cells #[.slice a0 l0.length c0, .slice a4 28 c4] 22))
  have HJ := Lib.hid (joined_any [l0, digest K true l1] (some ⟨w2.heap.size, 0, none⟩) 2 _ hp (by simp) (by simp [HLEN.out]; omega))
  have HE := Lib.hid ((HA.out.2.1.trans' hb.2.1).trans' hal)
  have HS := Lib.hid (fun W v (h1 : OwnB W (w2.alloc (.cells #[.slice a0 l0.length c0, .slice a4 28 c4] 22)).heap.size v [l0, digest K true l1].flatten) (h2 : Bel (w2.alloc (.cells #[.slice a0 l0.length c0, .slice a4 28 c4] 22)) W) => same_any _ v _ W (((HA.out.1.bel hb.2.1).bel hal).bel h2) (by have := h1.bts; simpa using this))
  clear hb hp hal
  go_wp2_with (fail)
  refine HJ.out.mono ?_
  rintro e w3 ⟨vc, rfl, h3, b3⟩
  have HS3 := Lib.hid (HS.out w3 vc h3 b3)
  have HE3 := Lib.hid (HE.out.trans' b3)
  clear h3 b3
  go_wp2_with (fail)
  refine HS3.out.mono ?_
  rintro e w4 ⟨rfl, m, rfl⟩
  go_wp2_with (fail)
  go_ret
  exact ⟨rfl, HE3.out.drewN _⟩

set_option maxRecDepth 100000 in
theorem lifted (os : Os) (started : os.Started) (H : Type) (enc : TypeId × Value → H) :
    ReturnsInHanded {} Try.checked os 7 .any (Rows.fnExactOnto224Spec.pre6 enc Try.prog Try.f7 Rows.fnExactOnto224Row.domain false) (Rows.fnExactOnto224Spec.post enc Try.prog Try.f7 false true false false) := by
  refine returnsInHanded_of_change_shaped (C := Try.checked) ownN started (by kernel_rfl) Try.func7
    (ChangeSpec.witness6 (enc := enc) (C := Try.checked) false ⟨#[], #[.slice none 0 0, .slice none 0 0], []⟩ 8 (by kernel_rfl) (by kernel_rfl) (by kernel_rfl) (by kernel_rfl)) ?_
  intro W base args ds gs before hval0 hW hcnd hz0 hsh _
  have hval : ∀ (j : Nat) t v, Try.f7.params[j]? = some t → args[j]? = some v → Value.okWide Try.prog W .any base t v := hval0
  have hz : (DataW.weightsEach Try.prog (Try.f7.params.toList ++ (Rows.fnExactOnto224Spec.plain.varTypes Try.prog)) (ds ++ gs)).all (· ≤ reachBytes) = true := hz0
  have hW' := hW
  obtain ⟨p, q, hA0, hV, rfl, hfz, hnd⟩ := hW
  have hA : DataW.TrodAll enc Try.prog W 0 (fun _ => true) true Try.f7.params.toList args.toList ds p := hA0
  rw [Try.params7] at hA hval hz
  obtain ⟨v0, vs0, d0, ds0, p0, q0, hargs, rfl, rfl, h0, r0⟩ := trodAll_cons hA
  obtain ⟨v1, vs1, d1, ds1, p1, q1, rfl, rfl, rfl, h1, r1⟩ := trodAll_cons r0
  obtain ⟨rfl, rfl, rfl⟩ := trodAll_nil r1
  obtain rfl : args = #[v0, v1] := by cases args; simp_all
  obtain ⟨rfl, rfl⟩ := trodVars_none hV
  obtain ⟨K, hK⟩ := kat_of_shaped hsh
  have k0 := h0
  have lt0 : ∀ x ∈ p0, x.block < W.heap.size := by obtain ⟨m, hm⟩ := k0; exact DataW.trod_lt m _ _ _ hm
  obtain ⟨l0, b0, z0⟩ := open_arg rfl (hval 0 22 v0 rfl rfl) h0 hz (j := 0) rfl rfl
  have k1 := h1
  have lt1 : ∀ x ∈ p1, x.block < W.heap.size := by obtain ⟨m, hm⟩ := k1; exact DataW.trod_lt m _ _ _ hm
  obtain ⟨l1, b1, z1⟩ := open_arg rfl (hval 1 22 v1 rfl rfl) h1 hz (j := 1) rfl rfl
  clear hA0 hval0 hz hz0
  refine (walk K v0 l0 v1 l1 W hK b0 z0 b1 z1).mono fun e W' ⟨he, bel⟩ => ?_
  subst he
  exact ⟨_, rfl, _, _, _, [], _, [], hW', trodAll_mk1 (shut_bool Try.underlying4 _), (trodAll_cons_mk (Below.trod laidOutN (by kernel_rfl) (of_decide_eq_true (by kernel_rfl)) k0 bel lt0) (trodAll_cons_mk (Below.trod laidOutN (by kernel_rfl) (of_decide_eq_true (by kernel_rfl)) k1 bel lt1) trodAll_mk0)), rfl, bel.frame _, fun h => by cases h⟩

theorem over : Rows.fnExactOnto224Row.holds Try.pinned (OpenSpec.ofChange Rows.fnExactOnto224Spec) :=
  OpenClaim.holds_of_wide 7 Try.f7 rfl rfl rfl rfl rfl rfl rfl ⟨rfl, rfl, rfl, rfl, rfl⟩ rfl rfl rfl rfl rfl (by kernel_rfl) Try.func7 (by kernel_rfl)
    (of_decide_eq_true (by kernel_rfl)) (by unfold Func.isWrapper; first | (rw [if_pos (by decide +kernel)]; kernel_rfl) | (rw [if_neg (by decide +kernel)]; exact ⟨rfl, rfl⟩))
    (fun os started H enc _ => lifted os started H enc)

theorem proved : Rows.FnExactOnto224Said := over
end Go.Proofs.Ytaknphghhlljmab.fnExactOnto224

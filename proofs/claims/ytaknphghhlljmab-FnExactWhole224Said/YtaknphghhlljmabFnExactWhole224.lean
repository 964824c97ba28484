/-
  The checksum of data by Sum224 is that of a hash to which the data are written.
-/
import Derived.Test.YtaknphghhlljmabRows
import Derived.Test.YtaknphghhlljmabOpen
import Derived.Test.YtaknphghhlljmabSteps224
namespace Go.Proofs.Ytaknphghhlljmab.fnExactWhole224
open Go.ChangeShapes Go.WideShapes Go.ChangeAt Go.RowKit
set_option linter.unusedVariables false

set_option maxRecDepth 100000 in
set_option maxHeartbeats 2000000 in
theorem walk (K : Nat → Int) (v0 : Value) (l0 : List Int) (w : World) (hK : KAt w K) (h0 : Bts w v0 l0) (z0 : l0.length ≤ 140737488351232) :
    Calls Try.prog 14 #[v0] w fun e w' => e = .returned (.bool true) ∧ Bel w w' := by
  obtain ⟨a0, c0, rfl, n0, m0, s0⟩ := h0
  have HW := Lib.hid (whole224_any K l0 a0 c0 w s0 hK n0 m0)
  have HS := Lib.hid (show Bts w _ l0 from ⟨a0, c0, rfl, n0, m0, s0⟩)
  have HK := Lib.hid hK
  have hlen : (digest K true l0).length = 28 := digest_length K true l0
  have HLEN := Lib.hid hlen
  clear s0 hK hlen
  go_enter Try.func14, Try.ntmps14
  go_wp2_with (go_at_call 22; refine HW.out.mono ?_; rintro e w1 ⟨v1, rfl, h1⟩; obtain ⟨a1, c1, e1⟩ := h1.slc HLEN.out; subst e1; have H1 := Lib.hid h1; clear h1)
  have hal : Bel w1 (w1.alloc (.cells #[.slice a0 l0.length c0] 22)) := Bel.alloc (Below.refl _ _) _
  have hp := pts_one ((HS.out.bel H1.out.2.1).bel hal) (heap_alloc_new w1 (.cells #[.slice a0 l0.length c0] 22))
  refine (steps224_any K [l0] (some ⟨w1.heap.size, 0, none⟩) 1 _ hp (HK.out.bel (H1.out.2.1.alloc _)) (by simp)).mono ?_
  rintro e w2 ⟨v2, rfl, h2⟩
  have hf : [l0].flatten = l0 := by simp
  rw [hf] at h2
  have hs := same_any _ _ _ w2 ((H1.out.1.bel hal).bel h2.2.1) h2.1
  have HSM := Lib.hid hs
  have HB := Lib.hid ((H1.out.2.1.alloc _).trans' h2.2.1)
  clear h2 hs hp hal
  go_wp2_with (go_at_call 16; refine HSM.out.mono ?_; rintro e w3 ⟨rfl, m, rfl⟩)
  go_ret
  exact ⟨rfl, HB.out.drewN m⟩

set_option maxRecDepth 100000 in
theorem lifted (os : Os) (started : os.Started) (H : Type) (enc : TypeId × Value → H) :
    ReturnsInHanded {} Try.checked os 14 .any (Rows.fnExactWhole224Spec.pre6 enc Try.prog Try.f14 Rows.fnExactWhole224Row.domain false) (Rows.fnExactWhole224Spec.post enc Try.prog Try.f14 false true false false) := by
  refine returnsInHanded_of_change_shaped (C := Try.checked) ownN started (by kernel_rfl) Try.func14
    (ChangeSpec.witness6 (enc := enc) (C := Try.checked) false ⟨#[], #[.slice none 0 0], []⟩ 8 (by kernel_rfl) (by kernel_rfl) (by kernel_rfl) (by kernel_rfl)) ?_
  intro W base args ds gs before hval0 hW hcnd hz0 hsh _
  have hval : ∀ (j : Nat) t v, Try.f14.params[j]? = some t → args[j]? = some v → Value.okWide Try.prog W .any base t v := hval0
  have hz : (DataW.weightsEach Try.prog (Try.f14.params.toList ++ (Rows.fnExactWhole224Spec.plain.varTypes Try.prog)) (ds ++ gs)).all (· ≤ reachBytes) = true := hz0
  have hW' := hW
  obtain ⟨p, q, hA0, hV, rfl, hfz, hnd⟩ := hW
  have hA : DataW.TrodAll enc Try.prog W 0 (fun _ => true) true Try.f14.params.toList args.toList ds p := hA0
  rw [Try.params14] at hA hval hz
  obtain ⟨v0, vs0, d0, ds0, p0, q0, hargs, rfl, rfl, h0, r0⟩ := trodAll_cons hA
  obtain ⟨rfl, rfl, rfl⟩ := trodAll_nil r0
  obtain rfl : args = #[v0] := by cases args; simp_all
  obtain ⟨rfl, rfl⟩ := trodVars_none hV
  obtain ⟨K, hK⟩ := kat_of_shaped hsh
  have k0 := h0
  have lt0 : ∀ x ∈ p0, x.block < W.heap.size := by obtain ⟨m, hm⟩ := k0; exact DataW.trod_lt m _ _ _ hm
  obtain ⟨l0, b0, z0⟩ := open_arg rfl (hval 0 22 v0 rfl rfl) h0 hz (j := 0) rfl rfl
  clear hA0 hval0 hz hz0
  refine (walk K v0 l0 W hK b0 z0).mono fun e W' ⟨he, bel⟩ => ?_
  subst he
  exact ⟨_, rfl, _, _, _, [], _, [], hW', trodAll_mk1 (shut_bool Try.underlying4 _), (trodAll_cons_mk (Below.trod laidOutN (by kernel_rfl) (of_decide_eq_true (by kernel_rfl)) k0 bel lt0) trodAll_mk0), rfl, bel.frame _, fun h => by cases h⟩

theorem over : Rows.fnExactWhole224Row.holds Try.pinned (OpenSpec.ofChange Rows.fnExactWhole224Spec) :=
  OpenClaim.holds_of_wide 14 Try.f14 rfl rfl rfl rfl rfl rfl rfl ⟨rfl, rfl, rfl, rfl, rfl⟩ rfl rfl rfl rfl rfl (by kernel_rfl) Try.func14 (by kernel_rfl)
    (of_decide_eq_true (by kernel_rfl)) (by unfold Func.isWrapper; first | (rw [if_pos (by decide +kernel)]; kernel_rfl) | (rw [if_neg (by decide +kernel)]; exact ⟨rfl, rfl⟩))
    (fun os started H enc _ => lifted os started H enc)

theorem proved : Rows.FnExactWhole224Said := over
end Go.Proofs.Ytaknphghhlljmab.fnExactWhole224

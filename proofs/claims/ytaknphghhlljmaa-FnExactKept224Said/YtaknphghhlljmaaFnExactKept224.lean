/-
  Write and Sum do not change what is written.
-/
import Derived.Test.YtaknphghhlljmaaRows
import Derived.Test.YtaknphghhlljmaaOpen
import Derived.Test.YtaknphghhlljmaaKept224
namespace Go.Proofs.Ytaknphghhlljmaa.fnExactKept224
open Go.ChangeShapes Go.WideShapes Go.ChangeAt Go.RowKit
set_option linter.unusedVariables false

set_option maxRecDepth 100000 in
set_option maxHeartbeats 2000000 in
theorem walk (K : Nat → Int) (v0 : Value) (l0 : List Int) (w : World) (hK : KAt w K) (h0 : Bts w v0 l0) (z0 : l0.length ≤ 140737488351232) :
    Calls Try.prog 11 #[v0] w fun e w' => e = .returned (.bool true) ∧ Bel w w' := by
  have HKP := Lib.hid (kept224_any K v0 l0 w h0 hK z0)
  have HB0 := Lib.hid h0
  obtain ⟨a0, c0, rfl, _⟩ := h0
  clear hK
  go_enter Try.func11, Try.ntmps11
  go_wp2_with (fail)
  refine HKP.out.mono ?_
  rintro e w1 ⟨va, rfl, ha⟩
  have HS := Lib.hid (same_any _ _ _ w1 ha.1 (HB0.out.bel ha.2.1))
  have HE := Lib.hid ha.2.1
  clear ha
  go_wp2_with (fail)
  refine HS.out.mono ?_
  rintro e w4 ⟨rfl, m, rfl⟩
  go_wp2_with (fail)
  go_ret
  exact ⟨rfl, HE.out.drewN _⟩

set_option maxRecDepth 100000 in
theorem lifted (os : Os) (started : os.Started) (H : Type) (enc : TypeId × Value → H) :
    ReturnsInHanded {} Try.checked os 11 .any (Rows.fnExactKept224Spec.pre6 enc Try.prog Try.f11 Rows.fnExactKept224Row.domain false) (Rows.fnExactKept224Spec.post enc Try.prog Try.f11 false true false false) := by
  refine returnsInHanded_of_change_shaped (C := Try.checked) ownN started (by kernel_rfl) Try.func11
    (ChangeSpec.witness6 (enc := enc) (C := Try.checked) false ⟨#[], #[.slice none 0 0], []⟩ 8 (by kernel_rfl) (by kernel_rfl) (by kernel_rfl) (by kernel_rfl)) ?_
  intro W base args ds gs before hval0 hW hcnd hz0 hsh _
  have hval : ∀ (j : Nat) t v, Try.f11.params[j]? = some t → args[j]? = some v → Value.okWide Try.prog W .any base t v := hval0
  have hz : (DataW.weightsEach Try.prog (Try.f11.params.toList ++ (Rows.fnExactKept224Spec.plain.varTypes Try.prog)) (ds ++ gs)).all (· ≤ reachBytes) = true := hz0
  have hW' := hW
  obtain ⟨p, q, hA0, hV, rfl, hfz, hnd⟩ := hW
  have hA : DataW.TrodAll enc Try.prog W 0 (fun _ => true) true Try.f11.params.toList args.toList ds p := hA0
  rw [Try.params11] at hA hval hz
  obtain ⟨v0, vs0, d0, ds0, p0, q0, hargs, rfl, rfl, h0, r0⟩ := trodAll_cons hA
  obtain ⟨rfl, rfl, rfl⟩ := trodAll_nil r0
  obtain rfl : args = #[v0] := by cases args; simp_all
  obtain ⟨rfl, rfl⟩ := trodVars_none hV
  obtain ⟨K, hK⟩ := kat_of_shaped hsh
  have k0 := h0
  have lt0 : ∀ x ∈ p0, x.block < W.heap.size := by obtain ⟨m, hm⟩ := k0; exact DataW.trod_lt m _ _ _ hm
  obtain ⟨l0, b0, z0⟩ := open_arg rfl (hval 0 27 v0 rfl rfl) h0 hz (j := 0) rfl rfl
  clear hA0 hval0 hz hz0
  refine (walk K v0 l0 W hK b0 z0).mono fun e W' ⟨he, bel⟩ => ?_
  subst he
  exact ⟨_, rfl, _, _, _, [], _, [], hW', trodAll_mk1 (shut_bool Try.underlying4 _), (trodAll_cons_mk (Below.trod laidOutN (by kernel_rfl) (of_decide_eq_true (by kernel_rfl)) k0 bel lt0) trodAll_mk0), rfl, bel.frame _, fun h => by cases h⟩

theorem over : Rows.fnExactKept224Row.holds Try.pinned (OpenSpec.ofChange Rows.fnExactKept224Spec) :=
  OpenClaim.holds_of_wide 11 Try.f11 rfl rfl rfl rfl rfl rfl rfl ⟨rfl, rfl, rfl, rfl, rfl⟩ rfl rfl rfl rfl rfl (by kernel_rfl) Try.func11 (by kernel_rfl)
    (of_decide_eq_true (by kernel_rfl)) (by unfold Func.isWrapper; first | (rw [if_pos (by decide +kernel)]; kernel_rfl) | (rw [if_neg (by decide +kernel)]; exact ⟨rfl, rfl⟩))
    (fun os started H enc _ => lifted os started H enc)

theorem proved : Rows.FnExactKept224Said := over
end Go.Proofs.Ytaknphghhlljmaa.fnExactKept224

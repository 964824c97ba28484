/-
  It does not matter which one of both is the clone.
-/
import Derived.Test.YtaknphghhlljmabRows
import Derived.Test.YtaknphghhlljmabOpen
import Derived.Test.YtaknphghhlljmabFork224
namespace Go.Proofs.Ytaknphghhlljmab.fnForkTurned224
open Go.ChangeShapes Go.WideShapes Go.ChangeAt Go.RowKit
set_option linter.unusedVariables false

set_option maxRecDepth 100000 in
set_option maxHeartbeats 2000000 in
theorem walk (K : Nat → Int) (v0 : Value) (l0 : List Int) (v1 : Value) (l1 : List Int) (v2 : Value) (l2 : List Int) (w : World) (hK : KAt w K) (h0 : Bts w v0 l0) (z0 : l0.length ≤ 140737488351232) (h1 : Bts w v1 l1) (z1 : l1.length ≤ 140737488351232) (h2 : Bts w v2 l2) (z2 : l2.length ≤ 140737488351232) :
    Calls Try.prog 4 #[v0, v1, v2] w fun e w' => e = .returned (.bool true) ∧ Bel w w' := by
  have HF := Lib.hid (fork224_any K v0 v1 v2 l0 l1 l2 w h0 h1 h2 hK)
  have HB0 := Lib.hid h0
  have HB1 := Lib.hid h1
  have HB2 := Lib.hid h2
  have HK := Lib.hid hK
  have HLEN := Lib.hid (show ∀ l, (digest K true l).length = 28 from fun l => digest_length K true l)
  obtain ⟨a0, c0, rfl, _⟩ := h0
  obtain ⟨a1, c1, rfl, _⟩ := h1
  obtain ⟨a2, c2, rfl, _⟩ := h2
  clear hK
  go_enter Try.func4, Try.ntmps4
  go_wp2_with (fail)
  refine HF.out.mono ?_
  rintro e w1 ⟨va, vb, rfl, ha, hb, bel1⟩
  obtain ⟨a3, c3, rfl⟩ := ha.slc (HLEN.out _)
  obtain ⟨a4, c4, rfl⟩ := hb.slc (HLEN.out _)
  have HA := Lib.hid ha
  have HB := Lib.hid hb
  have HE1 := Lib.hid bel1
  have HF2 := Lib.hid (fork224_any K _ _ _ l0 l2 l1 w1 (HB0.out.bel bel1) (HB2.out.bel bel1) (HB1.out.bel bel1) (HK.out.bel bel1))
  clear ha hb bel1
  go_wp2_with (fail)
  refine HF2.out.mono ?_
  rintro e w2 ⟨vc, vd, rfl, hc, hd, bel2⟩
  obtain ⟨a5, c5, rfl⟩ := hc.slc (HLEN.out _)
  obtain ⟨a6, c6, rfl⟩ := hd.slc (HLEN.out _)
  have HS1 := Lib.hid (same_any _ _ _ w2 (HA.out.bel bel2) hd)
  have HS2 := Lib.hid (fun m => same_any _ _ _ (w2.drewN m) ((HB.out.bel bel2).drewN m) (hc.drewN m))
  have HE2 := Lib.hid (HE1.out.trans' bel2)
  clear hc hd bel2
  go_wp2_with (fail)
  refine HS1.out.mono ?_
  rintro e w3 ⟨rfl, m, rfl⟩
  go_wp2_with (fail)
  refine (HS2.out m).mono ?_
  rintro e w3 ⟨rfl, m2, rfl⟩
  go_wp2_with (fail)
  go_ret
  exact ⟨rfl, HE2.out.drewN _⟩

set_option maxRecDepth 100000 in
theorem lifted (os : Os) (started : os.Started) (H : Type) (enc : TypeId × Value → H) :
    ReturnsInHanded {} Try.checked os 4 .any (Rows.fnForkTurned224Spec.pre6 enc Try.prog Try.f4 Rows.fnForkTurned224Row.domain false) (Rows.fnForkTurned224Spec.post enc Try.prog Try.f4 false true false false) := by
  refine returnsInHanded_of_change_shaped (C := Try.checked) ownN started (by kernel_rfl) Try.func4
    (ChangeSpec.witness6 (enc := enc) (C := Try.checked) false ⟨#[], #[.slice none 0 0, .slice none 0 0, .slice none 0 0], []⟩ 8 (by kernel_rfl) (by kernel_rfl) (by kernel_rfl) (by kernel_rfl)) ?_
  intro W base args ds gs before hval0 hW hcnd hz0 hsh _
  have hval : ∀ (j : Nat) t v, Try.f4.params[j]? = some t → args[j]? = some v → Value.okWide Try.prog W .any base t v := hval0
  have hz : (DataW.weightsEach Try.prog (Try.f4.params.toList ++ (Rows.fnForkTurned224Spec.plain.varTypes Try.prog)) (ds ++ gs)).all (· ≤ reachBytes) = true := hz0
  have hW' := hW
  obtain ⟨p, q, hA0, hV, rfl, hfz, hnd⟩ := hW
  have hA : DataW.TrodAll enc Try.prog W 0 (fun _ => true) true Try.f4.params.toList args.toList ds p := hA0
  rw [Try.params4] at hA hval hz
  obtain ⟨v0, vs0, d0, ds0, p0, q0, hargs, rfl, rfl, h0, r0⟩ := trodAll_cons hA
  obtain ⟨v1, vs1, d1, ds1, p1, q1, rfl, rfl, rfl, h1, r1⟩ := trodAll_cons r0
  obtain ⟨v2, vs2, d2, ds2, p2, q2, rfl, rfl, rfl, h2, r2⟩ := trodAll_cons r1
  obtain ⟨rfl, rfl, rfl⟩ := trodAll_nil r2
  obtain rfl : args = #[v0, v1, v2] := by cases args; simp_all
  obtain ⟨rfl, rfl⟩ := trodVars_none hV
  obtain ⟨K, hK⟩ := kat_of_shaped hsh
  have k0 := h0
  have lt0 : ∀ x ∈ p0, x.block < W.heap.size := by obtain ⟨m, hm⟩ := k0; exact DataW.trod_lt m _ _ _ hm
  obtain ⟨l0, b0, z0⟩ := open_arg rfl (hval 0 22 v0 rfl rfl) h0 hz (j := 0) rfl rfl
  have k1 := h1
  have lt1 : ∀ x ∈ p1, x.block < W.heap.size := by obtain ⟨m, hm⟩ := k1; exact DataW.trod_lt m _ _ _ hm
  obtain ⟨l1, b1, z1⟩ := open_arg rfl (hval 1 22 v1 rfl rfl) h1 hz (j := 1) rfl rfl
  have k2 := h2
  have lt2 : ∀ x ∈ p2, x.block < W.heap.size := by obtain ⟨m, hm⟩ := k2; exact DataW.trod_lt m _ _ _ hm
  obtain ⟨l2, b2, z2⟩ := open_arg rfl (hval 2 22 v2 rfl rfl) h2 hz (j := 2) rfl rfl
  clear hA0 hval0 hz hz0
  refine (walk K v0 l0 v1 l1 v2 l2 W hK b0 z0 b1 z1 b2 z2).mono fun e W' ⟨he, bel⟩ => ?_
  subst he
  exact ⟨_, rfl, _, _, _, [], _, [], hW', trodAll_mk1 (shut_bool Try.underlying4 _), (trodAll_cons_mk (Below.trod laidOutN (by kernel_rfl) (of_decide_eq_true (by kernel_rfl)) k0 bel lt0) (trodAll_cons_mk (Below.trod laidOutN (by kernel_rfl) (of_decide_eq_true (by kernel_rfl)) k1 bel lt1) (trodAll_cons_mk (Below.trod laidOutN (by kernel_rfl) (of_decide_eq_true (by kernel_rfl)) k2 bel lt2) trodAll_mk0))), rfl, bel.frame _, fun h => by cases h⟩

theorem over : Rows.fnForkTurned224Row.holds Try.pinned (OpenSpec.ofChange Rows.fnForkTurned224Spec) :=
  OpenClaim.holds_of_wide 4 Try.f4 rfl rfl rfl rfl rfl rfl rfl ⟨rfl, rfl, rfl, rfl, rfl⟩ rfl rfl rfl rfl rfl (by kernel_rfl) Try.func4 (by kernel_rfl)
    (of_decide_eq_true (by kernel_rfl)) (by unfold Func.isWrapper; first | (rw [if_pos (by decide +kernel)]; kernel_rfl) | (rw [if_neg (by decide +kernel)]; exact ⟨rfl, rfl⟩))
    (fun os started H enc _ => lifted os started H enc)

theorem proved : Rows.FnForkTurned224Said := over
end Go.Proofs.Ytaknphghhlljmab.fnForkTurned224

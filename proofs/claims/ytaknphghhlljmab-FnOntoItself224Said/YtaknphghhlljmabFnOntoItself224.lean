/-
  A sum of a sum as the prefix is both, one behind the other.
-/
import Derived.Test.YtaknphghhlljmabRows
import Derived.Test.YtaknphghhlljmabOpen
import Derived.Test.YtaknphghhlljmabOnto224
import Derived.Test.YtaknphghhlljmabCutB
namespace Go.Proofs.Ytaknphghhlljmab.fnOntoItself224
open Go.ChangeShapes Go.WideShapes Go.ChangeAt Go.RowKit
set_option linter.unusedVariables false

set_option maxRecDepth 100000 in
set_option maxHeartbeats 2000000 in
theorem walk (K : Nat → Int) (v0 : Value) (l0 : List Int) (v1 : Value) (l1 : List Int) (w : World) (hK : KAt w K) (h0 : Bts w v0 l0) (z0 : l0.length ≤ 140737488351232) (h1 : Bts w v1 l1) (z1 : l1.length ≤ 140737488351232) :
    Calls Try.prog 8 #[v0, v1] w fun e w' => e = .returned (.bool true) ∧ Bel w w' := by
  have HB0 := Lib.hid h0
  have HB1 := Lib.hid h1
  have HK := Lib.hid hK
  have HLEN := Lib.hid (show ∀ l, (digest K true l).length = 28 from fun l => digest_length K true l)
  have HW := Lib.hid (show Calls Try.prog 22 #[v0] w fun e w' => ∃ v, e = .returned v ∧ NewB w w' v (digest K true l0) by obtain ⟨a0, c0, rfl, n0, m0, s0⟩ := h0; exact whole224_any K l0 a0 c0 w s0 hK n0 m0)
  obtain ⟨a0, c0, rfl, _⟩ := h0
  obtain ⟨a1, c1, rfl, _⟩ := h1
  clear hK
  go_enter Try.func8, Try.ntmps8
  go_wp2_with (fail)
  refine HW.out.mono ?_
  rintro e w1 ⟨va, rfl, ha⟩
  have HO := Lib.hid (onto224_any K va _ _ _ w1 ha.1 (HB1.out.bel ha.2.1) (HK.out.bel ha.2.1) (by rw [HLEN.out]; omega))
  obtain ⟨a3, c3, rfl⟩ := ha.1.slc (HLEN.out _)
  have HA := Lib.hid ha
  clear ha
  go_wp2_with (fail)
  refine HO.out.mono ?_
  rintro e w2 ⟨vb, rfl, hb⟩
  obtain ⟨pb, po, c4, rfl, hc4, hm4, hr⟩ := hb.1.at (n := 56) (by rw [List.length_append, HLEN.out, HLEN.out]) (by omega)
  have HO2 := Lib.hid (show ∀ W, Bel w2 W → Calls Try.prog 21 #[.slice none 0 0, .slice a1 l1.length c1] W fun e w' => ∃ a c, e = .returned (.slice a 28 c) ∧ NewB W w' (.slice a 28 c) (digest K true l1) ∧ Bel W w' from fun W hW => (onto224_any K (.slice none 0 0) _ [] _ W ⟨none, 0, rfl, by simp, by omega, fun h => by simp at h⟩ (((HB1.out.bel HA.out.2.1).bel hb.2.1).bel hW) (((HK.out.bel HA.out.2.1).bel hb.2.1).bel hW) (by simp)).mono fun e w' ⟨v, he, hv⟩ => by
    rw [List.nil_append] at hv
    obtain ⟨a, c, rfl⟩ := hv.1.slc (HLEN.out _)
    exact ⟨a, c, he, hv, hv.2.1⟩)
  have hx1 : Bts w2 (.slice (some ⟨pb, po + 0, none⟩) 28 c4) (digest K true l0) := hr.bts (HLEN.out _) (by omega) (by omega) hm4 (fun i hi => by
    rw [Nat.zero_add]; simp [List.getD, List.getElem?_append_left, HLEN.out, hi])
  have hx2 : Bts w2 (.slice (some ⟨pb, po + 28, none⟩) 28 (c4 - 28)) (digest K true l1) := hr.bts (HLEN.out _) (by omega) (by omega) (by omega) (fun i hi => by
    have e : 28 = (digest K true l0).length := (HLEN.out _).symm
    conv => rhs; rw [e]
    rw [List.getD, List.getD, List.getElem?_append_right (by omega), Nat.add_sub_cancel_left])
  rw [Nat.add_zero] at hx1
  have HS1 := Lib.hid (fun W (hW : Bel w2 W) => same_any _ _ _ W (hx1.bel hW) ((HA.out.1.bel hb.2.1).bel hW))
  have HS2 := Lib.hid (fun W W' a c (hW : Bel w2 W) (hv : NewB W W' (.slice a 28 c) (digest K true l1)) => same_any _ _ _ W' ((hx2.bel hW).bel hv.2.1) hv.1)
  have HE := Lib.hid (HA.out.2.1.trans' hb.2.1)
  clear hb hx1 hx2 hr
  have i1 : (56 : Int) ≤ (c4 : Int) := by omega
  have i2 : (28 : Int) ≤ (c4 : Int) := by omega
  go_wp2_with (fail)
  have j1 : 28 ≤ c4 := by omega
  have j2 : 56 ≤ c4 := by omega
  go_region_held3 (fun _ => True) (trivial) (first | (go_at_call 16; with_reducible refine (HS1.out _ ?_).mono ?_; (exact Bel.drew (Below.refl w2.heap.size w2)); rintro e w3 ⟨rfl, m, rfl⟩) | (go_at_call 21; with_reducible refine (HO2.out _ ?_).mono ?_; (exact Bel.drewN (Below.refl w2.heap.size w2) (1 + m)); rintro e w4 ⟨a5, c5, rfl, h4, e4⟩; have H4 := Lib.hid h4; have E4 := Lib.hid (Bel.trans' (Bel.drewN (Below.refl w2.heap.size w2) (1 + m)) e4); clear h4 e4) | (go_at_call 16; with_reducible refine (HS2.out _ _ _ _ ?_ H4.out).mono ?_; (exact Bel.drewN (Below.refl w2.heap.size w2) (1 + m)); rintro e w5 ⟨rfl, m2, rfl⟩))
  all_goals (go_wp2_with fail)
  all_goals (go_ret)
  all_goals (exact ⟨rfl, (HE.out.trans' E4.out).drewN _⟩)

set_option maxRecDepth 100000 in
theorem lifted (os : Os) (started : os.Started) (H : Type) (enc : TypeId × Value → H) :
    ReturnsInHanded {} Try.checked os 8 .any (Rows.fnOntoItself224Spec.pre6 enc Try.prog Try.f8 Rows.fnOntoItself224Row.domain false) (Rows.fnOntoItself224Spec.post enc Try.prog Try.f8 false true false false) := by
  refine returnsInHanded_of_change_shaped (C := Try.checked) ownN started (by kernel_rfl) Try.func8
    (ChangeSpec.witness6 (enc := enc) (C := Try.checked) false ⟨#[], #[.slice none 0 0, .slice none 0 0], []⟩ 8 (by kernel_rfl) (by kernel_rfl) (by kernel_rfl) (by kernel_rfl)) ?_
  intro W base args ds gs before hval0 hW hcnd hz0 hsh _
  have hval : ∀ (j : Nat) t v, Try.f8.params[j]? = some t → args[j]? = some v → Value.okWide Try.prog W .any base t v := hval0
  have hz : (DataW.weightsEach Try.prog (Try.f8.params.toList ++ (Rows.fnOntoItself224Spec.plain.varTypes Try.prog)) (ds ++ gs)).all (· ≤ reachBytes) = true := hz0
  have hW' := hW
  obtain ⟨p, q, hA0, hV, rfl, hfz, hnd⟩ := hW
  have hA : DataW.TrodAll enc Try.prog W 0 (fun _ => true) true Try.f8.params.toList args.toList ds p := hA0
  rw [Try.params8] at hA hval hz
  obtain ⟨v0, vs0, d0, ds0, p0, q0, hargs, rfl, rfl, h0, r0⟩ := trodAll_cons hA
  obtain ⟨v1, vs1, d1, ds1, p1, q1, rfl, rfl, rfl, h1, r1⟩ := trodAll_cons r0
  obtain ⟨rfl, rfl, rfl⟩ := trodAll_nil r1
  obtain rfl : args = #[v0, v1] := by cases args; simp_all
  obtain ⟨rfl, rfl⟩ := trodVars_none hV
  obtain ⟨K, hK⟩ := kat_of_shaped hsh
  have k0 := h0
  have lt0 : ∀ x ∈ p0, x.block < W.heap.size := by obtain ⟨m, hm⟩ := k0; exact DataW.trod_lt m _ _ _ hm
  obtain ⟨l0, b0, z0⟩ := open_arg rfl (hval 0 22 v0 rfl rfl) h0 hz (j := 0) rfl rfl
  have k1 := h1
  have lt1 : ∀ x ∈ p1, x.block < W.heap.size := by obtain ⟨m, hm⟩ := k1; exact DataW.trod_lt m _ _ _ hm
  obtain ⟨l1, b1, z1⟩ := open_arg rfl (hval 1 22 v1 rfl rfl) h1 hz (j := 1) rfl rfl
  clear hA0 hval0 hz hz0
  refine (walk K v0 l0 v1 l1 W hK b0 z0 b1 z1).mono fun e W' ⟨he, bel⟩ => ?_
  subst he
  exact ⟨_, rfl, _, _, _, [], _, [], hW', trodAll_mk1 (shut_bool Try.underlying4 _), (trodAll_cons_mk (Below.trod laidOutN (by kernel_rfl) (of_decide_eq_true (by kernel_rfl)) k0 bel lt0) (trodAll_cons_mk (Below.trod laidOutN (by kernel_rfl) (of_decide_eq_true (by kernel_rfl)) k1 bel lt1) trodAll_mk0)), rfl, bel.frame _, fun h => by cases h⟩

theorem over : Rows.fnOntoItself224Row.holds Try.pinned (OpenSpec.ofChange Rows.fnOntoItself224Spec) :=
  OpenClaim.holds_of_wide 8 Try.f8 rfl rfl rfl rfl rfl rfl rfl ⟨rfl, rfl, rfl, rfl, rfl⟩ rfl rfl rfl rfl rfl (by kernel_rfl) Try.func8 (by kernel_rfl)
    (of_decide_eq_true (by kernel_rfl)) (by unfold Func.isWrapper; first | (rw [if_pos (by decide +kernel)]; kernel_rfl) | (rw [if_neg (by decide +kernel)]; exact ⟨rfl, rfl⟩))
    (fun os started H enc _ => lifted os started H enc)

theorem proved : Rows.FnOntoItself224Said := over
end Go.Proofs.Ytaknphghhlljmab.fnOntoItself224

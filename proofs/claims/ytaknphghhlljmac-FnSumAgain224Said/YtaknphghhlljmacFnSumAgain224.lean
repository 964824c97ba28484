/-
  Sum changes nothing: it is the same twice, and more can be written behind it.
-/
import Derived.Test.YtaknphghhlljmacRows
import Derived.Test.YtaknphghhlljmacOpen
import Derived.Test.YtaknphghhlljmacLit
import Derived.Test.YtaknphghhlljmacScript224
import Derived.Test.YtaknphghhlljmacSteps224
import Derived.Test.YtaknphghhlljmacCutB
namespace Go.Proofs.Ytaknphghhlljmac.fnSumAgain224
open Go.ChangeShapes Go.WideShapes Go.ChangeAt Go.RowKit
set_option linter.unusedVariables false

set_option maxRecDepth 100000 in
set_option maxHeartbeats 2000000 in
theorem walk (K : Nat → Int) (v0 : Value) (l0 : List Int) (v1 : Value) (l1 : List Int) (w : World) (hK : KAt w K) (h0 : Bts w v0 l0) (z0 : l0.length ≤ 140737488351232) (h1 : Bts w v1 l1) (z1 : l1.length ≤ 140737488351232) :
    Calls Try.prog 10 #[v0, v1] w fun e w' => e = .returned (.bool true) ∧ Bel w w' := by
  have HB0 := Lib.hid h0
  have HB1 := Lib.hid h1
  have HK := Lib.hid hK
  have HLEN := Lib.hid (show ∀ l, (digest K true l).length = 28 from fun l => digest_length K true l)
  obtain ⟨a0, c0, rfl, n0, m0, s0⟩ := h0
  obtain ⟨a1, c1, rfl, n1, m1, s1⟩ := h1
  clear hK s0 s1
  have hwr : IntKind.i64.wrap ((l1.length : Int) + 28) = (l1.length : Int) + 28 := by rw [IntKind.wrap_i64]; omega
  have hcast : ((l1.length + 28 : Nat) : Int) = (l1.length : Int) + 28 := by omega
  go_enter Try.func10, Try.ntmps10
  go_wp2_with (fail)
  have hst := stps_lit (w := w.alloc (.cells #[.int .i64 0, .slice a0 l0.length c0, .int .i64 1, .slice none 0 0, .int .i64 1, .slice a1 l1.length c1, .int .i64 0, .slice a1 l1.length c1, .int .i64 1, .slice none 0 0] 32)) (Ss := [(0, l0), (1, []), (1, l1), (0, l1), (1, [])]) (vs := [.slice a0 l0.length c0, .slice none 0 0, .slice a1 l1.length c1, .slice a1 l1.length c1, .slice none 0 0]) rfl (heap_alloc_new w _) (fun i h1 h2 => by
    have bA : Bel w (w.alloc (.cells #[.int .i64 0, .slice a0 l0.length c0, .int .i64 1, .slice none 0 0, .int .i64 1, .slice a1 l1.length c1, .int .i64 0, .slice a1 l1.length c1, .int .i64 1, .slice none 0 0] 32)) := Bel.alloc (Below.refl _ _) _
    match i, h1, h2 with
    | 0, _, _ => exact ⟨HB0.out.bel bA, z0⟩
    | 1, _, _ => exact ⟨bts_nil _, by simp⟩
    | 2, _, _ => exact ⟨HB1.out.bel bA, z1⟩
    | 3, _, _ => exact ⟨HB1.out.bel bA, z1⟩
    | 4, _, _ => exact ⟨bts_nil _, by simp⟩)
  refine (script224_any K [(0, l0), (1, []), (1, l1), (0, l1), (1, [])] _ 5 _ hst (HK.out.bel (Bel.alloc (Below.refl _ _) _)) (by simp)).mono ?_
  rintro e w1 ⟨v, vs, rfl, ho, bel1⟩
  obtain ⟨g, c, rfl, hc, hcells⟩ := ho.at (n := 5) rfl (by omega)
  obtain ⟨x1, y1, hc1, b1⟩ := hcells 1 (by omega)
  obtain ⟨x2, y2, hc2, b2⟩ := hcells 2 (by omega)
  obtain ⟨x4, y4, hc4, b4⟩ := hcells 4 (by omega)
  have hl1 : (outsM K true [(0, l0), (1, []), (1, l1), (0, l1), (1, [])] []).getD 1 [] = digest K true l0 := by simp [outsM, gotM, nextM]
  have hl2 : (outsM K true [(0, l0), (1, []), (1, l1), (0, l1), (1, [])] []).getD 2 [] = l1 ++ digest K true l0 := by simp [outsM, gotM, nextM]
  have hl4 : (outsM K true [(0, l0), (1, []), (1, l1), (0, l1), (1, [])] []).getD 4 [] = digest K true (l0 ++ l1) := by simp [outsM, gotM, nextM]
  have hll : (l1 ++ digest K true l0).length = l1.length + 28 := by rw [List.length_append, HLEN.out]
  rw [hl1, HLEN.out] at hc1 b1
  rw [hl2, hll] at hc2 b2
  rw [hl4, HLEN.out] at hc4 b4
  have hat := b2.at hll (by omega)
  obtain ⟨pb, po, y, e2, hy1, hy2, hr⟩ := hat
  obtain ⟨rfl, rfl⟩ : x2 = some ⟨pb, po, none⟩ ∧ y2 = y := by injection e2; exact ⟨by assumption, by assumption⟩
  clear e2
  have B1 := Lib.hid b1
  have B4 := Lib.hid b4
  have BR := Lib.hid hr
  have BB := Lib.hid ((Bel.alloc (Below.refl _ w) _).trans' bel1)
  clear hst ho hcells b1 b2 b4 bel1 hl1 hl2 hl4 hr hll
  have hglt : g < w1.heap.size := World.block_lt_of_cell? w1 _ hc2
  have i1 : (0 : Int) ≤ (l1.length : Int) := by omega
  have i2 : (l1.length : Int) ≤ (l1.length : Int) + 28 := by omega
  have i3 : (l1.length : Int) ≤ (y2 : Int) := by omega
  have i4 : l1.length ≤ y2 := by omega
  have iy : ¬ (y2 = l1.length) := by omega
  have hxa : Bts w1 (.slice (some ⟨pb, po + l1.length, none⟩) 28 (y2 - l1.length)) (digest K true l0) := BR.out.bts (HLEN.out _) (by omega) (by omega) (by omega) (fun i hi => by
    rw [List.getD, List.getD, List.getElem?_append_right (by omega), Nat.add_sub_cancel_left])
  have hxb : Bts w1 (.slice (some ⟨pb, po + 0, none⟩) l1.length y2) l1 := BR.out.bts rfl (by omega) (by omega) (by omega) (fun i hi => by
    rw [Nat.zero_add, List.getD, List.getD, List.getElem?_append_left hi])
  rw [Nat.add_zero] at hxb
  have HSA := Lib.hid (fun W (hW : Bel w1 W) => same_any _ _ _ W (B1.out.bel hW) (hxa.bel hW))
  have HSB := Lib.hid (fun W (hW : Bel w1 W) => same_any _ _ _ W (hxb.bel hW) ((HB1.out.bel BB.out).bel hW))
  have hal : ∀ k, Bel w1 ((w1.drewN k).alloc (.cells #[.slice a0 l0.length c0, .slice a1 l1.length c1] 22)) := fun k => Bel.alloc (Bel.drewN (Below.refl _ _) k) _
  have cel : ∀ W, Bel w1 W → W.cell? ⟨g, 1, none⟩ = some (.slice x1 28 y1) ∧ W.cell? ⟨g, 2, none⟩ = some (.slice (some ⟨pb, po, none⟩) (l1.length + 28) y2) ∧ W.cell? ⟨g, 4, none⟩ = some (.slice x4 28 y4) := fun W hW => ⟨by rw [bel_cell hW hglt]; exact hc1, by rw [bel_cell hW hglt]; exact hc2, by rw [bel_cell hW hglt]; exact hc4⟩
  have HAL := Lib.hid (fun k => cel _ (hal k))
  have HCE := Lib.hid cel
  have HST := Lib.hid (show ∀ k, Calls Try.prog 21 #[.slice (some ⟨w1.heap.size, 0, none⟩) 2 2] ((w1.drewN k).alloc (.cells #[.slice a0 l0.length c0, .slice a1 l1.length c1] 22)) fun e w' => ∃ a c, e = .returned (.slice a 28 c) ∧ Bts w' (.slice a 28 c) (digest K true (l0 ++ l1)) ∧ Bel w1 w' from fun k => (steps224_any K [l0, l1] (some ⟨w1.heap.size, 0, none⟩) 2 _ (pts_two ((HB0.out.bel BB.out).bel (hal k)) ((HB1.out.bel BB.out).bel (hal k)) (heap_alloc_new (w1.drewN k) _)) ((HK.out.bel BB.out).bel (hal k)) (by simp)).mono fun e w' ⟨v, he, hv⟩ => by
    have hf : [l0, l1].flatten = l0 ++ l1 := by simp
    rw [hf] at hv
    obtain ⟨a, c, rfl⟩ := hv.1.slc (HLEN.out _)
    exact ⟨a, c, he, hv.1, (hal k).trans' hv.2.1⟩)
  have HSC := Lib.hid (fun W a c (hW : Bel w1 W) (hv : Bts W (.slice a 28 c) (digest K true (l0 ++ l1))) => same_any _ _ _ W (B4.out.bel hW) hv)
  clear hxa hxb hal cel hglt
  go_wp2_with (fail)
  go_region_held3 (fun W => W.cell? ⟨g, 1, none⟩ = some (.slice x1 28 y1) ∧ W.cell? ⟨g, 2, none⟩ = some (.slice (some ⟨pb, po, none⟩) (l1.length + 28) y2) ∧ W.cell? ⟨g, 4, none⟩ = some (.slice x4 28 y4)) (first | (exact ⟨hc1, hc2, hc4⟩) | (exact HAL.out _) | (exact HCE.out _ E5.out) | (exact HCE.out _ (Bel.drewN E5.out _))) (first | (go_at_call 13; with_reducible refine (HSA.out _ ?_).mono ?_; (exact Bel.drew (Below.refl w1.heap.size w1)); rintro e w3 ⟨rfl, m, rfl⟩) | (go_at_call 13; with_reducible refine (HSB.out _ ?_).mono ?_; (exact Bel.drewN (Below.refl w1.heap.size w1) _); rintro e w4 ⟨rfl, m2, rfl⟩) | (go_at_call 21; with_reducible refine (HST.out _).mono ?_; rintro e w5 ⟨a5, c5, rfl, h5, e5⟩; have H5 := Lib.hid h5; have E5 := Lib.hid e5; clear h5 e5) | (go_at_call 13; with_reducible refine (HSC.out _ _ _ ?_ H5.out).mono ?_; (exact E5.out); rintro e w6 ⟨rfl, m3, rfl⟩))
  all_goals (go_wp2_with fail)
  all_goals (go_ret)
  all_goals (exact ⟨rfl, (BB.out.trans' E5.out).drewN _⟩)

set_option maxRecDepth 100000 in
theorem lifted (os : Os) (started : os.Started) (H : Type) (enc : TypeId × Value → H) :
    ReturnsInHanded {} Try.checked os 10 .any (Rows.fnSumAgain224Spec.pre6 enc Try.prog Try.f10 Rows.fnSumAgain224Row.domain false) (Rows.fnSumAgain224Spec.post enc Try.prog Try.f10 false true false false) := by
  refine returnsInHanded_of_change_shaped (C := Try.checked) ownN started (by kernel_rfl) Try.func10
    (ChangeSpec.witness6 (enc := enc) (C := Try.checked) false ⟨#[], #[.slice none 0 0, .slice none 0 0], []⟩ 8 (by kernel_rfl) (by kernel_rfl) (by kernel_rfl) (by kernel_rfl)) ?_
  intro W base args ds gs before hval0 hW hcnd hz0 hsh _
  have hval : ∀ (j : Nat) t v, Try.f10.params[j]? = some t → args[j]? = some v → Value.okWide Try.prog W .any base t v := hval0
  have hz : (DataW.weightsEach Try.prog (Try.f10.params.toList ++ (Rows.fnSumAgain224Spec.plain.varTypes Try.prog)) (ds ++ gs)).all (· ≤ reachBytes) = true := hz0
  have hW' := hW
  obtain ⟨p, q, hA0, hV, rfl, hfz, hnd⟩ := hW
  have hA : DataW.TrodAll enc Try.prog W 0 (fun _ => true) true Try.f10.params.toList args.toList ds p := hA0
  rw [Try.params10] at hA hval hz
  obtain ⟨v0, vs0, d0, ds0, p0, q0, hargs, rfl, rfl, h0, r0⟩ := trodAll_cons hA
  obtain ⟨v1, vs1, d1, ds1, p1, q1, rfl, rfl, rfl, h1, r1⟩ := trodAll_cons r0
  obtain ⟨rfl, rfl, rfl⟩ := trodAll_nil r1
  obtain rfl : args = #[v0, v1] := by cases args; simp_all
  obtain ⟨rfl, rfl⟩ := trodVars_none hV
  obtain ⟨K, hK⟩ := kat_of_shaped hsh
  have k0 := h0
  have lt0 : ∀ x ∈ p0, x.block < W.heap.size := by obtain ⟨m, hm⟩ := k0; exact DataW.trod_lt m _ _ _ hm
  obtain ⟨l0, b0, z0⟩ := open_arg rfl (hval 0 22 v0 rfl rfl) h0 hz (j := 0) rfl rfl
  have k1 := h1
  have lt1 : ∀ x ∈ p1, x.block < W.heap.size := by obtain ⟨m, hm⟩ := k1; exact DataW.trod_lt m _ _ _ hm
  obtain ⟨l1, b1, z1⟩ := open_arg rfl (hval 1 22 v1 rfl rfl) h1 hz (j := 1) rfl rfl
  clear hA0 hval0 hz hz0
  refine (walk K v0 l0 v1 l1 W hK b0 z0 b1 z1).mono fun e W' ⟨he, bel⟩ => ?_
  subst he
  exact ⟨_, rfl, _, _, _, [], _, [], hW', trodAll_mk1 (shut_bool Try.underlying4 _), (trodAll_cons_mk (Below.trod laidOutN (by kernel_rfl) (of_decide_eq_true (by kernel_rfl)) k0 bel lt0) (trodAll_cons_mk (Below.trod laidOutN (by kernel_rfl) (of_decide_eq_true (by kernel_rfl)) k1 bel lt1) trodAll_mk0)), rfl, bel.frame _, fun h => by cases h⟩

theorem over : Rows.fnSumAgain224Row.holds Try.pinned (OpenSpec.ofChange Rows.fnSumAgain224Spec) :=
  OpenClaim.holds_of_wide 10 Try.f10 rfl rfl rfl rfl rfl rfl rfl ⟨rfl, rfl, rfl, rfl, rfl⟩ rfl rfl rfl rfl rfl (by kernel_rfl) Try.func10 (by kernel_rfl)
    (of_decide_eq_true (by kernel_rfl)) (by unfold Func.isWrapper; first | (rw [if_pos (by decide +kernel)]; kernel_rfl) | (rw [if_neg (by decide +kernel)]; exact ⟨rfl, rfl⟩))
    (fun os started H enc _ => lifted os started H enc)

theorem proved : Rows.FnSumAgain224Said := over
end Go.Proofs.Ytaknphghhlljmac.fnSumAgain224

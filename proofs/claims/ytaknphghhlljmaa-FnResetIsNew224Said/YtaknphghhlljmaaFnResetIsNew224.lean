/-
  Behind Reset a hash is as a new one.
-/
import Derived.Test.YtaknphghhlljmaaRows
import Derived.Test.YtaknphghhlljmaaOpen
import Derived.Test.YtaknphghhlljmaaLit
import Derived.Test.YtaknphghhlljmaaScript224
import Derived.Test.YtaknphghhlljmaaSteps224
import Derived.Test.YtaknphghhlljmaaCutB
namespace Go.Proofs.Ytaknphghhlljmaa.fnResetIsNew224
open Go.ChangeShapes Go.WideShapes Go.ChangeAt Go.RowKit
set_option linter.unusedVariables false

set_option maxRecDepth 100000 in
set_option maxHeartbeats 2000000 in
theorem walk (K : Nat → Int) (v0 : Value) (l0 : List Int) (v1 : Value) (l1 : List Int) (w : World) (hK : KAt w K) (h0 : Bts w v0 l0) (z0 : l0.length ≤ 140737488351232) (h1 : Bts w v1 l1) (z1 : l1.length ≤ 140737488351232) :
    Calls Try.prog 13 #[v0, v1] w fun e w' => e = .returned (.bool true) ∧ Bel w w' := by
  have HB0 := Lib.hid h0
  have HB1 := Lib.hid h1
  have HK := Lib.hid hK
  have HLEN := Lib.hid (show ∀ l, (digest K true l).length = 28 from fun l => digest_length K true l)
  obtain ⟨a0, c0, rfl, n0, m0, s0⟩ := h0
  obtain ⟨a1, c1, rfl, n1, m1, s1⟩ := h1
  clear hK
  go_enter Try.func13, Try.ntmps13
  go_wp2_with (fail)
  have hst := stps_lit (w := w.alloc (.cells #[.int .i64 0, .slice a1 l1.length c1, .int .i64 2, .slice none 0 0, .int .i64 1, .slice none 0 0, .int .i64 0, .slice a0 l0.length c0, .int .i64 1, .slice none 0 0] 31)) (Ss := [(0, l1), (2, []), (1, []), (0, l0), (1, [])]) (vs := [.slice a1 l1.length c1, .slice none 0 0, .slice none 0 0, .slice a0 l0.length c0, .slice none 0 0]) rfl (heap_alloc_new w _) (fun i h1 h2 => by
    have bA : Bel w (w.alloc (.cells #[.int .i64 0, .slice a1 l1.length c1, .int .i64 2, .slice none 0 0, .int .i64 1, .slice none 0 0, .int .i64 0, .slice a0 l0.length c0, .int .i64 1, .slice none 0 0] 31)) := Bel.alloc (Below.refl _ _) _
    match i, h1, h2 with
    | 0, _, _ => exact ⟨HB1.out.bel bA, z1⟩
    | 1, _, _ => exact ⟨bts_nil _, by simp⟩
    | 2, _, _ => exact ⟨bts_nil _, by simp⟩
    | 3, _, _ => exact ⟨HB0.out.bel bA, z0⟩
    | 4, _, _ => exact ⟨bts_nil _, by simp⟩)
  refine (script224_any K [(0, l1), (2, []), (1, []), (0, l0), (1, [])] _ 5 _ hst (HK.out.bel (Bel.alloc (Below.refl _ _) _)) (by simp)).mono ?_
  rintro e w1 ⟨v, vs, rfl, ho, bel1⟩
  obtain ⟨g, c, rfl, hc, hcells⟩ := ho.at (n := 5) rfl (by omega)
  obtain ⟨x2, y2, hc2, b2⟩ := hcells 2 (by omega)
  obtain ⟨x4, y4, hc4, b4⟩ := hcells 4 (by omega)
  have hl2 : (outsM K true [(0, l1), (2, []), (1, []), (0, l0), (1, [])] []).getD 2 [] = digest K true [] := by simp [outsM, gotM, nextM]
  have hl4 : (outsM K true [(0, l1), (2, []), (1, []), (0, l0), (1, [])] []).getD 4 [] = digest K true l0 := by simp [outsM, gotM, nextM]
  rw [hl2, HLEN.out] at hc2 b2
  rw [hl4, HLEN.out] at hc4 b4
  have B2 := Lib.hid b2
  have B4 := Lib.hid b4
  have BB := Lib.hid ((Bel.alloc (Below.refl _ w) _).trans' bel1)
  clear hst ho hcells b2 b4 bel1 hl2 hl4
  have hglt : g < w1.heap.size := World.block_lt_of_cell? w1 _ hc2
  have HW0 := Lib.hid (show ∀ W, Bel w1 W → Calls Try.prog 27 #[.slice none 0 0] W fun e w' => ∃ a c, e = .returned (.slice a 28 c) ∧ NewB W w' (.slice a 28 c) (digest K true []) ∧ Bel W w' ∧ w'.cell? ⟨g, 2, none⟩ = some (.slice x2 28 y2) ∧ w'.cell? ⟨g, 4, none⟩ = some (.slice x4 28 y4) from fun W hW => (whole224_any K [] none 0 W (fun h => by simp at h) ((HK.out.bel BB.out).bel hW) (by simp) (by omega)).mono fun e w' ⟨v, he, hv⟩ => by
    obtain ⟨a, c, rfl⟩ := hv.1.slc (HLEN.out _)
    exact ⟨a, c, he, hv, hv.2.1, by rw [bel_cell hv.2.1 (Nat.lt_of_lt_of_le hglt hW.size), bel_cell hW hglt]; exact hc2, by rw [bel_cell hv.2.1 (Nat.lt_of_lt_of_le hglt hW.size), bel_cell hW hglt]; exact hc4⟩)
  have HW1 := Lib.hid (show ∀ W, Bel w1 W → Calls Try.prog 27 #[.slice a0 l0.length c0] W fun e w' => ∃ a c, e = .returned (.slice a 28 c) ∧ NewB W w' (.slice a 28 c) (digest K true l0) ∧ Bel W w' ∧ w'.cell? ⟨g, 2, none⟩ = some (.slice x2 28 y2) ∧ w'.cell? ⟨g, 4, none⟩ = some (.slice x4 28 y4) from fun W hW => (whole224_any K l0 a0 c0 W ((s0.bel BB.out).bel hW) ((HK.out.bel BB.out).bel hW) n0 m0).mono fun e w' ⟨v, he, hv⟩ => by
    obtain ⟨a, c, rfl⟩ := hv.1.slc (HLEN.out _)
    exact ⟨a, c, he, hv, hv.2.1, by rw [bel_cell hv.2.1 (Nat.lt_of_lt_of_le hglt hW.size), bel_cell hW hglt]; exact hc2, by rw [bel_cell hv.2.1 (Nat.lt_of_lt_of_le hglt hW.size), bel_cell hW hglt]; exact hc4⟩)
  have HS2 := Lib.hid (fun W W' a c (hW : Bel w1 W) (hv : NewB W W' (.slice a 28 c) (digest K true [])) => same_any _ _ _ W' ((B2.out.bel hW).bel hv.2.1) hv.1)
  have HS4 := Lib.hid (fun W W' a c (hW : Bel w1 W) (hv : NewB W W' (.slice a 28 c) (digest K true l0)) => same_any _ _ _ W' ((B4.out.bel hW).bel hv.2.1) hv.1)
  clear s0 s1 hglt
  go_wp2_with (fail)
  go_region_held3 (fun W => W.cell? ⟨g, 2, none⟩ = some (.slice x2 28 y2) ∧ W.cell? ⟨g, 4, none⟩ = some (.slice x4 28 y4)) (first | (exact ⟨by assumption, by assumption⟩) | (exact ⟨hc2, hc4⟩) | (exact ⟨k2, k4⟩) | (exact ⟨j2, j4⟩)) (first | (go_at_call 27; with_reducible refine (HW0.out _ ?_).mono ?_; (exact Bel.same rfl rfl rfl rfl); rintro e w5 ⟨a5, c5, rfl, h5, e5, k2, k4⟩; have H5 := Lib.hid h5; have E5 := Lib.hid (Bel.trans' (Bel.drew (Below.refl w1.heap.size w1)) e5); clear h5 e5) | (go_at_call 19; with_reducible refine (HS2.out _ _ _ _ ?_ H5.out).mono ?_; (exact Bel.same rfl rfl rfl rfl); rintro e w6 ⟨rfl, m, rfl⟩) | (go_at_call 27; with_reducible refine (HW1.out _ ?_).mono ?_; (exact Bel.drewN E5.out m); rintro e w7 ⟨a7, c7, rfl, h7, e7, j2, j4⟩; have H7 := Lib.hid h7; have E7 := Lib.hid (Bel.trans' (Bel.drewN E5.out m) e7); clear h7 e7) | (go_at_call 19; with_reducible refine (HS4.out _ _ _ _ ?_ H7.out).mono ?_; (exact Bel.drewN E5.out m); rintro e w8 ⟨rfl, m2, rfl⟩))
  all_goals (go_wp2_with fail)
  all_goals (go_ret)
  all_goals (exact ⟨rfl, (BB.out.trans' E7.out).drewN _⟩)

set_option maxRecDepth 100000 in
theorem lifted (os : Os) (started : os.Started) (H : Type) (enc : TypeId × Value → H) :
    ReturnsInHanded {} Try.checked os 13 .any (Rows.fnResetIsNew224Spec.pre6 enc Try.prog Try.f13 Rows.fnResetIsNew224Row.domain false) (Rows.fnResetIsNew224Spec.post enc Try.prog Try.f13 false true false false) := by
  refine returnsInHanded_of_change_shaped (C := Try.checked) ownN started (by kernel_rfl) Try.func13
    (ChangeSpec.witness6 (enc := enc) (C := Try.checked) false ⟨#[], #[.slice none 0 0, .slice none 0 0], []⟩ 8 (by kernel_rfl) (by kernel_rfl) (by kernel_rfl) (by kernel_rfl)) ?_
  intro W base args ds gs before hval0 hW hcnd hz0 hsh _
  have hval : ∀ (j : Nat) t v, Try.f13.params[j]? = some t → args[j]? = some v → Value.okWide Try.prog W .any base t v := hval0
  have hz : (DataW.weightsEach Try.prog (Try.f13.params.toList ++ (Rows.fnResetIsNew224Spec.plain.varTypes Try.prog)) (ds ++ gs)).all (· ≤ reachBytes) = true := hz0
  have hW' := hW
  obtain ⟨p, q, hA0, hV, rfl, hfz, hnd⟩ := hW
  have hA : DataW.TrodAll enc Try.prog W 0 (fun _ => true) true Try.f13.params.toList args.toList ds p := hA0
  rw [Try.params13] at hA hval hz
  obtain ⟨v0, vs0, d0, ds0, p0, q0, hargs, rfl, rfl, h0, r0⟩ := trodAll_cons hA
  obtain ⟨v1, vs1, d1, ds1, p1, q1, rfl, rfl, rfl, h1, r1⟩ := trodAll_cons r0
  obtain ⟨rfl, rfl, rfl⟩ := trodAll_nil r1
  obtain rfl : args = #[v0, v1] := by cases args; simp_all
  obtain ⟨rfl, rfl⟩ := trodVars_none hV
  obtain ⟨K, hK⟩ := kat_of_shaped hsh
  have k0 := h0
  have lt0 : ∀ x ∈ p0, x.block < W.heap.size := by obtain ⟨m, hm⟩ := k0; exact DataW.trod_lt m _ _ _ hm
  obtain ⟨l0, b0, z0⟩ := open_arg rfl (hval 0 27 v0 rfl rfl) h0 hz (j := 0) rfl rfl
  have k1 := h1
  have lt1 : ∀ x ∈ p1, x.block < W.heap.size := by obtain ⟨m, hm⟩ := k1; exact DataW.trod_lt m _ _ _ hm
  obtain ⟨l1, b1, z1⟩ := open_arg rfl (hval 1 27 v1 rfl rfl) h1 hz (j := 1) rfl rfl
  clear hA0 hval0 hz hz0
  refine (walk K v0 l0 v1 l1 W hK b0 z0 b1 z1).mono fun e W' ⟨he, bel⟩ => ?_
  subst he
  exact ⟨_, rfl, _, _, _, [], _, [], hW', trodAll_mk1 (shut_bool Try.underlying4 _), (trodAll_cons_mk (Below.trod laidOutN (by kernel_rfl) (of_decide_eq_true (by kernel_rfl)) k0 bel lt0) (trodAll_cons_mk (Below.trod laidOutN (by kernel_rfl) (of_decide_eq_true (by kernel_rfl)) k1 bel lt1) trodAll_mk0)), rfl, bel.frame _, fun h => by cases h⟩

theorem over : Rows.fnResetIsNew224Row.holds Try.pinned (OpenSpec.ofChange Rows.fnResetIsNew224Spec) :=
  OpenClaim.holds_of_wide 13 Try.f13 rfl rfl rfl rfl rfl rfl rfl ⟨rfl, rfl, rfl, rfl, rfl⟩ rfl rfl rfl rfl rfl (by kernel_rfl) Try.func13 (by kernel_rfl)
    (of_decide_eq_true (by kernel_rfl)) (by unfold Func.isWrapper; first | (rw [if_pos (by decide +kernel)]; kernel_rfl) | (rw [if_neg (by decide +kernel)]; exact ⟨rfl, rfl⟩))
    (fun os started H enc _ => lifted os started H enc)

theorem proved : Rows.FnResetIsNew224Said := over
end Go.Proofs.Ytaknphghhlljmaa.fnResetIsNew224

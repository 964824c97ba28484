/-
  Each Sum of a script is that of all that was written since the hash was new or was reset last, also behind other sums and in clones (for scripts of bulk at most 1048576).
-/
import Derived.Test.YtnpoggcpdelmnaaRows
import Derived.Test.YtnpoggcpdelmnaaOpen
import Derived.Test.YtnpoggcpdelmnaaScript224
import Derived.Test.YtnpoggcpdelmnaaGiven
import Derived.Test.YtnpoggcpdelmnaaSpecS
import Derived.Test.YtnpoggcpdelmnaaKeep
import Derived.Test.YtnpoggcpdelmnaaWhole224
import Derived.Test.YtnpoggcpdelmnaaOpenS
import Derived.Test.YtnpoggcpdelmnaaCutB
import Derived.Test.YtnpoggcpdelmnaaBulk
namespace Go.Proofs.Ytnpoggcpdelmnaa.fnExactScript224
open Go.ChangeShapes Go.WideShapes Go.ChangeAt Go.RowKit
set_option linter.unusedVariables false

theorem whole_bts (K : Nat → Int) (l : List Int) (v : Value) (w : World) (hv : Bts w v l) (hK : KAt w K) :
    Calls Try.prog 12 #[v] w fun e w' => ∃ v', e = .returned v' ∧ NewB w w' v' (digest K true l) := by
  obtain ⟨a, c, rfl, n, m, s⟩ := hv
  exact whole224_any K l a c w s hK n m

theorem ownM_cells {w : World} {base n : Nat} {v : Value} {bs : List Bool} (h : OwnM w base v bs) (hn : bs.length = n) : ∃ a c, v = .slice a n c ∧ ∀ k, k < n → ∃ g, a = some ⟨g, 0, none⟩ ∧ w.cell? ⟨g, k, none⟩ = some (.bool (bs.getD k false)) := by
  obtain ⟨a, c, e, _, _, hc⟩ := ownsRow_at h
  refine ⟨a, c, by rw [← hn]; exact e, fun k hk => hc k _ ?_⟩
  have hk' : k < bs.length := by omega
  simp [hk']

/-- what the loop meets at k, in every world W behind w3 -/
theorem facts (K : Nat → Int) {w w2 w3 : World} {l0 : List (Int × List Int)} {n : Nat} {ao am ag : Option Addr} (hn : n = l0.length) (hz : l0.length + (l0.map fun s => s.2.length).sum ≤ 1048576) (hK : KAt w K)
    (hg : ∀ i, i < n → ∃ g x y, ag = some ⟨g, 0, none⟩ ∧ w2.cell? ⟨g, i, none⟩ = some (.slice x ((givM l0 []).getD i []).length y) ∧ Bts w2 (.slice x ((givM l0 []).getD i []).length y) ((givM l0 []).getD i []))
    (hm : ∀ k, k < n → ∃ g, am = some ⟨g, 0, none⟩ ∧ w2.cell? ⟨g, k, none⟩ = some (.bool ((l0.map fun s => s.1 == 1).getD k false)))
    (ho : ∀ i, i < n → ∃ g x y, ao = some ⟨g, 0, none⟩ ∧ w3.cell? ⟨g, i, none⟩ = some (.slice x ((outsM K true l0 []).getD i []).length y) ∧ Bts w3 (.slice x ((outsM K true l0 []).getD i []).length y) ((outsM K true l0 []).getD i []))
    (b2 : Bel w w2) (b3 : Bel w2 w3) (W : World) (hW : Bel w3 W) (k : Nat) (hk : k < n) (a9 : Option Addr) (c9 n9 : Nat) (hv : Bts w (.slice a9 n9 c9) (l0.getD k (0, [])).2) (hn9 : (l0.getD k (0, [])).2.length = n9) :
    ∃ (gm g3 gg : Nat) (xo : Option Addr) (yo no : Nat) (xg : Option Addr) (yg ng : Nat), am = some ⟨gm, 0, none⟩ ∧ W.cell? ⟨gm, k, none⟩ = some (.bool ((l0.getD k (0, [])).1 == 1)) ∧ ao = some ⟨g3, 0, none⟩ ∧ W.cell? ⟨g3, k, none⟩ = some (.slice xo no yo) ∧ ag = some ⟨gg, 0, none⟩ ∧ W.cell? ⟨gg, k, none⟩ = some (.slice xg ng yg) ∧
      ((l0.getD k (0, [])).1 ≠ 1 → no = 0) ∧ ((l0.getD k (0, [])).1 = 1 → no = n9 + 28 ∧ ∃ d1 d2 : List Int,
        (∀ W', Bel W W' → Calls Try.prog 12 #[.slice xg ng yg] W' fun e w' => ∃ a c, e = .returned (.slice a 28 c) ∧ Bts w' (.slice a 28 c) d1 ∧ Bel W w') ∧
        (∀ W' a c, Bel W W' → Bts W' (.slice a 28 c) d1 → Calls Try.prog 11 #[.slice (some ⟨W'.heap.size, 0, none⟩) 2 2] (W'.alloc (.cells #[.slice a9 n9 c9, .slice a 28 c] 30)) fun e w' => ∃ a' c', e = .returned (.slice a' (n9 + 28) c') ∧ Bts w' (.slice a' (n9 + 28) c') d2 ∧ Bel W w') ∧
        (∀ W' a' c', Bel W W' → Bts W' (.slice a' (n9 + 28) c') d2 → Calls Try.prog 10 #[.slice xo (n9 + 28) yo, .slice a' (n9 + 28) c'] W' fun e w' => e = .returned (.bool true) ∧ ∃ m, w' = W'.drewN m)) := by
  have hl : k < l0.length := by omega
  have he : l0.getD k (0, []) = l0[k] := by simp [hl]
  rw [he] at hv hn9 ⊢
  obtain ⟨gm, em, cm⟩ := hm k hk
  obtain ⟨gg, xg, yg, eg, cg, bg⟩ := hg k hk
  obtain ⟨g3, xo, yo, eo, co, bo⟩ := ho k hk
  have e1 : (l0.map fun s => s.1 == 1).getD k false = (l0[k].1 == 1) := by simp [hl]
  rw [e1] at cm
  have e2 := outsM_at K true l0 [] k hl
  have e3 := givM_at l0 [] k hl
  rw [e2] at co bo
  have bW : Bel w2 W := b3.trans' hW
  refine ⟨gm, g3, gg, xo, yo, (gotM K true l0[k].1 l0[k].2 (stM (l0.take k) [])).length, xg, yg, ((givM l0 []).getD k []).length, em, ?_, eo, ?_, eg, ?_, fun h1 => ?_, fun h1 => ?_⟩
  · rw [bel_cell bW (World.block_lt_of_cell? w2 _ cm)]; exact cm
  · rw [bel_cell hW (World.block_lt_of_cell? w3 _ co)]; exact co
  · rw [bel_cell bW (World.block_lt_of_cell? w2 _ cg)]; exact cg
  · simp [gotM, h1]
  · have e4 : gotM K true l0[k].1 l0[k].2 (stM (l0.take k) []) = l0[k].2 ++ digest K true (stM (l0.take k) []) := by simp only [gotM, h1, if_true]
    have hdl : ∀ l, (digest K true l).length = 28 := fun l => digest_length K true l
    have e5 : (l0[k].2 ++ digest K true (stM (l0.take k) [])).length = n9 + 28 := by rw [List.length_append, hn9, hdl]
    rw [e4, e5] at bo
    rw [e3, if_pos h1] at bg
    rw [e3, if_pos h1]
    refine ⟨by rw [e4, e5], digest K true (stM (l0.take k) []), l0[k].2 ++ digest K true (stM (l0.take k) []), fun W' hW' => ?_, fun W' a c hW' hb => ?_, fun W' a' c' hW' hb => ?_⟩
    · refine (whole_bts K _ _ W' ((bg.bel bW).bel hW') (((hK.bel b2).bel bW).bel hW')).mono fun e w' ⟨v, he, hv⟩ => ?_
      obtain ⟨a, c, rfl⟩ := hv.slc (hdl _)
      exact ⟨a, c, he, hv.1, hW'.trans' hv.2.1⟩
    · have hal : Bel W' (W'.alloc (.cells #[.slice a9 n9 c9, .slice a 28 c] 30)) := Bel.alloc (Below.refl _ _) _
      have hvW : Bts W' (.slice a9 n9 c9) l0[k].2 := ((hv.bel b2).bel bW).bel hW'
      have hsl := steps_le l0 k hl
      refine (joined_any [l0[k].2, digest K true (stM (l0.take k) [])] (some ⟨W'.heap.size, 0, none⟩) 2 _ (pts_two (hvW.bel hal) (hb.bel hal) (heap_alloc_new W' _)) (by simp) (by simp [hdl]; omega)).mono fun e w' ⟨v, he, h1, h2⟩ => ?_
      have h3 := h1.bts
      have hf : [l0[k].2, digest K true (stM (l0.take k) [])].flatten = l0[k].2 ++ digest K true (stM (l0.take k) []) := by simp
      rw [hf] at h3
      obtain ⟨a', c', rfl⟩ := h3.slc e5
      exact ⟨a', c', he, h3, (hW'.trans' hal).trans' h2⟩
    · exact same_any _ _ _ W' ((bo.bel hW).bel hW') hb

set_option maxRecDepth 100000 in
set_option maxHeartbeats 2000000 in
theorem walk (K : Nat → Int) (v0 : Value) (l0 : List (Int × List Int)) (w : World) (hK : KAt w K) (h0 : StpsV w v0 l0) (hz : (l0.length + (l0.map fun s => s.2.length).sum) ≤ 1048576) :
    Calls Try.prog 3 #[v0] w fun e w' => e = .returned (.bool true) ∧ Bel w w' := by
  obtain ⟨ad, cap, rfl, n0, m0, hp⟩ := h0
  have hHS := specSteps_any l0 ad cap w hp (by omega)
  have HP := Lib.hid hp
  have HK := Lib.hid hK
  have HZ := Lib.hid hz
  clear hp hK
  obtain ⟨n, hN⟩ : ∃ n, n = l0.length := ⟨_, rfl⟩
  have HNN := Lib.hid hN
  have hn : n ≤ 1048576 := by omega
  rw [← hN] at hHS ⊢
  have HHS := Lib.hid hHS
  clear hN n0 hz hHS
  go_enter Try.func3, Try.ntmps3
  go_wp2_with fail
  refine HHS.out.mono ?_
  rintro e w1 ⟨v1, ds1, rfl, h1, b1⟩
  obtain ⟨a1, c1, rfl, _, _, hs1⟩ := h1.at b1
  have hg := given_any l0 a1 c1 w1 hs1 HZ.out
  have hN := HNN.out
  rw [← hN] at hg ⊢
  have HG := Lib.hid hg
  have B1 := Lib.hid b1
  clear h1 hs1 b1 hg hN HHS
  go_wp2_with fail
  refine HG.out.mono ?_
  rintro e w2 ⟨vg, vm, vs2, rfl, h2, h2m, b2⟩
  obtain ⟨ag, cg, rfl, hcg⟩ := h2.cells (n := n) (by rw [givM_length]; exact HNN.out.symm)
  obtain ⟨am, cm, rfl, hcm⟩ := ownM_cells h2m (n := n) (by rw [List.length_map]; exact HNN.out.symm)
  have HCG := Lib.hid hcg
  have HCM := Lib.hid hcm
  have B2 := Lib.hid (B1.out.trans' b2)
  have hs := script224_any K l0 ad cap w2 (HP.out.bel B2.out) (HK.out.bel B2.out) (by have := HNN.out; omega)
  have hN := HNN.out
  rw [← hN] at hs
  have HS := Lib.hid hs
  clear h2 h2m b2 hcg hcm hs hN HG B1
  go_wp2_with fail
  refine HS.out.mono ?_
  rintro e w3 ⟨vo, vs3, rfl, h3, b3⟩
  obtain ⟨ao, co, rfl, hco⟩ := h3.cells (n := n) (by rw [outsM_length]; exact HNN.out.symm)
  have B3 := Lib.hid (B2.out.trans' b3)
  have HF := Lib.hid (facts K HNN.out HZ.out HK.out HCG.out HCM.out hco B2.out b3)
  clear h3 b3 hco HS HCG HCM
  go_wp2_with fail
  go_loopw [23] (fun i wr => ∃ k : Nat, k ≤ n ∧ i = .int .i64 k ∧ Hid (Bel w3 wr)) (fun i _ => n - (intOf i).toNat)
  case atStart => exact ⟨0, Nat.zero_le _, rfl, Below.refl _ _⟩
  case round =>
    obtain ⟨k, hk, rfl, HB⟩ := hrel
    by_cases hlt : k < n
    · have hl : k < l0.length := by have := HNN.out; omega
      obtain ⟨pb, po, vd, rfl, hcell, hcell2, hv, hz⟩ := HP.out k hl
      have hBW := B3.out.trans' HB.out
      have hc1 : wr.cell? ⟨pb, po + k * 2, none⟩ = some (.int .i64 l0[k].1) := by rw [bel_cell hBW (World.block_lt_of_cell? w _ hcell)]; exact hcell
      have hc2 : wr.cell? ⟨pb, po + k * 2 + 1, none⟩ = some vd := by rw [bel_cell hBW (World.block_lt_of_cell? w _ hcell)]; exact hcell2
      have he : l0.getD k (0, []) = l0[k] := by simp [hl]
      obtain ⟨a9, c9, rfl, r9⟩ := hv
      obtain ⟨W1, hW1⟩ : ∃ W1, W1 = wr.alloc (.cells #[.int .i64 l0[k].1, .slice a9 l0[k].2.length c9] 32) := ⟨_, rfl⟩
      have hb1 : Bel wr W1 := by rw [hW1]; exact Bel.alloc (Below.refl _ _) _
      have hst : W1.cell? ⟨wr.heap.size, 1, none⟩ = some (.slice a9 l0[k].2.length c9) := by
        rw [hW1, cell_of_row _ _ 1 _ _ _ (heap_alloc_new wr _)]
        rfl
      have hsz1 : wr.heap.size < W1.heap.size := by rw [hW1, World.size_alloc]; omega
      have hf := HF.out W1 (HB.out.trans' hb1) k hlt a9 c9 _ (by rw [he]; exact ⟨a9, c9, rfl, r9⟩) rfl
      rw [he] at hf
      obtain ⟨gm, g3, gg, xo, yo, no, xg, yg, ng, rfl, d1, rfl, d2, rfl, d3, hno, hyes⟩ := hf
      have HB1 := Lib.hid (HB.out.trans' hb1)
      have hz9 : l0[k].2.length ≤ 140737488351232 := hz
      have q1 : gm < W1.heap.size := World.block_lt_of_cell? W1 _ d1
      have q2 : g3 < W1.heap.size := World.block_lt_of_cell? W1 _ d2
      have q3 : gg < W1.heap.size := World.block_lt_of_cell? W1 _ d3
      have i1 : (0 : Int) ≤ (k : Int) := by omega
      have i2 : (k : Int) < (n : Int) := by omega
      have t1 : decide ((k : Int) < (n : Int)) = true := by simp; omega
      clear hcell hcell2 hz hBW he r9 hb1
      by_cases h1 : l0[k].1 = 1
      · obtain ⟨rfl, l1, l2, hw, hj, hsm⟩ := hyes h1
        rw [h1] at d1 hc1 hW1
        have d1' : W1.cell? ⟨gm, k, none⟩ = some (.bool true) := d1
        have HW := Lib.hid hw
        have HJ := Lib.hid hj
        have HSM := Lib.hid hsm
        have HCE := Lib.hid (show ∀ W, Bel W1 W → W.cell? ⟨gm, k, none⟩ = some (.bool true) ∧ W.cell? ⟨g3, k, none⟩ = some (.slice xo (l0[k].2.length + 28) yo) ∧ W.cell? ⟨gg, k, none⟩ = some (.slice xg ng yg) ∧ W.cell? ⟨wr.heap.size, 1, none⟩ = some (.slice a9 l0[k].2.length c9) from fun W hW => ⟨by rw [bel_cell hW q1]; exact d1', by rw [bel_cell hW q2]; exact d2, by rw [bel_cell hW q3]; exact d3, by rw [bel_cell hW hsz1]; exact hst⟩)
        clear hno hyes hw hj hsm h1 d1 q1 q2 q3 hsz1
        subst hW1
        generalize l0[k].2.length = n9 at *
        have hwr : IntKind.i64.wrap ((n9 : Int) + 28) = (n9 : Int) + 28 := by rw [IntKind.wrap_i64]; omega
        have hcast : ((n9 + 28 : Nat) : Int) = (n9 : Int) + 28 := by omega
        go_wp2_with fail
        go_region_held3 (fun W => W.cell? ⟨gm, k, none⟩ = some (.bool true) ∧ W.cell? ⟨g3, k, none⟩ = some (.slice xo (n9 + 28) yo) ∧ W.cell? ⟨gg, k, none⟩ = some (.slice xg ng yg) ∧ W.cell? ⟨wr.heap.size, 1, none⟩ = some (.slice a9 n9 c9)) (first | (exact ⟨d1', d2, d3, hst⟩) | (exact HCE.out _ E5.out) | (exact HCE.out _ (Bel.alloc E5.out _)) | (exact HCE.out _ E6.out) | (exact HCE.out _ (Bel.drewN E6.out _))) (first | (go_at_call 12; with_reducible refine (HW.out _ ?_).mono ?_; (exact Bel.same rfl rfl rfl rfl); rintro e w5 ⟨a5, c5, rfl, h5, e5⟩; have H5 := Lib.hid h5; have E5 := Lib.hid e5; clear h5 e5) | (go_at_call 11; with_reducible refine (HJ.out _ _ _ E5.out H5.out).mono ?_; rintro e w6 ⟨a6, c6, rfl, h6, e6⟩; have H6 := Lib.hid h6; have E6 := Lib.hid e6; clear h6 e6) | (go_at_call 10; with_reducible refine (HSM.out _ _ _ E6.out H6.out).mono ?_; rintro e w7 ⟨rfl, t, rfl⟩))
        all_goals (go_wp2_with fail)
        all_goals go_roundw
        case rel => exact ⟨k + 1, by omega, by go_num, (HB1.out.trans' E6.out).drewN _⟩
        case measure => simp [intOf]; omega
      · obtain rfl := hno h1
        have u1 : (l0[k].1 == 1) = false := by simpa using h1
        rw [u1] at d1
        clear hno hyes h1 u1 q1 q2 q3 hsz1
        subst hW1
        generalize l0[k].2.length = n9 at *
        generalize l0[k].1 = kd at *
        go_wp2_with fail
        go_quiet (fail)
        go_wp2_with fail
        go_roundw
        case rel => exact ⟨k + 1, by omega, by go_num, HB1.out.drewN _⟩
        case measure => simp [intOf]; omega
    · have t1 : decide ((k : Int) < (n : Int)) = false := by simp; omega
      go_wp2_with fail
      go_ret
      exact ⟨rfl, B3.out.trans' HB.out⟩

set_option maxRecDepth 100000 in
theorem contract (H : Type) (enc : TypeId × Value → H) (W : World) (base : Nat) (args : Array Value) (ds gs : List (DataW H)) (before : List MemPlace)
    (hval : ∀ (j : Nat) t v, Try.f3.params[j]? = some t → args[j]? = some v → Value.okWide Try.prog W .any base t v)
    (hW : DataW.Whole enc Try.prog Try.f3.params.toList Rows.fnExactScript224Spec.vars false W args.toList ds gs before) (hk : Rows.uptoSmall H (ds ++ gs) = true) (hsh : W.ShapedOpen Try.prog) :
    Calls Try.prog 3 args W fun e W' => ∃ v, e = .returned v ∧ Rows.fnExactScript224Spec.post enc Try.prog Try.f3 false true false false W args v W' := by
  have hW' := hW
  obtain ⟨p, q, hA0, hV, rfl, hfz, hnd⟩ := hW
  have hA : DataW.TrodAll enc Try.prog W 0 (fun _ => true) true Try.f3.params.toList args.toList ds p := hA0
  rw [Try.params3] at hA hval
  obtain ⟨v0, vs0, d0, ds0, p0, q0, hargs, rfl, rfl, h0, r0⟩ := trodAll_cons hA
  obtain ⟨rfl, rfl, rfl⟩ := trodAll_nil r0
  obtain rfl : args = #[v0] := by cases args; simp_all
  obtain ⟨rfl, rfl⟩ := trodVars_none hV
  obtain ⟨K, hK⟩ := kat_of_shaped hsh
  have hb := bulk_bound hk
  simp only [List.append_nil, Rows.uptoBulkAll] at hb
  have k0 := h0
  have lt0 : ∀ x ∈ p0, x.block < W.heap.size := by obtain ⟨m, hm⟩ := k0; exact DataW.trod_lt m _ _ _ hm
  obtain ⟨l0, b0, z0⟩ := open_steps_bulk (hval 0 22 v0 rfl rfl) h0 (by omega)
  clear hA0
  refine (walk K v0 l0 W hK b0 (by omega)).mono fun e W' ⟨he, bel⟩ => ?_
  subst he
  exact ⟨_, rfl, _, _, _, [], _, [], hW', trodAll_mk1 (shut_bool Try.underlying4 _), (trodAll_cons_mk (Below.trod laidOutN (by kernel_rfl) (of_decide_eq_true (by kernel_rfl)) k0 bel lt0) trodAll_mk0), rfl, bel.frame _, fun h => by cases h⟩

set_option maxRecDepth 100000 in
theorem lifted (os : Os) (started : os.Started) (H : Type) (enc : TypeId × Value → H) (F : Stop.Interp) :
    ReturnsInHanded {} Try.checked os 3 .any ((Rows.OpenSpec.upto Rows.fnExactScript224Spec).pre6 enc Try.prog Try.f3 Rows.fnExactScript224UptoRow.domain false) (((Rows.OpenSpec.upto Rows.fnExactScript224Spec).at F).post enc Try.prog Try.f3 false true false false) := by
  refine handed_cond_shaped (C := Try.checked) (s := Rows.OpenSpec.upto Rows.fnExactScript224Spec) (k := Rows.uptoSmall) rfl ownN started (by kernel_rfl) Try.func3
    (OpenSpec.witness (enc := enc) (C := Try.checked) (s := Rows.OpenSpec.upto Rows.fnExactScript224Spec) (k := Rows.uptoSmall) rfl false ⟨#[], #[.slice none 0 0], []⟩ 8 (by kernel_rfl) (by kernel_rfl) (by kernel_rfl)
      (x := ([.nil], [], [])) (by kernel_rfl) rfl (by kernel_rfl)) ?_
  intro W base args ds gs before hval hW hk hsh
  exact contract H enc W base args ds gs before hval hW hk hsh

theorem proved : Rows.FnExactScript224UptoSaid :=
  OpenClaim.holds_of_cond 3 Try.f3 rfl rfl rfl rfl rfl rfl rfl ⟨rfl, rfl, rfl, rfl, rfl⟩ rfl rfl rfl rfl rfl (by kernel_rfl) Try.func3 (by kernel_rfl)
    (of_decide_eq_true (by kernel_rfl)) (by unfold Func.isWrapper; first | (rw [if_pos (by decide +kernel)]; kernel_rfl) | (rw [if_neg (by decide +kernel)]; exact ⟨rfl, rfl⟩))
    (fun os started H enc _ F => lifted os started H enc F)
end Go.Proofs.Ytnpoggcpdelmnaa.fnExactScript224

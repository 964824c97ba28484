/-
  spec.Given: for each sum of a script, the bytes that the hash was given.
-/
import Derived.Test.YtnpoggcpdelmnaaGiv
namespace Go.Proofs.Ytnpoggcpdelmnaa
open Go.RowKit
set_option linter.unusedVariables false

/-- the state of Given behind k steps -/
def GivK (w wr : World) (vo : Value) (vs : List Value) (vb st : Value) (Ss : List (Int × List Int)) (k : Nat) : Prop :=
  Giv w wr vo vs (givM (Ss.take k) []) vb ((Ss.take k).map fun s => s.1 == 1) st (stM (Ss.take k) [])

theorem giv_step {w W : World} {vo vb st x : Value} {vs : List Value} {Ss : List (Int × List Int)} {k : Nat} (hk : k < Ss.length) (hz : Ss.length ≤ 1048576) (b : Bool) (hb : b = (Ss[k].1 == 1))
    (h : Giv w W vo vs (givM (Ss.take k) []) vb ((Ss.take k).map fun s => s.1 == 1) st (nextM Ss[k].1 Ss[k].2 (stM (Ss.take k) []))) (hx : Bts W x (if Ss[k].1 = 1 then stM (Ss.take k) [] else [])) (ho : Old W x) (h1 : Apart x vo) (h2 : Apart x vb) :
    ∃ vo6 w6 vb7 w7, (Builtin.append_ #[23, 23] 23 #[vo, .slice (some ⟨W.heap.size, 0, none⟩) 1 1]).run Try.prog (W.alloc (.cells #[x] 30)) = .ok vo6 w6 ∧ (Builtin.append_ #[24, 24] 24 #[vb, .slice (some ⟨w6.heap.size, 0, none⟩) 1 1]).run Try.prog (w6.alloc (.cells #[.bool b] 4)) = .ok vb7 w7 ∧ GivK w w7 vo6 (vs ++ [x]) vb7 st Ss (k + 1) ∧ ∀ j v, W.cell? ⟨j, 0, none⟩ = some v → vo.ownBlock ≠ some j → w6.cell? ⟨j, 0, none⟩ = some v := by
  obtain ⟨vo6, w6, hr1, g1, gg⟩ := h.out 23 hx ho h1 h2 (by rw [givM_length, List.length_take]; omega)
  obtain ⟨vb7, w7, hr2, g2⟩ := g1.mark 24 b (by rw [List.length_map, List.length_take]; omega)
  refine ⟨vo6, w6, vb7, w7, hr1, hr2, ?_, fun j v hv hn => gg.cell hv (fun e => hn e.symm)⟩
  unfold GivK
  rw [List.take_succ_eq_append_getElem hk, givM_append, stM_append, List.map_append]
  subst hb
  exact g2

theorem stM_take_le {Ss : List (Int × List Int)} (hz : Ss.length + (Ss.map fun s => s.2.length).sum ≤ 1048576) (k : Nat) : (stM (Ss.take k) []).length ≤ 1048576 := by
  have := stM_le (Ss.take k) []
  have := sum_take_le Ss k
  simp only [List.length_nil] at *
  omega

theorem giv_write {w wr : World} {vo vb vd : Value} {sa : Option Addr} {ns cs : Nat} {vs : List Value} {Ss : List (Int × List Int)} {k : Nat} (hk : k < Ss.length) (hz : Ss.length + (Ss.map fun s => s.2.length).sum ≤ 1048576) (hkd : Ss[k].1 = 0) (h : GivK w wr vo vs vb (.slice sa ns cs) Ss k) (hv : Bts w vd Ss[k].2) (A : Obj) (cv : Value) (hcv : (wr.alloc A).cell? ⟨wr.heap.size, 0, none⟩ = some cv) :
    Calls Try.prog 11 #[.slice (some ⟨wr.heap.size + 1, 0, none⟩) 2 2] ((wr.alloc A).alloc (.cells #[.slice sa ns cs, vd] 30)) fun e w5 =>
      ∃ a5 n5 c5 vo6 w6 vb7 w7, e = .returned (.slice a5 n5 c5) ∧ (Builtin.append_ #[23, 23] 23 #[vo, .slice (some ⟨w5.heap.size, 0, none⟩) 1 1]).run Try.prog (w5.alloc (.cells #[.slice none 0 0] 30)) = .ok vo6 w6 ∧ (Builtin.append_ #[24, 24] 24 #[vb, .slice (some ⟨w6.heap.size, 0, none⟩) 1 1]).run Try.prog (w6.alloc (.cells #[.bool false] 4)) = .ok vb7 w7 ∧ GivK w w7 vo6 (vs ++ [.slice none 0 0]) vb7 (.slice a5 n5 c5) Ss (k + 1) ∧ w5.cell? ⟨wr.heap.size, 0, none⟩ = some cv ∧ w6.cell? ⟨wr.heap.size, 0, none⟩ = some cv := by
  have hA : Bel wr (wr.alloc A) := Bel.alloc (Below.refl _ _) _
  have hB : Bel wr ((wr.alloc A).alloc (.cells #[.slice sa ns cs, vd] 30)) := Bel.alloc hA _
  have s1 : (wr.alloc A).heap.size = wr.heap.size + 1 := World.size_alloc _ _
  have hp := pts_two (h.cur.bel hB) ((hv.bel h.bel).bel hB) (heap_alloc_new (wr.alloc A) (.cells #[.slice sa ns cs, vd] 30))
  rw [s1] at hp
  have hd := steps_le Ss k hk
  have hm := stM_take_le hz k
  refine (joined_any [stM (Ss.take k) [], Ss[k].2] _ 2 _ hp (by simp) (by simp; omega)).mono fun e w5 ⟨v5, he, ho, hb⟩ => ?_
  have hf : [stM (Ss.take k) [], Ss[k].2].flatten = nextM Ss[k].1 Ss[k].2 (stM (Ss.take k) []) := by simp [nextM, hkd]
  rw [hf] at ho
  have hb5 : Bel wr w5 := hB.trans' hb
  have g5 := Giv.go h hb5
  have hnew : ∀ j, v5.ownBlock = some j → wr.heap.size ≤ j := fun j e => Nat.le_trans hB.size (World.ownsRow.lt ho j e).1
  have g6 := g5.state ho.bts (ownsRow_old ho) (apart_new hnew (ownsRow_old h.own.1) (Nat.le_refl _)) (apart_new hnew (ownsRow_old h.mks) (Nat.le_refl _))
  obtain ⟨vo6, w6, vb7, w7, hr1, hr2, g7, hcc⟩ := giv_step (x := .slice none 0 0) hk (by omega) false (by simp [hkd]) g6 (by simp only [hkd]; exact bts_nil _) (fun k e => by cases e) (apart_none rfl) (apart_none rfl)
  obtain ⟨a5, c5, e5, _⟩ := ho.bts
  subst e5
  have c5' : w5.cell? ⟨wr.heap.size, 0, none⟩ = some cv := by rw [bel_cell (Bel.trans' (Bel.alloc (Below.refl _ _) _) hb) (by omega)]; exact hcv
  exact ⟨a5, _, c5, vo6, w6, vb7, w7, he, hr1, hr2, g7, c5', hcc _ _ c5' (fun e => Nat.lt_irrefl _ (ownsRow_old h.own.1 _ e))⟩

theorem giv_sum {w wr : World} {vo vb : Value} {sa : Option Addr} {ns cs : Nat} {vs : List Value} {Ss : List (Int × List Int)} {k : Nat} (hk : k < Ss.length) (hz : Ss.length + (Ss.map fun s => s.2.length).sum ≤ 1048576) (hkd : Ss[k].1 = 1) (h : GivK w wr vo vs vb (.slice sa ns cs) Ss k) (A : Obj) (cv : Value) (hcv : (wr.alloc A).cell? ⟨wr.heap.size, 0, none⟩ = some cv) :
    Calls Try.prog 11 #[.slice (some ⟨wr.heap.size + 1, 0, none⟩) 1 1] ((wr.alloc A).alloc (.cells #[.slice sa ns cs] 30)) fun e w5 =>
      ∃ a5 n5 c5 vo6 w6 vb7 w7, e = .returned (.slice a5 n5 c5) ∧ (Builtin.append_ #[23, 23] 23 #[vo, .slice (some ⟨w5.heap.size, 0, none⟩) 1 1]).run Try.prog (w5.alloc (.cells #[.slice a5 n5 c5] 30)) = .ok vo6 w6 ∧ (Builtin.append_ #[24, 24] 24 #[vb, .slice (some ⟨w6.heap.size, 0, none⟩) 1 1]).run Try.prog (w6.alloc (.cells #[.bool true] 4)) = .ok vb7 w7 ∧ GivK w w7 vo6 (vs ++ [.slice a5 n5 c5]) vb7 (.slice sa ns cs) Ss (k + 1) ∧ w5.cell? ⟨wr.heap.size, 0, none⟩ = some cv ∧ w6.cell? ⟨wr.heap.size, 0, none⟩ = some cv := by
  have hA : Bel wr (wr.alloc A) := Bel.alloc (Below.refl _ _) _
  have hB : Bel wr ((wr.alloc A).alloc (.cells #[.slice sa ns cs] 30)) := Bel.alloc hA _
  have s1 : (wr.alloc A).heap.size = wr.heap.size + 1 := World.size_alloc _ _
  have hp := pts_one (h.cur.bel hB) (heap_alloc_new (wr.alloc A) (.cells #[.slice sa ns cs] 30))
  rw [s1] at hp
  have hm := stM_take_le hz k
  refine (joined_any [stM (Ss.take k) []] _ 1 _ hp (by simp) (by simp; omega)).mono fun e w5 ⟨v5, he, ho, hb⟩ => ?_
  have hf : [stM (Ss.take k) []].flatten = stM (Ss.take k) [] := by simp
  rw [hf] at ho
  have hb5 : Bel wr w5 := hB.trans' hb
  have g5 := Giv.go h hb5
  have hnew : ∀ j, v5.ownBlock = some j → wr.heap.size ≤ j := fun j e => Nat.le_trans hB.size (World.ownsRow.lt ho j e).1
  have g6 : Giv w w5 vo vs (givM (Ss.take k) []) vb ((Ss.take k).map fun s => s.1 == 1) (.slice sa ns cs) (nextM Ss[k].1 Ss[k].2 (stM (Ss.take k) [])) := by
    have e : nextM Ss[k].1 Ss[k].2 (stM (Ss.take k) []) = stM (Ss.take k) [] := by simp [nextM, hkd]
    rw [e]; exact g5
  obtain ⟨vo6, w6, vb7, w7, hr1, hr2, g7, hcc⟩ := giv_step (x := v5) hk (by omega) true (by simp [hkd]) g6 (by simp only [hkd]; exact ho.bts) (ownsRow_old ho) (apart_new hnew (ownsRow_old h.own.1) (Nat.le_refl _)) (apart_new hnew (ownsRow_old h.mks) (Nat.le_refl _))
  obtain ⟨a5, c5, e5, _⟩ := ho.bts
  subst e5
  have c5' : w5.cell? ⟨wr.heap.size, 0, none⟩ = some cv := by rw [bel_cell (Bel.trans' (Bel.alloc (Below.refl _ _) _) hb) (by omega)]; exact hcv
  exact ⟨a5, _, c5, vo6, w6, vb7, w7, he, hr1, hr2, g7, c5', hcc _ _ c5' (fun e => Nat.lt_irrefl _ (ownsRow_old h.own.1 _ e))⟩

theorem giv_reset {w wr : World} {vo vb st : Value} {vs : List Value} {Ss : List (Int × List Int)} {k : Nat} (hk : k < Ss.length) (hz : Ss.length ≤ 1048576) (hkd : Ss[k].1 = 2) (h : GivK w wr vo vs vb st Ss k) (A : Obj) (cv : Value) (hcv : (wr.alloc A).cell? ⟨wr.heap.size, 0, none⟩ = some cv) :
    ∃ vo6 w6 vb7 w7, (Builtin.append_ #[23, 23] 23 #[vo, .slice (some ⟨wr.heap.size + 1 + 1, 0, none⟩) 1 1]).run Try.prog (((wr.alloc A).alloc (.cells #[] 5)).alloc (.cells #[.slice none 0 0] 30)) = .ok vo6 w6 ∧ (Builtin.append_ #[24, 24] 24 #[vb, .slice (some ⟨w6.heap.size, 0, none⟩) 1 1]).run Try.prog (w6.alloc (.cells #[.bool false] 4)) = .ok vb7 w7 ∧ GivK w w7 vo6 (vs ++ [.slice none 0 0]) vb7 (.slice (some ⟨wr.heap.size + 1, 0, none⟩) 0 0) Ss (k + 1) ∧ w6.cell? ⟨wr.heap.size, 0, none⟩ = some cv := by
  have hA : Bel wr (wr.alloc A) := Bel.alloc (Below.refl _ _) _
  have hB : Bel wr ((wr.alloc A).alloc (.cells #[] 5)) := Bel.alloc hA _
  have s1 : (wr.alloc A).heap.size = wr.heap.size + 1 := World.size_alloc _ _
  have s2 : ((wr.alloc A).alloc (.cells #[] 5)).heap.size = wr.heap.size + 1 + 1 := by rw [World.size_alloc, s1]
  have g5 := Giv.go h hB
  have hnew : ∀ j, Value.ownBlock (.slice (some ⟨wr.heap.size + 1, 0, none⟩) 0 0) = some j → wr.heap.size ≤ j := fun j e => by
    have := Option.some.inj e
    simp only at this
    omega
  have g6 := g5.state (st' := .slice (some ⟨wr.heap.size + 1, 0, none⟩) 0 0) (M' := nextM Ss[k].1 Ss[k].2 (stM (Ss.take k) [])) (by
    have e : nextM Ss[k].1 Ss[k].2 (stM (Ss.take k) []) = [] := by simp [nextM, hkd]
    rw [e]; exact ⟨_, _, rfl, by simp, by omega, fun h => by simp at h⟩) (fun j e => by
      have := Option.some.inj e
      simp only at this
      omega) (apart_new hnew (ownsRow_old h.own.1) (Nat.le_refl _)) (apart_new hnew (ownsRow_old h.mks) (Nat.le_refl _))
  obtain ⟨vo6, w6, vb7, w7, hr1, hr2, g7, hcc⟩ := giv_step (x := .slice none 0 0) hk hz false (by simp [hkd]) g6 (by simp only [hkd]; exact bts_nil _) (fun k e => by cases e) (apart_none rfl) (apart_none rfl)
  rw [s2] at hr1
  have c5' : ((wr.alloc A).alloc (.cells #[] 5)).cell? ⟨wr.heap.size, 0, none⟩ = some cv := by rw [bel_cell (Bel.alloc (Below.refl _ _) _) (by omega)]; exact hcv
  exact ⟨vo6, w6, vb7, w7, hr1, hr2, g7, hcc _ _ c5' (fun e => Nat.lt_irrefl _ (ownsRow_old h.own.1 _ e))⟩

theorem giv_other {w wr : World} {vo vb st : Value} {vs : List Value} {Ss : List (Int × List Int)} {k : Nat} (hk : k < Ss.length) (hz : Ss.length ≤ 1048576) (k0 : Ss[k].1 ≠ 0) (k1 : Ss[k].1 ≠ 1) (k2 : Ss[k].1 ≠ 2) (h : GivK w wr vo vs vb st Ss k) (A : Obj) (cv : Value) (hcv : (wr.alloc A).cell? ⟨wr.heap.size, 0, none⟩ = some cv) :
    ∃ vo6 w6 vb7 w7, (Builtin.append_ #[23, 23] 23 #[vo, .slice (some ⟨wr.heap.size + 1, 0, none⟩) 1 1]).run Try.prog ((wr.alloc A).alloc (.cells #[.slice none 0 0] 30)) = .ok vo6 w6 ∧ (Builtin.append_ #[24, 24] 24 #[vb, .slice (some ⟨w6.heap.size, 0, none⟩) 1 1]).run Try.prog (w6.alloc (.cells #[.bool false] 4)) = .ok vb7 w7 ∧ GivK w w7 vo6 (vs ++ [.slice none 0 0]) vb7 st Ss (k + 1) ∧ w6.cell? ⟨wr.heap.size, 0, none⟩ = some cv := by
  have hA : Bel wr (wr.alloc A) := Bel.alloc (Below.refl _ _) _
  have s1 : (wr.alloc A).heap.size = wr.heap.size + 1 := World.size_alloc _ _
  have g6 : Giv w (wr.alloc A) vo vs (givM (Ss.take k) []) vb ((Ss.take k).map fun s => s.1 == 1) st (nextM Ss[k].1 Ss[k].2 (stM (Ss.take k) [])) := by
    have e : nextM Ss[k].1 Ss[k].2 (stM (Ss.take k) []) = stM (Ss.take k) [] := by simp [nextM, k0, k2]
    rw [e]; exact Giv.go h hA
  obtain ⟨vo6, w6, vb7, w7, hr1, hr2, g7, hcc⟩ := giv_step (x := .slice none 0 0) hk hz false (by simp [k1]) g6 (by simp only [if_neg k1]; exact bts_nil _) (fun k e => by cases e) (apart_none rfl) (apart_none rfl)
  rw [s1] at hr1
  exact ⟨vo6, w6, vb7, w7, hr1, hr2, g7, hcc _ _ hcv (fun e => Nat.lt_irrefl _ (ownsRow_old h.own.1 _ e))⟩

theorem alloc_cell0 (w : World) (x y : Value) (t : TypeId) : (w.alloc (.cells #[x, y] t)).cell? ⟨w.heap.size, 0, none⟩ = some x := by
  rw [cell_of_row _ _ 0 _ _ _ (heap_alloc_new w _)]
  rfl

set_option maxRecDepth 100000 in
set_option maxHeartbeats 2000000 in
theorem given_any (Ss : List (Int × List Int)) (ad : Option Addr) (cap : Nat) (w : World) (hs : Stps w ad Ss) (hz : Ss.length + (Ss.map fun s => s.2.length).sum ≤ 1048576) :
    Calls Try.prog 7 #[.slice ad Ss.length cap] w fun e w' => ∃ v1 v2 vs, e = .returned (.tuple #[v1, v2]) ∧ OwnP w' w.heap.size v1 vs (givM Ss []) ∧ OwnM w' w.heap.size v2 (Ss.map fun s => s.1 == 1) ∧ Bel w w' := by
  have HS := Lib.hid hs
  have HZ := Lib.hid hz
  clear hs
  obtain ⟨n, hN⟩ : ∃ n, n = Ss.length := ⟨_, rfl⟩
  rw [← hN]
  have HNN := Lib.hid hN
  have hn : n ≤ 1048576 := by omega
  clear hN hz
  go_enter Try.func7, Try.ntmps7
  go_wp2_with fail
  go_loopw [4, 5, 6, 14] (fun o b s i wr => ∃ (k ns cs : Nat) (sa : Option Addr) (vo vb : Value) (vs : List Value), k ≤ n ∧ i = .int .i64 k ∧ vo = o ∧ vb = b ∧ s = .slice sa ns cs ∧ Hid (GivK w wr vo vs vb (.slice sa ns cs) Ss k)) (fun _ _ _ i _ => n - (intOf i).toNat)
  case atStart => exact ⟨0, _, _, _, _, _, [], Nat.zero_le _, rfl, rfl, rfl, rfl, giv_start w⟩
  case round =>
    obtain ⟨k, ns, cs, sa, vo, vb, vs, hk, rfl, rfl, rfl, rfl, HH⟩ := hrel
    by_cases hlt : k < n
    · have hl : k < Ss.length := by have := HNN.out; omega
      obtain ⟨pb, po, vd, rfl, hcell, hcell2, hv, hzd⟩ := HS.out k hl
      have hc1 : wr.cell? ⟨pb, po + k * 2, none⟩ = some (.int .i64 Ss[k].1) := by rw [bel_cell HH.out.bel (World.block_lt_of_cell? w _ hcell)]; exact hcell
      have hc2 : wr.cell? ⟨pb, po + k * 2 + 1, none⟩ = some vd := by rw [bel_cell HH.out.bel (World.block_lt_of_cell? w _ hcell)]; exact hcell2
      have i1 : (0 : Int) ≤ (k : Int) := by omega
      have i2 : (k : Int) < (n : Int) := by omega
      have t1 : decide ((k : Int) < (n : Int)) = true := by simp; omega
      clear hcell hcell2 hzd
      by_cases k0 : Ss[k].1 = 0
      · have HJ := Lib.hid (giv_write hl HZ.out k0 HH.out hv (.cells #[.int .i64 0, vd] 38) _ (alloc_cell0 _ _ _ _))
        rw [k0] at hc1
        obtain ⟨a9, c9, rfl, _⟩ := hv
        clear k0
        generalize Ss[k].2.length = n9 at *
        go_wp2_with (first | (go_at_call 11; refine HJ.out.mono ?_; rintro e w5 ⟨a5, n5, c5, vo6, w6, vb7, w7, rfl, hr1, hr2, hg, hy5, hy6⟩; have HR1 := Lib.hid hr1; have HR2 := Lib.hid hr2; have HG := Lib.hid hg; clear hr1 hr2 hg) | (at_builtin; refine wpList_append_run rfl (.tmp 39) (.tmp 40) 23 rfl _ _ rfl rfl _ w6 HR1.out ?_) | (at_builtin; refine wpList_append_run rfl (.tmp 42) (.tmp 46) 24 rfl _ _ rfl rfl _ w7 HR2.out ?_))
        go_roundw
        case rel => exact ⟨k + 1, _, _, _, vo6, vb7, _, by omega, by go_num, rfl, rfl, rfl, HG.out⟩
        case measure => simp [intOf]; omega
      by_cases k1 : Ss[k].1 = 1
      · have HJ := Lib.hid (giv_sum hl HZ.out k1 HH.out (.cells #[.int .i64 1, vd] 38) _ (alloc_cell0 _ _ _ _))
        rw [k1] at hc1
        obtain ⟨a9, c9, rfl, _⟩ := hv
        clear k0 k1
        generalize Ss[k].2.length = n9 at *
        go_wp2_with (first | (go_at_call 11; refine HJ.out.mono ?_; rintro e w5 ⟨a5, n5, c5, vo6, w6, vb7, w7, rfl, hr1, hr2, hg, hy5, hy6⟩; have HR1 := Lib.hid hr1; have HR2 := Lib.hid hr2; have HG := Lib.hid hg; clear hr1 hr2 hg) | (at_builtin; refine wpList_append_run rfl (.tmp 33) (.tmp 37) 23 rfl _ _ rfl rfl _ w6 HR1.out ?_) | (at_builtin; refine wpList_append_run rfl (.tmp 42) (.tmp 46) 24 rfl _ _ rfl rfl _ w7 HR2.out ?_))
        go_roundw
        case rel => exact ⟨k + 1, _, _, _, vo6, vb7, _, by omega, by go_num, rfl, rfl, rfl, HG.out⟩
        case measure => simp [intOf]; omega
      by_cases k2 : Ss[k].1 = 2
      · obtain ⟨vo6, w6, vb7, w7, hr1, hr2, hg, hy6⟩ := giv_reset hl (by have := HNN.out; omega) k2 HH.out (.cells #[.int .i64 2, vd] 38) _ (alloc_cell0 _ _ _ _)
        rw [k2] at hc1
        obtain ⟨a9, c9, rfl, _⟩ := hv
        have HR1 := Lib.hid hr1
        have HR2 := Lib.hid hr2
        have HG := Lib.hid hg
        clear hr1 hr2 hg k0 k1 k2
        generalize Ss[k].2.length = n9 at *
        go_wp2_with (first | (at_builtin; refine wpList_append_run rfl (.tmp 39) (.tmp 40) 23 rfl _ _ rfl rfl _ w6 HR1.out ?_) | (at_builtin; refine wpList_append_run rfl (.tmp 42) (.tmp 46) 24 rfl _ _ rfl rfl _ w7 HR2.out ?_))
        go_roundw
        case rel => exact ⟨k + 1, _, _, _, vo6, vb7, _, by omega, by go_num, rfl, rfl, rfl, HG.out⟩
        case measure => simp [intOf]; omega
      · obtain ⟨vo6, w6, vb7, w7, hr1, hr2, hg, hy6⟩ := giv_other hl (by have := HNN.out; omega) k0 k1 k2 HH.out (.cells #[.int .i64 Ss[k].1, vd] 38) _ (alloc_cell0 _ _ _ _)
        obtain ⟨a9, c9, rfl, _⟩ := hv
        have HR1 := Lib.hid hr1
        have HR2 := Lib.hid hr2
        have HG := Lib.hid hg
        have u0 : (Ss[k].1 == 0) = false := by simpa using k0
        have u1 : (Ss[k].1 == 1) = false := by simpa using k1
        have u2 : (Ss[k].1 == 2) = false := by simpa using k2
        clear hr1 hr2 hg k0 k1 k2
        generalize Ss[k].1 = kd at *
        generalize Ss[k].2.length = n9 at *
        go_wp2_with (first | (at_builtin; refine wpList_append_run rfl (.tmp 39) (.tmp 40) 23 rfl _ _ rfl rfl _ w6 HR1.out ?_) | (at_builtin; refine wpList_append_run rfl (.tmp 42) (.tmp 46) 24 rfl _ _ rfl rfl _ w7 HR2.out ?_))
        go_roundw
        case rel => exact ⟨k + 1, _, _, _, vo6, vb7, _, by omega, by go_num, rfl, rfl, rfl, HG.out⟩
        case measure => simp [intOf]; omega
    · have t1 : decide ((k : Int) < (n : Int)) = false := by simp; omega
      have hkn : Ss.take k = Ss := List.take_of_length_le (by have := HNN.out; omega)
      have HF := HH.out
      unfold GivK at HF
      rw [hkn] at HF
      have HFF := Lib.hid HF
      clear HF
      go_wp2_with fail
      go_ret2
      exact ⟨_, _, vs, rfl, HFF.out.own, HFF.out.mks, HFF.out.bel⟩
end Go.Proofs.Ytnpoggcpdelmnaa

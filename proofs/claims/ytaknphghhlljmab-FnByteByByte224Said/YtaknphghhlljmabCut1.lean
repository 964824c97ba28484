/-
  spec.Cut of data by the list that holds 1 alone: the bytes, one by one.
-/
import Derived.Test.YtaknphghhlljmabOwnP
import Derived.Test.YtaknphghhlljmabJoin
namespace Go.Proofs.Ytaknphghhlljmab
open Go.RowKit
set_option linter.unusedVariables false

theorem bel_grown {w w' : World} (h : Bel w w') (r : Option Nat) : w.grownBy w' r := ⟨h.os, h.tape, h.output, h.size, fun k hk _ => h.block k hk⟩

theorem cut1_next {w wr : World} {vo : Value} {vs : List Value} {Ls : List (List Int)} {x : Int} {o : Obj} {e : Ending} {w5 : World} (hP : OwnP wr w.heap.size vo vs Ls) (hB : Bel w wr) (hn : Ls.length ≤ 4096) (ty : TypeId)
    (h : ∃ v, e = .returned v ∧ OwnB w5 (wr.alloc o).heap.size v [[x]].flatten ∧ Bel (wr.alloc o) w5) :
    ∃ a c v2 w2, e = .returned (.slice a 1 c) ∧ (Builtin.append_ #[31, 31] ty #[vo, .slice (some ⟨w5.heap.size, 0, none⟩) 1 1]).run Try.prog (w5.alloc (.cells #[.slice a 1 c] 22)) = .ok v2 w2 ∧ OwnP w2 w.heap.size v2 (vs ++ [.slice a 1 c]) (Ls ++ [[x]]) ∧ Bel w w2 := by
  obtain ⟨v, rfl, h1, h2⟩ := h
  have hf : [[x]].flatten = [x] := by simp
  rw [hf] at h1
  obtain ⟨a, c, rfl, _⟩ := h1.bts
  have hsz : (wr.alloc o).heap.size = wr.heap.size + 1 := World.size_alloc wr o
  have b5 : Bel wr w5 := (Bel.alloc (Below.refl _ _) o).trans' h2
  have hvl : ∀ k, vo.ownBlock = some k → w.heap.size ≤ k ∧ k < wr.heap.size := fun k e => World.ownsRow.lt hP.1 k e
  have hP5 : OwnP w5 w.heap.size vo vs Ls := hP.keep (b := wr.heap.size) (bel_grown b5 _) (fun e => by have := hvl _ e; omega) (fun i hi e => by have := (hP.2.2 i hi).2.2 _ e; omega)
  have hgl : ∀ k, Value.ownBlock (.slice a [x].length c) = some k → wr.heap.size + 1 ≤ k ∧ k < w5.heap.size := fun k e => by have := World.ownsRow.lt h1 k e; rw [hsz] at this; exact this
  obtain ⟨v2, w2, hr, hO, hg, hb⟩ := append_one w5 w.heap.size vo _ vs Ls [x] ty hP5 h1.bts (by
    cases hvg : Value.ownBlock (.slice a [x].length c) with
    | none => exact Or.inl rfl
    | some j =>
      refine Or.inr (fun e => ?_)
      have := hgl j hvg
      have := hvl j e.symm
      omega) (fun k e => (hgl k e).2) (Nat.le_trans hB.size b5.size) (by rw [hP.2.1]; omega)
  exact ⟨a, c, v2, w2, rfl, hr, hO, (hB.trans' b5).grown hg (fun k e => (hvl k e).1)⟩

set_option maxRecDepth 100000 in
set_option maxHeartbeats 2000000 in
theorem cut1_any (v0 : Value) (l : List Int) (sb : Nat) (w : World) (h0 : Bts w v0 l) (hs : w.cell? ⟨sb, 0, none⟩ = some (.int .i64 1)) (hz : l.length ≤ 4096) :
    Calls Try.prog 24 #[v0, .slice (some ⟨sb, 0, none⟩) 1 1] w fun e w' => ∃ v vs, e = .returned v ∧ OwnP w' w.heap.size v vs (l.map fun x => [x]) ∧ Bel w w' := by
  have HB0 := Lib.hid h0
  obtain ⟨a0, c0, rfl, n0, m0, s0⟩ := h0
  have S0 := Lib.hid s0
  clear s0
  go_enter Try.func24, Try.ntmps24
  have hsA : (w.alloc (.cells #[] 22)).cell? ⟨sb, 0, none⟩ = some (.int .i64 1) := by
    rw [World.cell?_alloc_lt _ _ _ (World.block_lt_of_cell? w _ hs)]; exact hs
  go_wp2_with fail
  go_loopw [6, 14] (fun sm i wr => wr = w.alloc (.cells #[] 22) ∧ ((i = .int .i64 0 ∧ sm = .bool false) ∨ (i = .int .i64 1 ∧ sm = .bool true))) (fun _ i _ => 1 - (intOf i).toNat)
  case atStart => exact ⟨rfl, .inl ⟨rfl, rfl⟩⟩
  case round =>
    obtain ⟨rfl, h⟩ := hrel
    rcases h with ⟨rfl, rfl⟩ | ⟨rfl, rfl⟩
    · go_wp2_with fail
      go_roundw
      case rel => first | exact ⟨rfl, .inr ⟨by go_num, rfl⟩⟩ | exact ⟨trivial, .inr ⟨by go_num, rfl⟩⟩ | simp
      case measure => simp [intOf]
    · go_wp2_with fail
      obtain ⟨n, hN⟩ : ∃ n, n = l.length := ⟨_, rfl⟩
      have HNN := Lib.hid hN
      rw [← hN] at hz
      go_loopw [0, 5, 9] (fun d o i wr => ∃ (k len cap : Nat) (ad : Option Addr) (vo : Value) (vs : List Value), len + k = n ∧ i = .int .i64 k ∧ d = .slice ad len cap ∧ vo = o ∧ Hid (Bts w (.slice ad len cap) (l.drop k) ∧ OwnP wr w.heap.size vo vs ((l.take k).map fun x => [x]) ∧ Bel w wr)) (fun _ _ i _ => n - (intOf i).toNat)
      case atStart => exact ⟨0, l.length, c0, a0, _, [], by rw [hN]; rfl, rfl, rfl, rfl, HB0.out, ownP_empty w w.heap.size (Nat.le_refl _), Bel.alloc (Below.refl _ _) _⟩
      case round =>
        obtain ⟨k, len, cap, ad, vo, vs, hk, rfl, rfl, rfl, HH⟩ := hrel
        have hdl : (l.drop k).length = len := by rw [List.length_drop]; have := HNN.out; omega
        by_cases hlt : 0 < len
        · obtain ⟨pb, po, cc, e1, hc1, hc2, hr⟩ := HH.out.1.at hdl hlt
          obtain ⟨rfl, rfl⟩ : ad = some ⟨pb, po, none⟩ ∧ cap = cc := by injection e1; exact ⟨by assumption, by assumption⟩
          have hkl : k < l.length := by have := HNN.out; omega
          have hx1 : Bts w (.slice (some ⟨pb, po + 0, none⟩) 1 cap) [l[k]] := hr.bts rfl (by omega) (by omega) hc2 (fun i hi => by
            have e : i = 0 := by omega
            subst e
            simp [List.getD, hkl])
          have hx2 : Bts w (.slice (some ⟨pb, po + 1, none⟩) (len - 1) (cap - 1)) (l.drop (k + 1)) := hr.bts (by rw [List.length_drop]; have := HNN.out; omega) (by omega) (by omega) (by omega) (fun i hi => by
            simp [List.getD, List.getElem?_drop, Nat.add_assoc])
          rw [Nat.add_zero] at hx1
          have hsr : wr.cell? ⟨sb, 0, none⟩ = some (.int .i64 1) := by rw [bel_cell HH.out.2.2 (World.block_lt_of_cell? w _ hs)]; exact hs
          have hal : Bel w (wr.alloc (.cells #[.slice (some ⟨pb, po, none⟩) 1 cap] 22)) := HH.out.2.2.alloc _
          have HJ := Lib.hid (joined_any [[l[k]]] (some ⟨wr.heap.size, 0, none⟩) 1 _ (pts_one (hx1.bel hal) (heap_alloc_new wr (.cells #[.slice (some ⟨pb, po, none⟩) 1 cap] 22))) (by simp) (by simp))
          have HNX := Lib.hid (fun e w5 => cut1_next (e := e) (w5 := w5) (x := l[k]) (o := .cells #[.slice (some ⟨pb, po, none⟩) 1 cap] 22) HH.out.2.1 HH.out.2.2 (by have := HNN.out; simp; omega) 31)
          have HX2 := Lib.hid (show Bts w (.slice (if cap = 1 then some ⟨pb, po, none⟩ else some ⟨pb, po + 1, none⟩) (len - 1) (cap - 1)) (l.drop (k + 1)) by
            split
            · have e0 : l.drop (k + 1) = [] := List.drop_eq_nil_of_le (by have := HNN.out; omega)
              have e1 : len - 1 = 0 := by omega
              rw [e0, e1]
              exact ⟨_, _, rfl, by simp, by omega, fun h => by simp at h⟩
            · exact hx2)
          have he : (l.take (k + 1)).map (fun x => [x]) = (l.take k).map (fun x => [x]) ++ [[l[k]]] := by
            rw [List.take_succ_eq_append_getElem hkl, List.map_append]; rfl
          have HEQ := Lib.hid he
          clear hx1 hx2 hal hr he e1
          have t1 : decide ((0 : Int) < (len : Int)) = true := by simp; omega
          have hmod : (k : Int).tmod 1 = 0 := by simp
          have i1 : (1 : Int) ≤ (len : Int) := by omega
          have i2 : (1 : Int) ≤ (cap : Int) := by omega
          have i3 : ¬ ((len : Int) < 1) := by omega
          go_wp2_with (first | (go_at_call 19; refine HJ.out.mono ?_; rintro e w5 hst; obtain ⟨a5, c5, v6, w6, rfl, hr, ho, hb⟩ := HNX.out e w5 hst; have HR := Lib.hid hr; have HO := Lib.hid ho; have HB := Lib.hid hb; clear hr ho hb hst) | (at_builtin; refine wpList_append_run rfl (.tmp 48) (.tmp 54) 31 rfl _ _ rfl rfl _ w6 HR.out ?_))
          go_roundw
          case rel => exact ⟨k + 1, len - 1, cap - 1, _, v6, _, by omega, by go_num, rfl, rfl, HX2.out, by rw [HEQ.out]; exact HO.out, HB.out⟩
          case measure => simp [intOf]; omega
        · have t1 : decide ((0 : Int) < (len : Int)) = false := by simp; omega
          have e0 : len = 0 := by omega
          subst e0
          have hkn : l.take k = l := List.take_of_length_le (by have := HNN.out; omega)
          rw [hkn] at HH
          go_wp2_with fail
          go_ret
          exact ⟨_, vs, rfl, HH.out.2.1, HH.out.2.2⟩
end Go.Proofs.Ytaknphghhlljmab

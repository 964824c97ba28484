/-
  What FnCloneGoesOn keeps of a script: the steps that are no clones, and their numbers.
-/
import Derived.Test.YtnpoggcpdelmnaaOwnS
import Derived.Test.YtnpoggcpdelmnaaCountsA
namespace Go.Proofs.Ytnpoggcpdelmnaa
open Go.RowKit
set_option linter.unusedVariables false

/-- Ps are the steps that are kept of the first k, Ks their numbers: they return the same -/
structure Keeps (K : Nat → Int) (is : Bool) (Ss : List (Int × List Int)) (k : Nat) (Ps : List (Int × List Int)) (Ks : List Int) : Prop where
  len : Ps.length = Ks.length
  le : Ps.length ≤ k
  st : stM Ps [] = stM (Ss.take k) []
  at_ : ∀ j, j < Ps.length → ∃ i : Nat, i < k ∧ Ks.getD j 0 = (i : Int) ∧ (outsM K is (Ss.take k) []).getD i [] = (outsM K is Ps []).getD j []

theorem keeps_start (K : Nat → Int) (is : Bool) (Ss : List (Int × List Int)) : Keeps K is Ss 0 [] [] := ⟨rfl, Nat.le_refl _, rfl, fun j hj => absurd hj (by simp)⟩

theorem outs_take_succ (K : Nat → Int) (is : Bool) (Ss : List (Int × List Int)) (k : Nat) (hk : k < Ss.length) : outsM K is (Ss.take (k + 1)) [] = outsM K is (Ss.take k) [] ++ [gotM K is Ss[k].1 Ss[k].2 (stM (Ss.take k) [])] := by
  rw [List.take_succ_eq_append_getElem hk, outsM_append]; rfl
theorem st_take_succ (Ss : List (Int × List Int)) (k : Nat) (hk : k < Ss.length) : stM (Ss.take (k + 1)) [] = nextM Ss[k].1 Ss[k].2 (stM (Ss.take k) []) := by
  rw [List.take_succ_eq_append_getElem hk, stM_append]; rfl
theorem getD_left {α : Type} (a b : List α) (i : Nat) (d : α) (h : i < a.length) : (a ++ b).getD i d = a.getD i d := by
  rw [List.getD, List.getD, List.getElem?_append_left h]

theorem Keeps.keep {K : Nat → Int} {is : Bool} {Ss : List (Int × List Int)} {k : Nat} {Ps : List (Int × List Int)} {Ks : List Int} (h : Keeps K is Ss k Ps Ks) (hk : k < Ss.length) : Keeps K is Ss (k + 1) (Ps ++ [Ss[k]]) (Ks ++ [(k : Int)]) := by
  obtain ⟨h1, h2, h3, h4⟩ := h
  have hl : (outsM K is (Ss.take k) []).length = k := by rw [outsM_length, List.length_take]; omega
  have e2 : outsM K is (Ps ++ [Ss[k]]) [] = outsM K is Ps [] ++ [gotM K is Ss[k].1 Ss[k].2 (stM Ps [])] := by rw [outsM_append]; rfl
  refine ⟨by simp [h1], by simp; omega, ?_, fun j hj => ?_⟩
  · rw [st_take_succ Ss k hk, stM_append, h3]; rfl
  · rw [outs_take_succ K is Ss k hk, e2]
    by_cases hlt : j < Ps.length
    · obtain ⟨i, i1, i2, i3⟩ := h4 j hlt
      refine ⟨i, by omega, ?_, ?_⟩
      · rw [getD_left _ _ _ _ (by omega)]; exact i2
      · rw [getD_left _ _ _ _ (by omega), getD_left _ _ _ _ (by rw [outsM_length]; exact hlt)]; exact i3
    · have e : j = Ps.length := by simp at hj; omega
      subst e
      refine ⟨k, by omega, ?_, ?_⟩
      · rw [h1]; simp
      · have a1 : (outsM K is (Ss.take k) [] ++ [gotM K is Ss[k].1 Ss[k].2 (stM (Ss.take k) [])]).getD k [] = gotM K is Ss[k].1 Ss[k].2 (stM (Ss.take k) []) := by
          rw [List.getD, List.getElem?_append_right (by omega), hl]; simp
        have a2 : (outsM K is Ps [] ++ [gotM K is Ss[k].1 Ss[k].2 (stM Ps [])]).getD Ps.length [] = gotM K is Ss[k].1 Ss[k].2 (stM Ps []) := by
          rw [List.getD, List.getElem?_append_right (by rw [outsM_length]; exact Nat.le_refl _), outsM_length]; simp
        rw [a1, a2, h3]

theorem Keeps.skip {K : Nat → Int} {is : Bool} {Ss : List (Int × List Int)} {k : Nat} {Ps : List (Int × List Int)} {Ks : List Int} (h : Keeps K is Ss k Ps Ks) (hk : k < Ss.length) (he : Ss[k].1 = 3 ∨ Ss[k].1 = 4) : Keeps K is Ss (k + 1) Ps Ks := by
  obtain ⟨h1, h2, h3, h4⟩ := h
  have hl : (outsM K is (Ss.take k) []).length = k := by rw [outsM_length, List.length_take]; omega
  refine ⟨h1, by omega, ?_, fun j hj => ?_⟩
  · rw [st_take_succ Ss k hk, h3]
    rcases he with he | he <;> simp [nextM, he]
  · obtain ⟨i, i1, i2, i3⟩ := h4 j hj
    refine ⟨i, by omega, i2, ?_⟩
    rw [outs_take_succ K is Ss k hk, getD_left _ _ _ _ (by omega)]
    exact i3

theorem infoIS : (Try.prog.info? 32).map (fun i => (i.zero, i.size, i.bytes)) = some (some (.agg #[.int .i64 0, .slice none 0 0]), 2, 32) := by kernel_rfl

/-- the state of the first loop -/
structure ClA (w wr : World) (vp : Value) (Ps : List (Int × List Int)) (ds : List Value) (vk : Value) (Ks : List Int) : Prop where
  bel : Bel w wr
  own : OwnS 32 w wr w.heap.size vp Ps ds
  ints : OwnI wr w.heap.size vk Ks
  ap : Apart vp vk

theorem ClA.go {w wr w' : World} {vp vk : Value} {Ps : List (Int × List Int)} {ds : List Value} {Ks : List Int} (h : ClA w wr vp Ps ds vk Ks) (hb : Bel wr w') : ClA w w' vp Ps ds vk Ks :=
  ⟨h.bel.trans' hb, ⟨ownsRow_bel h.own.1 hb, h.own.2⟩, ownsRow_bel h.ints hb, h.ap⟩

theorem clA_start (w : World) : ClA w ((w.alloc (.cells #[] 32)).alloc (.cells #[] 3)) (.slice (some ⟨w.heap.size, 0, none⟩) 0 0) [] [] (.slice (some ⟨w.heap.size + 1, 0, none⟩) 0 0) [] := by
  have b1 : Bel w (w.alloc (.cells #[] 32)) := Bel.alloc (Below.refl _ _) _
  have b2 : Bel (w.alloc (.cells #[] 32)) ((w.alloc (.cells #[] 32)).alloc (.cells #[] 3)) := Bel.alloc (Below.refl _ _) _
  have s1 : (w.alloc (.cells #[] 32)).heap.size = w.heap.size + 1 := World.size_alloc _ _
  have o1 := ownS_empty 32 w w w.heap.size (Nat.le_refl _)
  have o2 := ownI_empty (w.alloc (.cells #[] 32)) w.heap.size (by omega)
  rw [s1] at o2
  refine ⟨b1.trans' b2, ⟨ownsRow_bel o1.1 b2, o1.2⟩, o2, fun k e e2 => ?_⟩
  have h1 := Option.some.inj e
  have h2 := Option.some.inj e2
  simp only at h1 h2
  omega

/-- one step is kept -/
theorem ClA.keep {w wr : World} {vp vk vd : Value} {Ps : List (Int × List Int)} {ds : List Value} {Ks : List Int} (h : ClA w wr vp Ps ds vk Ks) (s : Int × List Int) (hd : Bts w vd s.2) (hz : s.2.length ≤ 140737488351232) (x : Int) (hn : Ps.length + 1 ≤ 4398046511104) (hm : Ks.length + 1 ≤ 4398046511104) :
    ∃ v5 w5 v6 w6, (Builtin.append_ #[22, 22] 22 #[vp, .slice (some ⟨wr.heap.size + 1, 0, none⟩) 1 1]).run Try.prog ((wr.alloc (.cells #[.int .i64 s.1, vd] 32)).alloc (.cells #[.int .i64 s.1, vd] 32)) = .ok v5 w5 ∧ (Builtin.append_ #[37, 37] 37 #[vk, .slice (some ⟨w5.heap.size, 0, none⟩) 1 1]).run Try.prog (w5.alloc (.cells #[.int .i64 x] 3)) = .ok v6 w6 ∧ ClA w w6 v5 (Ps ++ [s]) (ds ++ [vd]) v6 (Ks ++ [x]) := by
  have hbA : Bel wr (wr.alloc (.cells #[.int .i64 s.1, vd] 32)) := Bel.alloc (Below.refl _ _) _
  have h' := h.go hbA
  obtain ⟨v5, w5, hr5, ho5, hg5, hb5⟩ := ownS_append Try.underlying22 infoIS rfl 22 h'.own s vd hd hz h'.bel.size hn
  rw [World.size_alloc] at hr5
  have bel5 : Bel w w5 := h'.bel.grown hg5 (fun j e => (World.ownsRow.lt h'.own.1 j e).1)
  have i5 : OwnI w5 w.heap.size vk Ks := ownsRow_apart h'.ints h'.ap.symm hg5
  have ap5 : Apart v5 vk := (h'.ap.symm.new (ownsRow_old h'.ints) hb5).symm
  obtain ⟨v6, w6, hr6, ho6, hg6, hb6⟩ := append_int w5 w.heap.size vk Ks x 37 i5 bel5.size (by omega)
  refine ⟨v5, w5, v6, w6, hr5, hr6, bel5.grown hg6 (fun j e => (World.ownsRow.lt i5 j e).1), ⟨ownsRow_apart ho5.1 ap5 hg6, ho5.2⟩, ho6, ap5.new (ownsRow_old ho5.1) hb6⟩

/-- a slice of slices is read -/
theorem OwnP.cells {w : World} {base : Nat} {v : Value} {vs : List Value} {Ls : List (List Int)} {n : Nat} (h : OwnP w base v vs Ls) (hn : Ls.length = n) :
    ∃ a c, v = .slice a n c ∧ ∀ i, i < n → ∃ g x y, a = some ⟨g, 0, none⟩ ∧ w.cell? ⟨g, i, none⟩ = some (.slice x (Ls.getD i []).length y) ∧ Bts w (.slice x (Ls.getD i []).length y) (Ls.getD i []) := by
  obtain ⟨h1, h2, h3⟩ := h
  obtain ⟨a, c, e, _, _, hc⟩ := ownsRow_at h1
  have hvn : vs.length = n := h2.trans hn
  refine ⟨a, c, by rw [← hvn]; exact e, fun i hi => ?_⟩
  have hi' : i < vs.length := by omega
  obtain ⟨g, rfl, hg⟩ := hc i vs[i] (List.getElem?_eq_getElem hi')
  obtain ⟨x, y, e2, r⟩ := (h3 i hi').1
  exact ⟨g, x, y, rfl, by rw [hg, e2], ⟨x, y, rfl, r⟩⟩
theorem OwnI.cells {w : World} {base n : Nat} {v : Value} {l : List Int} (h : OwnI w base v l) (hn : l.length = n) : ∃ a c, v = .slice a n c ∧ ∀ k, k < n → ∃ g, a = some ⟨g, 0, none⟩ ∧ w.cell? ⟨g, k, none⟩ = some (.int .i64 (l.getD k 0)) := by
  obtain ⟨a, c, e, _, _, hc⟩ := ownsRow_at h
  refine ⟨a, c, by rw [← hn]; exact e, fun k hk => hc k _ ?_⟩
  have hk' : k < l.length := by omega
  simp [hk']
end Go.Proofs.Ytnpoggcpdelmnaa

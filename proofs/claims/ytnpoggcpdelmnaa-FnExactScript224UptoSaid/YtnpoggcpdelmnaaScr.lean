/-
  What a script returns, in plain words; a slice of slices of the caller's own.
-/
import Derived.Test.YtnpoggcpdelmnaaStep
namespace Go.Proofs.Ytnpoggcpdelmnaa
open Go.RowKit
set_option linter.unusedVariables false

theorem step_any (K : Nat → Int) (is : Bool) (w0 w : World) (b : Nat) (kd : Int) (vd : Value) (D M : List Int) (hh : Has K w0 w b is M) (hd : Bts w0 vd D) (hK : KAt w0 K) (hz : D.length ≤ 140737488351232) :
    Calls Try.prog 16 #[hash b, .agg #[.int .i64 kd, vd]] w (Stepped K is w0 w b kd D M) := by
  by_cases k0 : kd = 0
  · subst k0; exact step_write K is w0 w b vd D M hh hd hK hz
  by_cases k1 : kd = 1
  · subst k1; exact step_sum K is w0 w b vd D M hh hd hK hz
  by_cases k2 : kd = 2
  · subst k2; exact step_reset K is w0 w b vd D M hh hd hK hz
  by_cases k3 : kd = 3
  · subst k3; exact step_clone K is w0 w b vd D M hh hd hK hz
  by_cases k4 : kd = 4
  · subst k4; exact step_leave K is w0 w b vd D M hh hd hK hz
  exact step_other K is w0 w b kd k0 k1 k2 k3 k4 vd D M hh hd hK hz

/-- what the hash was given behind the steps -/
def stM : List (Int × List Int) → List Int → List Int
  | [], M => M
  | (k, D) :: r, M => stM r (nextM k D M)
/-- what the steps return -/
def outsM (K : Nat → Int) (is : Bool) : List (Int × List Int) → List Int → List (List Int)
  | [], _ => []
  | (k, D) :: r, M => gotM K is k D M :: outsM K is r (nextM k D M)

theorem stM_append (a b : List (Int × List Int)) (M : List Int) : stM (a ++ b) M = stM b (stM a M) := by
  induction a generalizing M with
  | nil => rfl
  | cons x r ih => exact ih _
theorem outsM_append (K : Nat → Int) (is : Bool) (a b : List (Int × List Int)) (M : List Int) : outsM K is (a ++ b) M = outsM K is a M ++ outsM K is b (stM a M) := by
  induction a generalizing M with
  | nil => rfl
  | cons x r ih => exact congrArg (List.cons _) (ih _)
theorem outsM_length (K : Nat → Int) (is : Bool) (a : List (Int × List Int)) (M : List Int) : (outsM K is a M).length = a.length := by
  induction a generalizing M with
  | nil => rfl
  | cons x r ih => show (_ :: _).length = _; simp [ih]

/-- ad is a script with these steps -/
def Stps (w : World) (ad : Option Addr) (Ss : List (Int × List Int)) : Prop :=
  ∀ i, (h : i < Ss.length) → ∃ pb po vd, ad = some ⟨pb, po, none⟩ ∧ w.cell? ⟨pb, po + i * 2, none⟩ = some (.int .i64 (Ss[i].1)) ∧ w.cell? ⟨pb, po + i * 2 + 1, none⟩ = some vd ∧ Bts w vd Ss[i].2 ∧ Ss[i].2.length ≤ 140737488351232

/-- a slice of slices of the caller's own: its row, and what lies behind each -/
def OwnP (w : World) (base : Nat) (v : Value) (vs : List Value) (Ls : List (List Int)) : Prop :=
  w.ownsRow base 30 1 v vs.length vs ∧ vs.length = Ls.length ∧ ∀ i, (h : i < vs.length) → Bts w vs[i] (Ls.getD i []) ∧ (vs[i].ownBlock = none ∨ vs[i].ownBlock ≠ v.ownBlock) ∧ ∀ k, vs[i].ownBlock = some k → k < w.heap.size

theorem OwnP.keep {w w' : World} {base : Nat} {v : Value} {vs : List Value} {Ls : List (List Int)} {b : Nat} (h : OwnP w base v vs Ls) (hg : w.grownBy w' (some b)) (hv : v.ownBlock ≠ some b) (hvs : ∀ i, (h : i < vs.length) → vs[i].ownBlock ≠ some b) : OwnP w' base v vs Ls :=
  ⟨World.ownsRow.kept h.1 hg (Or.inr hv), h.2.1, fun i hi => ⟨(h.2.2 i hi).1.grown hg (Or.inl (hvs i hi)), (h.2.2 i hi).2.1, fun k e => Nat.lt_of_lt_of_le ((h.2.2 i hi).2.2 k e) hg.size⟩⟩

theorem info27 : (Try.prog.info? 30).map (fun i => (i.zero, i.size, i.bytes)) = some (some (.slice none 0 0), 1, 24) := by kernel_rfl

theorem append_one (w : World) (base : Nat) (v x : Value) (vs : List Value) (Ls : List (List Int)) (l : List Int) (ty : TypeId) (hv : OwnP w base v vs Ls) (hx : Bts w x l) (hxb : x.ownBlock = none ∨ x.ownBlock ≠ v.ownBlock) (hxs : ∀ k, x.ownBlock = some k → k < w.heap.size) (hbase : base ≤ w.heap.size) (hlen : vs.length + 1 ≤ 5864062014805) :
    ∃ v' w', (Builtin.append_ #[23, 23] ty #[v, .slice (some ⟨w.heap.size, 0, none⟩) 1 1]).run Try.prog (w.alloc (.cells #[x] 30)) = .ok v' w' ∧ OwnP w' base v' (vs ++ [x]) (Ls ++ [l]) ∧ w.grownBy w' v.ownBlock ∧ (v'.ownBlock = v.ownBlock ∨ v'.ownBlock = some (w.heap.size + 1)) := by
  obtain ⟨i0, hi, hz0, hz1, hz2⟩ := info_parts info27
  have hml : maxLen = 9223372036854775807 := rfl
  have gA := World.grownBy_alloc w (.cells #[x] 30) v.ownBlock
  have ho : (w.alloc (.cells #[x] 30)).ownsRow base 30 1 v vs.length vs := World.ownsRow.kept hv.1 (World.grownBy_alloc w (.cells #[x] 30) none) (by cases v.ownBlock <;> simp)
  have hone : x.oneCell' = true := by obtain ⟨a, c, rfl, _⟩ := hx; rfl
  obtain ⟨v', w', hr, ho', hg, _, hb⟩ := run_append_own_at (P := Try.prog) (w.alloc (.cells #[x] 30)) base 23 ty 30 i0 (.slice none 0 0) 1 24 Try.underlying23 hi hz0 hz1 hz2 rfl (by decide) v vs.length vs ho ⟨w.heap.size, 0, none⟩ 1 1 [x] (by simp) (cell_one_new _ _ _) (fun u hu => by simp at hu; subst hu; exact hone) (by rw [hml]; omega) (by omega) (by rw [World.size_alloc]; omega)
  rw [World.size_alloc] at hb
  have hgw := grown_trans gA hg
  refine ⟨v', w', hr, ⟨by simpa using ho', by simp [hv.2.1], fun i hi => ?_⟩, hgw, hb⟩
  have old : ∀ (y : Value) (m : List Int), Bts w y m → (y.ownBlock = none ∨ y.ownBlock ≠ v.ownBlock) → (∀ k, y.ownBlock = some k → k < w.heap.size) → Bts w' y m ∧ (y.ownBlock = none ∨ y.ownBlock ≠ v'.ownBlock) ∧ ∀ k, y.ownBlock = some k → k < w'.heap.size := fun y m h1 h2 h3 => by
    refine ⟨?_, ?_, fun k e => Nat.lt_of_lt_of_le (h3 k e) hgw.size⟩
    · rcases h2 with h2 | h2
      · cases hvo : v.ownBlock with
        | none => rw [hvo] at hgw; exact h1.grown hgw (Or.inr rfl)
        | some j => exact h1.grown hgw (Or.inl (by rw [h2, hvo]; simp))
      · exact h1.grown hgw (Or.inl h2)
    · rcases h2 with h2 | h2
      · exact Or.inl h2
      · rcases hb with hb | hb
        · exact Or.inr (by rw [hb]; exact h2)
        · refine Or.inr (fun e => ?_)
          have := h3 _ (e.trans hb)
          omega
  by_cases hlt : i < vs.length
  · rw [List.getElem_append_left hlt]
    have := old _ _ (hv.2.2 i hlt).1 (hv.2.2 i hlt).2.1 (hv.2.2 i hlt).2.2
    have e2 : (Ls ++ [l]).getD i [] = Ls.getD i [] := by rw [List.getD, List.getD, List.getElem?_append_left (by rw [← hv.2.1]; exact hlt)]
    rw [e2]
    exact this
  · have e : i = vs.length := by simp at hi; omega
    subst e
    rw [List.getElem_append_right (Nat.le_refl _)]
    have : (Ls ++ [l]).getD vs.length [] = l := by rw [hv.2.1]; simp
    rw [this]
    simpa using old x l hx hxb hxs

/-- the state of a script behind its first k steps -/
def ScrAt (K : Nat → Int) (is : Bool) (w wr : World) (b : Nat) (vo : Value) (vs : List Value) (Ss : List (Int × List Int)) (k : Nat) : Prop :=
  Has K w wr b is (stM (Ss.take k) []) ∧ OwnP wr w.heap.size vo vs (outsM K is (Ss.take k) []) ∧ vo.ownBlock ≠ some b ∧ ∀ i, (h : i < vs.length) → vs[i].ownBlock ≠ some b

theorem scr_start {K : Nat → Int} {is : Bool} {w w2 : World} (Ss : List (Int × List Int)) (h : Has K w w2 w.heap.size is []) : ScrAt K is w (w2.alloc (.cells #[] 30)) w.heap.size (.slice (some ⟨w2.heap.size, 0, none⟩) 0 0) [] Ss 0 := by
  have hlt := h.dig.lt
  refine ⟨h.keep (World.grownBy_alloc w2 _ none) (fun k e => by cases e), ⟨⟨by simp, .inr ⟨w2.heap.size, 0, #[], rfl, h.bel.size, heap_alloc_new w2 _, by simp, by decide, by simp, by simp⟩⟩, rfl, fun i hi => absurd hi (by simp)⟩, fun e => ?_, fun i hi => absurd hi (by simp)⟩
  have e2 : w2.heap.size = w.heap.size := Option.some.inj e
  omega

theorem scr_next {K : Nat → Int} {is : Bool} {w wr : World} {b : Nat} {vo : Value} {vs : List Value} {Ss : List (Int × List Int)} {k : Nat} (h : ScrAt K is w wr b vo vs Ss k) (hk : k < Ss.length) (hn : Ss.length ≤ 4398046511104) (o : Obj) (ty : TypeId) {e : Ending} {w' : World}
    (hst : Stepped K is w (wr.alloc o) b Ss[k].1 Ss[k].2 (stM (Ss.take k) []) e w') :
    ∃ b' vg v2 w2, (∃ a n c, vg = .slice a n c) ∧ e = .returned (.tuple #[hash b', vg]) ∧ (Builtin.append_ #[23, 23] ty #[vo, .slice (some ⟨w'.heap.size, 0, none⟩) 1 1]).run Try.prog (w'.alloc (.cells #[vg] 30)) = .ok v2 w2 ∧ ScrAt K is w w2 b' v2 (vs ++ [vg]) Ss (k + 1) := by
  obtain ⟨hH, hP, hv, hvs⟩ := h
  obtain ⟨b', vg, rfl, h1, h2, h3, h4, h5⟩ := hst
  have gA : wr.grownBy (wr.alloc o) (some b) := World.grownBy_alloc wr o _
  have hg := grown_trans gA h3
  have hP' := hP.keep hg hv hvs
  have hblt := hH.dig.lt
  have hsz : (wr.alloc o).heap.size = wr.heap.size + 1 := World.size_alloc wr o
  have hvl : vs.length = k := by rw [hP.2.1, outsM_length, List.length_take]; omega
  have hvolt : ∀ j, vo.ownBlock = some j → w.heap.size ≤ j ∧ j < wr.heap.size := fun j e => World.ownsRow.lt hP.1 j e
  have hvglt : ∀ j, vg.ownBlock = some j → wr.heap.size + 1 ≤ j ∧ j < w'.heap.size := fun j e => by have := World.ownsRow.lt h2 j e; rw [hsz] at this; exact this
  obtain ⟨v2, w2, hr, hO, hg2, hb2⟩ := append_one w' w.heap.size vo vg vs _ _ ty hP' h2.bts (by
    cases hvg : vg.ownBlock with
    | none => exact Or.inl rfl
    | some j =>
      refine Or.inr (fun e => ?_)
      have := hvglt j hvg
      have := hvolt j e.symm
      omega) (fun j e => (hvglt j e).2) (Nat.le_trans hH.bel.size hg.size) (by omega)
  have hbb : ∀ j, j < wr.heap.size → j ≠ b → j ≠ b' := fun j hj hjb e => by
    rcases h4 with h4 | h4
    · exact hjb (by rw [e, h4])
    · omega
  have hb'lt := h1.dig.lt
  refine ⟨b', vg, v2, w2, (by obtain ⟨a, c, e, _⟩ := h2.bts; exact ⟨a, _, c, e⟩), rfl, hr, ?_, ?_, ?_, fun i hi => ?_⟩
  · have e1 : stM (Ss.take (k + 1)) [] = nextM Ss[k].1 Ss[k].2 (stM (Ss.take k) []) := by
      rw [List.take_succ_eq_append_getElem hk, stM_append]; rfl
    rw [e1]
    exact h1.keep hg2 (fun j e => ⟨(hvolt j e).1, hbb j (hvolt j e).2 (fun e2 => hv (by rw [e, e2]))⟩)
  · have e1 : outsM K is (Ss.take (k + 1)) [] = outsM K is (Ss.take k) [] ++ [gotM K is Ss[k].1 Ss[k].2 (stM (Ss.take k) [])] := by
      rw [List.take_succ_eq_append_getElem hk, outsM_append]; rfl
    rw [e1]
    exact hO
  · intro e
    rcases hb2 with hb2 | hb2
    · have e2 := hb2.symm.trans e
      exact hbb b' (hvolt b' e2).2 (fun e3 => hv (by rw [e2, e3])) rfl
    · have := Option.some.inj (hb2.symm.trans e)
      omega
  · by_cases hlt : i < vs.length
    · rw [List.getElem_append_left hlt]
      intro e
      have := (hP.2.2 i hlt).2.2 b' e
      exact hbb b' this (fun e3 => hvs i hlt (by rw [e, e3])) rfl
    · have e : i = vs.length := by simp at hi; omega
      subst e
      rw [List.getElem_append_right (Nat.le_refl _)]
      simpa using h5
end Go.Proofs.Ytnpoggcpdelmnaa

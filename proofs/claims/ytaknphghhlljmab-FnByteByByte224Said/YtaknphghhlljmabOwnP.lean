/-
  A slice of slices of the caller's own (as in Scr; for a seat without impl.step).
-/
import Derived.Test.YtaknphghhlljmabApp
import Derived.Test.YtaknphghhlljmabCutB
namespace Go.Proofs.Ytaknphghhlljmab
open Go.RowKit
set_option linter.unusedVariables false

/-- a slice of slices of the caller's own: its row, and what lies behind each -/
def OwnP (w : World) (base : Nat) (v : Value) (vs : List Value) (Ls : List (List Int)) : Prop :=
  w.ownsRow base 22 1 v vs.length vs ∧ vs.length = Ls.length ∧ ∀ i, (h : i < vs.length) → Bts w vs[i] (Ls.getD i []) ∧ (vs[i].ownBlock = none ∨ vs[i].ownBlock ≠ v.ownBlock) ∧ ∀ k, vs[i].ownBlock = some k → k < w.heap.size

theorem OwnP.keep {w w' : World} {base : Nat} {v : Value} {vs : List Value} {Ls : List (List Int)} {b : Nat} (h : OwnP w base v vs Ls) (hg : w.grownBy w' (some b)) (hv : v.ownBlock ≠ some b) (hvs : ∀ i, (h : i < vs.length) → vs[i].ownBlock ≠ some b) : OwnP w' base v vs Ls :=
  ⟨World.ownsRow.kept h.1 hg (Or.inr hv), h.2.1, fun i hi => ⟨(h.2.2 i hi).1.grown hg (Or.inl (hvs i hi)), (h.2.2 i hi).2.1, fun k e => Nat.lt_of_lt_of_le ((h.2.2 i hi).2.2 k e) hg.size⟩⟩

theorem info27 : (Try.prog.info? 22).map (fun i => (i.zero, i.size, i.bytes)) = some (some (.slice none 0 0), 1, 24) := by kernel_rfl

theorem append_one (w : World) (base : Nat) (v x : Value) (vs : List Value) (Ls : List (List Int)) (l : List Int) (ty : TypeId) (hv : OwnP w base v vs Ls) (hx : Bts w x l) (hxb : x.ownBlock = none ∨ x.ownBlock ≠ v.ownBlock) (hxs : ∀ k, x.ownBlock = some k → k < w.heap.size) (hbase : base ≤ w.heap.size) (hlen : vs.length + 1 ≤ 5864062014805) :
    ∃ v' w', (Builtin.append_ #[31, 31] ty #[v, .slice (some ⟨w.heap.size, 0, none⟩) 1 1]).run Try.prog (w.alloc (.cells #[x] 22)) = .ok v' w' ∧ OwnP w' base v' (vs ++ [x]) (Ls ++ [l]) ∧ w.grownBy w' v.ownBlock ∧ (v'.ownBlock = v.ownBlock ∨ v'.ownBlock = some (w.heap.size + 1)) := by
  obtain ⟨i0, hi, hz0, hz1, hz2⟩ := info_parts info27
  have hml : maxLen = 9223372036854775807 := rfl
  have gA := World.grownBy_alloc w (.cells #[x] 22) v.ownBlock
  have ho : (w.alloc (.cells #[x] 22)).ownsRow base 22 1 v vs.length vs := World.ownsRow.kept hv.1 (World.grownBy_alloc w (.cells #[x] 22) none) (by cases v.ownBlock <;> simp)
  have hone : x.oneCell' = true := by obtain ⟨a, c, rfl, _⟩ := hx; rfl
  obtain ⟨v', w', hr, ho', hg, _, hb⟩ := run_append_own_at (P := Try.prog) (w.alloc (.cells #[x] 22)) base 31 ty 22 i0 (.slice none 0 0) 1 24 Try.underlying31 hi hz0 hz1 hz2 rfl (by decide) v vs.length vs ho ⟨w.heap.size, 0, none⟩ 1 1 [x] (by simp) (cell_one_new _ _ _) (fun u hu => by simp at hu; subst hu; exact hone) (by rw [hml]; omega) (by omega) (by rw [World.size_alloc]; omega)
  rw [World.size_alloc] at hb
  have hgw := grown_trans gA hg
  refine ⟨v', w', hr, ⟨by simpa using ho', by simp [hv.2.1], fun i hi => ?_⟩, hgw, hb⟩
  have old : ∀ (y : Value) (m : List Int), Bts w y m → (y.ownBlock = none ∨ y.ownBlock ≠ v.ownBlock) → (∀ k, y.ownBlock = some k → k < w.heap.size) → Bts w' y m ∧ (y.ownBlock = none ∨ y.ownBlock ≠ v'.ownBlock) ∧ ∀ k, y.ownBlock = some k → k < w'.heap.size := fun y m h1 h2 h3 => by
    refine ⟨?_, ?_, fun k e => Nat.lt_of_lt_of_le (h3 k e) hgw.size⟩
    · rcases h2 with h2 | h2
      · cases hvo : v.ownBlock with
        | none => rw [hvo] at hgw; exact h1.grown hgw (Or.inr rfl)
        | some j => exact h1.grown hgw (Or.inl (by rw [h2, hvo]; simp))
      · exact h1.grown hgw (Or.inl h2)
    · rcases h2 with h2 | h2
      · exact Or.inl h2
      · rcases hb with hb | hb
        · exact Or.inr (by rw [hb]; exact h2)
        · refine Or.inr (fun e => ?_)
          have := h3 _ (e.trans hb)
          omega
  by_cases hlt : i < vs.length
  · rw [List.getElem_append_left hlt]
    have := old _ _ (hv.2.2 i hlt).1 (hv.2.2 i hlt).2.1 (hv.2.2 i hlt).2.2
    have e2 : (Ls ++ [l]).getD i [] = Ls.getD i [] := by rw [List.getD, List.getD, List.getElem?_append_left (by rw [← hv.2.1]; exact hlt)]
    rw [e2]
    exact this
  · have e : i = vs.length := by simp at hi; omega
    subst e
    rw [List.getElem_append_right (Nat.le_refl _)]
    have : (Ls ++ [l]).getD vs.length [] = l := by rw [hv.2.1]; simp
    rw [this]
    simpa using old x l hx hxb hxs


theorem OwnP.pts {w : World} {base : Nat} {v : Value} {vs : List Value} {Ls : List (List Int)} (h : OwnP w base v vs Ls) : ∃ ad cap, v = .slice ad Ls.length cap ∧ Pts w ad Ls := by
  obtain ⟨h1, h2, h3⟩ := h
  rcases h1.2 with ⟨rfl, h4⟩ | ⟨g, cap, cur, rfl, hb, hh, hnn, hm, hs, ht⟩
  · exact ⟨none, 0, by rw [← h2, h4], fun i hi => by omega⟩
  · refine ⟨some ⟨g, 0, none⟩, cap, by rw [h2], fun i hi => ?_⟩
    have hi' : i < vs.length := by omega
    refine ⟨g, 0, vs[i], rfl, ?_, (h3 i hi').1⟩
    rw [Nat.zero_add, cell_of_row w g i cur _ _ hh]
    have e2 : vs[i]? = some vs[i] := List.getElem?_eq_getElem hi'
    rw [← e2, ← ht]
    simp [List.getElem?_take_of_lt, hi']

theorem ownP_empty (w : World) (base : Nat) (hb : base ≤ w.heap.size) : OwnP (w.alloc (.cells #[] 22)) base (.slice (some ⟨w.heap.size, 0, none⟩) 0 0) [] [] :=
  ⟨⟨by simp, .inr ⟨w.heap.size, 0, #[], rfl, hb, heap_alloc_new w _, by simp, by decide, by simp, by simp⟩⟩, rfl, fun i hi => absurd hi (by simp)⟩
end Go.Proofs.Ytaknphghhlljmab

/-
  Parts with empty parts between them.
-/
import Derived.Test.YtaknphghhlljmaaApd
import Derived.Test.YtaknphghhlljmaaScr
namespace Go.Proofs.Ytaknphghhlljmaa
open Go.RowKit
set_option linter.unusedVariables false

def moreL (Bs : List (List Int)) : List (List Int) := [] :: Bs.flatMap (fun l => [l, []])
theorem moreL_flatten (Bs : List (List Int)) : (moreL Bs).flatten = Bs.flatten := by
  unfold moreL
  rw [List.flatten_cons, List.nil_append]
  induction Bs with
  | nil => rfl
  | cons x r ih => simp only [List.flatMap_cons, List.flatten_append, List.flatten_cons, ih]; simp
theorem moreL_length (Bs : List (List Int)) : (moreL Bs).length = 1 + 2 * Bs.length := by
  unfold moreL
  rw [List.length_cons]
  have : (Bs.flatMap (fun l => [l, []])).length = 2 * Bs.length := by
    induction Bs with
    | nil => rfl
    | cons x r ih => simp only [List.flatMap_cons, List.length_append, ih, List.length_cons, List.length_nil]; omega
  omega
theorem moreL_succ (Bs : List (List Int)) (k : Nat) (hk : k < Bs.length) : moreL (Bs.take (k + 1)) = moreL (Bs.take k) ++ [Bs.getD k [], []] := by
  unfold moreL
  have e : Bs.getD k [] = Bs[k] := by simp [hk]
  rw [List.take_succ_eq_append_getElem hk, List.flatMap_append, e]
  rfl

/-- the parts that are made, behind some of those that came in -/
def More (w wr : World) (vo : Value) (vs : List Value) (Bs : List (List Int)) : Prop :=
  wr.ownsRow w.heap.size 27 1 vo vs.length vs ∧ vs.length = (moreL Bs).length ∧ (∀ i, (h : i < vs.length) → Bts w vs[i] ((moreL Bs).getD i [])) ∧ Bel w wr

theorem bts_empty (w : World) (a : Option Addr) (c : Nat) (hc : c ≤ 9223372036854775807) : Bts w (.slice a 0 c) [] := ⟨a, c, rfl, by simp, hc, fun h => by simp at h⟩

theorem more_start (w : World) : More w (w.alloc (.cells #[.slice none 0 0] 27)) (.slice (some ⟨w.heap.size, 0, none⟩) 1 1) [.slice none 0 0] [] :=
  ⟨⟨by simp, .inr ⟨w.heap.size, 1, #[.slice none 0 0], rfl, Nat.le_refl _, heap_alloc_new w _, by simp, by decide, by simp, by simp⟩⟩, rfl, fun i hi => by
    have e : i = 0 := by simp at hi; omega
    subst e
    exact bts_empty w _ _ (by omega), Bel.alloc (Below.refl _ _) _⟩

theorem more_next {w wr : World} {vo v : Value} {vs : List Value} {Bs : List (List Int)} {k : Nat} (ty : TypeId) (h : More w wr vo vs (Bs.take k)) (hk : k < Bs.length) (hv : Bts w v (Bs.getD k [])) (hz : Bs.length ≤ 1048576) :
    ∃ v' w', (Builtin.append_ #[28, 28] ty #[vo, .slice (some ⟨wr.heap.size + 1, 0, none⟩) 2 2]).run Try.prog ((wr.alloc (.cells #[] 5)).alloc (.cells #[v, .slice (some ⟨wr.heap.size, 0, none⟩) 0 0] 27)) = .ok v' w' ∧ More w w' v' (vs ++ [v, .slice (some ⟨wr.heap.size, 0, none⟩) 0 0]) (Bs.take (k + 1)) := by
  obtain ⟨h1, h2, h3, h4⟩ := h
  have hlen := moreL_length (Bs.take k)
  rw [List.length_take] at hlen
  have hbA : Bel wr (wr.alloc (.cells #[] 5)) := Bel.alloc (Below.refl _ _) _
  have hone : v.oneCell' = true := by obtain ⟨a, c, rfl, _⟩ := hv; rfl
  obtain ⟨v', w', hr, ho, hg, hb⟩ := append_lit (t := 28) Try.underlying28 info27 rfl (by decide) (wr.alloc (.cells #[] 5)) w.heap.size vo vs.length 2 vs [v, .slice (some ⟨wr.heap.size, 0, none⟩) 0 0] ty (ownsRow_bel h1 hbA) rfl (fun u hu => by
    simp at hu
    rcases hu with rfl | rfl
    · exact hone
    · rfl) (Nat.le_trans h4.size hbA.size) (by omega) (by omega)
  rw [World.size_alloc] at hr
  have hl : (vs ++ [v, Value.slice (some ⟨wr.heap.size, 0, none⟩) 0 0]).length = vs.length + 2 := by simp
  refine ⟨v', w', hr, by rw [hl]; exact ho, ?_, fun i hi => ?_, (h4.trans' hbA).grown hg (fun k e => (World.ownsRow.lt h1 k e).1)⟩
  · rw [hl, moreL_succ Bs k hk, List.length_append, h2]; rfl
  · rw [moreL_succ Bs k hk]
    by_cases hlt : i < vs.length
    · rw [List.getElem_append_left hlt, List.getD, List.getElem?_append_left (by omega)]
      exact h3 i hlt
    · rw [List.getElem_append_right (by omega), List.getD, List.getElem?_append_right (by omega)]
      have e : i = vs.length ∨ i = vs.length + 1 := by omega
      rcases e with rfl | rfl
      · simpa [h2] using hv
      · have e1 : vs.length + 1 - (moreL (Bs.take k)).length = 1 := by omega
        have e2 : vs.length + 1 - vs.length = 1 := by omega
        simp only [e1, e2]
        exact bts_empty w _ _ (by omega)

theorem More.pts {w wr : World} {vo : Value} {vs : List Value} {Bs : List (List Int)} (h : More w wr vo vs Bs) : ∃ a c, vo = .slice a (moreL Bs).length c ∧ Pts wr a (moreL Bs) := by
  obtain ⟨h1, h2, h3, h4⟩ := h
  obtain ⟨a, c, e, _, _, hc⟩ := ownsRow_at h1
  refine ⟨a, c, by rw [← h2]; exact e, fun i hi => ?_⟩
  have hi' : i < vs.length := by omega
  obtain ⟨g, rfl, hg⟩ := hc i vs[i] (List.getElem?_eq_getElem hi')
  exact ⟨g, 0, vs[i], rfl, by rw [Nat.zero_add]; exact hg, (h3 i hi').bel h4⟩
end Go.Proofs.Ytaknphghhlljmaa

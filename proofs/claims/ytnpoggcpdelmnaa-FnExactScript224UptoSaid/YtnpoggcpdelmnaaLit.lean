/-
  A script that is written out; a slice of slices that is read.
-/
import Derived.Test.YtnpoggcpdelmnaaScr
namespace Go.Proofs.Ytnpoggcpdelmnaa
open Go.RowKit
set_option linter.unusedVariables false

theorem stps_lit {w : World} {b : Nat} {t : TypeId} {Ss : List (Int × List Int)} {vs : List Value} (hl : vs.length = Ss.length) (hb : w.heap[b]? = some (.cells ((Ss.zip vs).flatMap fun p => [.int .i64 p.1.1, p.2]).toArray t)) (h : ∀ i, (h1 : i < Ss.length) → (h2 : i < vs.length) → Bts w vs[i] Ss[i].2 ∧ Ss[i].2.length ≤ 140737488351232) : Stps w (some ⟨b, 0, none⟩) Ss := fun i hi => by
  have hv : i < vs.length := by omega
  have key : ∀ (l : List ((Int × List Int) × Value)) (j : Nat) (hj : j < l.length), (l.flatMap fun p => [Value.int .i64 p.1.1, p.2])[j * 2]? = some (.int .i64 l[j].1.1) ∧ (l.flatMap fun p => [Value.int .i64 p.1.1, p.2])[j * 2 + 1]? = some l[j].2 := by
    intro l
    induction l with
    | nil => intro j hj; simp at hj
    | cons x r ih =>
      intro j hj
      cases j with
      | zero => simp
      | succ j =>
        have := ih j (by simpa using hj)
        simp only [List.flatMap_cons, List.getElem_cons_succ]
        rw [show (j + 1) * 2 = j * 2 + 2 by omega]
        exact this
  have hk := key (Ss.zip vs) i (by simp; omega)
  refine ⟨b, 0, vs[i], rfl, ?_, ?_, (h i hi hv).1, (h i hi hv).2⟩
  · rw [cell_of_row w b _ _ _ _ hb, Nat.zero_add]
    simpa using hk.1
  · rw [cell_of_row w b _ _ _ _ hb, Nat.zero_add]
    simpa using hk.2

theorem OwnP.at {w : World} {base : Nat} {v : Value} {vs : List Value} {Ls : List (List Int)} {n : Nat} (h : OwnP w base v vs Ls) (hn : Ls.length = n) (h0 : 0 < n) :
    ∃ g c, v = .slice (some ⟨g, 0, none⟩) n c ∧ n ≤ c ∧ ∀ i, i < n → ∃ a cc, w.cell? ⟨g, i, none⟩ = some (.slice a (Ls.getD i []).length cc) ∧ Bts w (.slice a (Ls.getD i []).length cc) (Ls.getD i []) := by
  obtain ⟨h1, h2, h3⟩ := h
  have hvn : vs.length = n := h2.trans hn
  rw [hvn] at h1
  rcases h1.2 with ⟨_, h4⟩ | ⟨g, cap, cur, rfl, hb, hh, hnn, hm, hs, ht⟩
  · omega
  · refine ⟨g, cap, rfl, hnn, fun i hi => ?_⟩
    obtain ⟨a, cc, e, r⟩ := (h3 i (by omega)).1
    refine ⟨a, cc, ?_, ⟨a, cc, rfl, r⟩⟩
    rw [← e, cell_of_row w g i cur _ _ hh]
    have e2 : vs[i]? = some (vs[i]'(by omega)) := List.getElem?_eq_getElem (by omega)
    rw [← e2, ← ht]
    simp [List.getElem?_take_of_lt, hi]

theorem bts_nil (w : World) : Bts w (.slice none 0 0) [] := ⟨none, 0, rfl, by simp, by omega, fun h => by simp at h⟩

end Go.Proofs.Ytnpoggcpdelmnaa

/-
  A slice of steps of the caller's own.
-/
import Derived.Test.YtnpoggcpdelmnaaApd
import Derived.Test.YtnpoggcpdelmnaaLit
import Derived.Test.YtnpoggcpdelmnaaOpenS
namespace Go.Proofs.Ytnpoggcpdelmnaa
open Go.RowKit
set_option linter.unusedVariables false

/-- the cells of steps -/
def stepCells (Ss : List (Int × List Int)) (ds : List Value) : List Value := (Ss.zip ds).flatMap fun p => [.int .i64 p.1.1, p.2]

theorem stepCells_at : ∀ (Ss : List (Int × List Int)) (ds : List Value) (i : Nat) (h1 : i < Ss.length) (h2 : i < ds.length), (stepCells Ss ds)[i * 2]? = some (.int .i64 Ss[i].1) ∧ (stepCells Ss ds)[i * 2 + 1]? = some ds[i]
  | [], _, i, h1, _ => by simp at h1
  | _ :: _, [], i, _, h2 => by simp at h2
  | s :: r, d :: e, 0, _, _ => by simp [stepCells]
  | s :: r, d :: e, i + 1, h1, h2 => by
    have := stepCells_at r e i (by simpa using h1) (by simpa using h2)
    unfold stepCells at this ⊢
    rw [show (i + 1) * 2 = i * 2 + 2 by omega]
    exact this
theorem stepCells_append (Ss : List (Int × List Int)) (ds : List Value) (h : ds.length = Ss.length) (s : Int × List Int) (d : Value) : stepCells (Ss ++ [s]) (ds ++ [d]) = stepCells Ss ds ++ [.int .i64 s.1, d] := by
  unfold stepCells
  rw [List.zip_append h.symm, List.flatMap_append]
  rfl

/-- a slice of steps of the caller's own; the data lay in w0 -/
def OwnS (T : TypeId) (w0 w : World) (base : Nat) (v : Value) (Ss : List (Int × List Int)) (ds : List Value) : Prop :=
  w.ownsRow base T 2 v Ss.length (stepCells Ss ds) ∧ ds.length = Ss.length ∧ ∀ i, (h1 : i < Ss.length) → (h2 : i < ds.length) → Bts w0 ds[i] Ss[i].2 ∧ Ss[i].2.length ≤ 140737488351232

theorem ownS_empty (T : TypeId) (w0 w : World) (base : Nat) (hb : base ≤ w.heap.size) : OwnS T w0 (w.alloc (.cells #[] T)) base (.slice (some ⟨w.heap.size, 0, none⟩) 0 0) [] [] :=
  ⟨⟨by simp [stepCells], .inr ⟨w.heap.size, 0, #[], rfl, hb, heap_alloc_new w _, by simp, by decide, by simp, by simp [stepCells]⟩⟩, rfl, fun i hi => absurd hi (by simp)⟩

theorem OwnS.at {T : TypeId} {w0 w : World} {base : Nat} {v : Value} {Ss : List (Int × List Int)} {ds : List Value} (h : OwnS T w0 w base v Ss ds) (hb : Bel w0 w) : ∃ ad cap, v = .slice ad Ss.length cap ∧ Ss.length ≤ cap ∧ cap ≤ 9223372036854775807 ∧ Stps w ad Ss := by
  obtain ⟨h1, h2, h3⟩ := h
  obtain ⟨a, c, e, k1, k2, hc⟩ := ownsRow_at h1
  refine ⟨a, c, e, k1, k2, fun i hi => ?_⟩
  have hi' : i < ds.length := by omega
  have hs := stepCells_at Ss ds i hi hi'
  obtain ⟨g, rfl, c1⟩ := hc _ _ hs.1
  obtain ⟨g', e', c2⟩ := hc _ _ hs.2
  have e2 : g = g' := by simpa using e'
  subst e2
  exact ⟨g, 0, ds[i], rfl, by rw [Nat.zero_add]; exact c1, by rw [Nat.zero_add]; exact c2, (h3 i hi hi').1.bel hb, (h3 i hi hi').2⟩

theorem ownS_append {T TS : TypeId} {z : Value} (ht : Try.prog.underlying TS = some (.slice T)) (hinfo : (Try.prog.info? T).map (fun i => (i.zero, i.size, i.bytes)) = some (some z, 2, 32)) (hzs : z.cells.size = 2) {w0 w : World} {base : Nat} {v : Value} {Ss : List (Int × List Int)} {ds : List Value} (ty : TypeId)
    (h : OwnS T w0 w base v Ss ds) (s : Int × List Int) (d : Value) (hd : Bts w0 d s.2) (hz : s.2.length ≤ 140737488351232) (hbase : base ≤ w.heap.size) (hn : Ss.length + 1 ≤ 4398046511104) :
    ∃ v' w', (Builtin.append_ #[TS, TS] ty #[v, .slice (some ⟨w.heap.size, 0, none⟩) 1 1]).run Try.prog (w.alloc (.cells #[.int .i64 s.1, d] T)) = .ok v' w' ∧ OwnS T w0 w' base v' (Ss ++ [s]) (ds ++ [d]) ∧ w.grownBy w' v.ownBlock ∧ (v'.ownBlock = v.ownBlock ∨ v'.ownBlock = some (w.heap.size + 1)) := by
  obtain ⟨h1, h2, h3⟩ := h
  have hone : d.oneCell' = true := by obtain ⟨a, c, rfl, _⟩ := hd; rfl
  obtain ⟨v', w', hr, ho, hg, hb⟩ := append_lit ht hinfo hzs (by decide) w base v Ss.length 1 (stepCells Ss ds) [.int .i64 s.1, d] ty h1 rfl (fun u hu => by
    simp at hu
    rcases hu with rfl | rfl
    · rfl
    · exact hone) hbase (by omega) (by omega)
  refine ⟨v', w', hr, ⟨?_, by simp [h2], fun i i1 i2 => ?_⟩, hg, hb⟩
  · rw [stepCells_append Ss ds h2]
    simpa using ho
  · by_cases hlt : i < Ss.length
    · have hlt2 : i < ds.length := by omega
      simp only [List.getElem_append_left hlt, List.getElem_append_left hlt2]
      exact h3 i hlt hlt2
    · have e : i = Ss.length := by simp at i1; omega
      subst e
      simp only [List.getElem_append_right (Nat.le_refl _)]
      rw [List.getElem_append_right (by omega)]
      simpa [h2] using ⟨hd, hz⟩
end Go.Proofs.Ytnpoggcpdelmnaa

/-
  Parts of a slice of bytes.
-/
import Derived.Test.YtnpoggcpdelmnaaOpen
import Derived.Deep.RegionLaw
import Derived.Deep.RegionHeld3
namespace Go.Proofs.Ytnpoggcpdelmnaa
open Go.RowKit
set_option linter.unusedVariables false

/-- a slice that is not empty: where it lies -/
theorem Bts.at {w : World} {v : Value} {l : List Int} {n : Nat} (h : Bts w v l) (hn : l.length = n) (h0 : 0 < n) :
    ∃ pb po c, v = .slice (some ⟨pb, po, none⟩) n c ∧ n ≤ c ∧ c ≤ 9223372036854775807 ∧ Reads w pb po n (fun i => l.getD i 0) := by
  obtain ⟨a, c, rfl, h1, h2, h3⟩ := h
  subst hn
  obtain ⟨pb, po, rfl, hr⟩ := h3 h0
  exact ⟨pb, po, c, rfl, h1, h2, hr⟩

theorem Reads.bts {w : World} {pb po n c k o : Nat} {l m : List Int} (h : Reads w pb po n (fun i => l.getD i 0)) (hk : m.length = k) (ho : o + k ≤ n) (hc : k ≤ c) (hm : c ≤ 9223372036854775807) (he : ∀ i, i < k → m.getD i 0 = l.getD (o + i) 0) :
    Bts w (.slice (some ⟨pb, po + o, none⟩) k c) m := by
  subst hk
  refine ⟨_, _, rfl, hc, hm, fun _ => ⟨pb, po + o, rfl, fun i hi => ?_⟩⟩
  have := h (o + i) (by omega)
  rw [Nat.add_assoc, this]
  exact congrArg (fun z => some (Value.int .u8 z)) (he i hi).symm

theorem Bel.same {w w' : World} (h1 : w'.os = w.os) (h2 : w'.tape = w.tape) (h3 : w'.output = w.output) (h4 : w'.heap = w.heap) : Bel w w' :=
  ⟨h1, h2, h3, by rw [h4]; exact Nat.le_refl _, fun _ _ => by rw [h4]⟩
theorem pts_two {w : World} {b : Nat} {t : TypeId} {v u : Value} {l m : List Int} (h : Bts w v l) (k : Bts w u m) (hb : w.heap[b]? = some (.cells #[v, u] t)) : Pts w (some ⟨b, 0, none⟩) [l, m] := fun i hi => by
  have e : i = 0 ∨ i = 1 := by simp at hi; omega
  rcases e with rfl | rfl
  · exact ⟨b, 0, v, rfl, by simp [World.cell?, hb], h⟩
  · exact ⟨b, 0, u, rfl, by simp [World.cell?, hb], k⟩
end Go.Proofs.Ytnpoggcpdelmnaa

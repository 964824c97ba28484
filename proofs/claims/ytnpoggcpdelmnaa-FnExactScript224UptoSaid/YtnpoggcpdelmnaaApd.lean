/-
  append of values that are written out, to a row of the caller's own.
-/
import Derived.Test.YtnpoggcpdelmnaaApp
import Derived.Test.YtnpoggcpdelmnaaCutB
import Derived.Test.YtnpoggcpdelmnaaOpenP
namespace Go.Proofs.Ytnpoggcpdelmnaa
open Go.RowKit
set_option linter.unusedVariables false

theorem belGrown {w w' : World} (h : Bel w w') (r : Option Nat) : w.grownBy w' r := ⟨h.os, h.tape, h.output, h.size, fun k hk _ => h.block k hk⟩

theorem cells_new (w : World) (xs : List Value) (t : TypeId) : ∀ j u, xs[j]? = some u → (w.alloc (.cells xs.toArray t)).cell? ((⟨w.heap.size, 0, none⟩ : Addr).add j) = some u := fun j u hu => by
  rw [Addr.add_mid, Nat.zero_add, cell_of_row _ _ j _ _ _ (heap_alloc_new w _)]
  simpa using hu

theorem append_lit {t e : TypeId} {z : Value} {size bytes : Nat} (ht : Try.prog.underlying t = some (.slice e)) (hinfo : (Try.prog.info? e).map (fun i => (i.zero, i.size, i.bytes)) = some (some z, size, bytes)) (hzs : z.cells.size = size) (hsz : 0 < size)
    (w : World) (base : Nat) (v : Value) (n m : Nat) (xs news : List Value) (ty : TypeId) (hv : w.ownsRow base e size v n xs) (hl : news.length = m * size) (h1 : ∀ u ∈ news, u.oneCell' = true) (hbase : base ≤ w.heap.size) (hby : (n + m) * bytes ≤ 140737488355328) (hn : n + m ≤ 9223372036854775807) :
    ∃ v' w', (Builtin.append_ #[t, t] ty #[v, .slice (some ⟨w.heap.size, 0, none⟩) m m]).run Try.prog (w.alloc (.cells news.toArray e)) = .ok v' w' ∧ w'.ownsRow base e size v' (n + m) (xs ++ news) ∧ w.grownBy w' v.ownBlock ∧ (v'.ownBlock = v.ownBlock ∨ v'.ownBlock = some (w.heap.size + 1)) := by
  obtain ⟨i0, hi, hz0, hz1, hz2⟩ := info_parts hinfo
  have hml : maxLen = 9223372036854775807 := rfl
  have gA := World.grownBy_alloc w (.cells news.toArray e) v.ownBlock
  have ho : (w.alloc (.cells news.toArray e)).ownsRow base e size v n xs := World.ownsRow.kept hv (World.grownBy_alloc w (.cells news.toArray e) none) (by cases v.ownBlock <;> simp)
  obtain ⟨v', w', hr, ho', hg, _, hb⟩ := run_append_own_at (P := Try.prog) (w.alloc (.cells news.toArray e)) base t ty e i0 z size bytes ht hi hz0 hz1 hz2 hzs hsz v n xs ho ⟨w.heap.size, 0, none⟩ m m news hl (cells_new _ _ _) h1 (by rw [hml]; omega) hby (by rw [World.size_alloc]; omega)
  rw [World.size_alloc] at hb
  exact ⟨v', w', hr, ho', grown_trans gA hg, hb⟩

/-- a row of the caller's own is written out as a slice -/
theorem ownsRow_at {w : World} {base : Nat} {e : TypeId} {size n : Nat} {v : Value} {xs : List Value} (h : w.ownsRow base e size v n xs) :
    ∃ a c, v = .slice a n c ∧ n ≤ c ∧ c ≤ 9223372036854775807 ∧ ∀ j u, xs[j]? = some u → ∃ g, a = some ⟨g, 0, none⟩ ∧ w.cell? ⟨g, j, none⟩ = some u := by
  obtain ⟨hlen, h2⟩ := h
  rcases h2 with ⟨rfl, rfl⟩ | ⟨g, cap, cur, rfl, hb, hh, hn, hm, hs, ht⟩
  · refine ⟨none, 0, rfl, by omega, by omega, fun j u hu => ?_⟩
    rw [Nat.zero_mul] at hlen
    rw [List.length_eq_zero_iff.1 hlen] at hu
    simp at hu
  · refine ⟨_, cap, rfl, hn, hm, fun j u hu => ⟨g, rfl, ?_⟩⟩
    have hj : j < n * size := by
      rcases Nat.lt_or_ge j (n * size) with h | h
      · exact h
      · rw [List.getElem?_eq_none (by omega)] at hu; cases hu
    rw [cell_of_row w g j cur _ _ hh, ← hu, ← ht, List.getElem?_take_of_lt hj]
    simp

/-- two values do not lie in one block -/
def Apart (u v : Value) : Prop := ∀ k, u.ownBlock = some k → v.ownBlock ≠ some k
/-- a value's block is there -/
def Old (w : World) (v : Value) : Prop := ∀ k, v.ownBlock = some k → k < w.heap.size
theorem Apart.symm {u v : Value} (h : Apart u v) : Apart v u := fun k e e2 => h k e2 e
theorem Old.grown {w w' : World} {v : Value} {r : Option Nat} (h : Old w v) (hg : w.grownBy w' r) : Old w' v := fun k e => Nat.lt_of_lt_of_le (h k e) hg.size
theorem Old.bel {w w' : World} {v : Value} (h : Old w v) (hg : Bel w w') : Old w' v := fun k e => Nat.lt_of_lt_of_le (h k e) hg.size
theorem Apart.new {w : World} {u v v' : Value} (h : Apart u v) (ho : Old w u) (hb : v'.ownBlock = v.ownBlock ∨ v'.ownBlock = some (w.heap.size + 1)) : Apart u v' := fun k e e2 => by
  rcases hb with hb | hb
  · exact h k e (hb.symm.trans e2)
  · have := ho k e
    have := Option.some.inj (hb.symm.trans e2)
    omega
theorem Bts.apart {w w' : World} {u v : Value} {l : List Int} (h : Bts w u l) (ha : Apart u v) (hg : w.grownBy w' v.ownBlock) : Bts w' u l := by
  cases hv : v.ownBlock with
  | none => rw [hv] at hg; exact h.grown hg (Or.inr rfl)
  | some k => rw [hv] at hg; exact h.grown hg (Or.inl (fun e => ha k e hv))
theorem ownsRow_apart {w w' : World} {base : Nat} {e : TypeId} {size n : Nat} {u v : Value} {xs : List Value} (h : w.ownsRow base e size u n xs) (ha : Apart u v) (hg : w.grownBy w' v.ownBlock) : w'.ownsRow base e size u n xs := by
  refine World.ownsRow.kept h hg ?_
  cases hu : u.ownBlock with
  | none => exact Or.inl rfl
  | some k => exact Or.inr (fun e => ha k hu e.symm)
theorem ownsRow_bel {w w' : World} {base : Nat} {e : TypeId} {size n : Nat} {u : Value} {xs : List Value} (h : w.ownsRow base e size u n xs) (hb : Bel w w') : w'.ownsRow base e size u n xs :=
  World.ownsRow.kept h (belGrown hb none) (by cases u.ownBlock <;> simp)
theorem ownsRow_old {w : World} {base : Nat} {e : TypeId} {size n : Nat} {u : Value} {xs : List Value} (h : w.ownsRow base e size u n xs) : Old w u := fun k e => (World.ownsRow.lt h k e).2

theorem Pts.bel {w w' : World} {ad : Option Addr} {Ls : List (List Int)} (h : Pts w ad Ls) (hb : Bel w w') : Pts w' ad Ls := fun i hi => by
  obtain ⟨pb, po, v, e, hc, hv⟩ := h i hi
  exact ⟨pb, po, v, e, by rw [bel_cell hb (World.block_lt_of_cell? w _ hc)]; exact hc, hv.bel hb⟩
end Go.Proofs.Ytnpoggcpdelmnaa

/-
  What spec.Given gathers: slices of bytes, marks, and the bytes so far.
-/
import Derived.Test.YtnpoggcpdelmnaaOwnS
import Derived.Test.YtnpoggcpdelmnaaJoin
namespace Go.Proofs.Ytnpoggcpdelmnaa
open Go.RowKit
set_option linter.unusedVariables false

/-- what the hash was given, for each sum -/
def givM : List (Int × List Int) → List Int → List (List Int)
  | [], _ => []
  | (k, D) :: r, M => (if k = 1 then M else []) :: givM r (nextM k D M)
theorem givM_append (a b : List (Int × List Int)) (M : List Int) : givM (a ++ b) M = givM a M ++ givM b (stM a M) := by
  induction a generalizing M with
  | nil => rfl
  | cons x r ih => exact congrArg (List.cons _) (ih _)
theorem givM_length (a : List (Int × List Int)) (M : List Int) : (givM a M).length = a.length := by
  induction a generalizing M with
  | nil => rfl
  | cons x r ih => show (_ :: _).length = _; simp [ih]
theorem givM_at : ∀ (a : List (Int × List Int)) (M : List Int) (i : Nat) (h : i < a.length), (givM a M).getD i [] = if a[i].1 = 1 then stM (a.take i) M else []
  | [], _, i, h => by simp at h
  | (k, D) :: r, M, 0, _ => rfl
  | (k, D) :: r, M, i + 1, h => givM_at r (nextM k D M) i (by simpa using h)
theorem outsM_at (K : Nat → Int) (is : Bool) : ∀ (a : List (Int × List Int)) (M : List Int) (i : Nat) (h : i < a.length), (outsM K is a M).getD i [] = gotM K is a[i].1 a[i].2 (stM (a.take i) M)
  | [], _, i, h => by simp at h
  | (k, D) :: r, M, 0, _ => rfl
  | (k, D) :: r, M, i + 1, h => outsM_at K is r (nextM k D M) i (by simpa using h)
theorem stM_le : ∀ (a : List (Int × List Int)) (M : List Int), (stM a M).length ≤ M.length + (a.map fun s => s.2.length).sum
  | [], M => by simp [stM]
  | (k, D) :: r, M => by
    have := stM_le r (nextM k D M)
    have h2 : (nextM k D M).length ≤ M.length + D.length := by
      unfold nextM
      split
      · simp
      · split
        · simp
        · omega
    simp only [stM, List.map_cons, List.sum_cons]
    omega
theorem sum_take_le (a : List (Int × List Int)) (i : Nat) : ((a.take i).map fun s => s.2.length).sum ≤ (a.map fun s => s.2.length).sum := by
  conv => rhs; rw [← List.take_append_drop i a, List.map_append, List.sum_append]
  omega

/-- a slice of marks of the caller's own -/
def OwnM (w : World) (base : Nat) (v : Value) (bs : List Bool) : Prop := w.ownsRow base 4 1 v bs.length (bs.map Value.bool)
theorem infoB : (Try.prog.info? 4).map (fun i => (i.zero, i.size, i.bytes)) = some (some (.bool false), 1, 1) := by kernel_rfl

/-- the state of Given -/
structure Giv (w wr : World) (vo : Value) (vs : List Value) (Ls : List (List Int)) (vb : Value) (bs : List Bool) (st : Value) (M : List Int) : Prop where
  bel : Bel w wr
  own : OwnP wr w.heap.size vo vs Ls
  mks : OwnM wr w.heap.size vb bs
  cur : Bts wr st M
  old : Old wr st
  so : Apart st vo
  sb : Apart st vb
  ob : Apart vo vb
  eb : ∀ i, (h : i < vs.length) → Apart vs[i] vb

theorem OwnP.bel' {w w' : World} {base : Nat} {v : Value} {vs : List Value} {Ls : List (List Int)} (h : OwnP w base v vs Ls) (hb : Bel w w') : OwnP w' base v vs Ls :=
  ⟨ownsRow_bel h.1 hb, h.2.1, fun i hi => ⟨(h.2.2 i hi).1.bel hb, (h.2.2 i hi).2.1, fun k e => Nat.lt_of_lt_of_le ((h.2.2 i hi).2.2 k e) hb.size⟩⟩
theorem OwnP.apart' {w w' : World} {base : Nat} {v u : Value} {vs : List Value} {Ls : List (List Int)} (h : OwnP w base v vs Ls) (hg : w.grownBy w' u.ownBlock) (ha : Apart v u) (he : ∀ i, (h : i < vs.length) → Apart vs[i] u) : OwnP w' base v vs Ls :=
  ⟨ownsRow_apart h.1 ha hg, h.2.1, fun i hi => ⟨(h.2.2 i hi).1.apart (he i hi) hg, (h.2.2 i hi).2.1, fun k e => Nat.lt_of_lt_of_le ((h.2.2 i hi).2.2 k e) hg.size⟩⟩

theorem Giv.go {w wr w' : World} {vo vb st : Value} {vs : List Value} {Ls : List (List Int)} {bs : List Bool} {M : List Int} (h : Giv w wr vo vs Ls vb bs st M) (hb : Bel wr w') : Giv w w' vo vs Ls vb bs st M :=
  ⟨h.bel.trans' hb, h.own.bel' hb, ownsRow_bel h.mks hb, h.cur.bel hb, h.old.bel hb, h.so, h.sb, h.ob, h.eb⟩
theorem Giv.state {w wr : World} {vo vb st st' : Value} {vs : List Value} {Ls : List (List Int)} {bs : List Bool} {M M' : List Int} (h : Giv w wr vo vs Ls vb bs st M) (h1 : Bts wr st' M') (h2 : Old wr st') (h3 : Apart st' vo) (h4 : Apart st' vb) : Giv w wr vo vs Ls vb bs st' M' :=
  ⟨h.bel, h.own, h.mks, h1, h2, h3, h4, h.ob, h.eb⟩
theorem apart_new {w : World} {B : Nat} {u v : Value} (hu : ∀ k, u.ownBlock = some k → B ≤ k) (hv : Old w v) (hB : w.heap.size ≤ B) : Apart u v := fun k e e2 => by
  have := hu k e
  have := hv k e2
  omega
theorem apart_none {a v : Value} (h : a.ownBlock = none) : Apart a v := fun k e => by rw [h] at e; cases e

/-- append of a slice to the slices -/
theorem Giv.out {w wr : World} {vo vb st x : Value} {vs : List Value} {Ls : List (List Int)} {bs : List Bool} {M l : List Int} (ty : TypeId) (h : Giv w wr vo vs Ls vb bs st M) (hx : Bts wr x l) (ho : Old wr x) (h1 : Apart x vo) (h2 : Apart x vb) (hn : Ls.length + 1 ≤ 1048577) :
    ∃ v' w', (Builtin.append_ #[23, 23] ty #[vo, .slice (some ⟨wr.heap.size, 0, none⟩) 1 1]).run Try.prog (wr.alloc (.cells #[x] 30)) = .ok v' w' ∧ Giv w w' v' (vs ++ [x]) (Ls ++ [l]) vb bs st M ∧ wr.grownBy w' vo.ownBlock := by
  obtain ⟨v', w', hr, hO, hg, hb⟩ := append_one wr w.heap.size vo x vs Ls l ty h.own hx (by
    cases e : x.ownBlock with
    | none => exact Or.inl rfl
    | some k => exact Or.inr (fun e2 => h1 k e e2.symm)) ho h.bel.size (by have := h.own.2.1; omega)
  refine ⟨v', w', hr, ⟨h.bel.grown hg (fun k e => (World.ownsRow.lt h.own.1 k e).1), hO, ownsRow_apart h.mks h.ob.symm hg, h.cur.apart h.so hg, h.old.grown hg, h.so.new h.old hb, h.sb, (h.ob.symm.new (ownsRow_old h.mks) hb).symm, fun i hi => ?_⟩, hg⟩
  by_cases hlt : i < vs.length
  · rw [List.getElem_append_left hlt]; exact h.eb i hlt
  · have e : i = vs.length := by simp at hi; omega
    subst e
    rw [List.getElem_append_right (Nat.le_refl _)]
    simpa using h2

/-- append of a mark to the marks -/
theorem Giv.mark {w wr : World} {vo vb st : Value} {vs : List Value} {Ls : List (List Int)} {bs : List Bool} {M : List Int} (ty : TypeId) (h : Giv w wr vo vs Ls vb bs st M) (b : Bool) (hn : bs.length + 1 ≤ 1048577) :
    ∃ v' w', (Builtin.append_ #[24, 24] ty #[vb, .slice (some ⟨wr.heap.size, 0, none⟩) 1 1]).run Try.prog (wr.alloc (.cells #[.bool b] 4)) = .ok v' w' ∧ Giv w w' vo vs Ls v' (bs ++ [b]) st M := by
  obtain ⟨v', w', hr, hO, hg, hb⟩ := append_lit (t := 24) Try.underlying24 infoB rfl (by decide) wr w.heap.size vb bs.length 1 (bs.map Value.bool) [.bool b] ty h.mks rfl (fun u hu => by simp at hu; subst hu; rfl) h.bel.size (by omega) (by omega)
  refine ⟨v', w', hr, h.bel.grown hg (fun k e => (World.ownsRow.lt h.mks k e).1), h.own.apart' hg h.ob h.eb, ?_, h.cur.apart h.sb hg, h.old.grown hg, h.so, h.sb.new h.old hb, h.ob.new (ownsRow_old h.own.1) hb, fun i hi => (h.eb i hi).new (h.own.2.2 i hi).2.2 hb⟩
  unfold OwnM
  rw [List.length_append, List.map_append]
  exact hO

theorem giv_start (w : World) : Giv w (((w.alloc (.cells #[] 30)).alloc (.cells #[] 4)).alloc (.cells #[] 5)) (.slice (some ⟨w.heap.size, 0, none⟩) 0 0) [] [] (.slice (some ⟨w.heap.size + 1, 0, none⟩) 0 0) [] (.slice (some ⟨w.heap.size + 1 + 1, 0, none⟩) 0 0) [] := by
  have b1 : Bel w (w.alloc (.cells #[] 30)) := Bel.alloc (Below.refl _ _) _
  have b2 : Bel (w.alloc (.cells #[] 30)) ((w.alloc (.cells #[] 30)).alloc (.cells #[] 4)) := Bel.alloc (Below.refl _ _) _
  have b3 : Bel ((w.alloc (.cells #[] 30)).alloc (.cells #[] 4)) (((w.alloc (.cells #[] 30)).alloc (.cells #[] 4)).alloc (.cells #[] 5)) := Bel.alloc (Below.refl _ _) _
  have s1 : (w.alloc (.cells #[] 30)).heap.size = w.heap.size + 1 := World.size_alloc _ _
  have s2 : ((w.alloc (.cells #[] 30)).alloc (.cells #[] 4)).heap.size = w.heap.size + 1 + 1 := by rw [World.size_alloc, s1]
  have s3 : (((w.alloc (.cells #[] 30)).alloc (.cells #[] 4)).alloc (.cells #[] 5)).heap.size = w.heap.size + 1 + 1 + 1 := by rw [World.size_alloc, s2]
  have o1 : OwnP (w.alloc (.cells #[] 30)) w.heap.size (.slice (some ⟨w.heap.size, 0, none⟩) 0 0) [] [] := ⟨⟨by simp, .inr ⟨w.heap.size, 0, #[], rfl, Nat.le_refl _, heap_alloc_new w _, by simp, by decide, by simp, by simp⟩⟩, rfl, fun i hi => absurd hi (by simp)⟩
  have o2 : OwnM ((w.alloc (.cells #[] 30)).alloc (.cells #[] 4)) w.heap.size (.slice (some ⟨w.heap.size + 1, 0, none⟩) 0 0) [] := ⟨by simp, .inr ⟨w.heap.size + 1, 0, #[], rfl, by omega, by rw [← s1]; exact heap_alloc_new _ _, by simp, by decide, by simp, by simp⟩⟩
  refine ⟨(b1.trans' b2).trans' b3, (o1.bel' b2).bel' b3, ownsRow_bel o2 b3, ⟨_, _, rfl, by simp, by omega, fun h => by simp at h⟩, fun k e => ?_, fun k e e2 => ?_, fun k e e2 => ?_, fun k e e2 => ?_, fun i hi => absurd hi (by simp)⟩
  · have := Option.some.inj e
    simp only at this
    omega
  all_goals
    have h1 := Option.some.inj e
    have h2 := Option.some.inj e2
    simp only at h1 h2
    omega
end Go.Proofs.Ytnpoggcpdelmnaa

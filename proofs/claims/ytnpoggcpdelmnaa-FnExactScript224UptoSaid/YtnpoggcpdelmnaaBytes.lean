/-
  Plain facts on bytes, chunks and what a digest has been given.
-/
import Derived.Test.YtnpoggcpdelmnaaNew
import Derived.Laws.CopyOwn
namespace Go.Proofs.Ytnpoggcpdelmnaa
set_option linter.unusedVariables false
open Go.RowKit

/-- the words behind j chunks and then k more -/
theorem absorb_add (K y : Nat → Int) (s : S8) (j k : Nat) : absorb K y s (j + k) = absorb K (fun i => y (64 * j + i)) (absorb K y s j) k := by
  induction k with
  | zero => rfl
  | succ k ih =>
    rw [← Nat.add_assoc, absorb, absorb, ih]
    congr 1
    funext i
    rw [Nat.mul_add, Nat.add_assoc]

theorem rounds_congr {K x x' : Nat → Int} {s : S8} (h : ∀ i, i < 64 → x i = x' i) : ∀ n, n ≤ 64 → rounds K x s n = rounds K x' s n := by
  have hw : ∀ n, n ≤ 64 → wl x n = wl x' n := by
    intro n
    induction n with
    | zero => intro _; rfl
    | succ n ih =>
      intro hn
      rw [wl, wl, ih (by omega)]
      congr 2
      unfold wnext
      split
      · rw [h _ (by omega), h _ (by omega), h _ (by omega), h _ (by omega)]
      · rfl
  intro n
  induction n with
  | zero => intro _; rfl
  | succ n ih =>
    intro hn
    rw [rounds, rounds, ih (by omega)]
    congr 1
    have e := hw n (by omega)
    unfold wd wnext
    rw [e]
    split
    · rw [h _ (by omega), h _ (by omega), h _ (by omega), h _ (by omega)]
    · rfl

theorem compress_congr {K x x' : Nat → Int} {s : S8} (h : ∀ i, i < 64 → x i = x' i) : compress K x s = compress K x' s := by
  unfold compress
  rw [rounds_congr h 64 (Nat.le_refl _)]

theorem absorb_congr {K y y' : Nat → Int} {s : S8} : ∀ n, (∀ i, i < 64 * n → y i = y' i) → absorb K y s n = absorb K y' s n := by
  intro n
  induction n with
  | zero => intro _; rfl
  | succ n ih =>
    intro h
    rw [absorb, absorb, ih (fun i hi => h i (by omega))]
    exact compress_congr fun i hi => h _ (by omega)

/-- what the eight words are when the bytes M have been given -/
def hOf (K : Nat → Int) (is : Bool) (M : List Int) : S8 := absorb K (fun i => M.getD i 0) (initOf is) (M.length / 64)

/-- block b is a digest that has been given the bytes M -/
def DigAt (K : Nat → Int) (w : World) (b : Nat) (is : Bool) (M : List Int) : Prop :=
  ∃ x : List Int, Dig w b (hOf K is M) x ((M.length % 64 : Nat) : Int) ((M.length % 18446744073709551616 : Nat) : Int) is ∧ ∀ i, i < M.length % 64 → x.getD i 0 = M.getD (64 * (M.length / 64) + i) 0

theorem digAt_new {K : Nat → Int} {w w' : World} {is : Bool} (h : NewAt is w w') : DigAt K w' w.heap.size is [] :=
  ⟨zeros, h.1, fun i hi => absurd hi (by simp)⟩

theorem getD_splice (x cs : List Int) (o i : Nat) (h : o + cs.length ≤ x.length) (hi : i < x.length) :
    (splice x o cs).getD i 0 = if i < o then x.getD i 0 else if i < o + cs.length then cs.getD (i - o) 0 else x.getD i 0 := by
  unfold splice
  have ht : (x.take o).length = o := by rw [List.length_take]; omega
  simp only [List.getD_eq_getElem?_getD]
  by_cases h1 : i < o
  · rw [if_pos h1, List.getElem?_append_left (by omega), List.getElem?_take_of_lt h1]
  · rw [if_neg h1, List.getElem?_append_right (by omega), ht]
    by_cases h2 : i < o + cs.length
    · rw [if_pos h2, List.getElem?_append_left (by omega)]
    · rw [if_neg h2, List.getElem?_append_right (by omega), List.getElem?_drop]
      congr 2
      omega

theorem getD_append_left' (M B : List Int) (i : Nat) (h : i < M.length) : (M ++ B).getD i 0 = M.getD i 0 := by
  simp only [List.getD_eq_getElem?_getD, List.getElem?_append_left h]
theorem getD_append_right' (M B : List Int) (i : Nat) (h : M.length ≤ i) : (M ++ B).getD i 0 = B.getD (i - M.length) 0 := by
  simp only [List.getD_eq_getElem?_getD, List.getElem?_append_right h]

/-- CASE 1: too few bytes to fill the buffer -/
theorem digAt_few {K : Nat → Int} {w' : World} {b : Nat} {is : Bool} {M B x : List Int} (hx : x.length = 64) (hlt : M.length % 64 + B.length < 64) (hM : ∀ i, i < M.length % 64 → x.getD i 0 = M.getD (64 * (M.length / 64) + i) 0)
    (d : Dig w' b (hOf K is M) (splice x (M.length % 64) B) (((M.length % 64 + B.length : Nat)) : Int) (((M.length + B.length) % 18446744073709551616 : Nat) : Int) is) : DigAt K w' b is (M ++ B) := by
  have e1 : (M ++ B).length / 64 = M.length / 64 := by rw [List.length_append]; omega
  have e2 : (M ++ B).length % 64 = M.length % 64 + B.length := by rw [List.length_append]; omega
  have eh : hOf K is (M ++ B) = hOf K is M := by
    unfold hOf
    rw [e1]
    exact absorb_congr _ fun i hi => getD_append_left' M B i (by omega)
  refine ⟨splice x (M.length % 64) B, ?_, ?_⟩
  · rw [eh, e2, List.length_append]; exact d
  · intro i hi
    rw [e2] at hi
    rw [e1, getD_splice x B _ i (by omega) (by omega)]
    by_cases h1 : i < M.length % 64
    · rw [if_pos h1, hM i h1, getD_append_left' M B _ (by omega)]
    · rw [if_neg h1, if_pos (by omega), getD_append_right' M B _ (by omega)]
      congr 1
      omega

/-- CASE 2: the buffer is empty: whole chunks, and the rest into the buffer -/
theorem digAt_whole {K : Nat → Int} {w' : World} {b : Nat} {is : Bool} {M B x : List Int} (hx : x.length = 64) (h0 : M.length % 64 = 0)
    (d : Dig w' b (absorb K (fun i => B.getD i 0) (hOf K is M) (B.length / 64)) (splice x 0 (B.drop (64 * (B.length / 64)))) ((B.length % 64 : Nat) : Int) (((M.length + B.length) % 18446744073709551616 : Nat) : Int) is) : DigAt K w' b is (M ++ B) := by
  have e1 : (M ++ B).length / 64 = M.length / 64 + B.length / 64 := by rw [List.length_append]; omega
  have e2 : (M ++ B).length % 64 = B.length % 64 := by rw [List.length_append]; omega
  have eM : M.length = 64 * (M.length / 64) := by omega
  have eh : hOf K is (M ++ B) = absorb K (fun i => B.getD i 0) (hOf K is M) (B.length / 64) := by
    unfold hOf
    rw [e1, absorb_add]
    rw [absorb_congr (y := fun i => (M ++ B).getD i 0) (y' := fun i => M.getD i 0) (M.length / 64) (fun i hi => getD_append_left' M B i (by omega))]
    refine absorb_congr _ fun i hi => ?_
    show (M ++ B).getD (64 * (M.length / 64) + i) 0 = B.getD i 0
    rw [getD_append_right' M B _ (by omega)]
    congr 1
    omega
  refine ⟨splice x 0 (B.drop (64 * (B.length / 64))), ?_, ?_⟩
  · rw [eh, e2, List.length_append]; exact d
  · intro i hi
    rw [e2] at hi
    have hl : (B.drop (64 * (B.length / 64))).length = B.length % 64 := by rw [List.length_drop]; omega
    rw [e1, getD_splice x _ _ i (by omega) (by omega), if_neg (by omega), if_pos (by omega), getD_append_right' M B _ (by omega)]
    simp only [List.getD_eq_getElem?_getD, List.getElem?_drop]
    congr 2
    omega

/-- CASE 3: the buffer is filled up by the first bytes: a digest that has been given those is as case 2 wants it -/
theorem hOf_fill {K : Nat → Int} {is : Bool} {M B x : List Int} (hx : x.length = 64) (hlen : M.length % 64 + B.length = 64) (hpos : 0 < M.length % 64) (hM : ∀ i, i < M.length % 64 → x.getD i 0 = M.getD (64 * (M.length / 64) + i) 0) :
    hOf K is (M ++ B) = absorb K (fun i => (splice x (M.length % 64) B).getD i 0) (hOf K is M) 1 := by
  have e1 : (M ++ B).length / 64 = M.length / 64 + 1 := by rw [List.length_append]; omega
  unfold hOf
  rw [e1, absorb_add]
  rw [absorb_congr (y := fun i => (M ++ B).getD i 0) (y' := fun i => M.getD i 0) (M.length / 64) (fun i hi => getD_append_left' M B i (by omega))]
  refine absorb_congr _ fun i hi => ?_
  show (M ++ B).getD (64 * (M.length / 64) + i) 0 = (splice x (M.length % 64) B).getD i 0
  rw [getD_splice x B _ i (by omega) (by omega)]
  by_cases h1 : i < M.length % 64
  · rw [if_pos h1, hM i h1, getD_append_left' M B _ (by omega)]
  · rw [if_neg h1, if_pos (by omega), getD_append_right' M B _ (by omega)]
    congr 1
    omega

end Go.Proofs.Ytnpoggcpdelmnaa

/-
  A region that draws its order, walked once in a planned order: a step of the plan is either taken (it yields its value in every world and is apart from what is left) or forced (nothing else may come up). General: any program.
-/
import Derived.Orders
import Derived.Tactics
import Derived.StillTailTactics
import Derived.Deep.Quiet
import Derived.Laws.IdiomCopy
namespace Go.Proofs.Ytnpoggcpdelmnaa.Plan
open Go

section
variable {P : Program} {ops : Array Oper} {Q : Exit → Act → World → Prop} {md : Region.Mode}

def planB (md : Region.Mode) (ops : Array Oper) : List (Nat × Bool) → Array Bool → Bool
  | [], listed => (Region.ready md ops listed).isEmpty
  | (i, true) :: r, listed => decide (Region.ready md ops listed = [i]) && planB md ops r (listed.setIfInBounds i true)
  | (i, false) :: r, listed => (Region.ready md ops listed).contains i && Region.free md ops listed i && planB md ops r (listed.setIfInBounds i true)

def wpPlan (P : Program) (ops : Array Oper) (Q : Exit → Act → World → Prop) : List (Nat × Bool) → Act → World → Prop
  | [], a, w => Q .normal a w
  | (i, true) :: r, a, w => wpOp P ops Q i (wpPlan P ops Q r) a w
  | (i, false) :: r, a, w => ∃ o v, ops[i]? = some o ∧ Yields P ops o v a ∧ wpPlan P ops Q r (a.put o.dst v) w

theorem wpAny_of_plan (hs : Region.noSelect ops = true) (hQ : ∀ c a w d v, Q (.panic c) (a.put d v) w → Q (.panic c) a w) :
    ∀ (l : List (Nat × Bool)) (listed : Array Bool) (a : Act) (w : World), planB md ops l listed = true → wpPlan P ops Q l a w → wpAny P md ops Q l.length listed a w
  | [], listed, a, w, hB, h => ⟨by simpa [planB] using hB, h⟩
  | (i, true) :: r, listed, a, w, hB, h => by
    simp only [planB, Bool.and_eq_true, decide_eq_true_eq] at hB
    refine ⟨fun h0 => (by rw [hB.1] at h0; cases h0), fun j hj => ?_⟩
    rw [hB.1] at hj
    obtain rfl : j = i := by simpa using hj
    exact wpOp_mono (fun a' w' h' => wpAny_of_plan hs hQ r _ a' w' hB.2 h') h
  | (i, false) :: r, listed, a, w, hB, h => by
    simp only [planB, Bool.and_eq_true] at hB
    obtain ⟨o, v, ho, hy, hk⟩ := h
    exact wpAny_take ho hs hB.1.2 hB.1.1 (fun c a w h => hQ c a w o.dst v h) hy (wpAny_of_plan hs hQ r _ _ w hB.2 hk)

theorem wp_region_plan {id : Nat} {a : Act} {w : World} {l : List Oper} (plan : List (Nat × Bool)) (hm : P.follows .mixedOrders = true)
    (hB : (Region.noSelect l.toArray && decide (plan.length = l.length) && planB .any l.toArray plan (Array.replicate l.length false)) = true)
    (hQ : ∀ c a w d v, Q (.panic c) (a.put d v) w → Q (.panic c) a w)
    (h : wpPlan P l.toArray Q plan a { w with drawn := w.drawn + 1 }) : (Code.region id l.toArray true).wp P Q a w := by
  simp only [Bool.and_eq_true, decide_eq_true_eq] at hB
  refine wp_region_any hm ?_
  have := wpAny_of_plan (P := P) (Q := Q) (md := .any) hB.1.1 hQ plan _ a _ hB.2 h
  rw [hB.1.2] at this
  simpa using this

theorem plan_nil {a : Act} {w : World} (h : Q .normal a w) : wpPlan P ops Q [] a w := h

theorem plan_take {i : Nat} {r : List (Nat × Bool)} {a : Act} {w : World} {o : Oper} {v : Value} (ho : ops[i]? = some o) (hg : o.guard = none)
    (hy : ∀ w, (execOp a.eval o).run P w = .ok (.value v) w) (h : wpPlan P ops Q r (a.put o.dst v) w) : wpPlan P ops Q ((i, false) :: r) a w :=
  ⟨o, v, ho, .inl ⟨by simp [Region.wanted, hg], hy⟩, h⟩

theorem plan_force {i : Nat} {r : List (Nat × Bool)} {a : Act} {w : World} {o : Oper} (ho : ops[i]? = some o) (hg : o.guard = none)
    (h : ∀ K : Act → World → Prop, (∀ a w, wpPlan P ops Q r a w → K a w) → o.wp P a w K Q) : wpPlan P ops Q ((i, true) :: r) a w := by
  show wpOp P ops Q i (wpPlan P ops Q r) a w
  unfold wpOp
  simp only [ho, Region.wanted, hg, if_true]
  exact .inl (h _ fun _ _ h => h)

/-- A walk of operations that leave one world alone, out of the quiet walk at the class of that one world. -/
theorem still_of_quiet {w : World} {Q : Act → Prop} : ∀ (l : List Oper) (a : Act), wpQuiet P ops (fun w' => w' = w) Q l a → wpStill P ops w Q l a
  | [], _, h => h
  | o :: l, a, h => by
    unfold wpQuiet at h
    unfold wpStill
    split
    · rename_i hw
      rw [if_pos hw] at h
      obtain ⟨v, h1, h2⟩ := h
      have h3 := h1 w rfl
      unfold Oper.quietAt at h3
      unfold Oper.still
      generalize (execOp a.eval o).run P w = r at *
      cases r with
      | ok n w' =>
        cases n <;> simp only [Oper.quietUpon] at h3 <;> simp only [Oper.stillUpon]
        case value u => obtain ⟨rfl, rfl⟩ := h3; exact ⟨rfl, still_of_quiet l _ h2⟩
        case skip => obtain ⟨rfl, rfl⟩ := h3; exact ⟨rfl, still_of_quiet l _ h2⟩
        case enter f args => obtain ⟨rfl, hc⟩ := h3; exact ⟨rfl, v, hc, still_of_quiet l _ h2⟩
      | halt x w' => simp only [Oper.quietUpon] at h3
    · rename_i hw
      rw [if_neg hw] at h
      exact still_of_quiet l _ h

/-- A region that draws its order: its first n operations leave the world alone, the others come up in one forced order. -/
theorem wp_region_quiet_tail {id : Nat} {a : Act} {w : World} {l : List Oper} (n : Nat) (hm : P.follows .mixedOrders = true) (hB : Region.lexTailB .any l.toArray n = true)
    (h : wpQuiet P l.toArray (fun w' => w' = w.drew) (fun a' => wpList P l.toArray Q (l.drop n) a' w.drew) (l.take n) a) : (Code.region id l.toArray true).wp P Q a w :=
  wp_region_still_tail n hm hB (still_of_quiet _ _ h)

/-- a store of one integer -/
theorem run_store_int (w : World) (b o : Nat) (ty : TypeId) (k : IntKind) (n : Int) (hi : (P.info? ty).map (·.size) = some 1) (hc : (w.cell? ⟨b, o, none⟩).isSome = true) (hf : w.frozen? ⟨b, o, none⟩ = false) :
    (Instr.storeAt ty (.pointer (some ⟨b, o, none⟩)) (.int k n)).run P w = .ok () (w.setCell ⟨b, o, none⟩ (.int k n)) := by
  have h := run_storeCells_cells (P := P) b o [.int k n] 0 w (fun j hj => by simp at hj; subst hj; simpa using hc) (fun j hj => by simp at hj; subst hj; simpa using hf) (fun v hv => by simp at hv; subst hv; rfl)
  simp only [Nat.add_zero, World.setCells] at h
  cases hq : P.info? ty with
  | none => simp [hq] at hi
  | some i =>
    have hs : i.size = 1 := by simpa [hq] using hi
    simp [Instr.storeAt, Instr.sureAddr, storeVar, sizeOf, typeInfo, hq, Value.cells, hs, h]

theorem wp_store_int {o : Oper} {a : Act} {w : World} {K : Act → World → Prop} (ty : TypeId) (x y : Operand) (ho : o.op = .store ty x y) (b off : Nat) (k : IntKind) (n : Int)
    (hx : a.eval x = .pointer (some ⟨b, off, none⟩)) (hy : a.eval y = .int k n) (hi : (P.info? ty).map (·.size) = some 1) (hc : (w.cell? ⟨b, off, none⟩).isSome = true) (hf : w.frozen? ⟨b, off, none⟩ = false)
    (h : K (a.put o.dst undef) (w.setCell ⟨b, off, none⟩ (.int k n))) : o.wp P a w K Q := by
  unfold Oper.wp execOp
  simp only [ho, hx, hy, Sem.run_bind, run_store_int w b off ty k n hi hc hf, Result.andThen_ok, Sem.run_pure]
  exact h
end
end Go.Proofs.Ytnpoggcpdelmnaa.Plan

/-
  Frames known by a list of slots; steps of a planned region over such frames. General: any program.
-/
import Derived.Test.YtnpoggcpdelmnaaPlan
namespace Go.Proofs.Ytnpoggcpdelmnaa.Plan
open Go

section
variable {P : Program} {ops : Array Oper} {Q : Exit → Act → World → Prop} {md : Region.Mode}

/-- what is known of a frame: of each slot that the list names (the first time) what it holds -/
structure Fr (N : Nat) (a : Act) (l : List (Nat × Value)) : Prop where
  defers : a.defers = []
  size : a.tmps.size = N
  holds : ∀ t v, l.lookup t = some v → a.tmps[t]? = some v

theorem mem_of_lookup {t : Nat} {v : Value} : ∀ {l : List (Nat × Value)}, l.lookup t = some v → (t, v) ∈ l
  | (d, u) :: l, h => by
    by_cases e : t = d
    · subst e
      simp only [List.lookup, beq_self_eq_true, Option.some.injEq] at h
      subst h
      exact List.mem_cons_self
    · have e' : (t == d) = false := by simpa using e
      simp only [List.lookup, e'] at h
      exact List.mem_cons_of_mem _ (mem_of_lookup h)

theorem Fr.of_all {N : Nat} {a : Act} {l : List (Nat × Value)} (h1 : a.defers = []) (h2 : a.tmps.size = N) (h3 : ∀ p ∈ l, a.tmps[p.1]? = some p.2) : Fr N a l :=
  ⟨h1, h2, fun _ _ h => h3 _ (mem_of_lookup h)⟩

theorem Fr.eval {N : Nat} {a : Act} {l : List (Nat × Value)} (h : Fr N a l) {t : Nat} {v : Value} (hl : l.lookup t = some v) : a.eval (.tmp t) = v := by
  simp [Act.eval, h.holds t v hl]

theorem Fr.put {N : Nat} {a : Act} {l : List (Nat × Value)} (h : Fr N a l) {d : Nat} (hd : d < N) (v : Value) : Fr N (a.put (some d) v) ((d, v) :: l) := by
  refine ⟨h.defers, by simpa [Act.put] using h.size, fun t u hl => ?_⟩
  by_cases e : t = d
  · subst e
    simp only [List.lookup, beq_self_eq_true] at hl
    simp only [Act.put, Array.getElem?_setIfInBounds]
    rw [if_pos trivial, if_pos (by rw [h.size]; exact hd)]
    exact hl
  · have e' : (t == d) = false := by simpa using e
    simp only [List.lookup, e'] at hl
    simp only [Act.put, Array.getElem?_setIfInBounds_ne (Ne.symm e)]
    exact h.holds t u hl

theorem take_move {N i : Nat} {r : List (Nat × Bool)} {w : World} {o : Oper} {l : List (Nat × Value)} (d t : Nat) (v : Value) (ho : ops[i]? = some o) (hg : o.guard = none) (hop : o.op = .move (.tmp t)) (hdst : o.dst = some d) (hd : d < N)
    (hl : l.lookup t = some v) (h : ∀ a, Fr N a ((d, v) :: l) → wpPlan P ops Q r a w) : ∀ a, Fr N a l → wpPlan P ops Q ((i, false) :: r) a w := fun a hF => by
  refine plan_take (v := v) ho hg (fun w => ?_) ?_
  · simp [execOp, hop, hF.eval hl]
  · rw [hdst]; exact h _ (hF.put hd v)

theorem take_nil {N i : Nat} {r : List (Nat × Bool)} {w : World} {o : Oper} {l : List (Nat × Value)} (d t : Nat) (ad : Addr) (ho : ops[i]? = some o) (hg : o.guard = none) (hop : o.op = .nilCheck (.tmp t)) (hdst : o.dst = some d) (hd : d < N)
    (hl : l.lookup t = some (.pointer (some ad))) (h : ∀ a, Fr N a ((d, .pointer (some ad)) :: l) → wpPlan P ops Q r a w) : ∀ a, Fr N a l → wpPlan P ops Q ((i, false) :: r) a w := fun a hF => by
  refine plan_take (v := .pointer (some ad)) ho hg (fun w => ?_) ?_
  · simp [execOp, hop, hF.eval hl]
  · rw [hdst]; exact h _ (hF.put hd _)

theorem take_field {N i : Nat} {r : List (Nat × Bool)} {w : World} {o : Oper} {l : List (Nat × Value)} (d t : Nat) (ty f : Nat) (u v : Value) (ho : ops[i]? = some o) (hg : o.guard = none) (hop : o.op = .fieldAddr ty (.tmp t) f) (hdst : o.dst = some d) (hd : d < N)
    (hl : l.lookup t = some u) (hrun : ∀ w, (Instr.fieldAt ty u f).run P w = .ok v w) (h : ∀ a, Fr N a ((d, v) :: l) → wpPlan P ops Q r a w) : ∀ a, Fr N a l → wpPlan P ops Q ((i, false) :: r) a w := fun a hF => by
  refine plan_take (v := v) ho hg (fun w => ?_) ?_
  · simp [execOp, hop, hF.eval hl, hrun]
  · rw [hdst]; exact h _ (hF.put hd _)

theorem take_index {N i : Nat} {r : List (Nat × Bool)} {w : World} {o : Oper} {l : List (Nat × Value)} (d t : Nat) (ty : Nat) (c u v : Value) (ho : ops[i]? = some o) (hg : o.guard = none) (hop : o.op = .indexAddr ty (.tmp t) (.const c)) (hdst : o.dst = some d) (hd : d < N)
    (hl : l.lookup t = some u) (hrun : ∀ w, (Instr.indexAt ty u c).run P w = .ok v w) (h : ∀ a, Fr N a ((d, v) :: l) → wpPlan P ops Q r a w) : ∀ a, Fr N a l → wpPlan P ops Q ((i, false) :: r) a w := fun a hF => by
  refine plan_take (v := v) ho hg (fun w => ?_) ?_
  · have hc : a.eval (.const c) = c := rfl
    simp [execOp, hop, hF.eval hl, hc, hrun]
  · rw [hdst]; exact h _ (hF.put hd _)

theorem force_store {N i : Nat} {r : List (Nat × Bool)} {w : World} {o : Oper} {l : List (Nat × Value)} (t u : Nat) (ty : TypeId) (b off : Nat) (k : IntKind) (n : Int) (ho : ops[i]? = some o) (hg : o.guard = none)
    (hop : o.op = .store ty (.tmp t) (.tmp u)) (hdst : o.dst = none) (hx : l.lookup t = some (.pointer (some ⟨b, off, none⟩))) (hy : l.lookup u = some (.int k n)) (hi : (P.info? ty).map (·.size) = some 1)
    (hc : (w.cell? ⟨b, off, none⟩).isSome = true) (hf : w.frozen? ⟨b, off, none⟩ = false)
    (h : ∀ a, Fr N a l → wpPlan P ops Q r a (w.setCell ⟨b, off, none⟩ (.int k n))) : ∀ a, Fr N a l → wpPlan P ops Q ((i, true) :: r) a w := fun a hF =>
  plan_force ho hg fun _ hJ => wp_store_int ty (.tmp t) (.tmp u) hop b off k n (hF.eval hx) (hF.eval hy) hi hc hf (hJ _ _ (by rw [hdst]; exact h a hF))
end
end Go.Proofs.Ytnpoggcpdelmnaa.Plan

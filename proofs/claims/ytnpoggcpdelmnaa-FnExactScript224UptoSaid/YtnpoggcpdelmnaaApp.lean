/-
  append of bytes to a slice of the caller's own; the same as a step of a region.
-/
import Derived.Test.YtnpoggcpdelmnaaOpen
import Derived.Maps.AppendAt
import Derived.Deep.AppendSrc
import Derived.Deep.RegionLaw
namespace Go.Proofs.Ytnpoggcpdelmnaa
open Go.RowKit
set_option linter.unusedVariables false

theorem append_bts (w : World) (base : Nat) (v x : Value) (l B : List Int) (ty : TypeId) (hv : OwnB w base v l) (hx : Bts w x B) (hbase : base ≤ w.heap.size) (hlen : l.length + B.length ≤ 140737488355328) :
    ∃ v' w', (Builtin.append_ #[30, 30] ty #[v, x]).run Try.prog w = .ok v' w' ∧ OwnB w' base v' (l ++ B) ∧ w.grownBy w' v.ownBlock ∧ (v'.ownBlock = v.ownBlock ∨ v'.ownBlock = some w.heap.size) := by
  obtain ⟨i0, hi, hz0, hz1, hz2⟩ := info_parts info8
  have hml : maxLen = 9223372036854775807 := rfl
  obtain ⟨ad, cap, rfl, h1, h2, h3⟩ := hx
  cases ad with
  | some ad =>
    have hnews : ∀ j u, (B.map (Value.int .u8))[j]? = some u → w.cell? (ad.add j) = some u := fun j u hu => by
      have hj : j < B.length := by
        rcases Nat.lt_or_ge j B.length with h | h
        · exact h
        · rw [List.getElem?_eq_none (by simpa using h)] at hu; cases hu
      obtain ⟨pb, po, e, hr⟩ := h3 (by omega)
      have e' := Option.some.inj e
      subst e'
      rw [Addr.add_mid, hr j hj, ← hu]
      simp [hj]
    obtain ⟨v', w', hr, ho, hg, _, hb⟩ := run_append_own_at (P := Try.prog) w base 30 ty 5 i0 (.int .u8 0) 1 1 Try.underlying30 hi hz0 hz1 hz2 rfl (by decide) v l.length (l.map (Value.int .u8)) hv ad B.length cap (B.map (Value.int .u8)) (by simp) hnews (ints_oneCell _ _) (by rw [hml]; omega) (by omega) hbase
    refine ⟨v', w', hr, ?_, hg, hb⟩
    unfold OwnB
    rw [List.length_append, List.map_append]
    exact ho
  | none =>
    have hB : B = [] := by
      rcases Nat.eq_zero_or_pos B.length with h | h
      · exact List.length_eq_zero_iff.1 h
      · obtain ⟨_, _, e, _⟩ := h3 h; cases e
    subst hB
    refine ⟨v, w, ?_, by rw [List.append_nil]; exact hv, ⟨rfl, rfl, rfl, Nat.le_refl _, fun _ _ _ => rfl⟩, .inl rfl⟩
    rcases hv.2 with ⟨rfl, _⟩ | ⟨g, c, cur, rfl, hb, hh, hn, hm, hs, ht⟩
    · simp [Builtin.append_, run_underlying Try.underlying30, sizeOf, typeInfo, hi, Builtin.lenOf, run_firstCells_none w i0.size 0 0 cap]
    · have hsrc : Go.Src Try.prog i0.size 30 (.slice none ([] : List Int).length cap) 0 [] w := Go.Src.ofNil w Try.underlying30 cap
      exact run_append_room_src (P := Try.prog) w 30 30 ty 5 i0 Try.underlying30 hi g 0 l.length c _ 0 [] hsrc (by omega) (fun j hj => by simp at hj) (fun j hj => by simp at hj)

theorem step_append_run {P : Program} {ops : Array Oper} {o : Oper} {a : Act} {w : World} {K : Act → World → Prop} {Q : Exit → Act → World → Prop} (hgd : o.guard = none) (s x : Operand) (t : TypeId)
    (ho : o.op = .call { callee := .builtin .append, args := #[s, x], argTypes := #[t, t] }) (v u : Value) (hs : a.eval s = v) (hx : a.eval x = u) (v' : Value) (w' : World) (hr : (Builtin.append_ #[t, t] o.type #[v, u]).run P w = .ok v' w')
    (h : K (a.put o.dst v') w') : if Region.wanted o (yielded ops a.tmps) = true then Oper.wp P o a w K Q else K (a.put o.dst undef) w := by
  rw [if_pos (by simp [Region.wanted, hgd])]
  unfold Oper.wp execOp
  simp only [ho, resolve, invoke, builtin, Sem.run_bind, Sem.run_pure, Result.andThen_ok, List.map_toArray, List.map_cons, List.map_nil, hs, hx, hr]
  exact h

/-- '[]byte{}' -/
theorem ownB_empty (w : World) (base : Nat) (hb : base ≤ w.heap.size) : OwnB (w.alloc (.cells #[] 5)) base (.slice (some ⟨w.heap.size, 0, none⟩) 0 0) [] :=
  ⟨by simp, .inr ⟨w.heap.size, 0, #[], rfl, hb, heap_alloc_new w _, by simp, by decide, by simp, by simp⟩⟩
end Go.Proofs.Ytnpoggcpdelmnaa

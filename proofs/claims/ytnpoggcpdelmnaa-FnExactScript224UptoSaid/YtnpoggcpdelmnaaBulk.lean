/-
  For the second form: the wrap with a condition and the world's shape kept; what the bound gives for bytes, slices of bytes and steps.
-/
import Derived.Test.YtnpoggcpdelmnaaRows
import Derived.Test.YtnpoggcpdelmnaaOpen
import Derived.JoinedCond
import Derived.SizedLaws
namespace Go.Proofs.Ytnpoggcpdelmnaa
open Go.ChangeShapes Go.WideShapes Go.ChangeAt Go.RowKit
set_option linter.unusedVariables false

section
variable {H : Type} {enc : TypeId × Value → H}
theorem handed_cond_shaped {a : Assume} {C : Checked} {os : Os} {f : FuncId} {fn : Func} {s : OpenSpec} {k : (H : Type) → List (DataW H) → Bool} (hk : s.cond = some k) {F : Stop.Interp} {conds : List PathCond} {apart fresh handsOn again : Bool}
    (own : ownKnob C.prog.godebug = none) (started : os.Started) (noInit : C.prog.inits.idxOf? f = none) (hfn : C.prog.funcs[f]? = some fn)
    (witness : ∃ (w : World) (tape : Tape) (i : Input), w.os = os ∧ (w.forCall tape i).Shaped C.prog ∧ i.vars = [] ∧ Input.okWide C.prog (w.forCall tape i) .any w.heap.size f i ∧
      s.pre6 enc C.prog fn conds apart (w.forCall tape i).memory i.args ∧ a.holds C.prog (lone (Frame.enter C.prog f i.args .normal) [] (w.forCall tape i)))
    (contract : ∀ (W : World) (base : Nat) (args : Array Value) (ds gs : List (DataW H)) (before : List MemPlace),
      (∀ (j : Nat) t v, fn.params[j]? = some t → args[j]? = some v → Value.okWide C.prog W .any base t v) →
      DataW.Whole enc C.prog fn.params.toList s.vars apart W args.toList ds gs before →
      k H (ds ++ gs) = true → W.ShapedOpen C.prog →
      Calls C.prog f args W fun e W' => ∃ v, e = .returned v ∧ (s.at F).post enc C.prog fn apart fresh handsOn again W args v W') :
    ReturnsInHanded a C os f .any (s.pre6 enc C.prog fn conds apart) ((s.at F).post enc C.prog fn apart fresh handsOn again) := by
  refine returnsInHanded_of_calls own started noInit witness ?_
  intro w tape i _ hsh _ hok hpre hholds
  obtain ⟨_, _, _, fn', hfn', _, _, _, _, hval⟩ := hok
  have e : fn' = fn := Option.some.inj (hfn'.symm.trans hfn)
  subst e
  obtain ⟨ds, gs, before, hw, hc, hkk⟩ := (OpenSpec.pre_some hk conds apart _ _).1 hpre.1
  have hw' := DataW.Whole.of_heap (w' := w.forCall tape i) (by rfl) hw
  refine (contract (w.forCall tape i) w.heap.size i.args ds gs before hval hw' hkk hsh).mono fun e W' ⟨v, he, hp⟩ => ?_
  subst he
  exact ChangeSpec.post_blind hp
end

section
variable {H : Type} {enc : TypeId × Value → H} {w : World}
theorem bulk_pos (d : DataW H) : 1 ≤ Rows.uptoBulk d := by
  cases d with
  | lit l => cases l <;> simp [Rows.uptoBulk]
  | nil => simp [Rows.uptoBulk]
  | ptr d => simp [Rows.uptoBulk]
  | slice elems spare => simp [Rows.uptoBulk]
  | agg parts => simp [Rows.uptoBulk]
  | iface t d => simp [Rows.uptoBulk]
  | map entries => simp [Rows.uptoBulk]
  | held h => simp [Rows.uptoBulk]
theorem bulk_len (l : List (DataW H)) : l.length ≤ Rows.uptoBulkAll l := by
  induction l with
  | nil => simp
  | cons x r ih => have := bulk_pos x; simp only [Rows.uptoBulkAll, List.length_cons]; omega
theorem bulk_bound {l : List (DataW H)} (hk : Rows.uptoSmall H l = true) : Rows.uptoBulkAll l ≤ 1048576 := of_decide_eq_true hk
/-- bytes -/
theorem bulk_bytes {d : DataW H} {l : List Int} (h : (d = .nil ∧ l = []) ∨ ∃ el sp, d = .slice el sp ∧ l.length = el.length) : l.length + 1 ≤ Rows.uptoBulk d := by
  rcases h with ⟨rfl, rfl⟩ | ⟨el, sp, rfl, e⟩
  · simp [Rows.uptoBulk]
  · have := bulk_len el
    simp only [Rows.uptoBulk]
    omega

/-- a slice of bytes as an argument, with the bound -/
theorem open_arg_bulk {v : Value} {d : DataW H} {p : List MemPlace} {base : Nat} (hv : Value.okWide Try.prog w .any base 30 v) (h : DataW.Trod enc Try.prog w 0 (fun _ => true) true 30 v d p) :
    ∃ l, Bts w v l ∧ l.length + 1 ≤ Rows.uptoBulk d := by
  obtain ⟨a, len, cap, rfl⟩ := okWide_slice Try.underlying30 hv
  obtain ⟨fuel, hf⟩ := h
  obtain ⟨l, hl, h3⟩ := open_bytes hf
  refine ⟨l, hl, bulk_bytes ?_⟩
  rcases h3 with h | ⟨el, sp, h1, _, h2⟩
  · exact .inl h
  · exact .inr ⟨el, sp, h1, h2⟩
end
end Go.Proofs.Ytnpoggcpdelmnaa

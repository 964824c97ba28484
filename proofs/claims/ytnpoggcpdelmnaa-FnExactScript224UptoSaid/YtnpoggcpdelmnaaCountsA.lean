/-
  spec.Lengths and impl.Counts: how many bytes each part has.
-/
import Derived.Test.YtnpoggcpdelmnaaOpenP
import Derived.Test.YtnpoggcpdelmnaaApp
import Derived.Test.YtnpoggcpdelmnaaCutB
namespace Go.Proofs.Ytnpoggcpdelmnaa
open Go.RowKit
set_option linter.unusedVariables false

/-- a slice of numbers of the caller's own -/
def OwnI (w : World) (base : Nat) (v : Value) (l : List Int) : Prop := w.ownsRow base 3 1 v l.length (l.map (Value.int .i64))

theorem infoI : (Try.prog.info? 3).map (fun i => (i.zero, i.size, i.bytes)) = some (some (.int .i64 0), 1, 8) := by kernel_rfl

theorem append_int (w : World) (base : Nat) (v : Value) (l : List Int) (x : Int) (ty : TypeId) (hv : OwnI w base v l) (hbase : base ≤ w.heap.size) (hlen : l.length + 1 ≤ 17592186044416) :
    ∃ v' w', (Builtin.append_ #[37, 37] ty #[v, .slice (some ⟨w.heap.size, 0, none⟩) 1 1]).run Try.prog (w.alloc (.cells #[.int .i64 x] 3)) = .ok v' w' ∧ OwnI w' base v' (l ++ [x]) ∧ w.grownBy w' v.ownBlock ∧ (v'.ownBlock = v.ownBlock ∨ v'.ownBlock = some (w.heap.size + 1)) := by
  obtain ⟨i0, hi, hz0, hz1, hz2⟩ := info_parts infoI
  have hml : maxLen = 9223372036854775807 := rfl
  have gA := World.grownBy_alloc w (.cells #[.int .i64 x] 3) v.ownBlock
  have ho : (w.alloc (.cells #[.int .i64 x] 3)).ownsRow base 3 1 v l.length (l.map (Value.int .i64)) := World.ownsRow.kept hv (World.grownBy_alloc w (.cells #[.int .i64 x] 3) none) (by cases v.ownBlock <;> simp)
  obtain ⟨v', w', hr, ho', hg, _, hb⟩ := run_append_own_at (P := Try.prog) (w.alloc (.cells #[.int .i64 x] 3)) base 37 ty 3 i0 (.int .i64 0) 1 8 Try.underlying37 hi hz0 hz1 hz2 rfl (by decide) v l.length (l.map (Value.int .i64)) ho ⟨w.heap.size, 0, none⟩ 1 1 [.int .i64 x] (by simp) (cell_one_new _ _ _) (fun u hu => by simp at hu; subst hu; rfl) (by rw [hml]; omega) (by omega) (by rw [World.size_alloc]; omega)
  rw [World.size_alloc] at hb
  refine ⟨v', w', hr, ?_, grown_trans gA hg, hb⟩
  unfold OwnI
  rw [List.length_append, List.map_append]
  exact ho'

theorem ownI_empty (w : World) (base : Nat) (hb : base ≤ w.heap.size) : OwnI (w.alloc (.cells #[] 3)) base (.slice (some ⟨w.heap.size, 0, none⟩) 0 0) [] :=
  ⟨by simp, .inr ⟨w.heap.size, 0, #[], rfl, hb, heap_alloc_new w _, by simp, by decide, by simp, by simp⟩⟩
end Go.Proofs.Ytnpoggcpdelmnaa

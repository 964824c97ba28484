/-
  For the second form: what the bound gives for slices of slices of bytes.
-/
import Derived.Test.YtaknphghhlljmabBulk
import Derived.Test.YtaknphghhlljmabOpenP
namespace Go.Proofs.Ytaknphghhlljmab
open Go.ChangeShapes Go.WideShapes Go.ChangeAt Go.RowKit
set_option linter.unusedVariables false
section
variable {H : Type} {enc : TypeId × Value → H} {w : World}
theorem bulk_parts : ∀ (Ls : List (List Int)) (el : List (DataW H)), Ls.length = el.length → (∀ i, i < Ls.length → ∃ di, el[i]? = some di ∧ ((di = .nil ∧ Ls.getD i [] = []) ∨ ∃ e2 s2, di = .slice e2 s2 ∧ (Ls.getD i []).length = e2.length)) → Ls.length + Ls.flatten.length ≤ Rows.uptoBulkAll el
  | [], el, _, _ => by simp
  | l :: r, [], h, _ => by simp at h
  | l :: r, d :: el, h, hx => by
    have h0 := hx 0 (by simp)
    obtain ⟨di, h1, h2⟩ := h0
    simp only [List.getElem?_cons_zero, Option.some.injEq] at h1
    subst h1
    have b := bulk_bytes (l := l) (by simpa using h2)
    have ih := bulk_parts r el (by simpa using h) (fun i hi => by simpa using hx (i + 1) (by simpa using hi))
    simp only [Rows.uptoBulkAll, List.length_cons, List.flatten_cons, List.length_append]
    omega

/-- a slice of slices of bytes as an argument, with the bound -/
theorem open_parts_bulk {v : Value} {d : DataW H} {p : List MemPlace} {base : Nat} (hv : Value.okWide Try.prog w .any base 31 v) (h : DataW.Trod enc Try.prog w 0 (fun _ => true) true 31 v d p) :
    ∃ Ls, PtsV w v Ls ∧ Ls.length + Ls.flatten.length + 1 ≤ Rows.uptoBulk d := by
  obtain ⟨a, len, cap, rfl⟩ := okWide_slice Try.underlying31 hv
  obtain ⟨fuel, hf⟩ := h
  obtain ⟨Ls, ad, cc, e, k1, k2, hp, h3⟩ := open_parts hf
  refine ⟨Ls, ⟨ad, cc, e, k1, k2, hp⟩, ?_⟩
  rcases h3 with ⟨rfl, rfl⟩ | ⟨el, sp, rfl, h4, h5⟩
  · simp [Rows.uptoBulk]
  · have := bulk_parts Ls el h4 h5
    simp only [Rows.uptoBulk]
    omega
end
end Go.Proofs.Ytaknphghhlljmab

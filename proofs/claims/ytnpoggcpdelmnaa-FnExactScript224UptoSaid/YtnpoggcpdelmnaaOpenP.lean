/-
  Slices of slices of bytes that came in.
-/
import Derived.Test.YtnpoggcpdelmnaaOpen
namespace Go.Proofs.Ytnpoggcpdelmnaa
open Go.ChangeShapes Go.WideShapes Go.ChangeAt Go.RowKit
set_option linter.unusedVariables false

section
variable {H : Type} {enc : TypeId × Value → H} {w : World}

theorem open_parts {fuel : Nat} {v : Value} {d : DataW H} {p : List MemPlace} (h : DataW.trod enc Try.prog w 0 (fun _ => true) true fuel 23 [v] = some (d, p)) :
    ∃ Ls ad cap, v = .slice ad Ls.length cap ∧ Ls.length ≤ cap ∧ cap ≤ 9223372036854775807 ∧ Pts w ad Ls ∧ ((d = .nil ∧ Ls = []) ∨ ∃ el sp, d = .slice el sp ∧ Ls.length = el.length ∧ ∀ i, i < Ls.length → ∃ di, el[i]? = some di ∧ ((di = .nil ∧ Ls.getD i [] = []) ∨ ∃ e2 s2, di = .slice e2 s2 ∧ (Ls.getD i []).length = e2.length)) := by
  rcases Go.Deep.open_slice1 Try.underlying23 (by kernel_rfl) h with ⟨hcs, hx⟩ | ⟨a, len, cap, m, n, V, D, Pl, hcs, _, hl, hm, hmm, hx, hall⟩
  · obtain rfl : v = .slice none 0 0 := by simpa using hcs
    exact ⟨[], none, 0, rfl, by simp, by omega, fun i hi => by simp at hi, .inl ⟨by simpa using congrArg Prod.fst hx, rfl⟩⟩
  · obtain rfl : v = .slice (some a) len cap := by simpa using hcs
    have hmc : m = cap := by simpa using hmm
    have hex : ∀ i, i < len → ∃ l, Bts w (V i) l ∧ ((D i = .nil ∧ l = []) ∨ ∃ el sp, D i = .slice el sp ∧ l.length ≤ el.length + sp.length ∧ l.length = el.length) := fun i hi => open_bytes (hall i (by omega)).2
    have hch : ∃ f : Nat → List Int, ∀ i, i < len → Bts w (V i) (f i) ∧ ((D i = .nil ∧ f i = []) ∨ ∃ el sp, D i = .slice el sp ∧ (f i).length ≤ el.length + sp.length ∧ (f i).length = el.length) :=
      ⟨fun i => if hi : i < len then (hex i hi).choose else [], fun i hi => by simp only [hi, dif_pos]; exact (hex i hi).choose_spec⟩
    obtain ⟨f, hf⟩ := hch
    have hll : ((List.range len).map f).length = len := by simp
    have hg : ∀ i, i < len → ((List.range len).map f).getD i [] = f i := fun i hi => by simp [List.getD, hi]
    refine ⟨(List.range len).map f, some a, cap, by rw [hll], by omega, by have : maxLen = 9223372036854775807 := by kernel_rfl
                                                                           omega, fun i hi => ?_, .inr ⟨_, _, congrArg Prod.fst hx, by simp, fun i hi => ?_⟩⟩
    · rw [hll] at hi
      obtain ⟨b, off, spot⟩ := a
      have hspot : spot = none := by simpa [Addr.add] using World.cell?_spot (hall 0 (by omega)).1
      subst hspot
      refine ⟨b, off, V i, rfl, ?_, by rw [hg i hi]; exact (hf i hi).1⟩
      have := (hall i (by omega)).1
      by_cases hi0 : i = 0
      · subst hi0
        simpa [Addr.add] using this
      · simpa [Addr.add, hi0] using this
    · rw [hll] at hi
      rw [hg i hi]
      refine ⟨D i, by simp [hi], ?_⟩
      rcases (hf i hi).2 with h | ⟨el, sp, h1, h2, h3⟩
      · exact .inl h
      · exact .inr ⟨el, sp, h1, h3⟩

theorem weightsAll_mem {P : Program} {e : TypeId} {n : Nat} : ∀ {l : List (DataW H)} {i : Nat} {d : DataW H}, l[i]? = some d → n ∈ d.weights P e → n ∈ DataW.weightsAll P e l
  | [], _, _, h, _ => by simp at h
  | x :: r, 0, d, h, hn => by
    simp only [List.getElem?_cons_zero, Option.some.injEq] at h
    subst h
    simp only [DataW.weightsAll, List.mem_append]
    exact Or.inl hn
  | x :: r, i + 1, d, h, hn => by
    simp only [List.getElem?_cons_succ] at h
    simp only [DataW.weightsAll, List.mem_append]
    exact Or.inr (weightsAll_mem h hn)

/-- v is a slice of slices with the contents Ls -/
def PtsV (w : World) (v : Value) (Ls : List (List Int)) : Prop := ∃ ad cap, v = .slice ad Ls.length cap ∧ Ls.length ≤ cap ∧ cap ≤ 9223372036854775807 ∧ Pts w ad Ls

/-- a slice of slices of bytes as the argument j -/
theorem open_arg_parts {v : Value} {d : DataW H} {p : List MemPlace} {t : TypeId} {base : Nat} (ht : t = 23) (hv : Value.okWide Try.prog w .any base t v) (h : DataW.Trod enc Try.prog w 0 (fun _ => true) true t v d p) {ts : List TypeId} {ds : List (DataW H)} (hz : (DataW.weightsEach Try.prog ts ds).all (· ≤ reachBytes) = true) {j : Nat} (h1 : ts[j]? = some t) (h2 : ds[j]? = some d) :
    ∃ Ls, PtsV w v Ls ∧ Ls.length ≤ 5864062014634 ∧ ∀ i, i < Ls.length → (Ls.getD i []).length ≤ 140737488351232 := by
  subst ht
  obtain ⟨a, len, cap, rfl⟩ := okWide_slice Try.underlying23 hv
  obtain ⟨fuel, hf⟩ := h
  obtain ⟨Ls, ad, cc, e, k1, k2, hp, h3⟩ := open_parts hf
  have e2 : reachBytes = 140737488351232 := by kernel_rfl
  refine ⟨Ls, ⟨ad, cc, e, k1, k2, hp⟩, ?_⟩
  rcases h3 with ⟨rfl, rfl⟩ | ⟨el, sp, rfl, h4, h5⟩
  · exact ⟨by simp, fun i hi => by simp at hi⟩
  · have hb := sized_slice hz h1 h2 Try.underlying23
    have e1 : Try.prog.bytesOf 30 = 24 := by kernel_rfl
    rw [e1, e2] at hb
    refine ⟨by omega, fun i hi => ?_⟩
    obtain ⟨di, h6, h7⟩ := h5 i hi
    rcases h7 with ⟨_, h8⟩ | ⟨e3, s3, rfl, h8⟩
    · rw [h8]; simp
    · have hm : (e3.length + s3.length) * Try.prog.bytesOf 5 ∈ DataW.weights Try.prog 23 (DataW.slice el sp) := by
        simp only [DataW.weights, Try.underlying23, List.mem_cons, List.mem_append]
        refine Or.inr (Or.inl (weightsAll_mem h6 ?_))
        simp [DataW.weights, Try.underlying30]
      have := List.all_eq_true.1 hz _ (DataW.weights_mem_each h1 h2 _ hm)
      have e4 : Try.prog.bytesOf 5 = 1 := by kernel_rfl
      rw [e4, e2] at this
      simp at this
      omega
end
end Go.Proofs.Ytnpoggcpdelmnaa

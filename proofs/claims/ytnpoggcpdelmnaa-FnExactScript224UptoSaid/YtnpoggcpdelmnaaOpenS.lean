/-
  Scripts that came in.
-/
import Derived.Test.YtnpoggcpdelmnaaScr
import Derived.Test.YtnpoggcpdelmnaaOpenP
import Derived.Test.YtnpoggcpdelmnaaBulk
namespace Go.Proofs.Ytnpoggcpdelmnaa
open Go.ChangeShapes Go.WideShapes Go.ChangeAt Go.RowKit
set_option linter.unusedVariables false

/-- v is a script with these steps -/
def StpsV (w : World) (v : Value) (Ss : List (Int × List Int)) : Prop := ∃ ad cap, v = .slice ad Ss.length cap ∧ Ss.length ≤ cap ∧ cap ≤ 9223372036854775807 ∧ Stps w ad Ss

section
variable {H : Type} {enc : TypeId × Value → H} {w : World}

/-- a step, read -/
theorem open_one {fuel : Nat} {cs : List Value} {d : DataW H} {p : List MemPlace} (h : DataW.trod enc Try.prog w 0 (fun _ => true) true fuel 32 cs = some (d, p)) :
    ∃ k v l dk dd, cs = [.int .i64 k, v] ∧ d = .agg [dk, dd] ∧ Bts w v l ∧ ((dd = .nil ∧ l = []) ∨ ∃ el sp, dd = .slice el sp ∧ l.length = el.length) := by
  obtain ⟨y0, y1, n, hx, hl, h0, h1⟩ := trod_struct2 Try.underlying32 h
  have hc : Try.prog.cellsOf 32 = 2 := by kernel_rfl
  rw [hc] at hl
  match cs, hl with
  | [x, v], _ =>
    have e0 : Try.prog.cellsOf 3 = 1 := by kernel_rfl
    have e1 : Try.prog.cellsOf 30 = 1 := by kernel_rfl
    simp only [e0, e1] at h0 h1
    obtain ⟨k, hk, _⟩ := DataW.trod_int Try.underlying3 h0
    obtain ⟨y, py⟩ := y1
    obtain ⟨l, hb, hd⟩ := open_bytes (v := v) h1
    have hk' : x = .int .i64 k := by simpa using hk
    subst hk'
    refine ⟨k, v, l, y0.1, y, rfl, congrArg Prod.fst hx, hb, ?_⟩
    rcases hd with hd | ⟨el, sp, a, _, b⟩
    · exact .inl hd
    · exact .inr ⟨el, sp, a, b⟩

/-- what is told of a step's data -/
def StepD (di : DataW H) (l : List Int) : Prop := ∃ dk dd, di = .agg [dk, dd] ∧ ((dd = .nil ∧ l = []) ∨ ∃ el sp, dd = .slice el sp ∧ l.length = el.length)

theorem open_steps {fuel : Nat} {v : Value} {d : DataW H} {p : List MemPlace} (h : DataW.trod enc Try.prog w 0 (fun _ => true) true fuel 22 [v] = some (d, p)) :
    ∃ Ss ad cap, v = .slice ad Ss.length cap ∧ Ss.length ≤ cap ∧ cap ≤ 9223372036854775807 ∧ ((∀ i, (h : i < Ss.length) → (Ss[i].2).length ≤ 140737488351232) → Stps w ad Ss) ∧ ((d = .nil ∧ Ss = []) ∨ ∃ el sp, d = .slice el sp ∧ Ss.length = el.length ∧ ∀ i, (h : i < Ss.length) → ∃ di, el[i]? = some di ∧ StepD di Ss[i].2) := by
  rcases Go.Deep.open_slice Try.underlying22 h with ⟨hcs, hx⟩ | ⟨a, len, cap, m, n, D, Pl, hcs, _, hl, hm, hmm, hx, hall⟩
  · obtain rfl : v = .slice none 0 0 := by simpa using hcs
    exact ⟨[], none, 0, rfl, by simp, by omega, fun _ i hi => absurd hi (by simp), .inl ⟨by simpa using congrArg Prod.fst hx, rfl⟩⟩
  · obtain rfl : v = .slice (some a) len cap := by simpa using hcs
    have hmc : m = cap := by simpa using hmm
    have hc2 : Try.prog.cellsOf 32 = 2 := by kernel_rfl
    rw [hc2] at hall
    have hex : ∀ i, i < len → ∃ s : Int × List Int × Value, w.cell? ((a.add (i * 2)).add 0) = some (.int .i64 s.1) ∧ w.cell? ((a.add (i * 2)).add 1) = some s.2.2 ∧ Bts w s.2.2 s.2.1 ∧ StepD (D i) s.2.1 := fun i hi => by
      obtain ⟨cs', h1, h2⟩ := hall i (by omega)
      obtain ⟨k, v, l, dk, dd, rfl, e, hb, hd⟩ := open_one h2
      obtain ⟨_, _, hg⟩ := World.cells?_some h1
      exact ⟨(k, l, v), by simpa using hg 0 (by omega), by simpa using hg 1 (by omega), hb, dk, dd, e, hd⟩
    have hch : ∃ f : Nat → Int × List Int × Value, ∀ i, i < len → w.cell? ((a.add (i * 2)).add 0) = some (.int .i64 (f i).1) ∧ w.cell? ((a.add (i * 2)).add 1) = some (f i).2.2 ∧ Bts w (f i).2.2 (f i).2.1 ∧ StepD (D i) (f i).2.1 :=
      ⟨fun i => if hi : i < len then (hex i hi).choose else (0, [], .bool true), fun i hi => by simp only [hi, dif_pos]; exact (hex i hi).choose_spec⟩
    obtain ⟨f, hf⟩ := hch
    have hll : ((List.range len).map fun i => ((f i).1, (f i).2.1)).length = len := by simp
    refine ⟨(List.range len).map fun i => ((f i).1, (f i).2.1), some a, cap, by rw [hll], by omega, by have : maxLen = 9223372036854775807 := by kernel_rfl
                                                                                                       omega, fun hsz i hi => ?_, .inr ⟨_, _, congrArg Prod.fst hx, by simp, fun i hi => ?_⟩⟩
    · have hi' : i < len := by omega
      have hg : ((List.range len).map fun i => ((f i).1, (f i).2.1))[i] = ((f i).1, (f i).2.1) := by simp
      have hzi := hsz i hi
      rw [hg] at hzi ⊢
      obtain ⟨b, off, spot⟩ := a
      have hspot : spot = none := by
        have := World.cell?_spot (hf 0 (by omega)).1
        simpa [Addr.add] using this
      subst hspot
      have h1 := (hf i hi').1
      have h2 := (hf i hi').2.1
      rw [Addr.add_mid, Addr.add_mid] at h1 h2
      exact ⟨b, off, (f i).2.2, rfl, by simpa using h1, by simpa using h2, (hf i hi').2.2.1, hzi⟩
    · have hi' : i < len := by omega
      refine ⟨D i, by simp [hi'], ?_⟩
      have hg : ((List.range len).map fun i => ((f i).1, (f i).2.1))[i] = ((f i).1, (f i).2.1) := by simp
      rw [hg]
      exact (hf i hi').2.2.2

/-- a script as the argument j -/
theorem open_arg_steps {v : Value} {d : DataW H} {p : List MemPlace} {t : TypeId} {base : Nat} (ht : t = 22) (hv : Value.okWide Try.prog w .any base t v) (h : DataW.Trod enc Try.prog w 0 (fun _ => true) true t v d p) {ts : List TypeId} {ds : List (DataW H)} (hz : (DataW.weightsEach Try.prog ts ds).all (· ≤ reachBytes) = true) {j : Nat} (h1 : ts[j]? = some t) (h2 : ds[j]? = some d) :
    ∃ Ss, StpsV w v Ss ∧ Ss.length ≤ 4398046511104 := by
  subst ht
  obtain ⟨a, len, cap, rfl⟩ := okWide_slice Try.underlying22 hv
  obtain ⟨fuel, hf⟩ := h
  obtain ⟨Ss, ad, cc, e, k1, k2, hp, h3⟩ := open_steps hf
  have e2 : reachBytes = 140737488351232 := by kernel_rfl
  refine ⟨Ss, ⟨ad, cc, e, k1, k2, hp fun i hi => ?_⟩, ?_⟩
  · rcases h3 with ⟨rfl, rfl⟩ | ⟨el, sp, rfl, h4, h5⟩
    · simp at hi
    · obtain ⟨di, h6, dk, dd, rfl, h7⟩ := h5 i hi
      rcases h7 with ⟨_, h8⟩ | ⟨e3, s3, rfl, h8⟩
      · rw [h8]; simp
      · have hm : (e3.length + s3.length) * Try.prog.bytesOf 5 ∈ DataW.weights Try.prog 22 (DataW.slice el sp) := by
          simp only [DataW.weights, Try.underlying22, List.mem_cons, List.mem_append]
          refine Or.inr (Or.inl (weightsAll_mem h6 ?_))
          simp [DataW.weights, Try.underlying32, DataW.weightsEach, Try.underlying30]
        have := List.all_eq_true.1 hz _ (DataW.weights_mem_each h1 h2 _ hm)
        have e4 : Try.prog.bytesOf 5 = 1 := by kernel_rfl
        rw [e4, e2] at this
        simp at this
        omega
  · rcases h3 with ⟨rfl, rfl⟩ | ⟨el, sp, rfl, h4, h5⟩
    · simp
    · have hb := sized_slice hz h1 h2 Try.underlying22
      have e1 : Try.prog.bytesOf 32 = 32 := by kernel_rfl
      rw [e1, e2] at hb
      omega

theorem bulk_steps : ∀ (Ss : List (Int × List Int)) (el : List (DataW H)), Ss.length = el.length → (∀ i, (h : i < Ss.length) → ∃ di, el[i]? = some di ∧ StepD di Ss[i].2) → Ss.length + (Ss.map fun s => s.2.length).sum ≤ Rows.uptoBulkAll el
  | [], el, _, _ => by simp
  | l :: r, [], h, _ => by simp at h
  | l :: r, d :: el, h, hx => by
    have h0 := hx 0 (by simp)
    obtain ⟨di, h1, dk, dd, e, h2⟩ := h0
    simp only [List.getElem?_cons_zero, Option.some.injEq] at h1
    subst h1
    have b := bulk_bytes h2
    have bp := bulk_pos dk
    have ih := bulk_steps r el (by simpa using h) (fun i hi => by
      obtain ⟨dj, e1, e2⟩ := hx (i + 1) (by simpa using hi)
      exact ⟨dj, by simpa using e1, e2⟩)
    subst e
    simp only [List.getElem_cons_zero] at b
    simp only [Rows.uptoBulkAll, Rows.uptoBulk, List.length_cons, List.map_cons, List.sum_cons]
    omega

theorem steps_le : ∀ (Ss : List (Int × List Int)) (i : Nat) (h : i < Ss.length), Ss[i].2.length ≤ (Ss.map fun s => s.2.length).sum
  | [], i, h => by simp at h
  | s :: r, 0, h => by simp
  | s :: r, i + 1, h => by
    have := steps_le r i (by simpa using h)
    simp only [List.getElem_cons_succ, List.map_cons, List.sum_cons]
    omega

/-- a script as an argument, with the bound -/
theorem open_steps_bulk {v : Value} {d : DataW H} {p : List MemPlace} {base : Nat} (hv : Value.okWide Try.prog w .any base 22 v) (h : DataW.Trod enc Try.prog w 0 (fun _ => true) true 22 v d p) (hb : Rows.uptoBulk d ≤ 1048576) :
    ∃ Ss, StpsV w v Ss ∧ Ss.length + (Ss.map fun s => s.2.length).sum + 1 ≤ Rows.uptoBulk d := by
  obtain ⟨a, len, cap, rfl⟩ := okWide_slice Try.underlying22 hv
  obtain ⟨fuel, hf⟩ := h
  obtain ⟨Ss, ad, cc, e, k1, k2, hp, h3⟩ := open_steps hf
  have hsum : Ss.length + (Ss.map fun s => s.2.length).sum + 1 ≤ Rows.uptoBulk d := by
    rcases h3 with ⟨rfl, rfl⟩ | ⟨el, sp, rfl, h4, h5⟩
    · simp [Rows.uptoBulk]
    · have := bulk_steps Ss el h4 h5
      simp only [Rows.uptoBulk]
      omega
  refine ⟨Ss, ⟨ad, cc, e, k1, k2, hp fun i hi => ?_⟩, hsum⟩
  have := steps_le Ss i hi
  omega
end

theorem Stps.bel {w w' : World} {ad : Option Addr} {Ss : List (Int × List Int)} (h : Stps w ad Ss) (hb : Bel w w') : Stps w' ad Ss := fun i hi => by
  obtain ⟨pb, po, v, e, h1, h2, h3, h4⟩ := h i hi
  exact ⟨pb, po, v, e, by rw [bel_cell hb (World.block_lt_of_cell? w _ h1)]; exact h1, by rw [bel_cell hb (World.block_lt_of_cell? w _ h2)]; exact h2, h3.bel hb, h4⟩
end Go.Proofs.Ytnpoggcpdelmnaa

/-
  What came in: the table _K by the world's shape, slices of bytes, slices of slices of bytes.
-/
import Derived.Test.YtnpoggcpdelmnaaSame
import Derived.WalkKit
import Derived.ProofKit
import Derived.OpenShut
import Derived.ChangeOld
import Derived.Below
import Derived.HandedShaped
import Derived.Deep.Slices
namespace Go.Proofs.Ytnpoggcpdelmnaa
open Go.ChangeShapes Go.WideShapes Go.ChangeAt Go.RowKit
set_option linter.unusedVariables false

theorem ownN : ownKnob Try.prog.godebug = none := by kernel_rfl
theorem laidOutN : laidOutB Try.prog = true := by kernel_rfl

theorem kat_of_shaped {w : World} (h : w.ShapedOpen Try.prog) : ∃ K, KAt w K := by
  obtain ⟨cs, hh, hs, hr⟩ := h.1 0 (Array.replicate 64 (.int .u32 0)) 87 (of_decide_eq_true (by kernel_rfl)) (by kernel_rfl)
  have hs' : cs.size = 64 := hs
  obtain ⟨ts, hts, _, hall⟩ := hr (by kernel_rfl)
  have hts2 : Try.prog.cellTypes Try.prog.depth 87 = some (List.replicate 64 58) := by kernel_rfl
  rw [hts2] at hts
  obtain rfl := Option.some.inj hts
  refine ⟨fun j => match cs[j]? with | some (.int _ n) => n | _ => 0, fun j hj => ?_⟩
  have h1 : j < cs.size := by omega
  obtain ⟨u, hu, hok⟩ := hall j cs[j] (by simp [h1])
  have hu2 : u = 58 := by
    have := List.mem_of_getElem? hu
    exact (List.eq_of_mem_replicate this)
  subst hu2
  have hcell : w.cell? ⟨0, j, none⟩ = some cs[j] := by simp [World.cell?, hh, h1]
  rw [hcell]
  unfold Cell.ok at hok
  rw [Try.underlying58] at hok
  have e : cs[j]? = some cs[j] := by simp [h1]
  simp only [e]
  cases hv : cs[j] <;> rw [hv] at hok <;> simp at hok
  case int k n => rw [hok.1]

section
variable {H : Type} {enc : TypeId × Value → H} {w : World}

theorem open_bytes {fuel : Nat} {v : Value} {d : DataW H} {p : List MemPlace} (h : DataW.trod enc Try.prog w 0 (fun _ => true) true fuel 30 [v] = some (d, p)) :
    ∃ l, Bts w v l ∧ ((d = .nil ∧ l = []) ∨ ∃ el sp, d = .slice el sp ∧ l.length ≤ el.length + sp.length ∧ l.length = el.length) := by
  rcases open_ints Try.underlying30 Try.underlying5 (by kernel_rfl) h with ⟨hcs, hx⟩ | ⟨x, l, c, zs, hcs, _, hl, hm, hz, hx, hcell, hwz⟩
  · obtain rfl : v = .slice none 0 0 := by simpa using hcs
    refine ⟨[], ⟨none, 0, rfl, by simp, by omega, fun h => by simp at h⟩, .inl ⟨?_, rfl⟩⟩
    simpa using congrArg Prod.fst hx
  · obtain rfl : v = .slice (some x) l c := by simpa using hcs
    have hz' : zs.length = c := by simpa using hz
    have hlen : (zs.take l).length = l := by rw [List.length_take]; omega
    refine ⟨zs.take l, ⟨some x, c, by rw [hlen], by omega, by have : maxLen = 9223372036854775807 := by kernel_rfl
                                                              omega, fun h0 => ?_⟩, .inr ⟨_, _, congrArg Prod.fst hx, by simp [lits], by simp [lits]⟩⟩
    have hl0 : 0 < l := by omega
    obtain ⟨b, off, spot⟩ := x
    have hspot : spot = none := by simpa [Addr.add] using World.cell?_spot (hcell 0 (by omega))
    subst hspot
    refine ⟨b, off, rfl, fun i hi => ?_⟩
    have := hcell i (by omega)
    have e : (zs.take l).getD i 0 = zs.getD i 0 := by simp [List.getD]; rw [List.getElem?_take_of_lt (by omega)]
    show w.cell? ⟨b, off + i, none⟩ = some (.int .u8 ((zs.take l).getD i 0))
    rw [e]
    by_cases hi0 : i = 0
    · subst hi0
      simpa [Addr.add] using this
    · simpa [Addr.add, hi0] using this

/-- a slice of bytes as the argument j -/
theorem open_arg {v : Value} {d : DataW H} {p : List MemPlace} {t : TypeId} {base : Nat} (ht : t = 30) (hv : Value.okWide Try.prog w .any base t v) (h : DataW.Trod enc Try.prog w 0 (fun _ => true) true t v d p) {ts : List TypeId} {ds : List (DataW H)} (hz : (DataW.weightsEach Try.prog ts ds).all (· ≤ reachBytes) = true) {j : Nat} (h1 : ts[j]? = some t) (h2 : ds[j]? = some d) :
    ∃ l, Bts w v l ∧ l.length ≤ 140737488351232 := by
  subst ht
  obtain ⟨a, len, cap, rfl⟩ := okWide_slice Try.underlying30 hv
  obtain ⟨fuel, hf⟩ := h
  obtain ⟨l, hl, h3⟩ := open_bytes hf
  refine ⟨l, hl, ?_⟩
  rcases h3 with ⟨rfl, rfl⟩ | ⟨el, sp, rfl, h4, _⟩
  · simp
  · have := sized_slice hz h1 h2 Try.underlying30
    have e : Try.prog.bytesOf 5 = 1 := by kernel_rfl
    have e2 : reachBytes = 140737488351232 := by kernel_rfl
    rw [e, e2] at this
    omega
end

theorem NewB.slc {w w' : World} {v : Value} {l : List Int} {n : Nat} (h : NewB w w' v l) (hn : l.length = n) : ∃ a c, v = .slice a n c := by
  obtain ⟨a, c, rfl, _⟩ := h.1
  exact ⟨a, c, by rw [hn]⟩
theorem pts_one {w : World} {b : Nat} {t : TypeId} {v : Value} {l : List Int} (h : Bts w v l) (hb : w.heap[b]? = some (.cells #[v] t)) : Pts w (some ⟨b, 0, none⟩) [l] := fun i hi => by
  have e : i = 0 := by simp at hi; omega
  subst e
  exact ⟨b, 0, v, rfl, by simp [World.cell?, hb], h⟩
theorem Bel.drewN {w w1 : World} (h : Bel w w1) (m : Nat) : Bel w (w1.drewN m) := h.trans' ⟨rfl, rfl, rfl, Nat.le_refl _, fun _ _ => rfl⟩
theorem Bts.slc {w : World} {v : Value} {l : List Int} {n : Nat} (h : Bts w v l) (hn : l.length = n) : ∃ a c, v = .slice a n c := by
  obtain ⟨a, c, rfl, _⟩ := h
  exact ⟨a, c, by rw [hn]⟩
theorem Bts.drewN {w : World} {v : Value} {l : List Int} (h : Bts w v l) (m : Nat) : Bts (w.drewN m) v l := h.heap rfl
end Go.Proofs.Ytnpoggcpdelmnaa

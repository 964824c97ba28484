/-
  block and blockGeneric over a digest's whole row of cells.
-/
import Derived.Test.YtnpoggcpdelmnaaBlk
namespace Go.Proofs.Ytnpoggcpdelmnaa
open Go.RowKit

theorem heap_store8 {w : World} {b : Nat} {C : Array Value} {T : TypeId} (s : S8) (hC : w.heap[b]? = some (.cells C T (0, 0))) : (store8 w b s).heap[b]? = some (.cells (set8 C s) T (0, 0)) := by
  unfold store8 set8
  exact heap_setCell_same _ _ _ _ _ _ (heap_setCell_same _ _ _ _ _ _ (heap_setCell_same _ _ _ _ _ _ (heap_setCell_same _ _ _ _ _ _ (heap_setCell_same _ _ _ _ _ _ (heap_setCell_same _ _ _ _ _ _ (heap_setCell_same _ _ _ _ _ _ (heap_setCell_same _ _ _ _ _ _ hC)))))))
theorem heap_store8_other {w : World} {b k : Nat} (s : S8) (hk : k ≠ b) : (store8 w b s).heap[k]? = w.heap[k]? := by
  unfold store8
  rw [heap_setCell_other _ _ _ _ hk, heap_setCell_other _ _ _ _ hk, heap_setCell_other _ _ _ _ hk, heap_setCell_other _ _ _ _ hk, heap_setCell_other _ _ _ _ hk, heap_setCell_other _ _ _ _ hk, heap_setCell_other _ _ _ _ hk, heap_setCell_other _ _ _ _ hk]
theorem size_store8 {w : World} {b : Nat} (s : S8) : (store8 w b s).heap.size = w.heap.size := by simp [store8]

theorem os_store8 {w : World} {b : Nat} (s : S8) : (store8 w b s).os = w.os := by simp [store8, World.setCell]
theorem tape_store8 {w : World} {b : Nat} (s : S8) : (store8 w b s).tape = w.tape := by simp [store8, World.setCell]
theorem output_store8 {w : World} {b : Nat} (s : S8) : (store8 w b s).output = w.output := by simp [store8, World.setCell]
theorem grown_store8 {w w2 : World} {b : Nat} (hg : w.grownBy w2 none) (s : S8) : w.grownBy (store8 w2.drew b s) (some b) := by
  refine ⟨by rw [os_store8]; exact hg.os, by rw [tape_store8]; exact hg.tape, by rw [output_store8]; exact hg.output, ?_, ?_⟩
  · rw [size_store8]; exact hg.size
  · intro k hk hkb
    rw [heap_store8_other _ (fun e => hkb (by rw [e]))]
    exact hg.block k hk (by simp)

/-- eight words at the head of a row -/
def Has8 (C : Array Value) (s : S8) : Prop :=
  C[0]? = some (.int .u32 s.a) ∧ C[1]? = some (.int .u32 s.b) ∧ C[2]? = some (.int .u32 s.c) ∧ C[3]? = some (.int .u32 s.d) ∧
  C[4]? = some (.int .u32 s.e) ∧ C[5]? = some (.int .u32 s.f) ∧ C[6]? = some (.int .u32 s.g) ∧ C[7]? = some (.int .u32 s.h)

theorem blockGeneric_any (b pb po n cap : Nat) (K y : Nat → Int) (s : S8) (C : Array Value) (T : TypeId) (w : World)
    (hC : w.heap[b]? = some (.cells C T (0, 0))) (h8 : Has8 C s) (hn : 64 * n ≤ cap) (hcap : cap ≤ 9223372036854775807)
    (hp : ∀ j, j < 64 * n → w.cell? ⟨pb, po + j, none⟩ = some (.int .u8 (y j)))
    (hK : ∀ j, j < 64 → w.cell? ⟨0, j, none⟩ = some (.int .u32 (K j))) :
    Calls Try.prog 26 #[.pointer (some ⟨b, 0, none⟩), .slice (some ⟨pb, po, none⟩) (64 * n) cap] w fun e w' =>
      e = .returned (.tuple #[]) ∧ w'.heap[b]? = some (.cells (set8 C (absorb K y s n)) T (0, 0)) ∧ w.grownBy w' (some b) := by
  have hb : b < w.heap.size := by
    rcases Nat.lt_or_ge b w.heap.size with h | h
    · exact h
    · rw [Array.getElem?_eq_none h] at hC; cases hC
  obtain ⟨h0, h1, h2, h3, h4, h5, h6, h7⟩ := h8
  have cc : ∀ j, w.cell? ⟨b, j, none⟩ = C[j]? := fun j => cell_of_row w b j C T _ hC
  refine blk_core b pb po n cap K y s w hb ((cc 0).trans h0) ((cc 1).trans h1) ((cc 2).trans h2) ((cc 3).trans h3) ((cc 4).trans h4) ((cc 5).trans h5) ((cc 6).trans h6) ((cc 7).trans h7)
    hn hcap hp hK (fun j _ => frozen_of_row w b j C T hC) _ ?_
  intro w2 hg
  have hC2 : w2.drew.heap[b]? = some (.cells C T (0, 0)) := (hg.block b hb (by simp)).trans hC
  exact ⟨rfl, heap_store8 _ hC2, grown_store8 hg _⟩

theorem block_any (b pb po n cap : Nat) (K y : Nat → Int) (s : S8) (C : Array Value) (T : TypeId) (w : World)
    (hC : w.heap[b]? = some (.cells C T (0, 0))) (h8 : Has8 C s) (hn : 64 * n ≤ cap) (hcap : cap ≤ 9223372036854775807)
    (hp : ∀ j, j < 64 * n → w.cell? ⟨pb, po + j, none⟩ = some (.int .u8 (y j)))
    (hK : ∀ j, j < 64 → w.cell? ⟨0, j, none⟩ = some (.int .u32 (K j))) :
    Calls Try.prog 50 #[.pointer (some ⟨b, 0, none⟩), .slice (some ⟨pb, po, none⟩) (64 * n) cap] w fun e w' =>
      e = .returned (.tuple #[]) ∧ w'.heap[b]? = some (.cells (set8 C (absorb K y s n)) T (0, 0)) ∧ w.grownBy w' (some b) := by
  have H := Lib.hid (blockGeneric_any b pb po n cap K y s C T w hC h8 hn hcap hp hK)
  clear hC h8 hp hK
  go_enter Try.func50, Try.ntmps50
  go_wp2_with (go_at_call 26; refine H.out.mono ?_; rintro e w' ⟨rfl, h1, h2⟩; have H1 := Lib.hid h1; have H2 := Lib.hid h2; clear h1 h2)
  go_end0
  exact ⟨rfl, H1.out, H2.out⟩

end Go.Proofs.Ytnpoggcpdelmnaa

/-
  A digest's row of cells; Reset, New and New224.
-/
import Derived.Test.YtnpoggcpdelmnaaBlock
namespace Go.Proofs.Ytnpoggcpdelmnaa
open Go.RowKit
set_option linter.unusedVariables false

/-- the 75 cells of a digest: eight words, 64 bytes, their number, the length, the mark of SHA-224 -/
def digL (h : S8) (x : List Int) (nx ln : Int) (is : Bool) : List Value :=
  [.int .u32 h.a, .int .u32 h.b, .int .u32 h.c, .int .u32 h.d, .int .u32 h.e, .int .u32 h.f, .int .u32 h.g, .int .u32 h.h] ++ (x.map (Value.int .u8) ++ [.int .i64 nx, .int .u64 ln, .bool is])
def digC (h : S8) (x : List Int) (nx ln : Int) (is : Bool) : Array Value := (digL h x nx ln is).toArray

section
variable {h : S8} {x : List Int} {nx ln : Int} {is : Bool}
theorem digL_length (hx : x.length = 64) : (digL h x nx ln is).length = 75 := by simp [digL, hx]
theorem digC_size (hx : x.length = 64) : (digC h x nx ln is).size = 75 := by simp [digC, digL_length hx]
theorem digC_has8 : Has8 (digC h x nx ln is) h := ⟨rfl, rfl, rfl, rfl, rfl, rfl, rfl, rfl⟩
theorem digC_set8 (h' : S8) : set8 (digC h x nx ln is) h' = digC h' x nx ln is := by
  simp [set8, digC, digL]
theorem digC_x (hx : x.length = 64) {i : Nat} (hi : i < 64) : (digC h x nx ln is)[8 + i]? = some (.int .u8 (x.getD i 0)) := by
  simp only [digC, List.getElem?_toArray, digL]
  rw [List.getElem?_append_right (by simp), List.getElem?_append_left (by simp [hx]; omega)]
  have e : 8 + i - [Value.int .u32 h.a, .int .u32 h.b, .int .u32 h.c, .int .u32 h.d, .int .u32 h.e, .int .u32 h.f, .int .u32 h.g, .int .u32 h.h].length = i := by simp
  rw [e]
  simp [hx, hi]
theorem digC_nx (hx : x.length = 64) : (digC h x nx ln is)[72]? = some (.int .i64 nx) := by
  simp only [digC, List.getElem?_toArray, digL]
  rw [List.getElem?_append_right (by simp), List.getElem?_append_right (by simp [hx])]
  simp [hx]
theorem digC_ln (hx : x.length = 64) : (digC h x nx ln is)[73]? = some (.int .u64 ln) := by
  simp only [digC, List.getElem?_toArray, digL]
  rw [List.getElem?_append_right (by simp), List.getElem?_append_right (by simp [hx])]
  simp [hx]
theorem digC_is (hx : x.length = 64) : (digC h x nx ln is)[74]? = some (.bool is) := by
  simp only [digC, List.getElem?_toArray, digL]
  rw [List.getElem?_append_right (by simp), List.getElem?_append_right (by simp [hx])]
  simp [hx]
theorem digC_set_nx (hx : x.length = 64) (v : Int) : (digC h x nx ln is).setIfInBounds 72 (.int .i64 v) = digC h x v ln is := by
  simp only [digC, List.setIfInBounds_toArray, digL]
  rw [List.set_append_right _ _ (by simp), List.set_append_right _ _ (by simp [hx])]
  simp [hx]
theorem digC_set_ln (hx : x.length = 64) (v : Int) : (digC h x nx ln is).setIfInBounds 73 (.int .u64 v) = digC h x nx v is := by
  simp only [digC, List.setIfInBounds_toArray, digL]
  rw [List.set_append_right _ _ (by simp), List.set_append_right _ _ (by simp [hx])]
  simp [hx]
theorem digC_set_is (hx : x.length = 64) (v : Bool) : (digC h x nx ln is).setIfInBounds 74 (.bool v) = digC h x nx ln v := by
  simp only [digC, List.setIfInBounds_toArray, digL]
  rw [List.set_append_right _ _ (by simp), List.set_append_right _ _ (by simp [hx])]
  simp [hx]
end

/-- block b of w is a digest -/
def Dig (w : World) (b : Nat) (h : S8) (x : List Int) (nx ln : Int) (is : Bool) : Prop :=
  x.length = 64 ∧ w.heap[b]? = some (.cells (digC h x nx ln is) 63 (0, 0))

section
variable {w : World} {b : Nat} {h : S8} {x : List Int} {nx ln : Int} {is : Bool}
theorem Dig.lt (d : Dig w b h x nx ln is) : b < w.heap.size := by
  rcases Nat.lt_or_ge b w.heap.size with h | h
  · exact h
  · have := d.2; rw [Array.getElem?_eq_none h] at this; cases this
theorem Dig.cell (d : Dig w b h x nx ln is) (j : Nat) : w.cell? ⟨b, j, none⟩ = (digC h x nx ln is)[j]? := cell_of_row w b j _ _ _ d.2
theorem Dig.free (d : Dig w b h x nx ln is) (j : Nat) : w.frozen? ⟨b, j, none⟩ = false := frozen_of_row w b j _ _ d.2
theorem Dig.cnx (d : Dig w b h x nx ln is) : w.cell? ⟨b, 72, none⟩ = some (.int .i64 nx) := (d.cell 72).trans (digC_nx d.1)
theorem Dig.cln (d : Dig w b h x nx ln is) : w.cell? ⟨b, 73, none⟩ = some (.int .u64 ln) := (d.cell 73).trans (digC_ln d.1)
theorem Dig.cis (d : Dig w b h x nx ln is) : w.cell? ⟨b, 74, none⟩ = some (.bool is) := (d.cell 74).trans (digC_is d.1)
theorem Dig.byte (d : Dig w b h x nx ln is) {i : Nat} (hi : i < 64) : w.cell? ⟨b, 8 + i, none⟩ = some (.int .u8 (x.getD i 0)) := (d.cell (8 + i)).trans (digC_x d.1 hi)
theorem Dig.set_nx (d : Dig w b h x nx ln is) (v : Int) : Dig (w.setCell ⟨b, 72, none⟩ (.int .i64 v)) b h x v ln is :=
  ⟨d.1, by rw [heap_setCell_same w b 72 _ _ _ d.2, digC_set_nx d.1]⟩
theorem Dig.set_ln (d : Dig w b h x nx ln is) (v : Int) : Dig (w.setCell ⟨b, 73, none⟩ (.int .u64 v)) b h x nx v is :=
  ⟨d.1, by rw [heap_setCell_same w b 73 _ _ _ d.2, digC_set_ln d.1]⟩
theorem Dig.set_is (d : Dig w b h x nx ln is) (v : Bool) : Dig (w.setCell ⟨b, 74, none⟩ (.bool v)) b h x nx ln v :=
  ⟨d.1, by rw [heap_setCell_same w b 74 _ _ _ d.2, digC_set_is d.1]⟩
theorem Dig.set8 (d : Dig w b h x nx ln is) (s : S8) : Dig (store8 w b s) b s x nx ln is :=
  ⟨d.1, by rw [heap_store8 s d.2, digC_set8]⟩
theorem Dig.keep {w' : World} (d : Dig w b h x nx ln is) (e : w'.heap[b]? = w.heap[b]?) : Dig w' b h x nx ln is := ⟨d.1, e.trans d.2⟩
end

theorem grown_setCell (w : World) (b o : Nat) (v : Value) : w.grownBy (w.setCell ⟨b, o, none⟩ v) (some b) :=
  ⟨rfl, rfl, rfl, by simp, fun k _ hk => heap_setCell_other w _ k v (fun e => hk (by rw [e]))⟩
theorem grown_refl (w : World) (r : Option Nat) : w.grownBy w r := ⟨rfl, rfl, rfl, Nat.le_refl _, fun _ _ _ => rfl⟩
theorem grown_trans {a b c : World} {r : Option Nat} (h : a.grownBy b r) (k : b.grownBy c r) : a.grownBy c r :=
  ⟨k.os.trans h.os, k.tape.trans h.tape, k.output.trans h.output, Nat.le_trans h.size k.size, fun i hi hr => (k.block i (Nat.lt_of_lt_of_le hi h.size) hr).trans (h.block i hi hr)⟩
theorem grown_drewN (w : World) (n : Nat) (r : Option Nat) : w.grownBy (w.drewN n) r := ⟨rfl, rfl, rfl, Nat.le_refl _, fun _ _ _ => rfl⟩
theorem grown_drew (w : World) (r : Option Nat) : w.grownBy w.drew r := ⟨rfl, rfl, rfl, Nat.le_refl _, fun _ _ _ => rfl⟩
theorem grown_store8' (w : World) (b : Nat) (s : S8) : w.grownBy (store8 w b s) (some b) :=
  ⟨os_store8 s, tape_store8 s, output_store8 s, by rw [size_store8]; exact Nat.le_refl _, fun k _ hk => heap_store8_other s (fun e => hk (by rw [e]))⟩

def init256 : S8 := ⟨1779033703, 3144134277, 1013904242, 2773480762, 1359893119, 2600822924, 528734635, 1541459225⟩
def init224 : S8 := ⟨3238371032, 914150663, 812702999, 4144912697, 4290775857, 1750603025, 1694076839, 3204075428⟩
def initOf (is : Bool) : S8 := if is then init224 else init256

set_option maxHeartbeats 2000000 in
theorem reset_any (b : Nat) (h : S8) (x : List Int) (nx ln : Int) (is : Bool) (w : World) (d : Dig w b h x nx ln is) :
    Calls Try.prog 27 #[.pointer (some ⟨b, 0, none⟩)] w fun e w' =>
      e = .returned (.tuple #[]) ∧ Dig w' b (initOf is) x 0 0 is ∧ w.grownBy w' (some b) := by
  have c0 : w.cell? ⟨b, 0, none⟩ = some (.int .u32 h.a) := d.cell 0
  have c1 : w.cell? ⟨b, 1, none⟩ = some (.int .u32 h.b) := d.cell 1
  have c2 : w.cell? ⟨b, 2, none⟩ = some (.int .u32 h.c) := d.cell 2
  have c3 : w.cell? ⟨b, 3, none⟩ = some (.int .u32 h.d) := d.cell 3
  have c4 : w.cell? ⟨b, 4, none⟩ = some (.int .u32 h.e) := d.cell 4
  have c5 : w.cell? ⟨b, 5, none⟩ = some (.int .u32 h.f) := d.cell 5
  have c6 : w.cell? ⟨b, 6, none⟩ = some (.int .u32 h.g) := d.cell 6
  have c7 : w.cell? ⟨b, 7, none⟩ = some (.int .u32 h.h) := d.cell 7
  have c72 := d.cnx
  have c73 := d.cln
  have c74 := d.cis
  have f0 := d.free 0
  have f1 := d.free 1
  have f2 := d.free 2
  have f3 := d.free 3
  have f4 := d.free 4
  have f5 := d.free 5
  have f6 := d.free 6
  have f7 := d.free 7
  have f72 := d.free 72
  have f73 := d.free 73
  have fin : ∀ s : S8, Dig (((store8 w b s).setCell ⟨b, 72, none⟩ (.int .i64 0)).setCell ⟨b, 73, none⟩ (.int .u64 0)) b s x 0 0 is ∧ w.grownBy (((store8 w b s).setCell ⟨b, 72, none⟩ (.int .i64 0)).setCell ⟨b, 73, none⟩ (.int .u64 0)) (some b) := fun s =>
    ⟨((d.set8 s).set_nx 0).set_ln 0, grown_trans (grown_store8' w b s) (grown_trans (grown_setCell _ b 72 _) (grown_setCell _ b 73 _))⟩
  have FIN := Lib.hid fin
  have D := Lib.hid d
  clear fin d
  cases is with
  | false =>
    go_enter Try.func27, Try.ntmps27
    go_wp2
    go_end0
    exact ⟨rfl, FIN.out init256⟩
  | true =>
    go_enter Try.func27, Try.ntmps27
    go_wp2
    go_end0
    exact ⟨rfl, FIN.out init224⟩

end Go.Proofs.Ytnpoggcpdelmnaa

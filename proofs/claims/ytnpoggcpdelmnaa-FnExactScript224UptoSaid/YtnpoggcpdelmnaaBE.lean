/-
  byteorder.BEPutUint32 and BEPutUint64: four or eight bytes into a row of bytes; RecordApproved.
-/
import Derived.Test.YtnpoggcpdelmnaaDig
namespace Go.Proofs.Ytnpoggcpdelmnaa
open Go.RowKit
set_option linter.unusedVariables false

/-- a row of bytes -/
def bytesC (l : List Int) : Array Value := (l.map (Value.int .u8)).toArray
theorem bytesC_size (l : List Int) : (bytesC l).size = l.length := by simp [bytesC]
theorem bytesC_get (l : List Int) {i : Nat} (h : i < l.length) : (bytesC l)[i]? = some (.int .u8 (l.getD i 0)) := by
  simp [bytesC, h]
theorem bytesC_set (l : List Int) (i : Nat) (v : Int) : (bytesC l).setIfInBounds i (.int .u8 v) = bytesC (l.set i v) := by
  simp [bytesC, List.map_set]

/-- block g of w is a row of bytes -/
def Row (w : World) (g : Nat) (T : TypeId) (l : List Int) : Prop := w.heap[g]? = some (.cells (bytesC l) T (0, 0))
theorem Row.cell {w : World} {g : Nat} {T : TypeId} {l : List Int} (r : Row w g T l) {i : Nat} (h : i < l.length) : w.cell? ⟨g, i, none⟩ = some (.int .u8 (l.getD i 0)) := (cell_of_row w g i _ _ _ r).trans (bytesC_get l h)
theorem Row.free {w : World} {g : Nat} {T : TypeId} {l : List Int} (r : Row w g T l) (i : Nat) : w.frozen? ⟨g, i, none⟩ = false := frozen_of_row w g i _ _ r
theorem Row.set {w : World} {g : Nat} {T : TypeId} {l : List Int} (r : Row w g T l) (i : Nat) (v : Int) : Row (w.setCell ⟨g, i, none⟩ (.int .u8 v)) g T (l.set i v) := by
  unfold Row
  rw [heap_setCell_same w g i _ _ _ r, bytesC_set]
theorem Row.keep {w w' : World} {g : Nat} {T : TypeId} {l : List Int} (r : Row w g T l) (e : w'.heap[g]? = w.heap[g]?) : Row w' g T l := e.trans r

def put4 (l : List Int) (o : Nat) (v : Int) : List Int := (((l.set o (v / 16777216 % 256)).set (o + 1) (v / 65536 % 256)).set (o + 2) (v / 256 % 256)).set (o + 3) (v % 256)
def put8 (l : List Int) (o : Nat) (v : Int) : List Int :=
  (((((((l.set o (v / 72057594037927936 % 256)).set (o + 1) (v / 281474976710656 % 256)).set (o + 2) (v / 1099511627776 % 256)).set (o + 3) (v / 4294967296 % 256)).set (o + 4) (v / 16777216 % 256)).set (o + 5) (v / 65536 % 256)).set (o + 6) (v / 256 % 256)).set (o + 7) (v % 256)
theorem put4_length (l : List Int) (o : Nat) (v : Int) : (put4 l o v).length = l.length := by simp [put4]
theorem put8_length (l : List Int) (o : Nat) (v : Int) : (put8 l o v).length = l.length := by simp [put8]

set_option maxHeartbeats 1000000 in
theorem put32_core (g o len cap : Nat) (T : TypeId) (l : List Int) (v : Int) (w : World) (hlen : 4 ≤ len) (hl : o + 4 ≤ l.length) (r : Row w g T l) :
    Calls Try.prog 57 #[.slice (some ⟨g, o, none⟩) len cap, .int .u32 v] w fun e w' =>
      e = .returned (.tuple #[]) ∧ Row w' g T (put4 l o v) ∧ w.grownBy w' (some g) := by
  have c0 := r.cell (i := o) (by omega)
  have c1 := r.cell (i := o + 1) (by omega)
  have c2 := r.cell (i := o + 2) (by omega)
  have c3 := r.cell (i := o + 3) (by omega)
  have f0 := r.free o
  have f1 := r.free (o + 1)
  have f2 := r.free (o + 2)
  have f3 := r.free (o + 3)
  have R := Lib.hid r
  have i1 : (0 : Int) < (len : Int) := by omega
  have i2 : (1 : Int) < (len : Int) := by omega
  have i3 : (2 : Int) < (len : Int) := by omega
  have i4 : (3 : Int) < (len : Int) := by omega
  clear r
  go_enter Try.func57, Try.ntmps57
  go_wp2
  go_end0
  exact ⟨rfl, (((R.out.set _ _).set _ _).set _ _).set _ _, grown_trans (grown_setCell _ g _ _) (grown_trans (grown_setCell _ g _ _) (grown_trans (grown_setCell _ g _ _) (grown_setCell _ g _ _)))⟩

set_option maxHeartbeats 400000 in
theorem put32_any (g o len cap : Nat) (T : TypeId) (l : List Int) (v : Int) (w : World) (hlen : 4 ≤ len) (hl : o + 4 ≤ l.length) (r : Row w g T l) :
    Calls Try.prog 54 #[.slice (some ⟨g, o, none⟩) len cap, .int .u32 v] w fun e w' =>
      e = .returned (.tuple #[]) ∧ Row w' g T (put4 l o v) ∧ w.grownBy w' (some g) := by
  have H := Lib.hid (put32_core g o len cap T l v w hlen hl r)
  clear r
  go_enter Try.func54, Try.ntmps54
  go_wp2_with (go_at_call 57; refine H.out.mono ?_; rintro e w' ⟨rfl, h1, h2⟩; have H1 := Lib.hid h1; have H2 := Lib.hid h2; clear h1 h2)
  go_end0
  exact ⟨rfl, H1.out, H2.out⟩

set_option maxHeartbeats 2000000 in
theorem put64_core (g o len cap : Nat) (T : TypeId) (l : List Int) (v : Int) (w : World) (hlen : 8 ≤ len) (hl : o + 8 ≤ l.length) (r : Row w g T l) :
    Calls Try.prog 56 #[.slice (some ⟨g, o, none⟩) len cap, .int .u64 v] w fun e w' =>
      e = .returned (.tuple #[]) ∧ Row w' g T (put8 l o v) ∧ w.grownBy w' (some g) := by
  have c0 := r.cell (i := o) (by omega)
  have c1 := r.cell (i := o + 1) (by omega)
  have c2 := r.cell (i := o + 2) (by omega)
  have c3 := r.cell (i := o + 3) (by omega)
  have c4 := r.cell (i := o + 4) (by omega)
  have c5 := r.cell (i := o + 5) (by omega)
  have c6 := r.cell (i := o + 6) (by omega)
  have c7 := r.cell (i := o + 7) (by omega)
  have f0 := r.free o
  have f1 := r.free (o + 1)
  have f2 := r.free (o + 2)
  have f3 := r.free (o + 3)
  have f4 := r.free (o + 4)
  have f5 := r.free (o + 5)
  have f6 := r.free (o + 6)
  have f7 := r.free (o + 7)
  have R := Lib.hid r
  have i1 : (0 : Int) < (len : Int) := by omega
  have i2 : (1 : Int) < (len : Int) := by omega
  have i3 : (2 : Int) < (len : Int) := by omega
  have i4 : (3 : Int) < (len : Int) := by omega
  have i5 : (4 : Int) < (len : Int) := by omega
  have i6 : (5 : Int) < (len : Int) := by omega
  have i7 : (6 : Int) < (len : Int) := by omega
  have i8 : (7 : Int) < (len : Int) := by omega
  clear r
  go_enter Try.func56, Try.ntmps56
  go_wp2
  go_end0
  exact ⟨rfl, (((((((R.out.set _ _).set _ _).set _ _).set _ _).set _ _).set _ _).set _ _).set _ _, grown_trans (grown_setCell _ g _ _) (grown_trans (grown_setCell _ g _ _) (grown_trans (grown_setCell _ g _ _) (grown_trans (grown_setCell _ g _ _) (grown_trans (grown_setCell _ g _ _) (grown_trans (grown_setCell _ g _ _) (grown_trans (grown_setCell _ g _ _) (grown_setCell _ g _ _)))))))⟩

set_option maxHeartbeats 400000 in
theorem put64_any (g o len cap : Nat) (T : TypeId) (l : List Int) (v : Int) (w : World) (hlen : 8 ≤ len) (hl : o + 8 ≤ l.length) (r : Row w g T l) :
    Calls Try.prog 53 #[.slice (some ⟨g, o, none⟩) len cap, .int .u64 v] w fun e w' =>
      e = .returned (.tuple #[]) ∧ Row w' g T (put8 l o v) ∧ w.grownBy w' (some g) := by
  have H := Lib.hid (put64_core g o len cap T l v w hlen hl r)
  clear r
  go_enter Try.func53, Try.ntmps53
  go_wp2_with (go_at_call 56; refine H.out.mono ?_; rintro e w' ⟨rfl, h1, h2⟩; have H1 := Lib.hid h1; have H2 := Lib.hid h2; clear h1 h2)
  go_end0
  exact ⟨rfl, H1.out, H2.out⟩

theorem get_ind (w : World) : (callFunc 51 #[]).run Try.prog w = .ok (.value (.int .u8 0)) w := by kernel_rfl
theorem set_ind (w : World) : (callFunc 52 #[.int .u8 2]).run Try.prog w = .ok (.value (.tuple #[])) w := by kernel_rfl

set_option maxHeartbeats 400000 in
theorem approved_any (w : World) : Calls Try.prog 48 #[] w fun e w' => e = .returned (.tuple #[]) ∧ w = w' := by
  have h1 := get_ind
  have h2 := set_ind
  go_enter Try.func48, Try.ntmps48
  go_wp2
  go_end0
  exact ⟨rfl, rfl⟩

end Go.Proofs.Ytnpoggcpdelmnaa

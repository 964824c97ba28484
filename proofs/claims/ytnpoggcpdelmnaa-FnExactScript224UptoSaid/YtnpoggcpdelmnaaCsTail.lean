/-
  Digest.checkSum, its second part: the words are laid out as bytes.
-/
import Derived.Test.YtnpoggcpdelmnaaCsA
namespace Go.Proofs.Ytnpoggcpdelmnaa
open Go.RowKit
set_option linter.unusedVariables false

/-- the 32 bytes that checkSum returns -/
def digOut (s : S8) (is : Bool) : List Int := if is then put4 (put4 (put4 (put4 (put4 (put4 (put4 (z32) 0 s.a) 4 s.b) 8 s.c) 12 s.d) 16 s.e) 20 s.f) 24 s.g else put4 (put4 (put4 (put4 (put4 (put4 (put4 (put4 (z32) 0 s.a) 4 s.b) 8 s.c) 12 s.d) 16 s.e) 20 s.f) 24 s.g) 28 s.h
theorem digOut_length (s : S8) (is : Bool) : (digOut s is).length = 32 := by
  unfold digOut
  split <;> simp [put4_length, z32]

theorem size32 (l : List Int) (h : l.length = 32) : (Try.prog.info? 46).map (·.size) = some (bytesC l).size := by
  rw [bytesC_size, h]; kernel_rfl
theorem bytesC_all (l : List Int) : (bytesC l).all (·.oneCell') = true :=
  Array.all_eq_true_iff_forall_mem.2 fun v hv => by
    simp only [bytesC, List.mem_toArray, List.mem_map] at hv
    obtain ⟨z, _, rfl⟩ := hv
    rfl
theorem grown_of_new {w w1 : World} {g r : Nat} (hg : g = w.heap.size) (hgr : g ≠ r) (h : w.grownBy w1 (some g)) (cs : Array Value) : w.grownBy (w1.setRow r cs) (some r) :=
  ⟨h.os, h.tape, h.output, by simpa [World.setRow] using h.size, fun k hk hkr => by
    rw [setRow_other w1 r k cs (fun e => hkr (by rw [e]))]
    exact h.block k hk (fun e => by cases e; omega)⟩

def FC (c : Nat → Value) (b r : Nat) : Act :=
  ⟨#[.pointer (some ⟨b, 0, none⟩), c 1, .pointer (some ⟨r, 0, none⟩), c 3, c 4, c 5, c 6, c 7, c 8, c 9, c 10, c 11, c 12, c 13, c 14, c 15, c 16, c 17, c 18, c 19, c 20, c 21, c 22, c 23, c 24, c 25, c 26, c 27, c 28, c 29, c 30, c 31, c 32, c 33, c 34, c 35, c 36, c 37, c 38, c 39, c 40, c 41, c 42, c 43, c 44, c 45, c 46, c 47, c 48, c 49, c 50, c 51, c 52, c 53, c 54, c 55, c 56, c 57, c 58, c 59, c 60, c 61, c 62, c 63, c 64, c 65, c 66, c 67, c 68, c 69, c 70, c 71, c 72, c 73, c 74, c 75, c 76, c 77, c 78, c 79, c 80, c 81, c 82, c 83, c 84, c 85, c 86, c 87, c 88, c 89, c 90, c 91, c 92, c 93, c 94, c 95, c 96, c 97, c 98, c 99, c 100, c 101, c 102, c 103], []⟩

set_option maxRecDepth 100000 in
set_option maxHeartbeats 4000000 in
theorem cs_tail (c : Nat → Value) (b r : Nat) (s : S8) (x : List Int) (nx ln : Int) (is : Bool) (w : World) (R : Ending → World → Prop) (d : Dig w b s x nx ln is) (hr : Row w r 46 z32) (hrlt : r < w.heap.size)
    (hbr : b ≠ r) (hR : ∀ w', w.grownBy w' (some r) → R (.returned (.agg (bytesC (digOut s is)))) w') :
    Code.wp Try.prog csTail (bodyPost Try.prog Try.f49 R) (FC c b r) w := by
  have HROW := Lib.hid hr
  have HRR := Lib.hid hR
  have hlt := d.lt
  have hz1 := zero32
  conv => arg 2; whnf
  unfold FC
  have d0 : Dig (w.alloc (.cells (bytesC z32) 46)) b s x nx ln is := d.keep (Below.heap_alloc w _ b hlt)
  have r0 : Row (w.alloc (.cells (bytesC z32) 46)) w.heap.size 46 z32 := heap_alloc_new w _
  obtain ⟨g, hg⟩ : ∃ g, g = w.heap.size := ⟨_, rfl⟩
  rw [← hg] at r0
  have hgb : g ≠ b := by omega
  have hgr : g ≠ r := by omega
  have HR0 := Lib.hid r0
  have HD0 := Lib.hid d0
  have HG0 := Lib.hid (World.grownBy_alloc w (.cells (bytesC z32) 46) (some g))
  have HGG := Lib.hid hg
  clear hR d d0 r0 hr hg
  go_wp2_with fail
  rw [← HGG.out]
  generalize w.alloc (.cells (bytesC z32) 46) = w0 at HR0 HD0 HG0 ⊢
  have ck0 : w0.cell? ⟨b, 0, none⟩ = some (.int .u32 s.a) := HD0.out.cell 0
  refine Plan.wp_region_quiet_tail 6 (by kernel_rfl) (by kernel_rfl) ?_
  simp only [List.take_succ_cons, List.take_zero, List.drop_succ_cons, List.drop_zero]
  repeat (go_big_quiet_step (fail))
  refine wpQuiet_nil ?_
  go_wp2_with fail
  refine (put32_any g 0 32 32 46 _ s.a w0.drew (by omega) (by simp [z32]) (Row.keep (w' := w0.drew) HR0.out rfl)).mono ?_
  rintro e w1 ⟨rfl, r', g'⟩
  have d' := HD0.out.keep (w' := w1) (g'.block b (HD0.out.lt) (fun e => hgb (by simpa using e.symm)))
  have HR1 := Lib.hid r'
  have HD1 := Lib.hid d'
  have HG1 := Lib.hid (grown_trans HG0.out (grown_trans (grown_drew _ _) g'))
  have ck1 : w1.cell? ⟨b, 1, none⟩ = some (.int .u32 s.b) := d'.cell 1
  have cis1 := d'.cis
  clear r' d' g'
  go_wp2_with fail
  refine Plan.wp_region_quiet_tail 6 (by kernel_rfl) (by kernel_rfl) ?_
  simp only [List.take_succ_cons, List.take_zero, List.drop_succ_cons, List.drop_zero]
  repeat (go_big_quiet_step (fail))
  refine wpQuiet_nil ?_
  go_wp2_with fail
  refine (put32_any g 4 28 28 46 _ s.b w1.drew (by omega) (by simp [put4_length, z32]) (Row.keep (w' := w1.drew) HR1.out rfl)).mono ?_
  rintro e w2 ⟨rfl, r', g'⟩
  have d' := HD1.out.keep (w' := w2) (g'.block b (HD1.out.lt) (fun e => hgb (by simpa using e.symm)))
  have HR2 := Lib.hid r'
  have HD2 := Lib.hid d'
  have HG2 := Lib.hid (grown_trans HG1.out (grown_trans (grown_drew _ _) g'))
  have ck2 : w2.cell? ⟨b, 2, none⟩ = some (.int .u32 s.c) := d'.cell 2
  have cis2 := d'.cis
  clear r' d' g'
  go_wp2_with fail
  refine Plan.wp_region_quiet_tail 6 (by kernel_rfl) (by kernel_rfl) ?_
  simp only [List.take_succ_cons, List.take_zero, List.drop_succ_cons, List.drop_zero]
  repeat (go_big_quiet_step (fail))
  refine wpQuiet_nil ?_
  go_wp2_with fail
  refine (put32_any g 8 24 24 46 _ s.c w2.drew (by omega) (by simp [put4_length, z32]) (Row.keep (w' := w2.drew) HR2.out rfl)).mono ?_
  rintro e w3 ⟨rfl, r', g'⟩
  have d' := HD2.out.keep (w' := w3) (g'.block b (HD2.out.lt) (fun e => hgb (by simpa using e.symm)))
  have HR3 := Lib.hid r'
  have HD3 := Lib.hid d'
  have HG3 := Lib.hid (grown_trans HG2.out (grown_trans (grown_drew _ _) g'))
  have ck3 : w3.cell? ⟨b, 3, none⟩ = some (.int .u32 s.d) := d'.cell 3
  have cis3 := d'.cis
  clear r' d' g'
  go_wp2_with fail
  refine Plan.wp_region_quiet_tail 6 (by kernel_rfl) (by kernel_rfl) ?_
  simp only [List.take_succ_cons, List.take_zero, List.drop_succ_cons, List.drop_zero]
  repeat (go_big_quiet_step (fail))
  refine wpQuiet_nil ?_
  go_wp2_with fail
  refine (put32_any g 12 20 20 46 _ s.d w3.drew (by omega) (by simp [put4_length, z32]) (Row.keep (w' := w3.drew) HR3.out rfl)).mono ?_
  rintro e w4 ⟨rfl, r', g'⟩
  have d' := HD3.out.keep (w' := w4) (g'.block b (HD3.out.lt) (fun e => hgb (by simpa using e.symm)))
  have HR4 := Lib.hid r'
  have HD4 := Lib.hid d'
  have HG4 := Lib.hid (grown_trans HG3.out (grown_trans (grown_drew _ _) g'))
  have ck4 : w4.cell? ⟨b, 4, none⟩ = some (.int .u32 s.e) := d'.cell 4
  have cis4 := d'.cis
  clear r' d' g'
  go_wp2_with fail
  refine Plan.wp_region_quiet_tail 6 (by kernel_rfl) (by kernel_rfl) ?_
  simp only [List.take_succ_cons, List.take_zero, List.drop_succ_cons, List.drop_zero]
  repeat (go_big_quiet_step (fail))
  refine wpQuiet_nil ?_
  go_wp2_with fail
  refine (put32_any g 16 16 16 46 _ s.e w4.drew (by omega) (by simp [put4_length, z32]) (Row.keep (w' := w4.drew) HR4.out rfl)).mono ?_
  rintro e w5 ⟨rfl, r', g'⟩
  have d' := HD4.out.keep (w' := w5) (g'.block b (HD4.out.lt) (fun e => hgb (by simpa using e.symm)))
  have HR5 := Lib.hid r'
  have HD5 := Lib.hid d'
  have HG5 := Lib.hid (grown_trans HG4.out (grown_trans (grown_drew _ _) g'))
  have ck5 : w5.cell? ⟨b, 5, none⟩ = some (.int .u32 s.f) := d'.cell 5
  have cis5 := d'.cis
  clear r' d' g'
  go_wp2_with fail
  refine Plan.wp_region_quiet_tail 6 (by kernel_rfl) (by kernel_rfl) ?_
  simp only [List.take_succ_cons, List.take_zero, List.drop_succ_cons, List.drop_zero]
  repeat (go_big_quiet_step (fail))
  refine wpQuiet_nil ?_
  go_wp2_with fail
  refine (put32_any g 20 12 12 46 _ s.f w5.drew (by omega) (by simp [put4_length, z32]) (Row.keep (w' := w5.drew) HR5.out rfl)).mono ?_
  rintro e w6 ⟨rfl, r', g'⟩
  have d' := HD5.out.keep (w' := w6) (g'.block b (HD5.out.lt) (fun e => hgb (by simpa using e.symm)))
  have HR6 := Lib.hid r'
  have HD6 := Lib.hid d'
  have HG6 := Lib.hid (grown_trans HG5.out (grown_trans (grown_drew _ _) g'))
  have ck6 : w6.cell? ⟨b, 6, none⟩ = some (.int .u32 s.g) := d'.cell 6
  have cis6 := d'.cis
  clear r' d' g'
  go_wp2_with fail
  refine Plan.wp_region_quiet_tail 6 (by kernel_rfl) (by kernel_rfl) ?_
  simp only [List.take_succ_cons, List.take_zero, List.drop_succ_cons, List.drop_zero]
  repeat (go_big_quiet_step (fail))
  refine wpQuiet_nil ?_
  go_wp2_with fail
  refine (put32_any g 24 8 8 46 _ s.g w6.drew (by omega) (by simp [put4_length, z32]) (Row.keep (w' := w6.drew) HR6.out rfl)).mono ?_
  rintro e w7 ⟨rfl, r', g'⟩
  have d' := HD6.out.keep (w' := w7) (g'.block b (HD6.out.lt) (fun e => hgb (by simpa using e.symm)))
  have HR7 := Lib.hid r'
  have HD7 := Lib.hid d'
  have HG7 := Lib.hid (grown_trans HG6.out (grown_trans (grown_drew _ _) g'))
  have ck7 : w7.cell? ⟨b, 7, none⟩ = some (.int .u32 s.h) := d'.cell 7
  have cis7 := d'.cis
  clear r' d' g'

  cases is with
  | true =>
    have hrow : Row w7 r 46 z32 := Row.keep HROW.out (HG7.out.block r hrlt (fun e => hgr (by simpa using e.symm)))
    have HROW2 := Lib.hid hrow
    clear hrow
    go_wp2_with (first | (refine wpList_load_row rfl 46 (.tmp 7) rfl g rfl 46 (bytesC (put4 (put4 (put4 (put4 (put4 (put4 (put4 (z32) 0 s.a) 4 s.b) 8 s.c) 12 s.d) 16 s.e) 20 s.f) 24 s.g)) (0, 0) _ HR7.out Try.underlying46 rfl (size32 _ (by simp [put4_length, z32])) ?_) | (refine wpList_store_row rfl 46 (.tmp 2) (.tmp 103) rfl r (bytesC (put4 (put4 (put4 (put4 (put4 (put4 (put4 (z32) 0 s.a) 4 s.b) 8 s.c) 12 s.d) 16 s.e) 20 s.f) 24 s.g)) rfl rfl 46 (bytesC z32) HROW2.out (size32 _ (by simp [put4_length, z32])) (by rw [bytesC_size, bytesC_size]; simp [put4_length, z32]) (bytesC_all _) ?_))
    refine bodyPost_ret (results_cell_row rfl _ _ r 46 (bytesC (put4 (put4 (put4 (put4 (put4 (put4 (put4 (z32) 0 s.a) 4 s.b) 8 s.c) 12 s.d) 16 s.e) 20 s.f) 24 s.g)) (0, 0) _ rfl (setRow_heap _ r _ _ _ _ HROW2.out) Try.underlying46 rfl (size32 _ (by simp [put4_length, z32]))) rfl ?_
    refine HRR.out _ ?_
    exact grown_of_new HGG.out hgr (grown_trans HG7.out (grown_refl _ _)) (bytesC (put4 (put4 (put4 (put4 (put4 (put4 (put4 (z32) 0 s.a) 4 s.b) 8 s.c) 12 s.d) 16 s.e) 20 s.f) 24 s.g))
  | false =>
    go_wp2_with fail
    refine Plan.wp_region_quiet_tail 6 (by kernel_rfl) (by kernel_rfl) ?_
    simp only [List.take_succ_cons, List.take_zero, List.drop_succ_cons, List.drop_zero]
    repeat (go_big_quiet_step (fail))
    refine wpQuiet_nil ?_
    go_wp2_with fail
    refine (put32_any g 28 4 4 46 _ s.h w7.drew (by omega) (by simp [put4_length, z32]) (Row.keep (w' := w7.drew) HR7.out rfl)).mono ?_
    rintro e w8 ⟨rfl, r', g'⟩
    have d' := HD7.out.keep (w' := w8) (g'.block b (HD7.out.lt) (fun e => hgb (by simpa using e.symm)))
    have HR8 := Lib.hid r'
    have HD8 := Lib.hid d'
    have HG8 := Lib.hid (grown_trans HG7.out (grown_trans (grown_drew _ _) g'))
    have cis8 := d'.cis
    clear r' d' g'
    have hrow : Row w8 r 46 z32 := Row.keep HROW.out (HG8.out.block r hrlt (fun e => hgr (by simpa using e.symm)))
    have HROW2 := Lib.hid hrow
    clear hrow
    go_wp2_with (first | (refine wpList_load_row rfl 46 (.tmp 7) rfl g rfl 46 (bytesC (put4 (put4 (put4 (put4 (put4 (put4 (put4 (put4 (z32) 0 s.a) 4 s.b) 8 s.c) 12 s.d) 16 s.e) 20 s.f) 24 s.g) 28 s.h)) (0, 0) _ HR8.out Try.underlying46 rfl (size32 _ (by simp [put4_length, z32])) ?_) | (refine wpList_store_row rfl 46 (.tmp 2) (.tmp 103) rfl r (bytesC (put4 (put4 (put4 (put4 (put4 (put4 (put4 (put4 (z32) 0 s.a) 4 s.b) 8 s.c) 12 s.d) 16 s.e) 20 s.f) 24 s.g) 28 s.h)) rfl rfl 46 (bytesC z32) HROW2.out (size32 _ (by simp [put4_length, z32])) (by rw [bytesC_size, bytesC_size]; simp [put4_length, z32]) (bytesC_all _) ?_))
    refine bodyPost_ret (results_cell_row rfl _ _ r 46 (bytesC (put4 (put4 (put4 (put4 (put4 (put4 (put4 (put4 (z32) 0 s.a) 4 s.b) 8 s.c) 12 s.d) 16 s.e) 20 s.f) 24 s.g) 28 s.h)) (0, 0) _ rfl (setRow_heap _ r _ _ _ _ HROW2.out) Try.underlying46 rfl (size32 _ (by simp [put4_length, z32]))) rfl ?_
    refine HRR.out _ ?_
    exact grown_of_new HGG.out hgr (grown_trans HG8.out (grown_refl _ _)) (bytesC (put4 (put4 (put4 (put4 (put4 (put4 (put4 (put4 (z32) 0 s.a) 4 s.b) 8 s.c) 12 s.d) 16 s.e) 20 s.f) 24 s.g) 28 s.h))


end Go.Proofs.Ytnpoggcpdelmnaa

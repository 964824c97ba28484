/-
  impl.step: a step of a script.
-/
import Derived.Test.YtnpoggcpdelmnaaApp
import Derived.Test.YtnpoggcpdelmnaaClone
namespace Go.Proofs.Ytnpoggcpdelmnaa
open Go.RowKit
set_option linter.unusedVariables false

theorem method_reset (b : Nat) (w : World) : (method 190 48 (.pointer (some ⟨b, 0, none⟩)) "Reset").run Try.prog w = .ok (27, .pointer (some ⟨b, 0, none⟩)) w := by kernel_rfl

/-- what a hash was given behind a step -/
def nextM (k : Int) (D M : List Int) : List Int := if k = 0 then M ++ D else if k = 2 then [] else M
/-- what a step returns -/
def gotM (K : Nat → Int) (is : Bool) (k : Int) (D M : List Int) : List Int := if k = 1 then D ++ digest K is M else []

/-- what step leaves -/
def Stepped (K : Nat → Int) (is : Bool) (w0 w : World) (b : Nat) (k : Int) (D M : List Int) (e : Ending) (w' : World) : Prop :=
  ∃ b' vg, e = .returned (.tuple #[hash b', vg]) ∧ Has K w0 w' b' is (nextM k D M) ∧ OwnB w' w.heap.size vg (gotM K is k D M) ∧ w.grownBy w' (some b) ∧ (b' = b ∨ w.heap.size ≤ b') ∧ vg.ownBlock ≠ some b'

theorem grown_own {w w1 w2 : World} {r row : Option Nat} (h : w.grownBy w1 r) (g : w1.grownBy w2 row) (hr : ∀ k, row = some k → w.heap.size ≤ k) : w.grownBy w2 r :=
  ⟨g.os.trans h.os, g.tape.trans h.tape, g.output.trans h.output, Nat.le_trans h.size g.size, fun j hj hjb => by
    rw [g.block j (Nat.lt_of_lt_of_le hj h.size) (fun e => by have := hr j e.symm; omega), h.block j hj hjb]⟩

set_option maxRecDepth 100000 in
set_option maxHeartbeats 1000000 in
theorem step_write (K : Nat → Int) (is : Bool) (w0 w : World) (b : Nat) (vd : Value) (D M : List Int) (hh : Has K w0 w b is M) (hd : Bts w0 vd D) (hK : KAt w0 K) (hz : D.length ≤ 140737488351232) :
    Calls Try.prog 16 #[hash b, .agg #[.int .i64 0, vd]] w (Stepped K is w0 w b 0 D M) := by
  have hA := hh.keep (World.grownBy_alloc w (.cells #[.int .i64 0, vd] 32) none) (fun k e => by cases e)
  have gA : w.grownBy (w.alloc (.cells #[.int .i64 0, vd] 32)) (some b) := World.grownBy_alloc w _ _
  have hblt := hh.dig.lt
  have hm1 := method_write
  have hm2 := method_sum
  have hm3 := method_reset
  have hm4 := method_clone
  have hm5 := is_cloner
  have hm6 := nilAhead_sum
  have HBD := Lib.hid hd
  obtain ⟨a0, c0, rfl, n0, m0, s0⟩ := hd
  have HW := Lib.hid (write_has hA hK s0 n0 m0)
  have HA := Lib.hid hA
  have GA := Lib.hid gA
  have HK := Lib.hid hK
  have S0 := Lib.hid s0
  clear hh hK s0 hA gA
  go_enter Try.func16, Try.ntmps16
  go_wp2_with (go_at_call 47; refine HW.out.mono ?_; rintro e w1 ⟨rfl, h1, g1⟩; have H1 := Lib.hid h1; have G1 := Lib.hid g1; clear h1 g1)
  go_ret2
  exact ⟨b, _, rfl, H1.out, ownB_nil _ _, grown_trans GA.out G1.out, .inl rfl, by simp [Value.ownBlock]⟩

set_option maxRecDepth 100000 in
set_option maxHeartbeats 1000000 in
theorem step_reset (K : Nat → Int) (is : Bool) (w0 w : World) (b : Nat) (vd : Value) (D M : List Int) (hh : Has K w0 w b is M) (hd : Bts w0 vd D) (hK : KAt w0 K) (hz : D.length ≤ 140737488351232) :
    Calls Try.prog 16 #[hash b, .agg #[.int .i64 2, vd]] w (Stepped K is w0 w b 2 D M) := by
  have hA := hh.keep (World.grownBy_alloc w (.cells #[.int .i64 2, vd] 32) none) (fun k e => by cases e)
  have gA : w.grownBy (w.alloc (.cells #[.int .i64 2, vd] 32)) (some b) := World.grownBy_alloc w _ _
  have hblt := hh.dig.lt
  have hm1 := method_write
  have hm2 := method_sum
  have hm3 := method_reset
  have hm4 := method_clone
  have hm5 := is_cloner
  have hm6 := nilAhead_sum
  have HBD := Lib.hid hd
  obtain ⟨a0, c0, rfl, n0, m0, s0⟩ := hd
  have HR := Lib.hid (show Calls Try.prog 27 #[.pointer (some ⟨b, 0, none⟩)] (w.alloc (.cells #[.int .i64 2, .slice a0 D.length c0] 32)) fun e w' => e = .returned (.tuple #[]) ∧ Has K w0 w' b is [] ∧ (w.alloc (.cells #[.int .i64 2, .slice a0 D.length c0] 32)).grownBy w' (some b) by
    obtain ⟨x, d, hx⟩ := hA.dig
    exact (reset_any b _ x _ _ is _ d).mono fun e w' ⟨he, h1, h2⟩ => ⟨he, ⟨hA.bel.grown h2 (fun k e => by rw [← Option.some.inj e]; exact hA.lo), hA.lo, ⟨x, h1, fun i hi => absurd hi (by simp)⟩⟩, h2⟩)
  have HA := Lib.hid hA
  have GA := Lib.hid gA
  have HK := Lib.hid hK
  have S0 := Lib.hid s0
  clear hh hK s0 hA gA
  go_enter Try.func16, Try.ntmps16
  go_wp2_with (go_at_call 27; refine HR.out.mono ?_; rintro e w1 ⟨rfl, h1, g1⟩; have H1 := Lib.hid h1; have G1 := Lib.hid g1; clear h1 g1)
  go_ret2
  exact ⟨b, _, rfl, H1.out, ownB_nil _ _, grown_trans GA.out G1.out, .inl rfl, by simp [Value.ownBlock]⟩

set_option maxRecDepth 100000 in
set_option maxHeartbeats 1000000 in
theorem step_clone (K : Nat → Int) (is : Bool) (w0 w : World) (b : Nat) (vd : Value) (D M : List Int) (hh : Has K w0 w b is M) (hd : Bts w0 vd D) (hK : KAt w0 K) (hz : D.length ≤ 140737488351232) :
    Calls Try.prog 16 #[hash b, .agg #[.int .i64 3, vd]] w (Stepped K is w0 w b 3 D M) := by
  have hA := hh.keep (World.grownBy_alloc w (.cells #[.int .i64 3, vd] 32) none) (fun k e => by cases e)
  have gA : w.grownBy (w.alloc (.cells #[.int .i64 3, vd] 32)) (some b) := World.grownBy_alloc w _ _
  have hblt := hh.dig.lt
  have hm1 := method_write
  have hm2 := method_sum
  have hm3 := method_reset
  have hm4 := method_clone
  have hm5 := is_cloner
  have hm6 := nilAhead_sum
  have HBD := Lib.hid hd
  obtain ⟨a0, c0, rfl, n0, m0, s0⟩ := hd
  have HC := Lib.hid (clone_has hA)
  have HA := Lib.hid hA
  have GA := Lib.hid gA
  have HK := Lib.hid hK
  have S0 := Lib.hid s0
  clear hh hK s0 hA gA
  go_enter Try.func16, Try.ntmps16
  go_wp2_with (go_at_call 44; refine HC.out.mono ?_; rintro e w1 ⟨rfl, h1, h2, g1⟩; rw [World.size_alloc] at h2; have H1 := Lib.hid h1; have H2 := Lib.hid h2; have G1 := Lib.hid g1; clear h1 h2 g1)
  go_ret2
  exact ⟨_, _, rfl, H2.out, ownB_nil _ _, grown_trans GA.out (grown_mono G1.out _), .inr (Nat.le_succ _), by simp [Value.ownBlock]⟩

set_option maxRecDepth 100000 in
set_option maxHeartbeats 1000000 in
theorem step_leave (K : Nat → Int) (is : Bool) (w0 w : World) (b : Nat) (vd : Value) (D M : List Int) (hh : Has K w0 w b is M) (hd : Bts w0 vd D) (hK : KAt w0 K) (hz : D.length ≤ 140737488351232) :
    Calls Try.prog 16 #[hash b, .agg #[.int .i64 4, vd]] w (Stepped K is w0 w b 4 D M) := by
  have hA := hh.keep (World.grownBy_alloc w (.cells #[.int .i64 4, vd] 32) none) (fun k e => by cases e)
  have gA : w.grownBy (w.alloc (.cells #[.int .i64 4, vd] 32)) (some b) := World.grownBy_alloc w _ _
  have hblt := hh.dig.lt
  have hm1 := method_write
  have hm2 := method_sum
  have hm3 := method_reset
  have hm4 := method_clone
  have hm5 := is_cloner
  have hm6 := nilAhead_sum
  have HBD := Lib.hid hd
  obtain ⟨a0, c0, rfl, n0, m0, s0⟩ := hd
  have HC := Lib.hid (clone_has hA)
  have HCL := Lib.hid (fun w1 (g : (w.alloc (.cells #[.int .i64 4, .slice a0 D.length c0] 32)).grownBy w1 none) => g.cell (a := ⟨w.heap.size, 1, none⟩) (v := .slice a0 D.length c0) (by rw [cell_of_row _ _ 1 _ _ _ (heap_alloc_new w _)]; rfl) (by simp))
  have HA := Lib.hid hA
  have GA := Lib.hid gA
  have HK := Lib.hid hK
  have S0 := Lib.hid s0
  clear hh hK s0 hA gA
  go_enter Try.func16, Try.ntmps16
  go_wp2_with (go_at_call 44; refine HC.out.mono ?_; rintro e w1 ⟨rfl, h1, h2, g1⟩; rw [World.size_alloc] at h2; have hcl := HCL.out w1 g1; have H1 := Lib.hid h1; have H2 := Lib.hid h2; have G1 := Lib.hid g1; clear h1 h2 g1)
  refine (write_has H2.out HK.out S0.out n0 m0).mono ?_
  rintro e w2 ⟨rfl, h3, g3⟩
  have H3 := Lib.hid (H1.out.keep g3 (fun k e => by have := Option.some.inj e; subst this; exact ⟨H2.out.lo, by omega⟩))
  have G3 := Lib.hid (grown_own (grown_trans GA.out (grown_mono G1.out _)) g3 (fun k e => by have := Option.some.inj e; omega))
  clear h3 g3
  go_wp2_with fail
  go_ret2
  exact ⟨b, _, rfl, H3.out, ownB_nil _ _, G3.out, .inl rfl, by simp [Value.ownBlock]⟩

set_option maxRecDepth 100000 in
set_option maxHeartbeats 1000000 in
theorem step_other (K : Nat → Int) (is : Bool) (w0 w : World) (b : Nat) (kd : Int) (k0 : kd ≠ 0) (k1 : kd ≠ 1) (k2 : kd ≠ 2) (k3 : kd ≠ 3) (k4 : kd ≠ 4) (vd : Value) (D M : List Int) (hh : Has K w0 w b is M) (hd : Bts w0 vd D) (hK : KAt w0 K) (hz : D.length ≤ 140737488351232) :
    Calls Try.prog 16 #[hash b, .agg #[.int .i64 kd, vd]] w (Stepped K is w0 w b kd D M) := by
  have hA := hh.keep (World.grownBy_alloc w (.cells #[.int .i64 kd, vd] 32) none) (fun k e => by cases e)
  have gA : w.grownBy (w.alloc (.cells #[.int .i64 kd, vd] 32)) (some b) := World.grownBy_alloc w _ _
  have hblt := hh.dig.lt
  have hm1 := method_write
  have hm2 := method_sum
  have hm3 := method_reset
  have hm4 := method_clone
  have hm5 := is_cloner
  have hm6 := nilAhead_sum
  have HBD := Lib.hid hd
  obtain ⟨a0, c0, rfl, n0, m0, s0⟩ := hd
  have t0 : (kd == 0) = false := by simpa using k0
  have t1 : (kd == 1) = false := by simpa using k1
  have t2 : (kd == 2) = false := by simpa using k2
  have t3 : (kd == 3) = false := by simpa using k3
  have t4 : (kd == 4) = false := by simpa using k4
  have HA := Lib.hid hA
  have GA := Lib.hid gA
  have HK := Lib.hid hK
  have S0 := Lib.hid s0
  clear hh hK s0 hA gA
  go_enter Try.func16, Try.ntmps16
  go_wp2_with fail
  go_ret2
  refine ⟨b, _, rfl, ?_, ?_, GA.out, .inl rfl, by simp [Value.ownBlock]⟩
  · simp only [nextM, if_neg k0, if_neg k2]; exact HA.out
  · simp only [gotM, if_neg k1]; exact ownB_nil _ _

set_option maxRecDepth 100000 in
set_option maxHeartbeats 1000000 in
theorem step_sum (K : Nat → Int) (is : Bool) (w0 w : World) (b : Nat) (vd : Value) (D M : List Int) (hh : Has K w0 w b is M) (hd : Bts w0 vd D) (hK : KAt w0 K) (hz : D.length ≤ 140737488351232) :
    Calls Try.prog 16 #[hash b, .agg #[.int .i64 1, vd]] w (Stepped K is w0 w b 1 D M) := by
  have hA := hh.keep (World.grownBy_alloc w (.cells #[.int .i64 1, vd] 32) none) (fun k e => by cases e)
  have gA : w.grownBy (w.alloc (.cells #[.int .i64 1, vd] 32)) (some b) := World.grownBy_alloc w _ _
  have hblt := hh.dig.lt
  have hm1 := method_write
  have hm2 := method_sum
  have hm3 := method_reset
  have hm4 := method_clone
  have hm5 := is_cloner
  have hm6 := nilAhead_sum
  have HBD := Lib.hid hd
  obtain ⟨a0, c0, rfl, n0, m0, s0⟩ := hd
  obtain ⟨wA, hwA⟩ : ∃ wA, wA = w.alloc (.cells #[.int .i64 1, .slice a0 D.length c0] 32) := ⟨_, rfl⟩
  have hszA : wA.heap.size = w.heap.size + 1 := by rw [hwA, World.size_alloc]
  have hcA : wA.heap[w.heap.size]? = some (.cells #[.int .i64 1, .slice a0 D.length c0] 32) := by rw [hwA]; exact heap_alloc_new w _
  rw [← hwA] at hA gA
  have hB : Has K w0 (wA.drew.alloc (.cells #[] 5)) b is M := (hA.keep (grown_drew wA none) (fun k e => by cases e)).keep (World.grownBy_alloc wA.drew (.cells #[] 5) none) (fun k e => by cases e)
  have gB : w.grownBy (wA.drew.alloc (.cells #[] 5)) (some b) := grown_own (grown_own gA (grown_drew wA none) (fun k e => by cases e)) (World.grownBy_alloc wA.drew (.cells #[] 5) none) (fun k e => by cases e)
  obtain ⟨v5, w5, hr5, ho5, hg5, hb5⟩ := append_bts (wA.drew.alloc (.cells #[] 5)) w.heap.size _ _ [] D 30 (ownB_empty wA.drew w.heap.size (by show w.heap.size ≤ wA.heap.size; omega)) (HBD.out.bel hB.bel) (by rw [World.size_alloc]; show w.heap.size ≤ wA.heap.size + 1; omega) (by simp; omega)
  rw [List.nil_append] at ho5
  have hg5' : (wA.drew.alloc (.cells #[] 5)).grownBy w5 (some (w.heap.size + 1)) := by rw [← hszA]; exact hg5
  have h5 : Has K w0 w5 b is M := hB.keep hg5' (fun k e => by have := Option.some.inj e; have := hB.lo; have := hB.bel.size; exact ⟨by have := hh.bel.size; omega, by omega⟩)
  have hne5 : v5.ownBlock ≠ some b := fun e => by
    have := (World.ownsRow.lt ho5 _ e).1
    omega
  have g5 : w.grownBy w5 (some b) := grown_own gB hg5' (fun k e => by have := Option.some.inj e; omega)
  have HS := Lib.hid (sum_has (base := w.heap.size) h5 hK ho5 g5.size hh.bel.size hne5 (by omega))
  have HG := Lib.hid (fun w6 (g : w5.grownBy w6 v5.ownBlock) => grown_own g5 g (fun k e => (World.ownsRow.lt ho5 k e).1))
  have hsz2 : wA.drew.heap.size = w.heap.size + 1 := hszA
  rw [hsz2] at hr5
  have hcD : wA.drew.cell? ⟨w.heap.size, 1, none⟩ = some (.slice a0 D.length c0) := by
    show wA.cell? ⟨w.heap.size, 1, none⟩ = _
    simp [World.cell?, hcA]
  have hcB : (wA.drew.alloc (.cells #[] 5)).cell? ⟨w.heap.size, 1, none⟩ = some (.slice a0 D.length c0) := by
    rw [World.cell?_alloc_lt _ _ _ (by show w.heap.size < wA.heap.size; omega)]; exact hcD
  rw [hwA] at hr5 hcD hcB
  have HR5 := Lib.hid hr5
  clear hr5 ho5 hg5 hg5' hb5 h5 hne5 hB gB g5 hwA hcA hszA hsz2
  have HA := Lib.hid hA
  have GA := Lib.hid gA
  have HK := Lib.hid hK
  have S0 := Lib.hid s0
  clear hh hK s0 hA gA
  go_enter Try.func16, Try.ntmps16
  go_wp2_with fail
  go_region_law (first | (refine step_append_run rfl (.tmp 22) (.tmp 24) 30 rfl _ _ rfl rfl v5 w5 HR5.out ?_) | (go_simp; go_at_call 46; refine HS.out.mono ?_; rintro e w6 ⟨v6, rfl, h1, h2, h3⟩; have H6 := Lib.hid h1; have H7 := Lib.hid h2; have G6 := Lib.hid (HG.out w6 h3); clear h1 h2 h3))
  all_goals (go_wp2_with fail)
  all_goals (go_ret2)
  all_goals (exact ⟨b, _, rfl, H7.out, H6.out, G6.out, .inl rfl, fun e => by
    have := (World.ownsRow.lt H6.out _ e).1
    omega⟩)

end Go.Proofs.Ytnpoggcpdelmnaa

/-
  impl.Onto224: the checksum behind a prefix; impl.Kept224: the copy that was written.
-/
import Derived.Test.YtaknphghhlljmabApp
import Derived.Test.YtaknphghhlljmabSteps224
namespace Go.Proofs.Ytaknphghhlljmab
open Go.RowKit
set_option linter.unusedVariables false

set_option maxRecDepth 100000 in
set_option maxHeartbeats 2000000 in
theorem onto224_any (K : Nat → Int) (v0 v1 : Value) (P D : List Int) (w : World) (h0 : Bts w v0 P) (h1 : Bts w v1 D) (hK : KAt w K) (hp : P.length ≤ 140737488351232) :
    Calls Try.prog 21 #[v0, v1] w fun e w' =>
      ∃ v, e = .returned v ∧ NewB w w' v (P ++ digest K true D) := by
  obtain ⟨a0, c0, rfl, n0, m0, s0⟩ := h0
  obtain ⟨a1, c1, rfl, n1, m1, s1⟩ := h1
  have hm1 := method_write
  have hm2 := method_sum
  have HN := Lib.hid (shaNew224_any w)
  have HK := Lib.hid hK
  have S0 := Lib.hid s0
  have S1 := Lib.hid s1
  clear hK s0 s1
  go_enter Try.func21, Try.ntmps21
  go_wp2_with (go_at_call 27; refine HN.out.mono ?_; rintro e w2 ⟨rfl, h1⟩; have H2 := Lib.hid (Has.ofNew (K := K) (Below.refl w.heap.size w) h1); clear h1)
  refine (write_has H2.out HK.out S1.out n1 m1).mono ?_
  rintro e w3 ⟨rfl, h3, g3⟩
  have H3 := Lib.hid h3
  clear h3 g3
  go_wp2_with (fail)
  have hm3 := nilAhead_sum
  have H4 : Has K w (w3.drew.alloc (.cells #[] 5)) w.heap.size true D := by
    have := (H3.out.keep (grown_drew w3 none) (fun k e => by cases e)).keep (World.grownBy_alloc w3.drew (.cells #[] 5) none) (fun k e => by cases e)
    simpa using this
  have hlt : w.heap.size < w3.heap.size := H3.out.dig.lt
  have hbp : Bts (w3.drew.alloc (.cells #[] 5)) (.slice a0 P.length c0) P := (show Bts w (.slice a0 P.length c0) P from ⟨a0, c0, rfl, n0, m0, S0.out⟩).bel H4.bel
  have happ := append_bts (w3.drew.alloc (.cells #[] 5)) w3.heap.size _ _ [] P 22 (ownB_empty w3.drew w3.heap.size (Nat.le_refl _)) hbp (by rw [World.size_alloc]; exact Nat.le_succ w3.heap.size) (by simp; omega)
  obtain ⟨v5, w5, hr5, ho5, hg5, hb5⟩ := happ
  rw [List.nil_append] at ho5
  have hg5' : (w3.drew.alloc (.cells #[] 5)).grownBy w5 (some w3.heap.size) := hg5
  have h5 : Has K w w5 w.heap.size true D := H4.keep hg5' (fun k e => by have := Option.some.inj e; omega)
  have hne5 : v5.ownBlock ≠ some w.heap.size := fun e => by
    have := (World.ownsRow.lt ho5 _ e).1
    omega
  have HS := Lib.hid (sum_has (base := w3.heap.size) h5 HK.out ho5 (by have := hg5'.size; rw [World.size_alloc] at this; exact Nat.le_trans (Nat.le_succ w3.heap.size) this) (by omega) hne5 (by omega))
  have HR5 := Lib.hid hr5
  clear hr5 ho5 hg5 hg5' hb5 h5 hne5 hbp H4
  go_region_law (first | (refine step_append_run rfl (.tmp 11) (.tmp 12) 22 rfl _ _ rfl rfl v5 w5 HR5.out ?_) | (go_simp; go_at_call 56; refine HS.out.mono ?_; rintro e w6 ⟨v6, rfl, h1, h2, h3⟩; have H6 := Lib.hid h1; have G6 := Lib.hid h2; clear h1 h2 h3))
  all_goals (go_wp2_with fail)
  all_goals (go_ret)
  all_goals (exact ⟨v6, rfl, H6.out.bts, G6.out.bel, fun k e => by
    have := (World.ownsRow.lt H6.out k e).1
    omega⟩)

end Go.Proofs.Ytaknphghhlljmab

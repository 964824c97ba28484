/-
  impl.Fork224: the checksums of a hash and of its clone.
-/
import Derived.Test.YtaknphghhlljmacClone
import Derived.Test.YtaknphghhlljmacSteps224
namespace Go.Proofs.Ytaknphghhlljmac
open Go.RowKit
set_option linter.unusedVariables false

set_option maxRecDepth 100000 in
set_option maxHeartbeats 2000000 in
theorem fork224_any (K : Nat → Int) (v0 v1 v2 : Value) (D O T : List Int) (w : World) (h0 : Bts w v0 D) (h1 : Bts w v1 O) (h2 : Bts w v2 T) (hK : KAt w K) :
    Calls Try.prog 16 #[v0, v1, v2] w fun e w' =>
      ∃ va vb, e = .returned (.tuple #[va, vb, .bool true]) ∧ Bts w' va (digest K true (D ++ O)) ∧ Bts w' vb (digest K true (D ++ T)) ∧ Bel w w' := by
  obtain ⟨a0, c0, rfl, n0, m0, s0⟩ := h0
  obtain ⟨a1, c1, rfl, n1, m1, s1⟩ := h1
  obtain ⟨a2, c2, rfl, n2, m2, s2⟩ := h2
  have hm1 := method_write
  have hm2 := method_sum
  have hm3 := method_clone
  have hm4 := is_cloner
  have HN := Lib.hid (shaNew224_any w)
  have HK := Lib.hid hK
  have S0 := Lib.hid s0
  have S1 := Lib.hid s1
  have S2 := Lib.hid s2
  clear hK s0 s1 s2
  go_enter Try.func16, Try.ntmps16
  go_wp2_with (go_at_call 26; refine HN.out.mono ?_; rintro e w2 ⟨rfl, h1⟩; have H2 := Lib.hid (Has.ofNew (K := K) (Below.refl w.heap.size w) h1); clear h1)
  refine (write_has H2.out HK.out S0.out n0 m0).mono ?_
  rintro e w3 ⟨rfl, h3, g3⟩
  have H3 := Lib.hid h3
  clear h3 g3
  go_wp2_with (fail)
  refine (clone_has H3.out).mono ?_
  rintro e w4 ⟨rfl, h4, k4, g4⟩
  have hne : w3.heap.size ≠ w.heap.size := by have := H3.out.dig.lt; omega
  obtain ⟨g, hg⟩ : ∃ g, g = w3.heap.size := ⟨_, rfl⟩
  rw [← hg] at k4 hne ⊢
  clear hg
  have H4 := Lib.hid h4
  have K4 := Lib.hid k4
  clear h4 k4 g4
  go_wp2_with (fail)
  refine (write_has H4.out HK.out S1.out n1 m1).mono ?_
  rintro e w5 ⟨rfl, h5, g5⟩
  have H5 := Lib.hid h5
  have K5 := Lib.hid (K4.out.keep g5 (fun k e => by have := Option.some.inj e; subst this; exact ⟨Nat.le_refl _, fun e => hne e.symm⟩))
  clear h5 g5
  go_wp2_with (fail)
  refine (write_has K5.out HK.out S2.out n2 m2).mono ?_
  rintro e w6 ⟨rfl, h6, g6⟩
  have K6 := Lib.hid h6
  have H6 := Lib.hid (H5.out.keep g6 (fun k e => by have := Option.some.inj e; subst this; exact ⟨K5.out.lo, hne⟩))
  clear h6 g6
  go_wp2_with (fail)
  have HS7 := Lib.hid (sum_has (base := w6.heap.size) H6.out HK.out (ownB_nil w6 _) (Nat.le_refl _) H6.out.bel.size (by simp [Value.ownBlock]) (by simp))
  refine HS7.out.mono ?_
  rintro e w7 ⟨v7, rfl, o7, h7, g7⟩
  rw [List.nil_append] at o7
  have B7 := Lib.hid o7.bts
  have K7 := Lib.hid (K6.out.keep g7 (fun k e => by cases e))
  clear o7 h7 g7 HS7
  go_wp2_with (fail)
  have HS8 := Lib.hid (sum_has (base := w7.heap.size) K7.out HK.out (ownB_nil w7 _) (Nat.le_refl _) K7.out.bel.size (by simp [Value.ownBlock]) (by simp))
  refine HS8.out.mono ?_
  rintro e w8 ⟨v8, rfl, o8, h8, g8⟩
  rw [List.nil_append] at o8
  have B8 := Lib.hid o8.bts
  have C8 := Lib.hid (B7.out.grown g8 (Or.inr rfl))
  have K8 := Lib.hid h8
  clear o8 h8 g8 HS8
  go_wp2_with (fail)
  go_ret3
  exact ⟨_, _, rfl, C8.out, B8.out, K8.out.bel⟩

end Go.Proofs.Ytaknphghhlljmac

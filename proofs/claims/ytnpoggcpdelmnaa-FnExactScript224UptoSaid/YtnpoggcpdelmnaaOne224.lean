/-
  Sum224 of crypto/sha256, and impl.Whole224: the checksum of the data.
-/
import Derived.Test.YtnpoggcpdelmnaaMeth
namespace Go.Proofs.Ytnpoggcpdelmnaa
open Go.RowKit
set_option linter.unusedVariables false

def zz224 : List Int := List.replicate 28 0
theorem zeroArr224 (w : World) : (zeroValue 44).run Try.prog w = .ok (.agg (bytesC zz224)) w := by kernel_rfl
theorem sizeArr224 (l : List Int) (h : l.length = 28) : (Try.prog.info? 44).map (·.size) = some (bytesC l).size := by
  rw [bytesC_size, h]; kernel_rfl

set_option maxRecDepth 100000 in
set_option maxHeartbeats 2000000 in
theorem sum224_any (K : Nat → Int) (B : List Int) (ad : Option Addr) (cap : Nat) (w : World) (hs : SrcB w ad B) (hK : KAt w K) (hc : B.length ≤ cap) (hcap : cap ≤ 9223372036854775807) :
    Calls Try.prog 17 #[.slice ad B.length cap] w fun e w' => e = .returned (.agg (bytesC (digest K true B))) ∧ Bel w w' := by
  have hz := zeroArr224
  have hm1 := method_write
  have hm2 := method_sum
  have hm3 := nilAhead_sum
  have b1 : Bel w (w.alloc (.cells (bytesC zz224) 44)) := (Below.refl _ _).alloc (Nat.le_refl _) _
  have HN := Lib.hid (shaNew224_any (w.alloc (.cells (bytesC zz224) 44)))
  have hn : ∀ w2, NewAt true (w.alloc (.cells (bytesC zz224) 44)) w2 → Has K w w2 (w.heap.size + 1) true [] ∧ Row w2 w.heap.size 44 zz224 := fun w2 h => by
    have h1 := Has.ofNew (K := K) b1 h
    rw [World.size_alloc] at h1
    refine ⟨h1, Row.keep (w := w.alloc (.cells (bytesC zz224) 44)) (heap_alloc_new w _) (h.2.1.block _ (by simp))⟩
  have HNN := Lib.hid hn
  have HS := Lib.hid hs
  have HK := Lib.hid hK
  have HL := Lib.hid hc
  clear hn hs hK b1
  go_enter Try.func17, Try.ntmps17
  go_wp2_with (first | (go_at_call 15; refine HN.out.mono ?_; rintro e w2 ⟨rfl, h1⟩; have H2 := Lib.hid (HNN.out w2 h1); clear h1) | fail)
  simp only [World.size_alloc] at *
  refine (write_has H2.out.1 HK.out HS.out HL.out hcap).mono ?_
  rintro e w3 ⟨rfl, h3, g3⟩
  have H3 := Lib.hid h3
  have R3 := Lib.hid (Row.keep H2.out.2 (g3.block _ (by have := H2.out.1.dig.lt; omega) (fun e => by have := Option.some.inj e; omega)))
  clear h3 g3
  go_wp2_with fail
  have hg4 : Row (w3.alloc (.cells (bytesC zz224) 44)) w3.heap.size 44 zz224 := heap_alloc_new w3 _
  have h4 : Has K w (w3.alloc (.cells (bytesC zz224) 44)) (w.heap.size + 1) true B := by
    have := H3.out.keep (World.grownBy_alloc w3 (.cells (bytesC zz224) 44) none) (fun k e => by cases e)
    simpa using this
  have r4 : Row (w3.alloc (.cells (bytesC zz224) 44)) w.heap.size 44 zz224 := R3.out.keep (Below.heap_alloc _ _ _ (by have := H3.out.dig.lt; omega))
  have l4 : w.heap.size + 1 < w3.heap.size := H3.out.dig.lt
  obtain ⟨g, hg⟩ : ∃ g, g = w3.heap.size := ⟨_, rfl⟩
  rw [← hg] at hg4 l4 ⊢
  have g4 : g < (w3.alloc (.cells (bytesC zz224) 44)).heap.size := by rw [World.size_alloc]; omega
  generalize w3.alloc (.cells (bytesC zz224) 44) = w4 at hg4 h4 r4 g4 ⊢
  have G4 := Lib.hid hg4
  have H4 := Lib.hid h4
  have R4 := Lib.hid r4
  clear hg hg4 h4 r4
  refine Plan.wp_region_quiet_tail 5 (by kernel_rfl) (by kernel_rfl) ?_
  simp only [List.take_succ_cons, List.take_zero, List.drop_succ_cons, List.drop_zero]
  repeat (go_big_quiet_step (fail))
  refine wpQuiet_nil ?_
  go_wp2_with fail
  refine (sum_room K (w.heap.size + 1) g 28 44 true B zz224 w4.drew (H4.out.dig.keep rfl) ((HK.out.bel H4.out.bel).grown (grown_drew _ none) (by simp)) (Row.keep (w' := w4.drew) G4.out rfl) g4 (by simp [zz224]) (by simp [zz224])).mono ?_
  rintro e w5 ⟨v', rfl, h5, g5⟩
  have hlen : (digest K true B).length = 28 := digest_length K true B
  have R5 := Lib.hid h5
  have r5 : Row w5 w.heap.size 44 zz224 := Row.keep (Row.keep (w' := w4.drew) R4.out rfl) (g5.block _ (by show w.heap.size < w4.heap.size; omega) (fun e => by have := Option.some.inj e; omega))
  have RR5 := Lib.hid r5
  have B5 := Lib.hid ((H4.out.bel.drew).grown g5 (fun k e => by rw [← Option.some.inj e]; omega))
  have HLEN := Lib.hid hlen
  clear h5 g5 r5 hlen
  go_wp2_with (first | (refine wpList_load_row rfl 44 (.tmp 4) rfl g rfl _ _ _ _ R5.out Try.underlying44 rfl (sizeArr224 _ HLEN.out) ?_) | (refine wpList_store_row rfl 44 (.tmp 2) (.tmp 17) rfl w.heap.size _ rfl rfl _ _ RR5.out (sizeArr224 _ HLEN.out) (by rw [bytesC_size, bytesC_size, HLEN.out]; rfl) (bytesC_all _) ?_))
  refine bodyPost_ret (results_cell_row rfl _ _ w.heap.size 44 _ (0, 0) _ rfl (setRow_heap _ _ _ _ _ _ RR5.out) Try.underlying44 rfl (sizeArr224 _ HLEN.out)) rfl ⟨rfl, ?_⟩
  exact B5.out.setRow _ _ (Nat.le_refl _)

end Go.Proofs.Ytnpoggcpdelmnaa

/-
  impl.Whole224 and impl.Steps224: the checksum of the data, and of parts one behind the other.
-/
import Derived.Test.YtaknphghhlljmacOne224
import Derived.Test.YtaknphghhlljmacSame
namespace Go.Proofs.Ytaknphghhlljmac
open Go.RowKit
set_option linter.unusedVariables false

set_option maxRecDepth 100000 in
set_option maxHeartbeats 1000000 in
theorem whole224_any (K : Nat → Int) (B : List Int) (ad : Option Addr) (cap : Nat) (w : World) (hs : SrcB w ad B) (hK : KAt w K) (hc : B.length ≤ cap) (hcap : cap ≤ 9223372036854775807) :
    Calls Try.prog 17 #[.slice ad B.length cap] w fun e w' => ∃ v, e = .returned v ∧ NewB w w' v (digest K true B) := by
  have hz := zeroArr224
  have H := Lib.hid (sum224_any K B ad cap w hs hK hc hcap)
  have hlen : (digest K true B).length = 28 := digest_length K true B
  have HLEN := Lib.hid hlen
  clear hs hK hlen
  go_enter Try.func17, Try.ntmps17
  go_wp2_with fail
  refine H.out.mono ?_
  rintro e w1 ⟨rfl, h1⟩
  have H1 := Lib.hid h1
  clear h1
  simp only []
  go_step
  refine wpList_plain rfl fun J hJ => ?_
  go_simp
  refine hJ _ _ ?_
  refine wpList_store_row rfl 55 (.tmp 3) (.tmp 5) rfl w1.heap.size (bytesC (digest K true B)) rfl rfl 55 (bytesC zz224) ?_ ?_ ?_ ?_ ?_
  case refine_1 => exact heap_alloc_new w1 _
  case refine_2 => exact sizeArr224 _ HLEN.out
  case refine_3 => rw [bytesC_size, bytesC_size, HLEN.out]; rfl
  case refine_4 => exact bytesC_all _
  rw [World.setRow_alloc_new]
  go_wp2_with fail
  go_ret
  have hrow : Row (w1.alloc (.cells (bytesC (digest K true B)) 55)) w1.heap.size 55 (digest K true B) := heap_alloc_new w1 _
  have hb := hrow.bts (n := 28) HLEN.out.symm (by omega)
  exact ⟨.slice (some ⟨w1.heap.size, 0, none⟩) 28 28, rfl, hb, H1.out.alloc _, fun k e => by
    have e' : w1.heap.size = k := Option.some.inj e
    have hsz := H1.out.size
    omega⟩

set_option maxRecDepth 100000 in
set_option maxHeartbeats 2000000 in
theorem steps224_any (K : Nat → Int) (Bs : List (List Int)) (ad : Option Addr) (cap : Nat) (w : World) (hs : Pts w ad Bs) (hK : KAt w K) (hn : Bs.length ≤ 9223372036854775807) :
    Calls Try.prog 21 #[.slice ad Bs.length cap] w fun e w' => ∃ v, e = .returned v ∧ NewB w w' v (digest K true Bs.flatten) := by
  have hm1 := method_write
  have hm2 := method_sum
  have HN := Lib.hid (shaNew224_any w)
  have HS := Lib.hid hs
  have HK := Lib.hid hK
  clear hs hK
  go_enter Try.func21, Try.ntmps21
  go_wp2_with (go_at_call 26; refine HN.out.mono ?_; rintro e w2 ⟨rfl, h1⟩; have H2 := Lib.hid (Has.ofNew (K := K) (Below.refl w.heap.size w) h1); clear h1)
  obtain ⟨n, hN⟩ : ∃ n, n = Bs.length := ⟨_, rfl⟩
  rw [← hN]
  have HNN := Lib.hid hN
  rw [← hN] at hn
  clear hN
  go_loopw [9] (fun i wr => ∃ k : Nat, k ≤ n ∧ i = .int .i64 k ∧ Hid (Has K w wr w.heap.size true (Bs.take k).flatten)) (fun i _ => n - (intOf i).toNat)
  case atStart => exact ⟨0, Nat.zero_le _, rfl, H2.out⟩
  case round =>
    obtain ⟨k, hk, rfl, HH⟩ := hrel
    by_cases hlt : k < n
    · obtain ⟨pb, po, v, rfl, hcell, hv⟩ := HS.out k (by have := HNN.out; omega)
      have hc2 : wr.cell? ⟨pb, po + k, none⟩ = some v := by rw [bel_cell HH.out.bel (World.block_lt_of_cell? w _ hcell)]; exact hcell
      obtain ⟨a2, c2, rfl, h1, h2, h3⟩ := hv
      have HW := Lib.hid (write_has HH.out HK.out h3 h1 h2)
      have HE : Hid ((Bs.take (k + 1)).flatten = (Bs.take k).flatten ++ Bs.getD k []) := by
        have hl : k < Bs.length := by have := HNN.out; omega
        show (Bs.take (k + 1)).flatten = _
        rw [List.take_succ_eq_append_getElem hl, List.flatten_append]
        simp [hl]
      clear h1 h2 h3 hcell
      have i1 : (0 : Int) ≤ (k : Int) := by omega
      have i2 : (k : Int) < (n : Int) := by omega
      have t1 : decide ((k : Int) < (n : Int)) = true := by simp; omega
      generalize (Bs.getD k []).length = len at *
      go_wp2_with (go_at_call 56; refine HW.out.mono ?_; rintro e w3 ⟨rfl, h3, g3⟩; have H3 := Lib.hid h3; clear h3 g3)
      go_roundw
      case rel => exact ⟨k + 1, by omega, by go_num, by rw [HE.out]; exact H3.out⟩
      case measure => simp [intOf]; omega
    · have t1 : decide ((k : Int) < (n : Int)) = false := by simp; omega
      have hkn : (Bs.take k).flatten = Bs.flatten := by rw [List.take_of_length_le (by have := HNN.out; omega)]
      rw [hkn] at HH
      have HSUM := Lib.hid (sum_has (base := wr.heap.size) HH.out HK.out (ownB_nil wr _) (Nat.le_refl _) HH.out.bel.size (by simp [Value.ownBlock]) (by simp))
      go_wp2_with (go_at_call 55; refine HSUM.out.mono ?_; rintro e w3 ⟨v', rfl, h1, h2, h3⟩; have H1 := Lib.hid h1; have H3 := Lib.hid h2; clear h1 h2 h3)
      go_ret
      have ho := H1.out
      rw [List.nil_append] at ho
      exact ⟨_, rfl, ho.bts, H3.out.bel, fun k e => Nat.le_trans HH.out.bel.size (World.ownsRow.lt ho k e).1⟩

end Go.Proofs.Ytaknphghhlljmac

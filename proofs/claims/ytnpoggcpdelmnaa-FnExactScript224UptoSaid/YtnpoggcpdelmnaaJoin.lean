/-
  spec.Joined: the parts one behind the other, in a slice of its own.
-/
import Derived.Test.YtnpoggcpdelmnaaApp
namespace Go.Proofs.Ytnpoggcpdelmnaa
open Go.RowKit
set_option linter.unusedVariables false

set_option maxRecDepth 100000 in
set_option maxHeartbeats 2000000 in
theorem joined_any (Bs : List (List Int)) (ad : Option Addr) (cap : Nat) (w : World) (hs : Pts w ad Bs) (hn : Bs.length ≤ 9223372036854775807) (hz : Bs.flatten.length ≤ 140737488355328) :
    Calls Try.prog 11 #[.slice ad Bs.length cap] w fun e w' => ∃ v, e = .returned v ∧ OwnB w' w.heap.size v Bs.flatten ∧ Bel w w' := by
  have HS := Lib.hid hs
  clear hs
  obtain ⟨n, hN⟩ : ∃ n, n = Bs.length := ⟨_, rfl⟩
  rw [← hN]
  have HNN := Lib.hid hN
  rw [← hN] at hn
  clear hN
  go_enter Try.func11, Try.ntmps11
  go_wp2_with fail
  go_loopw [3, 9] (fun o i wr => ∃ (k : Nat) (vo : Value), k ≤ n ∧ i = .int .i64 k ∧ vo = o ∧ Hid (OwnB wr w.heap.size vo (Bs.take k).flatten ∧ Bel w wr)) (fun _ i _ => n - (intOf i).toNat)
  case atStart => exact ⟨0, _, Nat.zero_le _, rfl, rfl, ownB_empty w w.heap.size (Nat.le_refl _), Bel.alloc (Below.refl _ _) _⟩
  case round =>
    obtain ⟨k, s3, hk, rfl, rfl, HH⟩ := hrel
    by_cases hlt : k < n
    · obtain ⟨pb, po, v, rfl, hcell, hv⟩ := HS.out k (by have := HNN.out; omega)
      have hc2 : wr.cell? ⟨pb, po + k, none⟩ = some v := by rw [bel_cell HH.out.2 (World.block_lt_of_cell? w _ hcell)]; exact hcell
      have hl : k < Bs.length := by have := HNN.out; omega
      have he : (Bs.take (k + 1)).flatten = (Bs.take k).flatten ++ Bs.getD k [] := by
        rw [List.take_succ_eq_append_getElem hl, List.flatten_append]
        simp [hl]
      have hle : ((Bs.take k).flatten ++ Bs.getD k []).length ≤ Bs.flatten.length := by
        rw [← he]
        conv => rhs; rw [← List.take_append_drop (k + 1) Bs, List.flatten_append, List.length_append]
        omega
      rw [List.length_append] at hle
      obtain ⟨v5, w5, hr5, ho5, hg5, hb5⟩ := append_bts wr w.heap.size s3 v _ (Bs.getD k []) 30 HH.out.1 (hv.bel HH.out.2) HH.out.2.size (by omega)
      rw [← he] at ho5
      have H5 := Lib.hid (show OwnB w5 w.heap.size v5 (Bs.take (k + 1)).flatten ∧ Bel w w5 from ⟨ho5, HH.out.2.grown hg5 (fun j e => (World.ownsRow.lt HH.out.1 j e).1)⟩)
      have HR5 := Lib.hid hr5
      clear hcell ho5 hg5 hb5 hr5 he hle hv
      have i1 : (0 : Int) ≤ (k : Int) := by omega
      have i2 : (k : Int) < (n : Int) := by omega
      have t1 : decide ((k : Int) < (n : Int)) = true := by simp; omega
      go_wp2_with (at_builtin; refine wpList_append_run rfl (.tmp 13) (.tmp 14) 30 rfl _ _ rfl rfl _ w5 HR5.out ?_)
      go_roundw
      case rel => exact ⟨k + 1, v5, by omega, by go_num, rfl, H5.out⟩
      case measure => simp [intOf]; omega
    · have t1 : decide ((k : Int) < (n : Int)) = false := by simp; omega
      have hkn : (Bs.take k).flatten = Bs.flatten := by rw [List.take_of_length_le (by have := HNN.out; omega)]
      rw [hkn] at HH
      go_wp2_with fail
      go_ret
      exact ⟨_, rfl, HH.out.1, HH.out.2⟩
end Go.Proofs.Ytnpoggcpdelmnaa

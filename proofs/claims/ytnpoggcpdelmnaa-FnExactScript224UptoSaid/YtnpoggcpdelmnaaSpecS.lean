/-
  laws.specSteps: the same steps.
-/
import Derived.Test.YtnpoggcpdelmnaaOwnS
namespace Go.Proofs.Ytnpoggcpdelmnaa
open Go.RowKit
set_option linter.unusedVariables false

theorem infoSS : (Try.prog.info? 38).map (fun i => (i.zero, i.size, i.bytes)) = some (some (.agg #[.int .i64 0, .slice none 0 0]), 2, 32) := by kernel_rfl

set_option maxRecDepth 100000 in
set_option maxHeartbeats 1000000 in
theorem specSteps_any (Ss : List (Int × List Int)) (ad : Option Addr) (cap : Nat) (w : World) (hs : Stps w ad Ss) (hn : Ss.length ≤ 4398046511104) :
    Calls Try.prog 8 #[.slice ad Ss.length cap] w fun e w' => ∃ v ds, e = .returned v ∧ OwnS 38 w w' w.heap.size v Ss ds ∧ Bel w w' := by
  have HS := Lib.hid hs
  clear hs
  obtain ⟨n, hN⟩ : ∃ n, n = Ss.length := ⟨_, rfl⟩
  rw [← hN]
  have HNN := Lib.hid hN
  rw [← hN] at hn
  clear hN
  go_enter Try.func8, Try.ntmps8
  go_wp2_with fail
  go_loopw [3, 9] (fun o i wr => ∃ (k : Nat) (vo : Value) (ds : List Value), k ≤ n ∧ i = .int .i64 k ∧ vo = o ∧ Hid (OwnS 38 w wr w.heap.size vo (Ss.take k) ds ∧ Bel w wr)) (fun _ i _ => n - (intOf i).toNat)
  case atStart => exact ⟨0, _, [], Nat.zero_le _, rfl, rfl, ownS_empty _ w w w.heap.size (Nat.le_refl _), Bel.alloc (Below.refl _ _) _⟩
  case round =>
    obtain ⟨k, vo, ds, hk, rfl, rfl, HH⟩ := hrel
    by_cases hlt : k < n
    · have hl : k < Ss.length := by have := HNN.out; omega
      obtain ⟨pb, po, vd, rfl, hcell, hcell2, hv, hz⟩ := HS.out k hl
      have hc1 : wr.cell? ⟨pb, po + k * 2, none⟩ = some (.int .i64 Ss[k].1) := by rw [bel_cell HH.out.2 (World.block_lt_of_cell? w _ hcell)]; exact hcell
      have hc2 : wr.cell? ⟨pb, po + k * 2 + 1, none⟩ = some vd := by rw [bel_cell HH.out.2 (World.block_lt_of_cell? w _ hcell)]; exact hcell2
      have hbA : Bel wr (wr.alloc (.cells #[.int .i64 Ss[k].1, vd] 32)) := Bel.alloc (Below.refl _ _) _
      obtain ⟨v5, w5, hr5, ho5, hg5, _⟩ := ownS_append Try.underlying27 infoSS rfl 27 (show OwnS 38 w (wr.alloc (.cells #[.int .i64 Ss[k].1, vd] 32)) w.heap.size vo (Ss.take k) ds from ⟨ownsRow_bel HH.out.1.1 hbA, HH.out.1.2⟩) Ss[k] vd hv hz (Nat.le_trans HH.out.2.size hbA.size) (by rw [List.length_take]; omega)
      rw [World.size_alloc] at hr5
      rw [← List.take_succ_eq_append_getElem hl] at ho5
      have H5 := Lib.hid (show OwnS 38 w w5 w.heap.size v5 (Ss.take (k + 1)) (ds ++ [vd]) ∧ Bel w w5 from ⟨ho5, (HH.out.2.trans' hbA).grown hg5 (fun j e => (World.ownsRow.lt HH.out.1.1 j e).1)⟩)
      have HR5 := Lib.hid hr5
      obtain ⟨a9, c9, rfl, _⟩ := hv
      clear hcell hcell2 hz ho5 hg5 hr5 hbA
      generalize Ss[k].1 = kd at *
      generalize Ss[k].2.length = n9 at *
      have i1 : (0 : Int) ≤ (k : Int) := by omega
      have i2 : (k : Int) < (n : Int) := by omega
      have t1 : decide ((k : Int) < (n : Int)) = true := by simp; omega
      go_wp2_with (at_builtin; refine wpList_append_run rfl (.tmp 13) (.tmp 19) 27 rfl _ _ rfl rfl _ w5 HR5.out ?_)
      go_roundw
      case rel => exact ⟨k + 1, v5, _, by omega, by go_num, rfl, H5.out⟩
      case measure => simp [intOf]; omega
    · have t1 : decide ((k : Int) < (n : Int)) = false := by simp; omega
      have hkn : Ss.take k = Ss := List.take_of_length_le (by have := HNN.out; omega)
      rw [hkn] at HH
      go_wp2_with fail
      go_ret
      exact ⟨_, ds, rfl, HH.out.1, HH.out.2⟩
end Go.Proofs.Ytnpoggcpdelmnaa

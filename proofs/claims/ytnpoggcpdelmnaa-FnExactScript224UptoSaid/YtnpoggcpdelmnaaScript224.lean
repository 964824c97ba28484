/-
  impl.Script224: what the steps of a script return.
-/
import Derived.Test.YtnpoggcpdelmnaaScr
namespace Go.Proofs.Ytnpoggcpdelmnaa
open Go.RowKit
set_option linter.unusedVariables false

set_option maxRecDepth 100000 in
set_option maxHeartbeats 2000000 in
theorem script224_any (K : Nat → Int) (Ss : List (Int × List Int)) (ad : Option Addr) (cap : Nat) (w : World) (hs : Stps w ad Ss) (hK : KAt w K) (hn : Ss.length ≤ 4398046511104) :
    Calls Try.prog 9 #[.slice ad Ss.length cap] w fun e w' => ∃ v vs, e = .returned v ∧ OwnP w' w.heap.size v vs (outsM K true Ss []) ∧ Bel w w' := by
  have HN := Lib.hid (shaNew224_any w)
  have HS := Lib.hid hs
  have HK := Lib.hid hK
  clear hs hK
  obtain ⟨n, hN⟩ : ∃ n, n = Ss.length := ⟨_, rfl⟩
  rw [← hN]
  have HNN := Lib.hid hN
  rw [← hN] at hn
  clear hN
  go_enter Try.func9, Try.ntmps9
  go_wp2_with (go_at_call 15; refine HN.out.mono ?_; rintro e w2 ⟨rfl, h1⟩; have H2 := Lib.hid (Has.ofNew (K := K) (Below.refl w.heap.size w) h1); clear h1)
  go_loopw [3, 4, 13] (fun hh o i wr => ∃ (k b : Nat) (vo : Value) (vs : List Value), k ≤ n ∧ i = .int .i64 k ∧ hh = hash b ∧ vo = o ∧ Hid (ScrAt K true w wr b vo vs Ss k)) (fun _ _ i _ => n - (intOf i).toNat)
  case atStart => exact ⟨0, w.heap.size, _, [], Nat.zero_le _, rfl, rfl, rfl, scr_start Ss H2.out⟩
  case round =>
    obtain ⟨k, b, vo, vs, hk, rfl, rfl, rfl, HH⟩ := hrel
    by_cases hlt : k < n
    · have hl : k < Ss.length := by have := HNN.out; omega
      obtain ⟨pb, po, vd, rfl, hcell, hcell2, hv, hz⟩ := HS.out k hl
      have hc1 : wr.cell? ⟨pb, po + k * 2, none⟩ = some (.int .i64 Ss[k].1) := by rw [bel_cell HH.out.1.bel (World.block_lt_of_cell? w _ hcell)]; exact hcell
      have hc2 : wr.cell? ⟨pb, po + k * 2 + 1, none⟩ = some vd := by rw [bel_cell HH.out.1.bel (World.block_lt_of_cell? w _ hcell)]; exact hcell2
      have HST := Lib.hid (step_any K true w (wr.alloc (.cells #[.int .i64 Ss[k].1, vd] 32)) b Ss[k].1 vd Ss[k].2 _ (HH.out.1.keep (World.grownBy_alloc wr (.cells #[.int .i64 Ss[k].1, vd] 32) none) (fun k e => by cases e)) hv HK.out hz)
      have HNX := Lib.hid (fun e w' => scr_next (e := e) (w' := w') HH.out hl (by have := HNN.out; omega) (.cells #[.int .i64 Ss[k].1, vd] 32) 23)
      obtain ⟨a9, c9, rfl, _⟩ := hv
      clear hcell hcell2 hz
      generalize Ss[k].1 = kd at *
      generalize Ss[k].2.length = n9 at *
      have i1 : (0 : Int) ≤ (k : Int) := by omega
      have i2 : (k : Int) < (n : Int) := by omega
      have t1 : decide ((k : Int) < (n : Int)) = true := by simp; omega
      go_wp2_with (first | (go_at_call 16; refine HST.out.mono ?_; rintro e w5 hst; obtain ⟨b5, vg, v6, w6, ⟨ag, ng, cg, rfl⟩, rfl, hr, hsc⟩ := HNX.out e w5 hst; have HR := Lib.hid hr; have HSC := Lib.hid hsc; clear hr hsc hst) | (at_builtin; refine wpList_append_run rfl (.tmp 24) (.tmp 26) 23 rfl _ _ rfl rfl _ w6 HR.out ?_))
      go_roundw
      case rel => exact ⟨k + 1, b5, v6, _, by omega, by go_num, rfl, rfl, HSC.out⟩
      case measure => simp [intOf]; omega
    · have t1 : decide ((k : Int) < (n : Int)) = false := by simp; omega
      have hkn : Ss.take k = Ss := List.take_of_length_le (by have := HNN.out; omega)
      have HF := HH.out
      unfold ScrAt at HF
      rw [hkn] at HF
      have HFF := Lib.hid HF
      clear HF
      go_wp2_with fail
      go_ret
      exact ⟨_, vs, rfl, HFF.out.2.1, HFF.out.1.bel⟩
end Go.Proofs.Ytnpoggcpdelmnaa

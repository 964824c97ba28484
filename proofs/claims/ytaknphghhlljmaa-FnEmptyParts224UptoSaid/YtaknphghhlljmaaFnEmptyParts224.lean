/-
  Empty parts change nothing (for parts of bulk at most 1048576).
-/
import Derived.Test.YtaknphghhlljmaaRows
import Derived.Test.YtaknphghhlljmaaOpen
import Derived.Test.YtaknphghhlljmaaSteps224
import Derived.Test.YtaknphghhlljmaaMore
import Derived.Test.YtaknphghhlljmaaBulkP
import Derived.Test.YtaknphghhlljmaaCutB
namespace Go.Proofs.Ytaknphghhlljmaa.fnEmptyParts224
open Go.ChangeShapes Go.WideShapes Go.ChangeAt Go.RowKit
set_option linter.unusedVariables false

set_option maxRecDepth 100000 in
set_option maxHeartbeats 2000000 in
theorem walk (K : Nat → Int) (v0 : Value) (l0 : List (List Int)) (w : World) (hK : KAt w K) (h0 : PtsV w v0 l0) (hz : (l0.length + l0.flatten.length) ≤ 1048576) :
    Calls Try.prog 10 #[v0] w fun e w' => e = .returned (.bool true) ∧ Bel w w' := by
  have HLEN := Lib.hid (show ∀ l, (digest K true l).length = 28 from fun l => digest_length K true l)
  obtain ⟨ad, cap, rfl, n0, m0, hp⟩ := h0
  have HP := Lib.hid hp
  have HK := Lib.hid hK
  clear hp hK
  obtain ⟨n, hN⟩ : ∃ n, n = l0.length := ⟨_, rfl⟩
  have HNN := Lib.hid hN
  rw [← hN]
  have hn : n ≤ 1048576 := by omega
  clear hN hz
  go_enter Try.func10, Try.ntmps10
  go_wp2_with fail
  go_loopw [3, 10] (fun o i wr => ∃ (k : Nat) (vo : Value) (vs : List Value), k ≤ n ∧ i = .int .i64 k ∧ vo = o ∧ Hid (More w wr vo vs (l0.take k))) (fun _ i _ => n - (intOf i).toNat)
  case atStart => exact ⟨0, _, [.slice none 0 0], Nat.zero_le _, rfl, rfl, more_start w⟩
  case round =>
    obtain ⟨k, vo, vs, hk, rfl, rfl, HH⟩ := hrel
    by_cases hlt : k < n
    · obtain ⟨pb, po, v, rfl, hcell, hv⟩ := HP.out k (by have := HNN.out; omega)
      have hc2 : wr.cell? ⟨pb, po + k, none⟩ = some v := by rw [bel_cell HH.out.2.2.2 (World.block_lt_of_cell? w _ hcell)]; exact hcell
      have hl : k < l0.length := by have := HNN.out; omega
      obtain ⟨v5, w5, hr5, hm5⟩ := more_next 28 HH.out hl hv (by have := HNN.out; omega)
      have H5 := Lib.hid hm5
      have HR5 := Lib.hid hr5
      obtain ⟨a9, c9, rfl, _⟩ := hv
      clear hcell hm5 hr5
      generalize (l0.getD k []).length = n9 at *
      have i1 : (0 : Int) ≤ (k : Int) := by omega
      have i2 : (k : Int) < (n : Int) := by omega
      have t1 : decide ((k : Int) < (n : Int)) = true := by simp; omega
      go_wp2_with (at_builtin; refine wpList_append_run rfl (.tmp 14) (.tmp 17) 28 rfl _ _ rfl rfl _ w5 HR5.out ?_)
      go_roundw
      case rel => exact ⟨k + 1, v5, _, by omega, by go_num, rfl, H5.out⟩
      case measure => simp [intOf]; omega
    · have t1 : decide ((k : Int) < (n : Int)) = false := by simp; omega
      have hkn : l0.take k = l0 := List.take_of_length_le (by have := HNN.out; omega)
      rw [hkn] at HH
      obtain ⟨am, cm, rfl, hpm⟩ := HH.out.pts
      have hst := steps224_any K l0 ad cap wr (HP.out.bel HH.out.2.2.2) (HK.out.bel HH.out.2.2.2) (by have := HNN.out; omega)
      have hN := HNN.out
      rw [← hN] at hst
      have HST := Lib.hid hst
      have HPM := Lib.hid hpm
      have hml : (moreL l0).length ≤ 9223372036854775807 := by rw [moreL_length]; omega
      clear hst hpm hN
      go_wp2_with fail
      refine HST.out.mono ?_
      rintro e w2 ⟨v2, rfl, h2⟩
      obtain ⟨a2, c2, rfl⟩ := h2.slc (HLEN.out _)
      have hs2 := steps224_any K (moreL l0) am cm w2 (HPM.out.bel h2.2.1) ((HK.out.bel HH.out.2.2.2).bel h2.2.1) hml
      rw [moreL_flatten] at hs2
      have HS2 := Lib.hid hs2
      have H2 := Lib.hid h2
      clear hs2 h2
      generalize (moreL l0).length = mm at *
      go_wp2_with fail
      refine HS2.out.mono ?_
      rintro e w3 ⟨v3, rfl, h3⟩
      have HSM := Lib.hid (same_any _ _ _ w3 (H2.out.1.bel h3.2.1) h3.1)
      have HE3 := Lib.hid ((HH.out.2.2.2.trans' H2.out.2.1).trans' h3.2.1)
      clear h3
      go_wp2_with fail
      refine HSM.out.mono ?_
      rintro e w4 ⟨rfl, m, rfl⟩
      go_wp2_with fail
      go_ret
      exact ⟨rfl, HE3.out.drewN _⟩

set_option maxRecDepth 100000 in
theorem contract (H : Type) (enc : TypeId × Value → H) (W : World) (base : Nat) (args : Array Value) (ds gs : List (DataW H)) (before : List MemPlace)
    (hval : ∀ (j : Nat) t v, Try.f10.params[j]? = some t → args[j]? = some v → Value.okWide Try.prog W .any base t v)
    (hW : DataW.Whole enc Try.prog Try.f10.params.toList Rows.fnEmptyParts224Spec.vars false W args.toList ds gs before) (hk : Rows.uptoSmall H (ds ++ gs) = true) (hsh : W.ShapedOpen Try.prog) :
    Calls Try.prog 10 args W fun e W' => ∃ v, e = .returned v ∧ Rows.fnEmptyParts224Spec.post enc Try.prog Try.f10 false true false false W args v W' := by
  have hW' := hW
  obtain ⟨p, q, hA0, hV, rfl, hfz, hnd⟩ := hW
  have hA : DataW.TrodAll enc Try.prog W 0 (fun _ => true) true Try.f10.params.toList args.toList ds p := hA0
  rw [Try.params10] at hA hval
  obtain ⟨v0, vs0, d0, ds0, p0, q0, hargs, rfl, rfl, h0, r0⟩ := trodAll_cons hA
  obtain ⟨rfl, rfl, rfl⟩ := trodAll_nil r0
  obtain rfl : args = #[v0] := by cases args; simp_all
  obtain ⟨rfl, rfl⟩ := trodVars_none hV
  obtain ⟨K, hK⟩ := kat_of_shaped hsh
  have k0 := h0
  have lt0 : ∀ x ∈ p0, x.block < W.heap.size := by obtain ⟨m, hm⟩ := k0; exact DataW.trod_lt m _ _ _ hm
  obtain ⟨l0, b0, z0⟩ := open_parts_bulk (hval 0 28 v0 rfl rfl) h0
  have hb := bulk_bound hk
  simp only [List.append_nil, Rows.uptoBulkAll] at hb
  clear hA0
  refine (walk K v0 l0 W hK b0 (by omega)).mono fun e W' ⟨he, bel⟩ => ?_
  subst he
  exact ⟨_, rfl, _, _, _, [], _, [], hW', trodAll_mk1 (shut_bool Try.underlying4 _), (trodAll_cons_mk (Below.trod laidOutN (by kernel_rfl) (of_decide_eq_true (by kernel_rfl)) k0 bel lt0) trodAll_mk0), rfl, bel.frame _, fun h => by cases h⟩

set_option maxRecDepth 100000 in
theorem lifted (os : Os) (started : os.Started) (H : Type) (enc : TypeId × Value → H) (F : Stop.Interp) :
    ReturnsInHanded {} Try.checked os 10 .any ((Rows.OpenSpec.upto Rows.fnEmptyParts224Spec).pre6 enc Try.prog Try.f10 Rows.fnEmptyParts224UptoRow.domain false) (((Rows.OpenSpec.upto Rows.fnEmptyParts224Spec).at F).post enc Try.prog Try.f10 false true false false) := by
  refine handed_cond_shaped (C := Try.checked) (s := Rows.OpenSpec.upto Rows.fnEmptyParts224Spec) (k := Rows.uptoSmall) rfl ownN started (by kernel_rfl) Try.func10
    (OpenSpec.witness (enc := enc) (C := Try.checked) (s := Rows.OpenSpec.upto Rows.fnEmptyParts224Spec) (k := Rows.uptoSmall) rfl false ⟨#[], #[.slice none 0 0], []⟩ 8 (by kernel_rfl) (by kernel_rfl) (by kernel_rfl)
      (x := ([.nil], [], [])) (by kernel_rfl) rfl (by kernel_rfl)) ?_
  intro W base args ds gs before hval hW hk hsh
  exact contract H enc W base args ds gs before hval hW hk hsh

theorem proved : Rows.FnEmptyParts224UptoSaid :=
  OpenClaim.holds_of_cond 10 Try.f10 rfl rfl rfl rfl rfl rfl rfl ⟨rfl, rfl, rfl, rfl, rfl⟩ rfl rfl rfl rfl rfl (by kernel_rfl) Try.func10 (by kernel_rfl)
    (of_decide_eq_true (by kernel_rfl)) (by unfold Func.isWrapper; first | (rw [if_pos (by decide +kernel)]; kernel_rfl) | (rw [if_neg (by decide +kernel)]; exact ⟨rfl, rfl⟩))
    (fun os started H enc _ F => lifted os started H enc F)
end Go.Proofs.Ytaknphghhlljmaa.fnEmptyParts224

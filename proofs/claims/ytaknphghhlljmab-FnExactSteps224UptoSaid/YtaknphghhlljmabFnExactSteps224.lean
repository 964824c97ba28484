/-
  The Sum of a hash is the checksum of all that was written to it (for parts of bulk at most 1048576).
-/
import Derived.Test.YtaknphghhlljmabRows
import Derived.Test.YtaknphghhlljmabOpen
import Derived.Test.YtaknphghhlljmabSteps224
import Derived.Test.YtaknphghhlljmabJoin
import Derived.Test.YtaknphghhlljmabApd
import Derived.Test.YtaknphghhlljmabBulkP
import Derived.Test.YtaknphghhlljmabCutB
namespace Go.Proofs.Ytaknphghhlljmab.fnExactSteps224
open Go.ChangeShapes Go.WideShapes Go.ChangeAt Go.RowKit
set_option linter.unusedVariables false

set_option maxRecDepth 100000 in
set_option maxHeartbeats 2000000 in
theorem walk (K : Nat → Int) (v0 : Value) (l0 : List (List Int)) (w : World) (hK : KAt w K) (h0 : PtsV w v0 l0) (hz : (l0.length + l0.flatten.length) ≤ 1048576) :
    Calls Try.prog 13 #[v0] w fun e w' => e = .returned (.bool true) ∧ Bel w w' := by
  have HLEN := Lib.hid (show ∀ l, (digest K true l).length = 28 from fun l => digest_length K true l)
  obtain ⟨ad, cap, rfl, n0, m0, hp⟩ := h0
  have HS := Lib.hid (steps224_any K l0 ad cap w hp hK (by omega))
  have HJ := Lib.hid (fun W (hb : Bel w W) => joined_any l0 ad cap W (hp.bel hb) (by omega) (by omega))
  have HK := Lib.hid hK
  clear hK hp
  generalize l0.length = n at *
  go_enter Try.func13, Try.ntmps13
  go_wp2_with (fail)
  refine HS.out.mono ?_
  rintro e w1 ⟨va, rfl, ha⟩
  obtain ⟨a3, c3, rfl⟩ := ha.slc (HLEN.out _)
  have HA := Lib.hid ha
  clear ha
  go_wp2_with (fail)
  refine (HJ.out w1 HA.out.2.1).mono ?_
  rintro e w2 ⟨vb, rfl, hb, b2⟩
  obtain ⟨a4, c4, rfl, n4, m4, s4⟩ := hb.bts
  have HW := Lib.hid (whole224_any K l0.flatten a4 c4 w2 s4 ((HK.out.bel HA.out.2.1).bel b2) n4 m4)
  have HA2 := Lib.hid (HA.out.1.bel b2)
  have HE2 := Lib.hid (HA.out.2.1.trans' b2)
  clear hb b2 n4 m4 s4 hz
  generalize l0.flatten.length = n2 at *
  go_wp2_with (fail)
  refine HW.out.mono ?_
  rintro e w3 ⟨vc, rfl, h3⟩
  have HSM := Lib.hid (same_any _ _ _ w3 (HA2.out.bel h3.2.1) h3.1)
  have HE3 := Lib.hid (HE2.out.trans' h3.2.1)
  clear h3
  go_wp2_with (fail)
  refine HSM.out.mono ?_
  rintro e w4 ⟨rfl, m, rfl⟩
  go_wp2_with (fail)
  go_ret
  exact ⟨rfl, HE3.out.drewN _⟩

set_option maxRecDepth 100000 in
theorem contract (H : Type) (enc : TypeId × Value → H) (W : World) (base : Nat) (args : Array Value) (ds gs : List (DataW H)) (before : List MemPlace)
    (hval : ∀ (j : Nat) t v, Try.f13.params[j]? = some t → args[j]? = some v → Value.okWide Try.prog W .any base t v)
    (hW : DataW.Whole enc Try.prog Try.f13.params.toList Rows.fnExactSteps224Spec.vars false W args.toList ds gs before) (hk : Rows.uptoSmall H (ds ++ gs) = true) (hsh : W.ShapedOpen Try.prog) :
    Calls Try.prog 13 args W fun e W' => ∃ v, e = .returned v ∧ Rows.fnExactSteps224Spec.post enc Try.prog Try.f13 false true false false W args v W' := by
  have hW' := hW
  obtain ⟨p, q, hA0, hV, rfl, hfz, hnd⟩ := hW
  have hA : DataW.TrodAll enc Try.prog W 0 (fun _ => true) true Try.f13.params.toList args.toList ds p := hA0
  rw [Try.params13] at hA hval
  obtain ⟨v0, vs0, d0, ds0, p0, q0, hargs, rfl, rfl, h0, r0⟩ := trodAll_cons hA
  obtain ⟨rfl, rfl, rfl⟩ := trodAll_nil r0
  obtain rfl : args = #[v0] := by cases args; simp_all
  obtain ⟨rfl, rfl⟩ := trodVars_none hV
  obtain ⟨K, hK⟩ := kat_of_shaped hsh
  have k0 := h0
  have lt0 : ∀ x ∈ p0, x.block < W.heap.size := by obtain ⟨m, hm⟩ := k0; exact DataW.trod_lt m _ _ _ hm
  obtain ⟨l0, b0, z0⟩ := open_parts_bulk (hval 0 31 v0 rfl rfl) h0
  have hb := bulk_bound hk
  simp only [List.append_nil, Rows.uptoBulkAll] at hb
  clear hA0
  refine (walk K v0 l0 W hK b0 (by omega)).mono fun e W' ⟨he, bel⟩ => ?_
  subst he
  exact ⟨_, rfl, _, _, _, [], _, [], hW', trodAll_mk1 (shut_bool Try.underlying4 _), (trodAll_cons_mk (Below.trod laidOutN (by kernel_rfl) (of_decide_eq_true (by kernel_rfl)) k0 bel lt0) trodAll_mk0), rfl, bel.frame _, fun h => by cases h⟩

set_option maxRecDepth 100000 in
theorem lifted (os : Os) (started : os.Started) (H : Type) (enc : TypeId × Value → H) (F : Stop.Interp) :
    ReturnsInHanded {} Try.checked os 13 .any ((Rows.OpenSpec.upto Rows.fnExactSteps224Spec).pre6 enc Try.prog Try.f13 Rows.fnExactSteps224UptoRow.domain false) (((Rows.OpenSpec.upto Rows.fnExactSteps224Spec).at F).post enc Try.prog Try.f13 false true false false) := by
  refine handed_cond_shaped (C := Try.checked) (s := Rows.OpenSpec.upto Rows.fnExactSteps224Spec) (k := Rows.uptoSmall) rfl ownN started (by kernel_rfl) Try.func13
    (OpenSpec.witness (enc := enc) (C := Try.checked) (s := Rows.OpenSpec.upto Rows.fnExactSteps224Spec) (k := Rows.uptoSmall) rfl false ⟨#[], #[.slice none 0 0], []⟩ 8 (by kernel_rfl) (by kernel_rfl) (by kernel_rfl)
      (x := ([.nil], [], [])) (by kernel_rfl) rfl (by kernel_rfl)) ?_
  intro W base args ds gs before hval hW hk hsh
  exact contract H enc W base args ds gs before hval hW hk hsh

theorem proved : Rows.FnExactSteps224UptoSaid :=
  OpenClaim.holds_of_cond 13 Try.f13 rfl rfl rfl rfl rfl rfl rfl ⟨rfl, rfl, rfl, rfl, rfl⟩ rfl rfl rfl rfl rfl (by kernel_rfl) Try.func13 (by kernel_rfl)
    (of_decide_eq_true (by kernel_rfl)) (by unfold Func.isWrapper; first | (rw [if_pos (by decide +kernel)]; kernel_rfl) | (rw [if_neg (by decide +kernel)]; exact ⟨rfl, rfl⟩))
    (fun os started H enc _ F => lifted os started H enc F)
end Go.Proofs.Ytaknphghhlljmab.fnExactSteps224

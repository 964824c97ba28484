/-
  What is written ahead of a clone and behind it is one whole (for arguments of bulk at most 1048576).
-/
import Derived.Test.YtaknphghhlljmacRows
import Derived.Test.YtaknphghhlljmacOpen
import Derived.Test.YtaknphghhlljmacFork224
import Derived.Test.YtaknphghhlljmacSteps224
import Derived.Test.YtaknphghhlljmacJoin
import Derived.Test.YtaknphghhlljmacCutB
import Derived.Test.YtaknphghhlljmacBulk
namespace Go.Proofs.Ytaknphghhlljmac.fnForkInParts224
open Go.ChangeShapes Go.WideShapes Go.ChangeAt Go.RowKit
set_option linter.unusedVariables false

/-- Joined of two, in a world in which they have just been laid side by side -/
theorem join_two (l m : List Int) (a0 : Option Addr) (c0 : Nat) (a1 : Option Addr) (c1 : Nat) (w : World) (h0 : Bts w (.slice a0 l.length c0) l) (h1 : Bts w (.slice a1 m.length c1) m) (hz : l.length + m.length ≤ 1048576) :
    Calls Try.prog 15 #[.slice (some ⟨w.heap.size, 0, none⟩) 2 2] (w.alloc (.cells #[.slice a0 l.length c0, .slice a1 m.length c1] 22)) fun e w' => ∃ v, e = .returned v ∧ Bts w' v (l ++ m) ∧ Bel w w' := by
  have hal : Bel w (w.alloc (.cells #[.slice a0 l.length c0, .slice a1 m.length c1] 22)) := Bel.alloc (Below.refl _ _) _
  refine (joined_any [l, m] (some ⟨w.heap.size, 0, none⟩) 2 _ (pts_two (h0.bel hal) (h1.bel hal) (heap_alloc_new w _)) (by simp) (by simp; omega)).mono fun e w' ⟨v, he, h1, h2⟩ => ⟨v, he, ?_, hal.trans' h2⟩
  have := h1.bts
  simpa using this

theorem whole_bts (K : Nat → Int) (l : List Int) (v : Value) (w : World) (hv : Bts w v l) (hK : KAt w K) :
    Calls Try.prog 17 #[v] w fun e w' => ∃ v', e = .returned v' ∧ NewB w w' v' (digest K true l) := by
  obtain ⟨a, c, rfl, n, m, s⟩ := hv
  exact whole224_any K l a c w s hK n m

theorem bts_none (w : World) : Bts w (.slice none 0 0) [] := ⟨none, 0, rfl, by simp, by omega, fun h => by simp at h⟩

set_option maxRecDepth 100000 in
set_option maxHeartbeats 2000000 in
theorem walk (K : Nat → Int) (v0 : Value) (l0 : List Int) (v1 : Value) (l1 : List Int) (w : World) (hK : KAt w K) (h0 : Bts w v0 l0) (h1 : Bts w v1 l1) (hz : l0.length + l1.length ≤ 1048576) :
    Calls Try.prog 6 #[v0, v1] w fun e w' => e = .returned (.bool true) ∧ Bel w w' := by
  have HLEN := Lib.hid (show ∀ l, (digest K true l).length = 28 from fun l => digest_length K true l)
  have HF := Lib.hid (fork224_any K v0 v1 (.slice none 0 0) l0 l1 [] w h0 h1 (bts_none w) hK)
  have HF2 := Lib.hid (fun W (v : Value) (l : List Int) (hb : Bel w W) (hv : Bts W v l) => fork224_any K v (.slice none 0 0) (.slice none 0 0) l [] [] W hv (bts_none W) (bts_none W) (hK.bel hb))
  have HB0 := Lib.hid h0
  have HB1 := Lib.hid h1
  have HK := Lib.hid hK
  obtain ⟨a0, c0, rfl, _⟩ := h0
  obtain ⟨a1, c1, rfl, _⟩ := h1
  clear hK
  have HJ1 := Lib.hid (fun W (hb : Bel w W) => join_two l0 l1 a0 c0 a1 c1 W (HB0.out.bel hb) (HB1.out.bel hb) (by omega))
  have HW := Lib.hid (fun W (hb : Bel w W) => whole_bts K l0 _ W (HB0.out.bel hb) (HK.out.bel hb))
  clear hz
  generalize l0.length = n0 at *
  generalize l1.length = n1 at *
  go_enter Try.func6, Try.ntmps6
  go_wp2_with (fail)
  refine HF.out.mono ?_
  rintro e w1 ⟨va, vb, rfl, ha, hb, bel1⟩
  rw [List.append_nil] at hb
  obtain ⟨a3, c3, rfl⟩ := ha.slc (HLEN.out _)
  obtain ⟨a4, c4, rfl⟩ := hb.slc (HLEN.out _)
  have HA := Lib.hid ha
  have HB := Lib.hid hb
  have HE1 := Lib.hid bel1
  clear ha hb bel1
  go_wp2_with (fail)
  refine (HJ1.out w1 HE1.out).mono ?_
  rintro e w2 ⟨v5, rfl, h5, b5⟩
  have HE2 := Lib.hid (HE1.out.trans' b5)
  have HA2 := Lib.hid (HA.out.bel b5)
  have HB2 := Lib.hid (HB.out.bel b5)
  have H5 := Lib.hid h5
  obtain ⟨a5, c5, rfl, _⟩ := h5
  clear b5
  generalize hn5 : (l0 ++ l1).length = n5 at *
  clear hn5
  go_wp2_with (fail)
  refine (HF2.out w2 _ _ HE2.out H5.out).mono ?_
  rintro e w3 ⟨vc, vd, rfl, hc, hd, bel3⟩
  rw [List.append_nil] at hc hd
  obtain ⟨a6, c6, rfl⟩ := hc.slc (HLEN.out _)
  obtain ⟨a7, c7, rfl⟩ := hd.slc (HLEN.out _)
  have HE3 := Lib.hid (HE2.out.trans' bel3)
  have HSA := Lib.hid (same_any _ _ _ w3 (HA2.out.bel bel3) hc)
  have HSB := Lib.hid (fun m => same_any _ _ _ (w3.drewN m) (hc.drewN m) (hd.drewN m))
  have HB3 := Lib.hid (HB2.out.bel bel3)
  clear hc hd bel3
  go_wp2_with (fail)
  refine HSA.out.mono ?_
  rintro e w4 ⟨rfl, m, rfl⟩
  go_wp2_with (fail)
  refine (HSB.out m).mono ?_
  rintro e w5 ⟨rfl, m2, rfl⟩
  go_wp2_with (fail)
  have HE5 := Lib.hid (HE3.out.drewN (m + m2))
  have HB5 := Lib.hid (HB3.out.drewN (m + m2))
  refine (HW.out _ HE5.out).mono ?_
  rintro e w6 ⟨v8, rfl, h8⟩
  have HE6 := Lib.hid (HE5.out.trans' h8.2.1)
  have HSM2 := Lib.hid (same_any _ _ _ w6 (HB5.out.bel h8.2.1) h8.1)
  obtain ⟨a8, c8, rfl⟩ := h8.slc (HLEN.out _)
  clear h8
  go_wp2_with (fail)
  refine HSM2.out.mono ?_
  rintro e w7 ⟨rfl, m3, rfl⟩
  go_wp2_with (fail)
  go_ret
  exact ⟨rfl, HE6.out.drewN _⟩

set_option maxRecDepth 100000 in
theorem contract (H : Type) (enc : TypeId × Value → H) (W : World) (base : Nat) (args : Array Value) (ds gs : List (DataW H)) (before : List MemPlace)
    (hval : ∀ (j : Nat) t v, Try.f6.params[j]? = some t → args[j]? = some v → Value.okWide Try.prog W .any base t v)
    (hW : DataW.Whole enc Try.prog Try.f6.params.toList Rows.fnForkInParts224Spec.vars false W args.toList ds gs before) (hk : Rows.uptoSmall H (ds ++ gs) = true) (hsh : W.ShapedOpen Try.prog) :
    Calls Try.prog 6 args W fun e W' => ∃ v, e = .returned v ∧ Rows.fnForkInParts224Spec.post enc Try.prog Try.f6 false true false false W args v W' := by
  have hW' := hW
  obtain ⟨p, q, hA0, hV, rfl, hfz, hnd⟩ := hW
  have hA : DataW.TrodAll enc Try.prog W 0 (fun _ => true) true Try.f6.params.toList args.toList ds p := hA0
  rw [Try.params6] at hA hval
  obtain ⟨v0, vs0, d0, ds0, p0, q0, hargs, rfl, rfl, h0, r0⟩ := trodAll_cons hA
  obtain ⟨v1, vs1, d1, ds1, p1, q1, rfl, rfl, rfl, h1, r1⟩ := trodAll_cons r0
  obtain ⟨rfl, rfl, rfl⟩ := trodAll_nil r1
  obtain rfl : args = #[v0, v1] := by cases args; simp_all
  obtain ⟨rfl, rfl⟩ := trodVars_none hV
  obtain ⟨K, hK⟩ := kat_of_shaped hsh
  have k0 := h0
  have lt0 : ∀ x ∈ p0, x.block < W.heap.size := by obtain ⟨m, hm⟩ := k0; exact DataW.trod_lt m _ _ _ hm
  obtain ⟨l0, b0, z0⟩ := open_arg_bulk (hval 0 22 v0 rfl rfl) h0
  have k1 := h1
  have lt1 : ∀ x ∈ p1, x.block < W.heap.size := by obtain ⟨m, hm⟩ := k1; exact DataW.trod_lt m _ _ _ hm
  obtain ⟨l1, b1, z1⟩ := open_arg_bulk (hval 1 22 v1 rfl rfl) h1
  have hb := bulk_bound hk
  simp only [List.append_nil, Rows.uptoBulkAll] at hb
  clear hA0
  refine (walk K v0 l0 v1 l1 W hK b0 b1 (by omega)).mono fun e W' ⟨he, bel⟩ => ?_
  subst he
  exact ⟨_, rfl, _, _, _, [], _, [], hW', trodAll_mk1 (shut_bool Try.underlying4 _), (trodAll_cons_mk (Below.trod laidOutN (by kernel_rfl) (of_decide_eq_true (by kernel_rfl)) k0 bel lt0) (trodAll_cons_mk (Below.trod laidOutN (by kernel_rfl) (of_decide_eq_true (by kernel_rfl)) k1 bel lt1) trodAll_mk0)), rfl, bel.frame _, fun h => by cases h⟩

set_option maxRecDepth 100000 in
theorem lifted (os : Os) (started : os.Started) (H : Type) (enc : TypeId × Value → H) (F : Stop.Interp) :
    ReturnsInHanded {} Try.checked os 6 .any ((Rows.OpenSpec.upto Rows.fnForkInParts224Spec).pre6 enc Try.prog Try.f6 Rows.fnForkInParts224UptoRow.domain false) (((Rows.OpenSpec.upto Rows.fnForkInParts224Spec).at F).post enc Try.prog Try.f6 false true false false) := by
  refine handed_cond_shaped (C := Try.checked) (s := Rows.OpenSpec.upto Rows.fnForkInParts224Spec) (k := Rows.uptoSmall) rfl ownN started (by kernel_rfl) Try.func6
    (OpenSpec.witness (enc := enc) (C := Try.checked) (s := Rows.OpenSpec.upto Rows.fnForkInParts224Spec) (k := Rows.uptoSmall) rfl false ⟨#[], #[.slice none 0 0, .slice none 0 0], []⟩ 8 (by kernel_rfl) (by kernel_rfl) (by kernel_rfl)
      (x := ([.nil, .nil], [], [])) (by kernel_rfl) rfl (by kernel_rfl)) ?_
  intro W base args ds gs before hval hW hk hsh
  exact contract H enc W base args ds gs before hval hW hk hsh

theorem proved : Rows.FnForkInParts224UptoSaid :=
  OpenClaim.holds_of_cond 6 Try.f6 rfl rfl rfl rfl rfl rfl rfl ⟨rfl, rfl, rfl, rfl, rfl⟩ rfl rfl rfl rfl rfl (by kernel_rfl) Try.func6 (by kernel_rfl)
    (of_decide_eq_true (by kernel_rfl)) (by unfold Func.isWrapper; first | (rw [if_pos (by decide +kernel)]; kernel_rfl) | (rw [if_neg (by decide +kernel)]; exact ⟨rfl, rfl⟩))
    (fun os started H enc _ F => lifted os started H enc F)
end Go.Proofs.Ytaknphghhlljmac.fnForkInParts224

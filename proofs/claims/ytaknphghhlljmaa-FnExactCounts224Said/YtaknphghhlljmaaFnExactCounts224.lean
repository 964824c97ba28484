/-
  Write takes all bytes, and tells no error.
-/
import Derived.Test.YtaknphghhlljmaaRows
import Derived.Test.YtaknphghhlljmaaOpen
import Derived.Test.YtaknphghhlljmaaCounts224
import Derived.Test.YtaknphghhlljmaaLengths
import Derived.Test.YtaknphghhlljmaaApd
import Derived.Test.YtaknphghhlljmaaCutB
namespace Go.Proofs.Ytaknphghhlljmaa.fnExactCounts224
open Go.ChangeShapes Go.WideShapes Go.ChangeAt Go.RowKit
set_option linter.unusedVariables false

theorem ownI_at {w : World} {base n : Nat} {v : Value} {l : List Int} (h : OwnI w base v l) (hn : l.length = n) : ∃ a c, v = .slice a n c ∧ ∀ k, k < n → ∃ g, a = some ⟨g, 0, none⟩ ∧ w.cell? ⟨g, k, none⟩ = some (.int .i64 (l.getD k 0)) := by
  obtain ⟨a, c, e, _, _, hc⟩ := ownsRow_at h
  refine ⟨a, c, by rw [← hn]; exact e, fun k hk => hc k _ ?_⟩
  have hk' : k < l.length := by omega
  simp [hk']

set_option maxRecDepth 100000 in
set_option maxHeartbeats 2000000 in
theorem walk (K : Nat → Int) (v0 : Value) (l0 : List (List Int)) (w : World) (hK : KAt w K) (h0 : PtsV w v0 l0) (z0 : l0.length ≤ 5864062014634) :
    Calls Try.prog 14 #[v0] w fun e w' => e = .returned (.bool true) ∧ Bel w w' := by
  obtain ⟨ad, cap, rfl, n0, m0, hp⟩ := h0
  have HC := Lib.hid (counts224_any K l0 ad cap w hp hK (by omega))
  have HP := Lib.hid hp
  clear hp hK
  obtain ⟨n, hN⟩ : ∃ n, n = l0.length := ⟨_, rfl⟩
  have hml : (l0.map fun l => (l.length : Int)).length = n := by simp [hN]
  have HL := Lib.hid (fun w1 (hb : Bel w w1) => lengths_any l0 ad cap w1 (HP.out.bel hb) (by omega))
  rw [← hN] at HC HL z0 ⊢
  generalize (l0.map fun l => (l.length : Int)) = ls at *
  clear hN n0
  go_enter Try.func14, Try.ntmps14
  go_wp2_with (fail)
  refine HC.out.mono ?_
  rintro e w1 ⟨va, rfl, ha, b1⟩
  obtain ⟨a3, c3, rfl, hca⟩ := ownI_at ha hml
  have HCA := Lib.hid hca
  have HB1 := Lib.hid b1
  clear ha hca b1
  go_wp2_with (fail)
  refine (HL.out w1 HB1.out).mono ?_
  rintro e w2 ⟨vb, rfl, hb, b2⟩
  obtain ⟨a4, c4, rfl, hcb⟩ := ownI_at hb hml
  have HCB := Lib.hid hcb
  have HCA2 := Lib.hid (show ∀ k, k < n → ∃ g, a3 = some ⟨g, 0, none⟩ ∧ w2.cell? ⟨g, k, none⟩ = some (.int .i64 (ls.getD k 0)) from fun k hk => by
    obtain ⟨g, e, hc⟩ := HCA.out k hk
    exact ⟨g, e, by rw [bel_cell b2 (World.block_lt_of_cell? w1 _ hc)]; exact hc⟩)
  have HB2 := Lib.hid (HB1.out.trans' b2)
  clear hb hcb b2 HCA HL HC
  go_wp2_with (fail)
  go_loopw [21] (fun i wr => ∃ k : Nat, k ≤ n ∧ i = .int .i64 k ∧ ∃ m, wr = w2.drewN m) (fun i _ => n - (intOf i).toNat)
  case atStart => exact ⟨0, Nat.zero_le _, rfl, 0, rfl⟩
  case round =>
    obtain ⟨k, hk, rfl, m, rfl⟩ := hrel
    by_cases hlt : k < n
    · obtain ⟨g3, rfl, x1⟩ := HCA2.out k hlt
      obtain ⟨g4, rfl, x2⟩ := HCB.out k hlt
      have i1 : (0 : Int) ≤ (k : Int) := by omega
      have i2 : (k : Int) < (n : Int) := by omega
      have t1 : decide ((k : Int) < (n : Int)) = true := by simp; omega
      generalize ls.getD k 0 = x at x1 x2
      go_wp2
      go_quiet (fail)
      go_wp2
      go_roundw
      case rel => exact ⟨k + 1, by omega, by go_num, _, rfl⟩
      case measure => simp [intOf]; omega
    · have t1 : decide ((k : Int) < (n : Int)) = false := by simp; omega
      go_wp2
      go_ret
      exact ⟨rfl, HB2.out.drewN _⟩

set_option maxRecDepth 100000 in
theorem lifted (os : Os) (started : os.Started) (H : Type) (enc : TypeId × Value → H) :
    ReturnsInHanded {} Try.checked os 14 .any (Rows.fnExactCounts224Spec.pre6 enc Try.prog Try.f14 Rows.fnExactCounts224Row.domain false) (Rows.fnExactCounts224Spec.post enc Try.prog Try.f14 false true false false) := by
  refine returnsInHanded_of_change_shaped (C := Try.checked) ownN started (by kernel_rfl) Try.func14
    (ChangeSpec.witness6 (enc := enc) (C := Try.checked) false ⟨#[], #[.slice none 0 0], []⟩ 8 (by kernel_rfl) (by kernel_rfl) (by kernel_rfl) (by kernel_rfl)) ?_
  intro W base args ds gs before hval0 hW hcnd hz0 hsh _
  have hval : ∀ (j : Nat) t v, Try.f14.params[j]? = some t → args[j]? = some v → Value.okWide Try.prog W .any base t v := hval0
  have hz : (DataW.weightsEach Try.prog (Try.f14.params.toList ++ (Rows.fnExactCounts224Spec.plain.varTypes Try.prog)) (ds ++ gs)).all (· ≤ reachBytes) = true := hz0
  have hW' := hW
  obtain ⟨p, q, hA0, hV, rfl, hfz, hnd⟩ := hW
  have hA : DataW.TrodAll enc Try.prog W 0 (fun _ => true) true Try.f14.params.toList args.toList ds p := hA0
  rw [Try.params14] at hA hval hz
  obtain ⟨v0, vs0, d0, ds0, p0, q0, hargs, rfl, rfl, h0, r0⟩ := trodAll_cons hA
  obtain ⟨rfl, rfl, rfl⟩ := trodAll_nil r0
  obtain rfl : args = #[v0] := by cases args; simp_all
  obtain ⟨rfl, rfl⟩ := trodVars_none hV
  obtain ⟨K, hK⟩ := kat_of_shaped hsh
  have k0 := h0
  have lt0 : ∀ x ∈ p0, x.block < W.heap.size := by obtain ⟨m, hm⟩ := k0; exact DataW.trod_lt m _ _ _ hm
  obtain ⟨l0, b0, z0, _⟩ := open_arg_parts rfl (hval 0 28 v0 rfl rfl) h0 hz (j := 0) rfl rfl
  clear hA0 hval0 hz hz0
  refine (walk K v0 l0 W hK b0 z0).mono fun e W' ⟨he, bel⟩ => ?_
  subst he
  exact ⟨_, rfl, _, _, _, [], _, [], hW', trodAll_mk1 (shut_bool Try.underlying4 _), (trodAll_cons_mk (Below.trod laidOutN (by kernel_rfl) (of_decide_eq_true (by kernel_rfl)) k0 bel lt0) trodAll_mk0), rfl, bel.frame _, fun h => by cases h⟩

theorem over : Rows.fnExactCounts224Row.holds Try.pinned (OpenSpec.ofChange Rows.fnExactCounts224Spec) :=
  OpenClaim.holds_of_wide 14 Try.f14 rfl rfl rfl rfl rfl rfl rfl ⟨rfl, rfl, rfl, rfl, rfl⟩ rfl rfl rfl rfl rfl (by kernel_rfl) Try.func14 (by kernel_rfl)
    (of_decide_eq_true (by kernel_rfl)) (by unfold Func.isWrapper; first | (rw [if_pos (by decide +kernel)]; kernel_rfl) | (rw [if_neg (by decide +kernel)]; exact ⟨rfl, rfl⟩))
    (fun os started H enc _ => lifted os started H enc)

theorem proved : Rows.FnExactCounts224Said := over
end Go.Proofs.Ytaknphghhlljmaa.fnExactCounts224

/-
  To go on with a clone, or with a clone of one, is to go on with the hash.
-/
import Derived.Test.YtnpoggcpdelmnaaRows
import Derived.Test.YtnpoggcpdelmnaaOpen
import Derived.Test.YtnpoggcpdelmnaaScript224
import Derived.Test.YtnpoggcpdelmnaaKeep
import Derived.Test.YtnpoggcpdelmnaaGiv
import Derived.Test.YtnpoggcpdelmnaaOpenS
import Derived.Test.YtnpoggcpdelmnaaCutB
namespace Go.Proofs.Ytnpoggcpdelmnaa.fnCloneGoesOn224
open Go.ChangeShapes Go.WideShapes Go.ChangeAt Go.RowKit
set_option linter.unusedVariables false

/-- what the last loop meets at j -/
theorem facts (K : Nat → Int) {w1 w2 : World} {l0 Ps : List (Int × List Int)} {Ks : List Int} {n m : Nat} {aa ab ak ap : Option Addr}
    (hK : ∀ j, j < m → ∃ i : Nat, i < n ∧ Ks.getD j 0 = (i : Int) ∧ (outsM K true l0 []).getD i [] = (outsM K true Ps []).getD j [])
    (hm : Ps.length = m) (hp : Stps w1 ap Ps)
    (hk : ∀ k, k < m → ∃ g, ak = some ⟨g, 0, none⟩ ∧ w1.cell? ⟨g, k, none⟩ = some (.int .i64 (Ks.getD k 0)))
    (ha : ∀ i, i < n → ∃ g x y, aa = some ⟨g, 0, none⟩ ∧ w1.cell? ⟨g, i, none⟩ = some (.slice x ((outsM K true l0 []).getD i []).length y) ∧ Bts w1 (.slice x ((outsM K true l0 []).getD i []).length y) ((outsM K true l0 []).getD i []))
    (hb : ∀ i, i < m → ∃ g x y, ab = some ⟨g, 0, none⟩ ∧ w2.cell? ⟨g, i, none⟩ = some (.slice x ((outsM K true Ps []).getD i []).length y) ∧ Bts w2 (.slice x ((outsM K true Ps []).getD i []).length y) ((outsM K true Ps []).getD i []))
    (hbel : Bel w1 w2) (W : World) (hW : Bel w2 W) (j : Nat) (hj : j < m) :
    ∃ (i : Nat) (ga : Nat) (xa : Option Addr) (ya gb : Nat) (xb : Option Addr) (yb gk pb po : Nat) (a9 : Option Addr) (n9 c9 ln : Nat) (kd : Int), i < n ∧ aa = some ⟨ga, 0, none⟩ ∧ W.cell? ⟨ga, i, none⟩ = some (.slice xa ln ya) ∧ ab = some ⟨gb, 0, none⟩ ∧ W.cell? ⟨gb, j, none⟩ = some (.slice xb ln yb) ∧ ak = some ⟨gk, 0, none⟩ ∧ W.cell? ⟨gk, j, none⟩ = some (.int .i64 (i : Int)) ∧
      ap = some ⟨pb, po, none⟩ ∧ W.cell? ⟨pb, po + j * 2, none⟩ = some (.int .i64 kd) ∧ W.cell? ⟨pb, po + j * 2 + 1, none⟩ = some (.slice a9 n9 c9) ∧ n9 ≤ 140737488351232 ∧ (kd = 1 → ln = n9 + 28) ∧ (∀ W', Bel W W' → Calls Try.prog 10 #[.slice xa ln ya, .slice xb ln yb] W' fun e w' => e = .returned (.bool true) ∧ ∃ m, w' = W'.drewN m) := by
  obtain ⟨i, hi, hki, hout⟩ := hK j hj
  obtain ⟨ga, xa, ya, ea, ca, ba⟩ := ha i hi
  obtain ⟨gb, xb, yb, eb, cb, bb⟩ := hb j hj
  obtain ⟨gk, ek, ck⟩ := hk j hj
  have hj' : j < Ps.length := by omega
  obtain ⟨pb, po, vd, ep, c1, c2, bd, hz⟩ := hp j hj'
  obtain ⟨a9, c9, rfl, _⟩ := bd
  rw [hki] at ck
  rw [hout] at ca ba
  have hgot : (outsM K true Ps []).getD j [] = gotM K true Ps[j].1 Ps[j].2 (stM (Ps.take j) []) := outsM_at K true Ps [] j hj'
  have hb2 : Bel w1 W := hbel.trans' hW
  refine ⟨i, ga, xa, ya, gb, xb, yb, gk, pb, po, a9, _, c9, _, Ps[j].1, hi, ea, ?_, eb, ?_, ek, ?_, ep, ?_, ?_, hz, fun h1 => ?_, fun W' hW' => same_any _ _ _ W' ((ba.bel hb2).bel hW') ((bb.bel hW).bel hW')⟩
  · rw [bel_cell hb2 (World.block_lt_of_cell? w1 _ ca)]; exact ca
  · rw [bel_cell hW (World.block_lt_of_cell? w2 _ cb)]; exact cb
  · rw [bel_cell hb2 (World.block_lt_of_cell? w1 _ ck)]; exact ck
  · rw [bel_cell hb2 (World.block_lt_of_cell? w1 _ c1)]; exact c1
  · rw [bel_cell hb2 (World.block_lt_of_cell? w1 _ c2)]; exact c2
  · rw [hgot]
    simp only [gotM, h1, if_true, List.length_append, digest_length]
    try rfl

set_option maxRecDepth 100000 in
set_option maxHeartbeats 2000000 in
theorem walk (K : Nat → Int) (v0 : Value) (l0 : List (Int × List Int)) (w : World) (hK : KAt w K) (h0 : StpsV w v0 l0) (z0 : l0.length ≤ 4398046511104) :
    Calls Try.prog 5 #[v0] w fun e w' => e = .returned (.bool true) ∧ Bel w w' := by
  obtain ⟨ad, cap, rfl, n0, m0, hp⟩ := h0
  have HP := Lib.hid hp
  have HK := Lib.hid hK
  clear hp hK
  obtain ⟨n, hN⟩ : ∃ n, n = l0.length := ⟨_, rfl⟩
  rw [← hN] at z0 ⊢
  have HNN := Lib.hid hN
  clear hN n0
  go_enter Try.func5, Try.ntmps5
  go_wp2_with fail
  go_loopw [3, 4, 15] (fun p q i wr => ∃ (k : Nat) (vp vk : Value) (Ps : List (Int × List Int)) (ds : List Value) (Ks : List Int), k ≤ n ∧ i = .int .i64 k ∧ vp = p ∧ vk = q ∧ Hid (ClA w wr vp Ps ds vk Ks ∧ Keeps K true l0 k Ps Ks)) (fun _ _ i _ => n - (intOf i).toNat)
  case atStart => exact ⟨0, _, _, [], [], [], Nat.zero_le _, rfl, rfl, rfl, clA_start w, keeps_start _ _ _⟩
  case round =>
    obtain ⟨k, vp, vk, Ps, ds, Ks, hk, rfl, rfl, rfl, HH⟩ := hrel
    by_cases hlt : k < n
    · have hl : k < l0.length := by have := HNN.out; omega
      obtain ⟨pb, po, vd, rfl, hcell, hcell2, hv, hz⟩ := HP.out k hl
      have hc1 : wr.cell? ⟨pb, po + k * 2, none⟩ = some (.int .i64 l0[k].1) := by rw [bel_cell HH.out.1.bel (World.block_lt_of_cell? w _ hcell)]; exact hcell
      have hc2 : wr.cell? ⟨pb, po + k * 2 + 1, none⟩ = some vd := by rw [bel_cell HH.out.1.bel (World.block_lt_of_cell? w _ hcell)]; exact hcell2
      have i1 : (0 : Int) ≤ (k : Int) := by omega
      have i2 : (k : Int) < (n : Int) := by omega
      have t1 : decide ((k : Int) < (n : Int)) = true := by simp; omega
      by_cases hh : l0[k].1 = 3
      · have HX := Lib.hid (show ClA w (wr.alloc (.cells #[.int .i64 3, vd] 32)) vp Ps ds vk Ks ∧ Keeps K true l0 (k + 1) Ps Ks from ⟨HH.out.1.go (Bel.alloc (Below.refl _ _) _), HH.out.2.skip hl (Or.inl hh)⟩)
        rw [hh] at hc1
        obtain ⟨a9, c9, rfl, _⟩ := hv
        clear hh HH hcell hcell2 hz
        generalize l0[k].2.length = n9 at *
        go_wp2_with fail
        go_roundw
        case rel => exact ⟨k + 1, _, _, Ps, ds, Ks, by omega, by go_num, rfl, rfl, HX.out⟩
        case measure => simp [intOf]; omega
      by_cases hh' : l0[k].1 = 4
      · have HX := Lib.hid (show ClA w (wr.alloc (.cells #[.int .i64 4, vd] 32)) vp Ps ds vk Ks ∧ Keeps K true l0 (k + 1) Ps Ks from ⟨HH.out.1.go (Bel.alloc (Below.refl _ _) _), HH.out.2.skip hl (Or.inr hh')⟩)
        rw [hh'] at hc1
        obtain ⟨a9, c9, rfl, _⟩ := hv
        clear hh hh' HH hcell hcell2 hz
        generalize l0[k].2.length = n9 at *
        go_wp2_with fail
        go_roundw
        case rel => exact ⟨k + 1, _, _, Ps, ds, Ks, by omega, by go_num, rfl, rfl, HX.out⟩
        case measure => simp [intOf]; omega
      · obtain ⟨v5, w5, v6, w6, hr5, hr6, hcl⟩ := HH.out.1.keep l0[k] hv hz (k : Int) (by have := HH.out.2.le; omega) (by have := HH.out.2.le; have := HH.out.2.len; omega)
        have HX := Lib.hid (show ClA w w6 v5 (Ps ++ [l0[k]]) (ds ++ [vd]) v6 (Ks ++ [(k : Int)]) ∧ Keeps K true l0 (k + 1) (Ps ++ [l0[k]]) (Ks ++ [(k : Int)]) from ⟨hcl, HH.out.2.keep hl⟩)
        have HR5 := Lib.hid hr5
        have HR6 := Lib.hid hr6
        obtain ⟨a9, c9, rfl, _⟩ := hv
        have u3 : (l0[k].1 != 3) = true := by simpa using hh
        have u4 : (l0[k].1 != 4) = true := by simpa using hh'
        clear hr5 hr6 hcl hh hh' HH hcell hcell2 hz
        generalize l0[k].2.length = n9 at *
        generalize l0[k].1 = kd at *
        go_wp2_with (first | (at_builtin; refine wpList_append_run rfl (.tmp 28) (.tmp 30) 22 rfl _ _ rfl rfl _ w5 HR5.out ?_) | (at_builtin; refine wpList_append_run rfl (.tmp 32) (.tmp 34) 37 rfl _ _ rfl rfl _ w6 HR6.out ?_))
        go_roundw
        case rel => exact ⟨k + 1, v5, v6, _, _, _, by omega, by go_num, rfl, rfl, HX.out⟩
        case measure => simp [intOf]; omega
    · have t1 : decide ((k : Int) < (n : Int)) = false := by simp; omega
      obtain ⟨ap, cp, rfl, _, _, hsp⟩ := HH.out.1.own.at HH.out.1.bel
      have hkn : k = n := by omega
      have hkt : l0.take k = l0 := List.take_of_length_le (by have := HNN.out; omega)
      obtain ⟨m, hM⟩ : ∃ m, m = Ps.length := ⟨_, rfl⟩
      have hout := HH.out.2.at_
      rw [hkt, hkn, ← hM] at hout
      have hmn : m ≤ n := by have := HH.out.2.le; omega
      have hkl : Ks.length = m := by have := HH.out.2.len; omega
      obtain ⟨ak, ck, rfl, hck⟩ := HH.out.1.ints.cells hkl
      have HB := Lib.hid HH.out.1.bel
      have HOUT := Lib.hid hout
      have HCK := Lib.hid hck
      have HSP := Lib.hid hsp
      have HM := Lib.hid hM
      have hs1 := script224_any K l0 ad cap wr (HP.out.bel HB.out) (HK.out.bel HB.out) (by have := HNN.out; omega)
      have hs2 := fun w1 (b : Bel wr w1) => script224_any K Ps ap cp w1 (HSP.out.bel b) ((HK.out.bel HB.out).bel b) (by omega)
      have hN := HNN.out
      rw [← hN] at hs1
      rw [← hM] at hs2 ⊢
      have HS1 := Lib.hid hs1
      have HS2 := Lib.hid hs2
      clear hs1 hs2 hM hN hout hck hsp hkl hkt HH
      go_wp2_with fail
      refine HS1.out.mono ?_
      rintro e w1 ⟨va, vsa, rfl, ha, b1⟩
      obtain ⟨aa, ca, rfl, hca⟩ := ha.cells (n := n) (by rw [outsM_length]; exact HNN.out.symm)
      have HCA := Lib.hid hca
      have B1 := Lib.hid b1
      clear ha hca b1
      go_wp2_with fail
      refine (HS2.out w1 B1.out).mono ?_
      rintro e w2 ⟨vb, vsb, rfl, hb, b2⟩
      obtain ⟨ab, cb, rfl, hcb⟩ := hb.cells (n := m) (by rw [outsM_length]; exact HM.out.symm)
      have B2 := Lib.hid ((HB.out.trans' B1.out).trans' b2)
      have HF := Lib.hid (facts K HOUT.out HM.out.symm (HSP.out.bel B1.out) (fun k hk => by
        obtain ⟨g, e, hc⟩ := HCK.out k hk
        exact ⟨g, e, by rw [bel_cell B1.out (World.block_lt_of_cell? wr _ hc)]; exact hc⟩) HCA.out hcb b2)
      clear hb hcb b2 HCA HCK HSP HOUT HS1 HS2 B1 HB
      go_wp2_with fail
      go_loopw [55] (fun i wr => ∃ j : Nat, j ≤ m ∧ i = .int .i64 j ∧ Hid (Bel w2 wr)) (fun i _ => m - (intOf i).toNat)
      case atStart => exact ⟨0, Nat.zero_le _, rfl, Below.refl _ _⟩
      case round =>
        obtain ⟨j, hj, rfl, HB⟩ := hrel
        by_cases hjt : j < m
        · obtain ⟨i, ga, xa, ya, gb, xb, yb, gk, pb, po, a9, n9, c9, ln, kd, hi, rfl, d1, rfl, d2, rfl, d3, rfl, d4, d5, hn9, hkd, hsm⟩ := HF.out _ HB.out j hjt
          have HSM := Lib.hid hsm
          have j1 : (0 : Int) ≤ (j : Int) := by omega
          have j2 : (j : Int) < (m : Int) := by omega
          have j3 : (0 : Int) ≤ (i : Int) := by omega
          have j4 : (i : Int) < (n : Int) := by omega
          have t2 : decide ((j : Int) < (m : Int)) = true := by simp; omega
          clear hsm
          by_cases h1 : kd = 1
          · have hln := hkd h1
            subst h1
            subst hln
            have hwr : IntKind.i64.wrap ((n9 : Int) + 28) = (n9 : Int) + 28 := by rw [IntKind.wrap_i64]; omega
            have hcast : ((n9 + 28 : Nat) : Int) = (n9 : Int) + 28 := by omega
            clear hkd
            go_wp2_with fail
            go_quiet (first | (go_at_call 10; exact Calls.quiet_of (HSM.out _ (Bel.same rfl rfl rfl rfl))))
            go_wp2_with fail
            go_roundw
            case rel => exact ⟨j + 1, by omega, by go_num, HB.out.trans' (Bel.same rfl rfl rfl rfl)⟩
            case measure => simp [intOf]; omega
          · have u1 : (kd == 1) = false := by simpa using h1
            clear hkd h1
            go_wp2_with fail
            go_quiet (first | (go_at_call 10; exact Calls.quiet_of (HSM.out _ (Bel.same rfl rfl rfl rfl))))
            go_wp2_with fail
            go_roundw
            case rel => exact ⟨j + 1, by omega, by go_num, HB.out.trans' (Bel.same rfl rfl rfl rfl)⟩
            case measure => simp [intOf]; omega
        · have t2 : decide ((j : Int) < (m : Int)) = false := by simp; omega
          go_wp2_with fail
          go_ret
          exact ⟨rfl, B2.out.trans' HB.out⟩

set_option maxRecDepth 100000 in
theorem lifted (os : Os) (started : os.Started) (H : Type) (enc : TypeId × Value → H) :
    ReturnsInHanded {} Try.checked os 5 .any (Rows.fnCloneGoesOn224Spec.pre6 enc Try.prog Try.f5 Rows.fnCloneGoesOn224Row.domain false) (Rows.fnCloneGoesOn224Spec.post enc Try.prog Try.f5 false true false false) := by
  refine returnsInHanded_of_change_shaped (C := Try.checked) ownN started (by kernel_rfl) Try.func5
    (ChangeSpec.witness6 (enc := enc) (C := Try.checked) false ⟨#[], #[.slice none 0 0], []⟩ 8 (by kernel_rfl) (by kernel_rfl) (by kernel_rfl) (by kernel_rfl)) ?_
  intro W base args ds gs before hval0 hW hcnd hz0 hsh _
  have hval : ∀ (j : Nat) t v, Try.f5.params[j]? = some t → args[j]? = some v → Value.okWide Try.prog W .any base t v := hval0
  have hz : (DataW.weightsEach Try.prog (Try.f5.params.toList ++ (Rows.fnCloneGoesOn224Spec.plain.varTypes Try.prog)) (ds ++ gs)).all (· ≤ reachBytes) = true := hz0
  have hW' := hW
  obtain ⟨p, q, hA0, hV, rfl, hfz, hnd⟩ := hW
  have hA : DataW.TrodAll enc Try.prog W 0 (fun _ => true) true Try.f5.params.toList args.toList ds p := hA0
  rw [Try.params5] at hA hval hz
  obtain ⟨v0, vs0, d0, ds0, p0, q0, hargs, rfl, rfl, h0, r0⟩ := trodAll_cons hA
  obtain ⟨rfl, rfl, rfl⟩ := trodAll_nil r0
  obtain rfl : args = #[v0] := by cases args; simp_all
  obtain ⟨rfl, rfl⟩ := trodVars_none hV
  obtain ⟨K, hK⟩ := kat_of_shaped hsh
  have k0 := h0
  have lt0 : ∀ x ∈ p0, x.block < W.heap.size := by obtain ⟨m, hm⟩ := k0; exact DataW.trod_lt m _ _ _ hm
  obtain ⟨l0, b0, z0⟩ := open_arg_steps rfl (hval 0 22 v0 rfl rfl) h0 hz (j := 0) rfl rfl
  clear hA0 hval0 hz hz0
  refine (walk K v0 l0 W hK b0 z0).mono fun e W' ⟨he, bel⟩ => ?_
  subst he
  exact ⟨_, rfl, _, _, _, [], _, [], hW', trodAll_mk1 (shut_bool Try.underlying4 _), (trodAll_cons_mk (Below.trod laidOutN (by kernel_rfl) (of_decide_eq_true (by kernel_rfl)) k0 bel lt0) trodAll_mk0), rfl, bel.frame _, fun h => by cases h⟩

theorem over : Rows.fnCloneGoesOn224Row.holds Try.pinned (OpenSpec.ofChange Rows.fnCloneGoesOn224Spec) :=
  OpenClaim.holds_of_wide 5 Try.f5 rfl rfl rfl rfl rfl rfl rfl ⟨rfl, rfl, rfl, rfl, rfl⟩ rfl rfl rfl rfl rfl (by kernel_rfl) Try.func5 (by kernel_rfl)
    (of_decide_eq_true (by kernel_rfl)) (by unfold Func.isWrapper; first | (rw [if_pos (by decide +kernel)]; kernel_rfl) | (rw [if_neg (by decide +kernel)]; exact ⟨rfl, rfl⟩))
    (fun os started H enc _ => lifted os started H enc)

theorem proved : Rows.FnCloneGoesOn224Said := over
end Go.Proofs.Ytnpoggcpdelmnaa.fnCloneGoesOn224

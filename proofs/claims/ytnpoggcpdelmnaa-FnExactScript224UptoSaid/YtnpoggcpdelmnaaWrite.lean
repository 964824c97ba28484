/-
  Digest.Write: whatever the digest has been given, it has been given the slice's bytes besides; all are told, and no error.
-/
import Derived.Test.YtnpoggcpdelmnaaWMany
namespace Go.Proofs.Ytnpoggcpdelmnaa
open Go.RowKit
set_option linter.unusedVariables false

def front : Nat → Code → Code → Code
  | n + 1, .seq a b, t => .seq a (front n b t)
  | _, _, t => t
theorem wp_front {P : Program} {c : Code} {Q : Exit → Act → World → Prop} {a : Act} {w : World} (n : Nat) (t : Code) (h : front n c t = c) (k : Code.wp P (front n c t) Q a w) : Code.wp P c Q a w := by
  rwa [h] at k

/-- a slice of bytes with the content B, readable in w, not in block b -/
def Src (w : World) (b : Nat) (ad : Option Addr) (B : List Int) : Prop :=
  0 < B.length → ∃ pb po, ad = some ⟨pb, po, none⟩ ∧ pb ≠ b ∧ Reads w pb po B.length (fun i => B.getD i 0)

/-- the tail, whatever the slice's length -/
theorem tail_any (c : Nat → Value) (b L cap : Nat) (ad : Option Addr) (K y : Nat → Int) (nn : Value) (h : S8) (x : List Int) (ln : Int) (is : Bool) (w : World) (Q : Exit → Act → World → Prop) (P : World → Prop)
    (hc : L ≤ cap) (hcap : cap ≤ 9223372036854775807) (d : Dig w b h x 0 ln is) (hs : 0 < L → ∃ pb po, ad = some ⟨pb, po, none⟩ ∧ pb ≠ b ∧ Reads w pb po L y) (hK : KAt w K) (hKb : b ≠ 0)
    (hQ : WEnd nn Q P)
    (hP : ∀ w', Dig w' b (absorb K y h (L / 64)) (splice x 0 ((List.range (L % 64)).map fun i => y (64 * (L / 64) + i))) ((L % 64 : Nat) : Int) ln is → w.grownBy w' (some b) → P w') :
    Code.wp Try.prog wTail Q (FW c b (.slice ad L cap) nn) w := by
  by_cases h0 : L = 0
  · subst h0
    refine tail_none c b cap ad nn w Q P hQ (hP w ?_ (grown_refl _ _))
    simp only [Nat.zero_div, Nat.zero_mod, List.range_zero, List.map_nil]
    exact ⟨by simpa [splice] using d.1, by simpa [splice, absorb] using d.2⟩
  · obtain ⟨pb, po, rfl, hpb, hr⟩ := hs (by omega)
    clear hs
    by_cases h1 : L < 64
    · have e1 : L / 64 = 0 := by omega
      have e2 : L % 64 = L := by omega
      rw [e1, e2] at hP
      refine tail_few c b pb po L cap y nn h x ln is w Q P (by omega) h1 hc hcap d hr hQ (fun w' d' g' => hP w' ?_ g')
      simp only [Nat.mul_zero, Nat.zero_add]
      exact d'
    · exact tail_many c b pb po L cap K y nn h x ln is w Q P (by omega) hc hcap d hr hpb hK hKb hQ hP

/-- the digest's empty buffer -/
theorem range_getD (B : List Int) (k : Nat) : ((List.range (B.length - k)).map fun i => B.getD (k + i) 0) = B.drop k := by
  apply List.ext_getElem?
  intro i
  by_cases hi : i < B.length - k
  · simp [hi, List.getD_eq_getElem?_getD, show k + i < B.length by omega]
  · rw [List.getElem?_eq_none (by simpa using hi), List.getElem?_eq_none (by simp; omega)]

theorem to_FW {P : Program} {Q : Exit → Act → World → Prop} {w : World} {t : Array Value} (b : Nat) (p nn : Value) (h : (⟨t, []⟩ : Act) = FW (fun n => t.getD n undef) b p nn)
    (k : ∀ c, Code.wp P wTail Q (FW c b p nn) w) : Code.wp P wTail Q ⟨t, []⟩ w := by rw [h]; exact k _

theorem ends {nn : Value} {P : World → Prop} {R : Ending → World → Prop} (hR : ∀ w', P w' → R (.returned (.tuple #[nn, .nilIface])) w') :
    WEnd nn (bodyPost Try.prog Try.f47 R) P := by
  intro a w h1 h2 h3 hP
  refine bodyPost_ret (results_tmp2 rfl _ _ _) h1 ?_
  rw [h2, h3]
  exact hR w hP

set_option maxRecDepth 100000 in
set_option maxHeartbeats 2000000 in
theorem write_even (b : Nat) (K y : Nat → Int) (h : S8) (x : List Int) (L cap : Nat) (ad : Option Addr) (ln : Int) (is : Bool) (w : World) (d : Dig w b h x 0 ln is)
    (hc : L ≤ cap) (hcap : cap ≤ 9223372036854775807) (hs : 0 < L → ∃ pb po, ad = some ⟨pb, po, none⟩ ∧ pb ≠ b ∧ Reads w pb po L y) (hK : KAt w K) (hKb : b ≠ 0) :
    Calls Try.prog 47 #[.pointer (some ⟨b, 0, none⟩), .slice ad L cap] w fun e w' =>
      e = .returned (.tuple #[.int .i64 L, .nilIface]) ∧ Dig w' b (absorb K y h (L / 64)) (splice x 0 ((List.range (L % 64)).map fun i => y (64 * (L / 64) + i))) ((L % 64 : Nat) : Int) (IntKind.u64.wrap (ln + L)) is ∧ w.grownBy w' (some b) := by
  have c73 := d.cln
  have f73 := d.free 73
  have c72 := d.cnx
  have d1 := d.set_ln (IntKind.u64.wrap (ln + L))
  have g1 := grown_setCell w b 73 (.int .u64 (IntKind.u64.wrap (ln + L)))
  have hs1 : 0 < L → ∃ pb po, ad = some ⟨pb, po, none⟩ ∧ pb ≠ b ∧ Reads (w.setCell ⟨b, 73, none⟩ (.int .u64 (IntKind.u64.wrap (ln + L)))) pb po L y := fun h => by
    obtain ⟨pb, po, h1, h2, h3⟩ := hs h
    exact ⟨pb, po, h1, h2, h3.kept g1 h2⟩
  have HS := Lib.hid hs1
  have D1 := Lib.hid d1
  have G1 := Lib.hid g1
  have HK := Lib.hid (hK.kept g1 hKb)
  clear d d1 g1 hs hs1 hK
  go_enter Try.func47, Try.ntmps47
  refine wp_front 4 wTail rfl ?_
  simp only [front]
  go_wp2_with fail
  refine to_FW b (.slice ad L cap) (.int .i64 L) rfl fun c => ?_
  refine tail_any c b L cap ad K y _ h x _ is _ _ _ hc hcap D1.out HS.out HK.out hKb (ends (P := fun w' => Dig w' b (absorb K y h (L / 64)) (splice x 0 ((List.range (L % 64)).map fun i => y (64 * (L / 64) + i))) ((L % 64 : Nat) : Int) (IntKind.u64.wrap (ln + L)) is ∧ w.grownBy w' (some b)) ?_) ?_
  · exact fun w' h => ⟨rfl, h⟩
  · exact fun w' h1 h2 => ⟨h1, grown_trans G1.out h2⟩

theorem copy_zero (w : World) (dp sp : Option Addr) (dLen dCap sCap : Nat) :
    (Builtin.copy_ #[30, 30] 3 #[.slice dp dLen dCap, .slice sp 0 sCap]).run Try.prog w = .ok (.int .i64 0) w := by
  have := run_copy_none (P := Try.prog) w 30 30 3 5 dp sp dLen dCap 0 sCap Try.underlying30 (by kernel_rfl) (Nat.zero_min _)
  simpa [goInt] using this

set_option maxRecDepth 100000 in
set_option maxHeartbeats 2000000 in
/-- the buffer holds something, and nothing comes in -/
theorem write_zero (b : Nat) (h : S8) (x : List Int) (m cap : Nat) (ad : Option Addr) (ln : Int) (is : Bool) (w : World) (hm : 0 < m) (hm2 : m < 64) (d : Dig w b h x (m : Int) ln is) :
    Calls Try.prog 47 #[.pointer (some ⟨b, 0, none⟩), .slice ad 0 cap] w fun e w' =>
      e = .returned (.tuple #[.int .i64 0, .nilIface]) ∧ Dig w' b h x (m : Int) (IntKind.u64.wrap ln) is ∧ w.grownBy w' (some b) := by
  have c73 := d.cln
  have f73 := d.free 73
  have c72 := d.cnx
  have f72 := d.free 72
  have d1 := d.set_ln (IntKind.u64.wrap ln)
  have g1 := grown_setCell w b 73 (.int .u64 (IntKind.u64.wrap ln))
  have D1 := Lib.hid d1
  have G1 := Lib.hid g1
  have t0 : decide ((0 : Int) < (m : Int)) = true := by simp; omega
  have i0 : (0 : Int) ≤ (m : Int) := by omega
  have i1 : (m : Int) ≤ 64 := by omega
  have i2 : ¬ (64 = m) := by omega
  have t64 : ((m : Int) == 64) = false := by simp; omega
  have hcp := fun w => copy_zero w (some ⟨b, 8 + m, none⟩) ad (64 - m) (64 - m) cap
  clear d d1 g1
  go_enter Try.func47, Try.ntmps47
  refine wp_front 4 wTail rfl ?_
  simp only [front]
  go_wp2_with fail
  refine Plan.wp_region_quiet_tail 9 (by kernel_rfl) (by kernel_rfl) ?_
  simp only [List.take_succ_cons, List.take_zero, List.drop_succ_cons, List.drop_zero]
  repeat (go_big_quiet_step (fail))
  refine wpQuiet_nil ?_
  go_wp2_with fail
  refine to_FW b (.slice ad 0 cap) (.int .i64 0) rfl fun c => ?_
  refine tail_none c b cap ad _ _ _ _ (ends (P := fun w' => Dig w' b h x (m : Int) (IntKind.u64.wrap ln) is ∧ w.grownBy w' (some b)) ?_) ?_
  · exact fun w' h => ⟨rfl, h⟩
  · exact ⟨(D1.out.set_nx _).keep rfl, grown_trans G1.out (grown_trans (grown_setCell _ b 72 _) (grown_drew _ _))⟩

set_option maxRecDepth 100000 in
set_option maxHeartbeats 4000000 in
/-- the buffer holds something, and is not filled -/
theorem write_few (b pb po : Nat) (y : Nat → Int) (s : S8) (x : List Int) (m L cap : Nat) (ln : Int) (is : Bool) (w : World) (hm : 0 < m) (hL : 0 < L) (hm2 : m + L < 64) (d : Dig w b s x (m : Int) ln is)
    (hc : L ≤ cap) (hcap : cap ≤ 9223372036854775807) (hp : Reads w pb po L y) (hpb : pb ≠ b) :
    Calls Try.prog 47 #[.pointer (some ⟨b, 0, none⟩), .slice (some ⟨pb, po, none⟩) L cap] w fun e w' =>
      e = .returned (.tuple #[.int .i64 L, .nilIface]) ∧ Dig w' b s (splice x m ((List.range L).map y)) ((m + L : Nat) : Int) (IntKind.u64.wrap (ln + L)) is ∧ w.grownBy w' (some b) := by
  have c73 := d.cln
  have f73 := d.free 73
  have c72 := d.cnx
  have d1 := d.set_ln (IntKind.u64.wrap (ln + L))
  have g1 := grown_setCell w b 73 (.int .u64 (IntKind.u64.wrap (ln + L)))
  obtain ⟨w2, hcp, d2, g2⟩ := copy_dig (w.setCell ⟨b, 73, none⟩ (.int .u64 (IntKind.u64.wrap (ln + L)))).drew b s x (m : Int) (IntKind.u64.wrap (ln + L)) is (d1.keep rfl) m L (by omega) pb po L cap y (Nat.min_eq_left (by omega)).symm (hp.kept (grown_trans g1 (grown_drew _ _)) hpb)
  have c72' := d2.cnx
  have f72' := d2.free 72
  have D2 := Lib.hid d2
  have G2 := Lib.hid (grown_trans g1 (grown_trans (grown_drew _ _) g2))
  have t0 : decide ((0 : Int) < (m : Int)) = true := by simp; omega
  have i0 : (0 : Int) ≤ (m : Int) := by omega
  have i1 : (m : Int) ≤ 64 := by omega
  have i2 : ¬ (64 = m) := by omega
  have t64 : ((m : Int) + (L : Int) == 64) = false := by simp; omega
  clear d d1 g1 d2 g2 hp
  go_enter Try.func47, Try.ntmps47
  refine wp_front 4 wTail rfl ?_
  simp only [front]
  go_wp2_with fail
  refine Plan.wp_region_quiet_tail 9 (by kernel_rfl) (by kernel_rfl) ?_
  simp only [List.take_succ_cons, List.take_zero, List.drop_succ_cons, List.drop_zero]
  repeat (go_big_quiet_step (fail))
  refine wpQuiet_nil ?_
  go_wp2_with fail
  all_goals
    refine to_FW b (.slice _ 0 _) (.int .i64 L) rfl fun c => ?_
    refine tail_none c b _ _ _ _ _ _ (ends (P := fun w' => Dig w' b s (splice x m ((List.range L).map y)) ((m + L : Nat) : Int) (IntKind.u64.wrap (ln + L)) is ∧ w.grownBy w' (some b)) ?_) ?_
    · exact fun w' h => ⟨rfl, h⟩
    · exact ⟨by rw [Int.natCast_add]; exact D2.out.set_nx _, grown_trans G2.out (grown_setCell _ b 72 _)⟩

set_option maxRecDepth 100000 in
set_option maxHeartbeats 4000000 in
/-- the buffer holds something, and is filled -/
theorem write_fill (b pb po : Nat) (K y : Nat → Int) (s : S8) (x : List Int) (m n L cap : Nat) (ln : Int) (is : Bool) (w : World) (hm : 0 < m) (hn : m + n = 64) (hn0 : 0 < n) (hm2 : n ≤ L) (d : Dig w b s x (m : Int) ln is)
    (hc : L ≤ cap) (hcap : cap ≤ 9223372036854775807) (hp : Reads w pb po L y) (hpb : pb ≠ b) (hK : KAt w K) (hKb : b ≠ 0) :
    Calls Try.prog 47 #[.pointer (some ⟨b, 0, none⟩), .slice (some ⟨pb, po, none⟩) L cap] w fun e w' =>
      e = .returned (.tuple #[.int .i64 L, .nilIface]) ∧ Dig w' b (absorb K (fun i => y (n + i)) (absorb K (fun i => (splice x m ((List.range n).map y)).getD i 0) s 1) ((L - n) / 64))
        (splice (splice x m ((List.range n).map y)) 0 ((List.range ((L - n) % 64)).map fun i => y (n + (64 * ((L - n) / 64) + i)))) (((L - n) % 64 : Nat) : Int) (IntKind.u64.wrap (ln + L)) is ∧ w.grownBy w' (some b) := by
  have c73 := d.cln
  have f73 := d.free 73
  have c72 := d.cnx
  have d1 := d.set_ln (IntKind.u64.wrap (ln + L))
  have g1 := grown_setCell w b 73 (.int .u64 (IntKind.u64.wrap (ln + L)))
  obtain ⟨w2, hcp, d2, g2⟩ := copy_dig (w.setCell ⟨b, 73, none⟩ (.int .u64 (IntKind.u64.wrap (ln + L)))).drew b s x (m : Int) (IntKind.u64.wrap (ln + L)) is (d1.keep rfl) m n (by omega) pb po L cap y (by rw [show 64 - m = n by omega]; exact (Nat.min_eq_right hm2).symm) (fun j hj => (hp.kept (grown_trans g1 (grown_drew _ _)) hpb) j (by omega))
  have G2 := grown_trans g1 (grown_trans (grown_drew _ _) g2)
  have c72' := d2.cnx
  have f72' := d2.free 72
  have d3 := d2.set_nx 64
  have g3 := grown_trans G2 (grown_setCell w2 b 72 (.int .i64 64))
  have HB := Lib.hid (block_dig b b 8 1 64 64 K (fun i => (splice x m ((List.range n).map y)).getD i 0) s _ _ _ is _ rfl d3 (by omega) (by omega) (fun j hj => d3.byte hj) (hK.kept g3 hKb))
  have HG3 := Lib.hid g3
  have HP := Lib.hid hp
  have HKK := Lib.hid hK
  have t0 : decide ((0 : Int) < (m : Int)) = true := by simp; omega
  have i0 : (0 : Int) ≤ (m : Int) := by omega
  have i1 : (m : Int) ≤ 64 := by omega
  have i2 : ¬ (64 = m) := by omega
  have e64 : (m : Int) + (n : Int) = 64 := by omega
  clear d d1 g1 d2 g2 d3 g3 G2 hp hK
  go_enter Try.func47, Try.ntmps47
  refine wp_front 4 wTail rfl ?_
  simp only [front]
  go_wp2_with fail
  refine Plan.wp_region_quiet_tail 9 (by kernel_rfl) (by kernel_rfl) ?_
  simp only [List.take_succ_cons, List.take_zero, List.drop_succ_cons, List.drop_zero]
  repeat (go_big_quiet_step (fail))
  refine wpQuiet_nil ?_
  go_wp2_with fail
  refine HB.out.mono ?_
  rintro e w4 ⟨rfl, h1, h2⟩
  have c72 := h1.cnx
  have f72 := h1.free 72
  have D5 := Lib.hid (h1.set_nx 0)
  have G5 := Lib.hid (grown_trans h2 (grown_setCell w4 b 72 (.int .i64 0)))
  clear h1 h2 c72' f72'
  go_wp2_with fail
  · refine to_FW b (.slice _ (L - n) _) (.int .i64 L) rfl fun c => ?_
    refine tail_any c b (L - n) _ _ K (fun i => y (n + i)) _ _ _ _ is _ _ _ (by omega) (by omega) D5.out (fun hlt => absurd hlt (by omega)) (HKK.out.kept (grown_trans HG3.out G5.out) hKb) hKb (ends (P := fun w' => Dig w' b (absorb K (fun i => y (n + i)) (absorb K (fun i => (splice x m ((List.range n).map y)).getD i 0) s 1) ((L - n) / 64))
        (splice (splice x m ((List.range n).map y)) 0 ((List.range ((L - n) % 64)).map fun i => y (n + (64 * ((L - n) / 64) + i)))) (((L - n) % 64 : Nat) : Int) (IntKind.u64.wrap (ln + L)) is ∧ w.grownBy w' (some b)) ?_) ?_
    · exact fun w' h => ⟨rfl, h⟩
    · exact fun w' h1 h2 => ⟨h1, grown_trans HG3.out (grown_trans G5.out h2)⟩
  · refine to_FW b (.slice _ (L - n) _) (.int .i64 L) rfl fun c => ?_
    refine tail_any c b (L - n) _ _ K (fun i => y (n + i)) _ _ _ _ is _ _ _ (by omega) (by omega) D5.out (fun hlt => ⟨pb, po + n, rfl, hpb, fun j hj => ?_⟩) (HKK.out.kept (grown_trans HG3.out G5.out) hKb) hKb (ends (P := fun w' => Dig w' b (absorb K (fun i => y (n + i)) (absorb K (fun i => (splice x m ((List.range n).map y)).getD i 0) s 1) ((L - n) / 64))
        (splice (splice x m ((List.range n).map y)) 0 ((List.range ((L - n) % 64)).map fun i => y (n + (64 * ((L - n) / 64) + i)))) (((L - n) % 64 : Nat) : Int) (IntKind.u64.wrap (ln + L)) is ∧ w.grownBy w' (some b)) ?_) ?_
    · rw [Nat.add_assoc]; exact (HP.out.kept (grown_trans HG3.out G5.out) hpb) (n + j) (by omega)
    · exact fun w' h => ⟨rfl, h⟩
    · exact fun w' h1 h2 => ⟨h1, grown_trans HG3.out (grown_trans G5.out h2)⟩

theorem wrap_len (M L : Nat) : IntKind.u64.wrap (((M % 18446744073709551616 : Nat) : Int) + (L : Int)) = (((M + L) % 18446744073709551616 : Nat) : Int) := by
  rw [IntKind.wrap_u64]; omega

/-- THE CONTRACT OF Write -/
theorem write_any (K : Nat → Int) (b : Nat) (is : Bool) (M B : List Int) (ad : Option Addr) (cap : Nat) (w : World) (dd : DigAt K w b is M) (hs : Src w b ad B) (hc : B.length ≤ cap) (hcap : cap ≤ 9223372036854775807)
    (hK : KAt w K) (hKb : b ≠ 0) :
    Calls Try.prog 47 #[.pointer (some ⟨b, 0, none⟩), .slice ad B.length cap] w fun e w' =>
      e = .returned (.tuple #[.int .i64 B.length, .nilIface]) ∧ DigAt K w' b is (M ++ B) ∧ w.grownBy w' (some b) := by
  obtain ⟨x, d, hx⟩ := dd
  have e0 := range_getD B 0
  simp only [Nat.sub_zero, Nat.zero_add, List.drop_zero] at e0
  by_cases h0 : M.length % 64 = 0
  · rw [h0] at d
    refine (write_even b K (fun i => B.getD i 0) _ x B.length cap ad _ is w d hc hcap hs hK hKb).mono fun e w' ⟨he, hd, hg⟩ => ⟨he, ?_, hg⟩
    refine digAt_whole d.1 h0 ?_
    rw [wrap_len] at hd
    have e1 : ((List.range (B.length % 64)).map fun i => B.getD (64 * (B.length / 64) + i) 0) = B.drop (64 * (B.length / 64)) := by
      rw [← range_getD B (64 * (B.length / 64))]
      congr 2
      omega
    rw [e1] at hd
    exact hd
  · by_cases hL : B.length = 0
    · obtain rfl : B = [] := List.eq_nil_of_length_eq_zero hL
      refine (write_zero b _ x (M.length % 64) cap ad _ is w (by omega) (by omega) d).mono fun e w' ⟨he, hd, hg⟩ => ⟨he, ⟨x, ?_, ?_⟩, hg⟩
      · rw [List.append_nil]
        have := wrap_len M.length 0
        simp only [Int.ofNat_zero, Int.add_zero, Nat.add_zero] at this
        rw [this] at hd
        exact hd
      · rw [List.append_nil]; exact hx
    · obtain ⟨pb, po, rfl, hpb, hr⟩ := hs (by omega)
      clear hs
      by_cases hf : M.length % 64 + B.length < 64
      · refine (write_few b pb po (fun i => B.getD i 0) _ x (M.length % 64) B.length cap _ is w (by omega) (by omega) hf d hc hcap hr hpb).mono fun e w' ⟨he, hd, hg⟩ => ⟨he, ?_, hg⟩
        rw [e0, wrap_len] at hd
        exact digAt_few d.1 hf hx hd
      · obtain ⟨n, hn⟩ : ∃ n, M.length % 64 + n = 64 := ⟨64 - M.length % 64, by omega⟩
        refine (write_fill b pb po K (fun i => B.getD i 0) _ x (M.length % 64) n B.length cap _ is w (by omega) hn (by omega) (by omega) d hc hcap hr hpb hK hKb).mono fun e w' ⟨he, hd, hg⟩ => ⟨he, ?_, hg⟩
        rw [wrap_len] at hd
        have e1 : ((List.range n).map fun i => B.getD i 0) = B.take n := by
          have := range_getD (B.take n) 0
          simp only [Nat.sub_zero, Nat.zero_add, List.drop_zero, List.length_take, Nat.min_eq_left (show n ≤ B.length by omega)] at this
          rw [← this]
          refine List.map_congr_left fun i hi => ?_
          have hi' : i < n := by simpa using hi
          simp [List.getD_eq_getElem?_getD, List.getElem?_take_of_lt hi']
        rw [e1] at hd
        have hlen : (B.take n).length = n := by rw [List.length_take]; omega
        have hfill := hOf_fill (K := K) (is := is) d.1 (by rw [hlen]; exact hn) (by omega) hx
        rw [← hfill] at hd
        have eM : M ++ B = (M ++ B.take n) ++ B.drop n := by rw [List.append_assoc, List.take_append_drop]
        have hdl : (B.drop n).length = B.length - n := by rw [List.length_drop]
        have hml : (M ++ B.take n).length = M.length + n := by rw [List.length_append, hlen]
        rw [eM]
        refine digAt_whole (x := splice x (M.length % 64) (B.take n)) ?_ ?_ ?_
        · rw [length_splice _ _ _ (by rw [hlen, d.1]; omega)]; exact d.1
        · rw [hml]; omega
        · rw [hdl, hml]
          have e3 : (fun i => (B.drop n).getD i 0) = fun i => B.getD (n + i) 0 := by
            funext i; simp [List.getD_eq_getElem?_getD, List.getElem?_drop]
          have e4 : ((List.range ((B.length - n) % 64)).map fun i => B.getD (n + (64 * ((B.length - n) / 64) + i)) 0) = (B.drop n).drop (64 * ((B.length - n) / 64)) := by
            have := range_getD (B.drop n) (64 * ((B.length - n) / 64))
            rw [← this, hdl]
            rw [show B.length - n - 64 * ((B.length - n) / 64) = (B.length - n) % 64 by omega]
            refine List.map_congr_left fun i _ => ?_
            simp [List.getD_eq_getElem?_getD, List.getElem?_drop]
          rw [e4] at hd
          rw [e3, show M.length + n + (B.length - n) = M.length + B.length by omega]
          exact hd

end Go.Proofs.Ytnpoggcpdelmnaa

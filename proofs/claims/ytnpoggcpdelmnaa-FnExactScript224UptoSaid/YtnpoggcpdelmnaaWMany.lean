/-
  Digest.Write, from behind the filling of the buffer on, where there are whole chunks: 1024 chunks a turn, then the rest of them.
-/
import Derived.Test.YtnpoggcpdelmnaaWTail
namespace Go.Proofs.Ytnpoggcpdelmnaa
open Go.RowKit
set_option linter.unusedVariables false

theorem and_hi (L : Nat) (h : L < 2 ^ 64) : L &&& (2 ^ 64 - 64) = 64 * (L / 64) := by
  have e1 : (2 ^ 64 - 64 : Nat) = 2 ^ 6 * (2 ^ 58 - 1) := by decide
  have e2 : 64 * (L / 64) = 2 ^ 6 * (L / 2 ^ 6) := by rw [show (2 : Nat) ^ 6 = 64 from rfl]
  rw [e1, e2]
  apply Nat.eq_of_testBit_eq
  intro i
  rw [Nat.testBit_and, Nat.testBit_two_pow_mul, Nat.testBit_two_pow_sub_one, Nat.testBit_two_pow_mul, Nat.testBit_div_two_pow]
  by_cases h6 : 6 ≤ i
  · have : 6 + (i - 6) = i := by omega
    by_cases h64 : i < 64
    · have h58 : i - 6 < 58 := by omega
      simp [h6, h58, Nat.sub_add_cancel h6]
    · have hf : L.testBit i = false := Nat.testBit_lt_two_pow (Nat.lt_of_lt_of_le h (Nat.pow_le_pow_right (by decide) (by omega)))
      simp [h6, hf, Nat.sub_add_cancel h6]
  · simp [h6]
theorem andNot63 (L : Nat) (h : L ≤ 9223372036854775807) : bits BinOp.andNot IntKind.i64 (L : Int) 63 = ((64 * (L / 64) : Nat) : Int) := by
  have e : (BitVec.ofInt 64 (L : Int) &&& ~~~(BitVec.ofInt 64 63)).toNat = 64 * (L / 64) := by
    rw [BitVec.toNat_and, BitVec.ofInt_natCast, BitVec.toNat_ofNat, Nat.mod_eq_of_lt (by omega)]
    have : (~~~(BitVec.ofInt 64 63)).toNat = 2 ^ 64 - 64 := by decide
    rw [this]
    exact and_hi L (by omega)
  have hb : bits BinOp.andNot IntKind.i64 (L : Int) 63 = IntKind.i64.wrap (((BitVec.ofInt 64 (L : Int) &&& ~~~(BitVec.ofInt 64 63)).toNat : Nat) : Int) := rfl
  rw [hb, e, IntKind.wrap_i64]
  omega

/-- block over a digest -/
theorem block_dig (b pb po n len cap : Nat) (K y : Nat → Int) (h : S8) (x : List Int) (nx ln : Int) (is : Bool) (w : World) (hlen : len = 64 * n)
    (d : Dig w b h x nx ln is) (hn : len ≤ cap) (hcap : cap ≤ 9223372036854775807) (hp : Reads w pb po len y) (hK : KAt w K) :
    Calls Try.prog 50 #[.pointer (some ⟨b, 0, none⟩), .slice (some ⟨pb, po, none⟩) len cap] w fun e w' =>
      e = .returned (.tuple #[]) ∧ Dig w' b (absorb K y h n) x nx ln is ∧ w.grownBy w' (some b) := by
  subst hlen
  refine (block_any b pb po n cap K y h _ _ w d.2 digC_has8 hn hcap hp hK).mono fun e w' ⟨he, hd, hg⟩ => ⟨he, ⟨d.1, ?_⟩, hg⟩
  rw [hd, digC_set8]

def FL (c u : Nat → Value) (b : Nat) (p nn nv : Value) : Act :=
  ⟨#[.pointer (some ⟨b, 0, none⟩), p, c 2, c 3, nn, .nilIface, c 6, nv, c 8, c 9, c 10, c 11, c 12, c 13, c 14, c 15, c 16, c 17, c 18, c 19, c 20, c 21, c 22, c 23, c 24, c 25, c 26, c 27, c 28, c 29, c 30, c 31, c 32, c 33, c 34, c 35, c 36, c 37, c 38, c 39, c 40, c 41, c 42, c 43, c 44, c 45, c 46, c 47, c 48, c 49, c 50, c 51, c 52, c 53, c 54, c 55, c 56, c 57, c 58, c 59, c 60, c 61, c 62, c 63, c 64, u 65, u 66, u 67, u 68, u 69, u 70, u 71, u 72, u 73, u 74, c 75, c 76, c 77, c 78, c 79, c 80, c 81, c 82, c 83, c 84, c 85, c 86, c 87, c 88, c 89, c 90, c 91, c 92, c 93, c 94], []⟩

set_option maxRecDepth 100000 in
set_option maxHeartbeats 1000000 in
theorem roundW (c u : Nat → Value) (b pb po L cap nv : Nat) (nn : Value) (K y : Nat → Int) (h : S8) (x : List Int) (nx ln : Int) (is : Bool) (w : World) (Q : Exit → Act → World → Prop) (R : Act → World → Prop)
    (hnv : 65536 < nv) (hL : nv ≤ L) (hc : L ≤ cap) (hcap : cap ≤ 9223372036854775807) (d : Dig w b h x nx ln is) (hp : Reads w pb po 65536 y) (hK : KAt w K)
    (hR : ∀ (v65 v66 v67 v68 v69 v70 v71 v72 v73 v74 : Value) (w' : World), Dig w' b (absorb K y h 1024) x nx ln is → w.grownBy w' (some b) →
      R ⟨#[.pointer (some ⟨b, 0, none⟩), .slice (some ⟨pb, po + 65536, none⟩) (L - 65536) (cap - 65536), c 2, c 3, nn, .nilIface, c 6, .int .i64 ((nv - 65536 : Nat) : Int), c 8, c 9, c 10, c 11, c 12, c 13, c 14, c 15, c 16, c 17, c 18, c 19, c 20, c 21, c 22, c 23, c 24, c 25, c 26, c 27, c 28, c 29, c 30, c 31, c 32, c 33, c 34, c 35, c 36, c 37, c 38, c 39, c 40, c 41, c 42, c 43, c 44, c 45, c 46, c 47, c 48, c 49, c 50, c 51, c 52, c 53, c 54, c 55, c 56, c 57, c 58, c 59, c 60, c 61, c 62, c 63, c 64, v65, v66, v67, v68, v69, v70, v71, v72, v73, v74, c 75, c 76, c 77, c 78, c 79, c 80, c 81, c 82, c 83, c 84, c 85, c 86, c 87, c 88, c 89, c 90, c 91, c 92, c 93, c 94], []⟩ w') :
    Code.wp Try.prog wLoop (Exit.then R Q) (FL c u b (.slice (some ⟨pb, po, none⟩) L cap) nn (.int .i64 (nv : Int))) w := by
  have HB := Lib.hid (block_dig b pb po 1024 65536 cap K y h x nx ln is w rfl d (by omega) hcap hp hK)
  have HR := Lib.hid hR
  clear hR d hp hK
  conv => arg 2; whnf
  unfold FL
  have t1 : decide ((65536 : Int) < (nv : Int)) = true := by simp; omega
  have hne : ¬ cap = 65536 := by omega
  go_wp2_with (go_at_call 50; refine HB.out.mono ?_; rintro e w' ⟨rfl, h1, h2⟩; have H1 := Lib.hid h1; have H2 := Lib.hid h2; clear h1 h2)
  rw [show ((nv : Int) - 65536) = ((nv - 65536 : Nat) : Int) by omega]
  exact HR.out _ _ _ _ _ _ _ _ _ _ _ H1.out H2.out

set_option maxRecDepth 100000 in
set_option maxHeartbeats 1000000 in
theorem roundW_end (c u : Nat → Value) (b nv : Nat) (p nn : Value) (w : World) (Q : Exit → Act → World → Prop) (R : Act → World → Prop)
    (hnv : nv ≤ 65536) (hQ : ∀ (v65 v66 v67 v68 v69 v70 v71 v72 v73 v74 : Value), Q (.exit 0) ⟨#[.pointer (some ⟨b, 0, none⟩), p, c 2, c 3, nn, .nilIface, c 6, .int .i64 (nv : Int), c 8, c 9, c 10, c 11, c 12, c 13, c 14, c 15, c 16, c 17, c 18, c 19, c 20, c 21, c 22, c 23, c 24, c 25, c 26, c 27, c 28, c 29, c 30, c 31, c 32, c 33, c 34, c 35, c 36, c 37, c 38, c 39, c 40, c 41, c 42, c 43, c 44, c 45, c 46, c 47, c 48, c 49, c 50, c 51, c 52, c 53, c 54, c 55, c 56, c 57, c 58, c 59, c 60, c 61, c 62, c 63, c 64, v65, v66, v67, v68, v69, v70, v71, v72, v73, v74, c 75, c 76, c 77, c 78, c 79, c 80, c 81, c 82, c 83, c 84, c 85, c 86, c 87, c 88, c 89, c 90, c 91, c 92, c 93, c 94], []⟩ w) :
    Code.wp Try.prog wLoop (Exit.then R Q) (FL c u b p nn (.int .i64 (nv : Int))) w := by
  have HQ := Lib.hid hQ
  clear hQ
  conv => arg 2; whnf
  unfold FL
  have t1 : decide ((65536 : Int) < (nv : Int)) = false := by simp; omega
  go_wp2
  exact HQ.out _ _ _ _ _ _ _ _ _ _

def InvW (c : Nat → Value) (b pb po L cap n0 : Nat) (nn : Value) (K y : Nat → Int) (h : S8) (x : List Int) (nx ln : Int) (is : Bool) (w0 : World) (a : Act) (w : World) : Prop :=
  ∃ (u : Nat → Value) (k : Nat), 65536 * k < n0 ∧ Dig w b (absorb K y h (1024 * k)) x nx ln is ∧ w0.grownBy w (some b) ∧
    a = FL c u b (.slice (some ⟨pb, po + 65536 * k, none⟩) (L - 65536 * k) (cap - 65536 * k)) nn (.int .i64 ((n0 - 65536 * k : Nat) : Int))
def MuW (a : Act) (_ : World) : Nat := (intOf (a.tmps.getD 7 undef)).toNat
theorem MuW_FL (c u : Nat → Value) (b : Nat) (p nn : Value) (n : Nat) (w : World) : MuW (FL c u b p nn (.int .i64 (n : Int))) w = n := rfl

set_option maxRecDepth 100000 in
set_option maxHeartbeats 1000000 in
theorem loopW (c u : Nat → Value) (b pb po L cap n0 : Nat) (nn : Value) (K y : Nat → Int) (h : S8) (x : List Int) (nx ln : Int) (is : Bool) (w : World) (Q : Exit → Act → World → Prop)
    (hn0 : 0 < n0) (hL : n0 ≤ L) (hc : L ≤ cap) (hcap : cap ≤ 9223372036854775807) (d : Dig w b h x nx ln is) (hp : Reads w pb po L y) (hpb : pb ≠ b) (hK : KAt w K) (hKb : b ≠ 0)
    (hQ : ∀ (u' : Nat → Value) (k nv : Nat) (w' : World), 0 < nv → nv ≤ 65536 → 65536 * k + nv = n0 → Dig w' b (absorb K y h (1024 * k)) x nx ln is → w.grownBy w' (some b) →
      Q (.exit 0) (FL c u' b (.slice (some ⟨pb, po + 65536 * k, none⟩) (L - 65536 * k) (cap - 65536 * k)) nn (.int .i64 (nv : Int))) w') :
    Code.wp Try.prog (Code.loop wLoop) Q (FL c u b (.slice (some ⟨pb, po, none⟩) L cap) nn (.int .i64 (n0 : Int))) w := by
  refine wp_loop (InvW c b pb po L cap n0 nn K y h x nx ln is w) MuW ⟨u, 0, by omega, d, grown_refl _ _, rfl⟩ ?_
  rintro a w1 ⟨u, k, hk, d1, g1, rfl⟩
  by_cases hbig : 65536 < n0 - 65536 * k
  · refine roundW c u b pb (po + 65536 * k) (L - 65536 * k) (cap - 65536 * k) (n0 - 65536 * k) nn K (fun i => y (64 * (1024 * k) + i)) _ x nx ln is w1 Q _ hbig (by omega) (by omega) (by omega) d1
      (fun j hj => ?_) (hK.kept g1 hKb) ?_
    · have := (hp.kept g1 hpb) (65536 * k + j) (by omega)
      rw [← Nat.add_assoc] at this
      rw [this]
      congr 3
      omega
    · intro v65 v66 v67 v68 v69 v70 v71 v72 v73 v74 w2 d2 g2
      refine ⟨⟨fun m => (#[undef, undef, undef, undef, undef, undef, undef, undef, undef, undef, undef, undef, undef, undef, undef, undef, undef, undef, undef, undef, undef, undef, undef, undef, undef, undef, undef, undef, undef, undef, undef, undef, undef, undef, undef, undef, undef, undef, undef, undef, undef, undef, undef, undef, undef, undef, undef, undef, undef, undef, undef, undef, undef, undef, undef, undef, undef, undef, undef, undef, undef, undef, undef, undef, undef, v65, v66, v67, v68, v69, v70, v71, v72, v73, v74] : Array Value).getD m undef, k + 1, by omega, ?_, grown_trans g1 g2, ?_⟩, ?_⟩
      · rw [Nat.mul_add, absorb_add]; exact d2
      · rw [show po + 65536 * (k + 1) = po + 65536 * k + 65536 by omega, show L - 65536 * (k + 1) = L - 65536 * k - 65536 by omega, show cap - 65536 * (k + 1) = cap - 65536 * k - 65536 by omega, show n0 - 65536 * (k + 1) = n0 - 65536 * k - 65536 by omega]; rfl
      · show n0 - 65536 * k - 65536 < n0 - 65536 * k
        omega
  · refine roundW_end c u b (n0 - 65536 * k) _ nn w1 Q _ (by omega) ?_
    intro v65 v66 v67 v68 v69 v70 v71 v72 v73 v74
    exact hQ (fun m => (#[undef, undef, undef, undef, undef, undef, undef, undef, undef, undef, undef, undef, undef, undef, undef, undef, undef, undef, undef, undef, undef, undef, undef, undef, undef, undef, undef, undef, undef, undef, undef, undef, undef, undef, undef, undef, undef, undef, undef, undef, undef, undef, undef, undef, undef, undef, undef, undef, undef, undef, undef, undef, undef, undef, undef, undef, undef, undef, undef, undef, undef, undef, undef, undef, undef, v65, v66, v67, v68, v69, v70, v71, v72, v73, v74] : Array Value).getD m undef) k (n0 - 65536 * k) w1 (by omega) (by omega) (by omega) d1 g1

set_option maxRecDepth 100000 in
set_option maxHeartbeats 2000000 in
theorem tail_many (c : Nat → Value) (b pb po L cap : Nat) (K y : Nat → Int) (nn : Value) (h : S8) (x : List Int) (ln : Int) (is : Bool) (w : World) (Q : Exit → Act → World → Prop) (P : World → Prop)
    (hL : 64 ≤ L) (hc : L ≤ cap) (hcap : cap ≤ 9223372036854775807) (d : Dig w b h x 0 ln is) (hp : Reads w pb po L y) (hpb : pb ≠ b) (hK : KAt w K) (hKb : b ≠ 0)
    (hQ : WEnd nn Q P)
    (hP : ∀ w', Dig w' b (absorb K y h (L / 64)) (splice x 0 ((List.range (L % 64)).map fun i => y (64 * (L / 64) + i))) ((L % 64 : Nat) : Int) ln is → w.grownBy w' (some b) → P w') :
    Code.wp Try.prog wTail Q (FW c b (.slice (some ⟨pb, po, none⟩) L cap) nn) w := by
  have hbits := andNot63 L (by omega)
  have HQ := Lib.hid hQ
  have HP := Lib.hid hP
  have HD := Lib.hid d
  have HR := Lib.hid hp
  have HK := Lib.hid hK
  clear hQ hP d hp hK
  conv => arg 2; whnf
  unfold FW
  have t1 : decide ((64 : Int) ≤ (L : Int)) = true := by simp; omega
  go_wp2
  refine loopW (fun n => (#[.pointer (some ⟨b, 0, none⟩), undef, c 2, c 3, nn, .nilIface, c 6, undef, c 8, c 9, c 10, c 11, c 12, c 13, c 14, c 15, c 16, c 17, c 18, c 19, c 20, c 21, c 22, c 23, c 24, c 25, c 26, c 27, c 28, c 29, c 30, c 31, c 32, c 33, c 34, c 35, c 36, c 37, c 38, c 39, c 40, c 41, c 42, c 43, c 44, c 45, c 46, c 47, c 48, c 49, c 50, c 51, c 52, c 53, c 54, c 55, c 56, c 57, c 58, .slice (some ⟨pb, po, none⟩) L cap, .int .i64 L, .bool true, .slice (some ⟨pb, po, none⟩) L cap, .int .i64 L, .int .i64 ((64 * (L / 64) : Nat) : Int), undef, undef, undef, undef, undef, undef, undef, undef, undef, undef, c 75, c 76, c 77, c 78, c 79, c 80, c 81, c 82, c 83, c 84, c 85, c 86, c 87, c 88, c 89, c 90, c 91, c 92, c 93, c 94] : Array Value).getD n undef) (fun n => (#[undef, undef, undef, undef, undef, undef, undef, undef, undef, undef, undef, undef, undef, undef, undef, undef, undef, undef, undef, undef, undef, undef, undef, undef, undef, undef, undef, undef, undef, undef, undef, undef, undef, undef, undef, undef, undef, undef, undef, undef, undef, undef, undef, undef, undef, undef, undef, undef, undef, undef, undef, undef, undef, undef, undef, undef, undef, undef, undef, undef, undef, undef, undef, undef, undef, c 65, c 66, c 67, c 68, c 69, c 70, c 71, c 72, c 73, c 74] : Array Value).getD n undef) b pb po L cap (64 * (L / 64)) nn K y h x 0 ln is w _ (by omega) (by omega) hc hcap HD.out HR.out hpb HK.out hKb ?_
  intro u' k nv w1 hnv1 hnv2 hsum d1 g1
  have e : FL (fun n => (#[.pointer (some ⟨b, 0, none⟩), undef, c 2, c 3, nn, .nilIface, c 6, undef, c 8, c 9, c 10, c 11, c 12, c 13, c 14, c 15, c 16, c 17, c 18, c 19, c 20, c 21, c 22, c 23, c 24, c 25, c 26, c 27, c 28, c 29, c 30, c 31, c 32, c 33, c 34, c 35, c 36, c 37, c 38, c 39, c 40, c 41, c 42, c 43, c 44, c 45, c 46, c 47, c 48, c 49, c 50, c 51, c 52, c 53, c 54, c 55, c 56, c 57, c 58, .slice (some ⟨pb, po, none⟩) L cap, .int .i64 L, .bool true, .slice (some ⟨pb, po, none⟩) L cap, .int .i64 L, .int .i64 ((64 * (L / 64) : Nat) : Int), undef, undef, undef, undef, undef, undef, undef, undef, undef, undef, c 75, c 76, c 77, c 78, c 79, c 80, c 81, c 82, c 83, c 84, c 85, c 86, c 87, c 88, c 89, c 90, c 91, c 92, c 93, c 94] : Array Value).getD n undef) u' b (.slice (some ⟨pb, po + 65536 * k, none⟩) (L - 65536 * k) (cap - 65536 * k)) nn (.int .i64 (nv : Int)) = ⟨#[.pointer (some ⟨b, 0, none⟩), .slice (some ⟨pb, po + 65536 * k, none⟩) (L - 65536 * k) (cap - 65536 * k), c 2, c 3, nn, .nilIface, c 6, .int .i64 (nv : Int), c 8, c 9, c 10, c 11, c 12, c 13, c 14, c 15, c 16, c 17, c 18, c 19, c 20, c 21, c 22, c 23, c 24, c 25, c 26, c 27, c 28, c 29, c 30, c 31, c 32, c 33, c 34, c 35, c 36, c 37, c 38, c 39, c 40, c 41, c 42, c 43, c 44, c 45, c 46, c 47, c 48, c 49, c 50, c 51, c 52, c 53, c 54, c 55, c 56, c 57, c 58, .slice (some ⟨pb, po, none⟩) L cap, .int .i64 L, .bool true, .slice (some ⟨pb, po, none⟩) L cap, .int .i64 L, .int .i64 ((64 * (L / 64) : Nat) : Int), u' 65, u' 66, u' 67, u' 68, u' 69, u' 70, u' 71, u' 72, u' 73, u' 74, c 75, c 76, c 77, c 78, c 79, c 80, c 81, c 82, c 83, c 84, c 85, c 86, c 87, c 88, c 89, c 90, c 91, c 92, c 93, c 94], []⟩ := rfl
  rw [e]
  clear e
  have hp1 : Reads w1 pb (po + 65536 * k) (L - 65536 * k) (fun i => y (64 * (1024 * k) + i)) := fun j hj => by
    have := (HR.out.kept g1 hpb) (65536 * k + j) (by omega)
    rw [← Nat.add_assoc] at this
    rw [this]
    congr 3
    omega
  have HK1 := Lib.hid (HK.out.kept g1 hKb)
  obtain ⟨q2, hq2⟩ : ∃ q2, nv = 64 * q2 := ⟨nv / 64, by omega⟩
  have eq : 1024 * k + q2 = L / 64 := by omega
  have fin : absorb K (fun i => y (64 * (1024 * k) + i)) (absorb K y h (1024 * k)) q2 = absorb K y h (L / 64) := by rw [← absorb_add, eq]
  have hr : L - 65536 * k - nv = L % 64 := by omega
  have HB := Lib.hid (block_dig b pb (po + 65536 * k) q2 nv (cap - 65536 * k) K (fun i => y (64 * (1024 * k) + i)) _ x 0 ln is w1 hq2 d1 (by omega) (by omega) (fun j hj => hp1 j (by omega)) HK1.out)
  rw [fin] at HB
  have hy : ∀ j, y (64 * (1024 * k) + (nv + j)) = y (64 * (L / 64) + j) := fun j => congrArg y (by omega)
  have HY := Lib.hid hy
  have HP1 := Lib.hid hp1
  have G1 := Lib.hid g1
  have hS := Lib.hid hsum
  have hQ2 := Lib.hid hq2
  have hEQ := Lib.hid eq
  have hLE : nv ≤ L - 65536 * k := by omega
  have hLE2 : L - 65536 * k ≤ cap - 65536 * k := by omega
  have hCAP : cap - 65536 * k ≤ 9223372036854775807 := by omega
  have HRR := Lib.hid hr
  clear hy hp1 g1 hsum hq2 eq hr d1 fin hbits t1 HK1 HK HR HD
  generalize po + 65536 * k = po2 at *
  generalize L - 65536 * k = L2 at *
  generalize cap - 65536 * k = cap2 at *
  by_cases h0 : L2 = nv
  · have hz : L % 64 = 0 := by have := HRR.out; omega
    subst h0
    have t2 : decide ((0 : Int) < ((L2 - L2 : Nat) : Int)) = false := by simp
    go_wp2_with (go_at_call 50; refine HB.out.mono ?_; rintro e w' ⟨rfl, h1, h2⟩; have H1 := Lib.hid h1; have H2 := Lib.hid h2; clear h1 h2)
    all_goals
      refine HQ.out _ _ rfl rfl rfl (HP.out _ ?_ (grown_trans G1.out H2.out))
      rw [hz]
      exact H1.out
  · have hne : ¬ cap2 = nv := by omega
    have t2 : decide ((0 : Int) < ((L2 - nv : Nat) : Int)) = true := by simp; omega
    have hdst : ∀ w', w1.grownBy w' (some b) → Dig w' b (absorb K y h (L / 64)) x 0 ln is → ∃ w3, (Builtin.copy_ #[30, 30] 3 #[.slice (some ⟨b, 8, none⟩) 64 64, .slice (some ⟨pb, po2 + nv, none⟩) (L2 - nv) (cap2 - nv)]).run Try.prog w' = .ok (.int .i64 ((L2 - nv : Nat) : Int)) w3 ∧
        Dig w3 b (absorb K y h (L / 64)) (splice x 0 ((List.range (L % 64)).map fun i => y (64 * (L / 64) + i))) 0 ln is ∧ w'.grownBy w3 (some b) := fun w' g d => by
      have hr := HRR.out
      obtain ⟨w3, h1, h2, h3⟩ := copy_dig w' b _ x 0 ln is d 0 (L2 - nv) (by omega) pb (po2 + nv) (L2 - nv) (cap2 - nv) (fun i => y (64 * (L / 64) + i)) (Nat.min_eq_left (by omega)).symm (fun j hj => by
        have := (HP1.out.kept g hpb) (nv + j) (by omega)
        rw [← Nat.add_assoc] at this
        rw [this]; exact congrArg (fun z => some (Value.int .u8 z)) (HY.out j))
      rw [hr] at h2
      exact ⟨w3, h1, h2, h3⟩
    have HDST := Lib.hid hdst
    clear hdst
    go_wp2_with (go_at_call 50; refine HB.out.mono ?_; rintro e w' ⟨rfl, h1, h2⟩; obtain ⟨w3, hcp, d3, g3⟩ := HDST.out w' h2 h1; have c72 := d3.cnx; have f72 := d3.free 72; have D3 := Lib.hid d3; have G3 := Lib.hid (grown_trans h2 g3); clear h1 h2 d3 g3)
    have hr := HRR.out
    refine HQ.out _ _ rfl rfl rfl (HP.out _ ?_ (grown_trans G1.out (grown_trans G3.out (grown_setCell _ b 72 _))))
    rw [← hr]
    rw [← hr] at D3
    exact D3.out.set_nx _

end Go.Proofs.Ytnpoggcpdelmnaa

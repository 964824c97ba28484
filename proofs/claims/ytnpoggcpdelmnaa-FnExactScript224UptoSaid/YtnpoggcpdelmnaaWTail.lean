/-
  Digest.Write, from behind the filling of the buffer on: whole chunks, and the rest into the buffer.
-/
import Derived.Test.YtnpoggcpdelmnaaBytes
import Derived.BigQuiet
import Derived.Deep.MidRow
namespace Go.Proofs.Ytnpoggcpdelmnaa
open Go.RowKit
set_option linter.unusedVariables false

def dropSeq : Nat → Code → Code
  | n + 1, .seq _ b => dropSeq n b
  | _, c => c
noncomputable def wTail : Code := dropSeq 4 (Try.f47.body.getD .skip)
noncomputable def wLoop : Code := ((firstLoop wTail).getD .skip)

def FW (c : Nat → Value) (b : Nat) (p nn : Value) : Act :=
  ⟨#[.pointer (some ⟨b, 0, none⟩), p, c 2, c 3, nn, .nilIface, c 6, c 7, c 8, c 9, c 10, c 11, c 12, c 13, c 14, c 15, c 16, c 17, c 18, c 19, c 20, c 21, c 22, c 23, c 24, c 25, c 26, c 27, c 28, c 29, c 30, c 31, c 32, c 33, c 34, c 35, c 36, c 37, c 38, c 39, c 40, c 41, c 42, c 43, c 44, c 45, c 46, c 47, c 48, c 49, c 50, c 51, c 52, c 53, c 54, c 55, c 56, c 57, c 58, c 59, c 60, c 61, c 62, c 63, c 64, c 65, c 66, c 67, c 68, c 69, c 70, c 71, c 72, c 73, c 74, c 75, c 76, c 77, c 78, c 79, c 80, c 81, c 82, c 83, c 84, c 85, c 86, c 87, c 88, c 89, c 90, c 91, c 92, c 93, c 94], []⟩

/-- how the tail ends -/
def WEnd (nn : Value) (Q : Exit → Act → World → Prop) (P : World → Prop) : Prop :=
  ∀ (a : Act) (w : World), a.defers = [] → a.tmps.getD 4 undef = nn → a.tmps.getD 5 undef = .nilIface → P w → Q .ret a w

set_option maxRecDepth 100000 in
set_option maxHeartbeats 1000000 in
theorem tail_none (c : Nat → Value) (b cap : Nat) (ad : Option Addr) (nn : Value) (w : World) (Q : Exit → Act → World → Prop) (P : World → Prop) (hQ : WEnd nn Q P) (hP : P w) :
    Code.wp Try.prog wTail Q (FW c b (.slice ad 0 cap) nn) w := by
  conv => arg 2; whnf
  unfold FW
  go_wp2
  exact hQ _ _ rfl rfl rfl hP

/-- what a slice of bytes that lies somewhere holds -/
def Reads (w : World) (pb po n : Nat) (y : Nat → Int) : Prop := ∀ j, j < n → w.cell? ⟨pb, po + j, none⟩ = some (.int .u8 (y j))
def KAt (w : World) (K : Nat → Int) : Prop := ∀ j, j < 64 → w.cell? ⟨0, j, none⟩ = some (.int .u32 (K j))

theorem Reads.kept {w w' : World} {pb po n b : Nat} {y : Nat → Int} (h : Reads w pb po n y) (hg : w.grownBy w' (some b)) (hne : pb ≠ b) : Reads w' pb po n y := fun j hj =>
  hg.cell (h j hj) (fun e => hne (by simpa using e))
theorem KAt.kept {w w' : World} {K : Nat → Int} {b : Nat} (h : KAt w K) (hg : w.grownBy w' (some b)) (hne : b ≠ 0) : KAt w' K := fun j hj =>
  hg.cell (h j hj) (fun e => hne (by simpa using e.symm))

theorem digL_splice (h : S8) (x : List Int) (nx ln : Int) (is : Bool) (o : Nat) (ys : List Int) (hx : o + ys.length ≤ x.length) :
    (digL h x nx ln is).take (8 + o) ++ (ys.map (Value.int .u8) ++ (digL h x nx ln is).drop (8 + o + (ys.map (Value.int .u8)).length)) = digL h (splice x o ys) nx ln is := by
  unfold digL
  rw [List.take_append, List.drop_append]
  have e1 : List.take (8 + o) [Value.int .u32 h.a, .int .u32 h.b, .int .u32 h.c, .int .u32 h.d, .int .u32 h.e, .int .u32 h.f, .int .u32 h.g, .int .u32 h.h] = [Value.int .u32 h.a, .int .u32 h.b, .int .u32 h.c, .int .u32 h.d, .int .u32 h.e, .int .u32 h.f, .int .u32 h.g, .int .u32 h.h] := List.take_of_length_le (by simp)
  have e2 : List.drop (8 + o + (ys.map (Value.int .u8)).length) [Value.int .u32 h.a, .int .u32 h.b, .int .u32 h.c, .int .u32 h.d, .int .u32 h.e, .int .u32 h.f, .int .u32 h.g, .int .u32 h.h] = [] := List.drop_eq_nil_of_le (by simp; omega)
  rw [e1, e2]
  have e3 : 8 + o - [Value.int .u32 h.a, .int .u32 h.b, .int .u32 h.c, .int .u32 h.d, .int .u32 h.e, .int .u32 h.f, .int .u32 h.g, .int .u32 h.h].length = o := by simp
  have e4 : 8 + o + (ys.map (Value.int .u8)).length - [Value.int .u32 h.a, .int .u32 h.b, .int .u32 h.c, .int .u32 h.d, .int .u32 h.e, .int .u32 h.f, .int .u32 h.g, .int .u32 h.h].length = o + ys.length := by simp; omega
  rw [e3, e4, List.take_append_of_le_length (by simp; omega), List.drop_append_of_le_length (by simp; omega)]
  simp only [splice, List.map_append, List.map_take, List.map_drop, List.append_assoc, List.nil_append]

theorem copy_dig (w : World) (b : Nat) (h : S8) (x : List Int) (nx ln : Int) (is : Bool) (d : Dig w b h x nx ln is) (o n : Nat) (ho : o ≤ 64) (pb po sLen sCap : Nat) (y : Nat → Int) (hn : n = Nat.min sLen (64 - o)) (hp : Reads w pb po n y) :
    ∃ w1, (Builtin.copy_ #[30, 30] 3 #[.slice (some ⟨b, 8 + o, none⟩) (64 - o) (64 - o), .slice (some ⟨pb, po, none⟩) sLen sCap]).run Try.prog w = .ok (.int .i64 (n : Int)) w1 ∧
      Dig w1 b h (splice x o ((List.range n).map y)) nx ln is ∧ w.grownBy w1 (some b) := by
  have hle : n ≤ 64 - o := by rw [hn]; exact Nat.min_le_right _ _
  have hl : ((List.range n).map y).length = n := by simp
  have hr := run_copy_row (P := Try.prog) w 30 30 3 5 b (8 + o) (64 - o) (64 - o) ⟨pb, po, none⟩ sLen sCap (digC h x nx ln is) _ (((List.range n).map y).map (Value.int .u8))
    Try.underlying30 (by kernel_rfl) d.2 (by simp [hn]) (fun j v hv => by
      simp only [List.getElem?_map, List.map_map] at hv
      have hj : j < n := by
        rcases Nat.lt_or_ge j n with hj | hj
        · exact hj
        · rw [List.getElem?_eq_none (by simpa using hj)] at hv; cases hv
      rw [List.getElem?_range hj] at hv
      simp only [Option.map_some, Option.some.injEq] at hv
      rw [Addr.add_mid, hp j hj, ← hv]; rfl) (by rw [digC_size d.1]; simp; omega) (fun v hv => by
      obtain ⟨z, _, rfl⟩ := List.mem_map.1 hv
      rfl)
  have e : List.take (8 + o) (digC h x nx ln is).toList ++ ((List.range n).map y).map (Value.int .u8) ++ List.drop (8 + o + (((List.range n).map y).map (Value.int .u8)).length) (digC h x nx ln is).toList = digL h (splice x o ((List.range n).map y)) nx ln is := by
    rw [List.append_assoc]
    exact digL_splice h x nx ln is o ((List.range n).map y) (by rw [hl, d.1]; omega)
  rw [e] at hr
  refine ⟨w.setRow b (digC h (splice x o ((List.range n).map y)) nx ln is), hr.trans ?_, ⟨?_, ?_⟩, ?_⟩
  · simp [goInt, digC]
  · rw [length_splice _ _ _ (by rw [hl, d.1]; omega)]; exact d.1
  · exact setRow_heap w b _ _ _ _ d.2
  · exact ⟨rfl, rfl, rfl, by simp [World.setRow], fun k _ hk => setRow_other w b k _ (fun e => hk (by rw [e]))⟩

set_option maxRecDepth 100000 in
set_option maxHeartbeats 1000000 in
theorem tail_few (c : Nat → Value) (b pb po L cap : Nat) (y : Nat → Int) (nn : Value) (h : S8) (x : List Int) (ln : Int) (is : Bool) (w : World) (Q : Exit → Act → World → Prop) (P : World → Prop)
    (hL : 0 < L) (hL2 : L < 64) (hc : L ≤ cap) (hcap : cap ≤ 9223372036854775807) (d : Dig w b h x 0 ln is) (hp : Reads w pb po L y)
    (hQ : WEnd nn Q P) (hP : ∀ w', Dig w' b h (splice x 0 ((List.range L).map y)) (L : Int) ln is → w.grownBy w' (some b) → P w') :
    Code.wp Try.prog wTail Q (FW c b (.slice (some ⟨pb, po, none⟩) L cap) nn) w := by
  conv => arg 2; whnf
  unfold FW
  have t1 : decide ((64 : Int) ≤ (L : Int)) = false := by simp; omega
  have t2 : decide ((0 : Int) < (L : Int)) = true := by simp; omega
  obtain ⟨w1, hcp, d1, g1⟩ := copy_dig w b h x 0 ln is d 0 L (by omega) pb po L cap y (Nat.min_eq_left (by omega)).symm hp
  have c72 := d1.cnx
  have f72 := d1.free 72
  have D1 := Lib.hid d1
  have G1 := Lib.hid g1
  clear d1 g1 d hp
  simp only [Nat.add_zero, Nat.sub_zero] at hcp
  go_wp2
  exact hQ _ _ rfl rfl rfl (hP _ (D1.out.set_nx _) (grown_trans G1.out (grown_setCell _ b 72 _)))

end Go.Proofs.Ytnpoggcpdelmnaa

/-
  The words of SHA-256's block function, as plain functions on integers, in the forms in which Go's text computes them; the loop bodies of blockGeneric.
-/
import Derived.Test.YtnpoggcpdelmnaaLeaf
namespace Go.Proofs.Ytnpoggcpdelmnaa
open Go.RowKit

structure S8 where
  a : Int
  b : Int
  c : Int
  d : Int
  e : Int
  f : Int
  g : Int
  h : Int

/-- four bytes, the first on top -/
def be4 (x0 x1 x2 x3 : Int) : Int :=
  bits BinOp.or IntKind.u32 (bits BinOp.or IntKind.u32 (bits BinOp.or IntKind.u32 (x0 % 4294967296 * 16777216 % 4294967296) (x1 % 4294967296 * 65536 % 4294967296)) (x2 % 4294967296 * 256 % 4294967296)) (x3 % 4294967296)

/-- a word of the schedule out of four earlier ones -/
def wlate (y2 y7 y15 y16 : Int) : Int :=
  (bits BinOp.xor IntKind.u32 (bits BinOp.xor IntKind.u32 (rotk y2 (-17)) (rotk y2 (-19))) (y2 / 1024) + y7 +
    bits BinOp.xor IntKind.u32 (bits BinOp.xor IntKind.u32 (rotk y15 (-7)) (rotk y15 (-18))) (y15 / 8) + y16) % 4294967296

def t1 (e f g h kk wi : Int) : Int :=
  h + bits BinOp.xor IntKind.u32 (bits BinOp.xor IntKind.u32 (rotk e (-6)) (rotk e (-11))) (rotk e (-25)) +
    bits BinOp.xor IntKind.u32 (bits BinOp.and IntKind.u32 e f) (bits BinOp.and IntKind.u32 (bits BinOp.xor IntKind.u32 IntKind.u32.max e) g) + kk + wi
def t2 (a b c : Int) : Int :=
  bits BinOp.xor IntKind.u32 (bits BinOp.xor IntKind.u32 (rotk a (-2)) (rotk a (-13))) (rotk a (-22)) +
    bits BinOp.xor IntKind.u32 (bits BinOp.xor IntKind.u32 (bits BinOp.and IntKind.u32 a b) (bits BinOp.and IntKind.u32 a c)) (bits BinOp.and IntKind.u32 b c)

/-- one round -/
def rnd (kk wi : Int) (s : S8) : S8 :=
  ⟨(t1 s.e s.f s.g s.h kk wi + t2 s.a s.b s.c) % 4294967296, s.a, s.b, s.c, (s.d + t1 s.e s.f s.g s.h kk wi) % 4294967296, s.e, s.f, s.g⟩

/-- the words of the schedule, one behind the other; x: the chunk's bytes -/
def wnext (x : Nat → Int) (l : List Int) (i : Nat) : Int :=
  if i < 16 then be4 (x (i * 4)) (x (i * 4 + 1)) (x (i * 4 + 2)) (x (i * 4 + 3))
  else wlate (l.getD (i - 2) 0) (l.getD (i - 7) 0) (l.getD (i - 15) 0) (l.getD (i - 16) 0)
def wl (x : Nat → Int) : Nat → List Int
  | 0 => []
  | n + 1 => wl x n ++ [wnext x (wl x n) n]
def wd (x : Nat → Int) (i : Nat) : Int := wnext x (wl x i) i

theorem wl_length (x : Nat → Int) (n : Nat) : (wl x n).length = n := by
  induction n with
  | zero => rfl
  | succ n ih => simp [wl, ih]
theorem wl_get (x : Nat → Int) (n j : Nat) (h : j < n) : (wl x n).getD j 0 = wd x j := by
  induction n with
  | zero => omega
  | succ n ih =>
    by_cases hj : j < n
    · have hl : j < (wl x n).length := by rw [wl_length]; exact hj
      rw [wl, List.getD_eq_getElem?_getD, List.getElem?_append_left hl, ← List.getD_eq_getElem?_getD]
      exact ih hj
    · obtain rfl : j = n := by omega
      rw [wl, List.getD_eq_getElem?_getD, List.getElem?_append_right (by rw [wl_length]; omega), wl_length]
      simp [wd]
theorem wd_lo (x : Nat → Int) (i : Nat) (h : i < 16) : wd x i = be4 (x (i * 4)) (x (i * 4 + 1)) (x (i * 4 + 2)) (x (i * 4 + 3)) := by
  rw [wd, wnext, if_pos h]
theorem wd_hi (x : Nat → Int) (i : Nat) (h : 16 ≤ i) : wd x i = wlate (wd x (i - 2)) (wd x (i - 7)) (wd x (i - 15)) (wd x (i - 16)) := by
  rw [wd, wnext, if_neg (by omega), wl_get _ _ _ (by omega), wl_get _ _ _ (by omega), wl_get _ _ _ (by omega), wl_get _ _ _ (by omega)]

/-- the eight words behind n rounds -/
def rounds (K x : Nat → Int) (s : S8) : Nat → S8
  | 0 => s
  | n + 1 => rnd (K n) (wd x n) (rounds K x s n)

/-- one chunk of 64 bytes -/
def compress (K x : Nat → Int) (s : S8) : S8 :=
  let r := rounds K x s 64
  ⟨(s.a + r.a) % 4294967296, (s.b + r.b) % 4294967296, (s.c + r.c) % 4294967296, (s.d + r.d) % 4294967296,
   (s.e + r.e) % 4294967296, (s.f + r.f) % 4294967296, (s.g + r.g) % 4294967296, (s.h + r.h) % 4294967296⟩

/-- n chunks; y: the bytes -/
def absorb (K y : Nat → Int) (s : S8) : Nat → S8
  | 0 => s
  | n + 1 => compress K (fun i => y (64 * n + i)) (absorb K y s n)

def firstLoop : Code → Option Code
  | .loop c => some c
  | .seq a b => match firstLoop a with
    | some c => some c
    | none => firstLoop b
  | .block _ c => firstLoop c
  | .scope c => firstLoop c
  | .cond _ a b => match firstLoop a with
    | some c => some c
    | none => firstLoop b
  | _ => none
noncomputable def body1 : Code := ((Try.f26.body.bind firstLoop).getD .skip)
noncomputable def body2 : Code := ((firstLoop body1).getD .skip)

end Go.Proofs.Ytnpoggcpdelmnaa

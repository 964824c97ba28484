/-
  math/bits.RotateLeft32: for every word and every count the call returns the word turned, and leaves the world alone.
-/
import Derived.Test.YtnpoggcpdelmnaaChecked
import Derived.WalkKit
import Derived.WalkLawsBesides
import Derived.WalkSpells
namespace Go.Proofs.Ytnpoggcpdelmnaa
open Go.RowKit

def rot (x : Int) (s : Nat) : Int := bits BinOp.or IntKind.u32 (IntKind.u32.wrap (x * 2 ^ s)) (x / 2 ^ (32 - s))
def rotk (x k : Int) : Int := rot x (k % 32).toNat

set_option maxHeartbeats 400000 in
theorem rot_any (x k : Int) (s : Nat) (hs : s ≤ 31) (hk : bits BinOp.and IntKind.u64 (IntKind.u64.wrap k) 31 = (s : Int)) (w : World) :
    Calls Try.prog 55 #[.int .u32 x, .int .i64 k] w fun e w' => e = .returned (.int .u32 (rot x s)) ∧ w' = w := by
  have e1 : Op.shift .shl .u32 x .u64 (s : Int) = pure (.int .u32 (IntKind.u32.wrap (x * 2 ^ s))) := by
    rw [shift_shl_any _ _ _ _ (by omega)]
    have : min ((s : Int)).toNat IntKind.u32.bits = s := by simp [IntKind.bits]; omega
    rw [this]
  have e2 : Op.shift .shr .u32 x .u64 (32 - (s : Int)) = pure (.int .u32 (x / 2 ^ (32 - s))) := by
    rw [shift_shr_any _ _ _ _ (by omega)]
    have : min (32 - (s : Int)).toNat IntKind.u32.bits = 32 - s := by simp [IntKind.bits]
    rw [this]
  have e3 : IntKind.u64.wrap (32 - (s : Int)) = 32 - (s : Int) := by rw [IntKind.wrap_u64]; omega
  go_enter Try.func55, Try.ntmps55
  go_wp2
  go_ret
  exact ⟨rfl, rfl⟩

theorem wraps_u64 (n : Int) (h₀ : 0 ≤ n) (h₁ : n < 2 ^ 64) : IntKind.u64.wrap n = n := by rw [IntKind.wrap_u64]; omega

theorem rotk_any (x k : Int) (w : World) : Calls Try.prog 55 #[.int .u32 x, .int .i64 k] w fun e w' => e = .returned (.int .u32 (rotk x k)) ∧ w' = w := by
  refine rot_any x k (k % 32).toNat (by omega) ?_ w
  have h := bits_mask .u64 64 (by decide) wraps_u64 5 (by decide) (IntKind.u64.wrap k) (by rw [IntKind.wrap_u64]; omega) (by rw [IntKind.wrap_u64]; omega)
  have e : ((2 : Int) ^ 5 - 1) = 31 := by decide
  rw [e] at h
  rw [h, IntKind.wrap_u64]
  omega

theorem rotk_w (x k : Int) (w : World) : Calls Try.prog 55 #[.int .u32 x, .int .i64 k] w fun e w' => e = .returned (.int .u32 (rotk x k)) ∧ w = w' :=
  (rotk_any x k w).mono fun _ _ h => ⟨h.1, h.2.symm⟩

end Go.Proofs.Ytnpoggcpdelmnaa

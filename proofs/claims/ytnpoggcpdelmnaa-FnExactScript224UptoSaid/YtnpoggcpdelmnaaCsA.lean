/-
  Digest.checkSum: its rows of bytes, its padding.
-/
import Derived.Test.YtnpoggcpdelmnaaWrite
import Derived.Test.YtnpoggcpdelmnaaBE
namespace Go.Proofs.Ytnpoggcpdelmnaa
open Go.RowKit
set_option linter.unusedVariables false

noncomputable def csTail : Code := dropSeq 11 (Try.f49.body.getD .skip)

def z32 : List Int := List.replicate 32 0
def z72 : List Int := List.replicate 72 0
theorem zero32 (w : World) : (zeroValue 46).run Try.prog w = .ok (.agg (bytesC z32)) w := by kernel_rfl
theorem zero72 (w : World) : (zeroValue 83).run Try.prog w = .ok (.agg (bytesC z72)) w := by kernel_rfl

theorem slice_u64_hi (g n : Nat) (w : World) (h : n ≤ 72) :
    (Instr.sliceAt 83 (.pointer (some ⟨g, 0, none⟩)) none (some (.int .u64 (n : Int))) none).run Try.prog w = .ok (.slice (some ⟨g, 0, none⟩) n 72) w := by
  have hu := Try.underlying83
  simp [Instr.sliceAt, run_underlying hu, Instr.sureAddr, Instr.sliceBounds, Instr.sliceBound, asIntOf, Addr.add]
  intro hh
  omega
theorem slice_u64_lo (g n len : Nat) (w : World) (h : n ≤ len) (h2 : n < 72) :
    (Instr.sliceAt 30 (.slice (some ⟨g, 0, none⟩) len 72) (some (.int .u64 (n : Int))) none none).run Try.prog w = .ok (.slice (some ⟨g, n, none⟩) (len - n) (72 - n)) w := by
  have hu := Try.underlying30
  simp [Instr.sliceAt, Instr.slice, run_underlying hu, Instr.sliceBounds, Instr.sliceBound, asIntOf, Addr.add]
  rw [if_pos h, if_neg (by omega)]
  by_cases h0 : n = 0 <;> simp [h0]

/-- the padding: t bytes, the first 128, then eight bytes of the length in bits -/
def padOf (t : Nat) (v : Int) : List Int := (put8 (z72.set 0 128) t v).take (t + 8)
theorem padOf_length (t : Nat) (v : Int) (h : t ≤ 64) : (padOf t v).length = t + 8 := by
  simp [padOf, put8_length, z72]; omega

end Go.Proofs.Ytnpoggcpdelmnaa

import Derived.Test.YtaknphghhlljmaaNew
namespace Go.Proofs.Ytaknphghhlljmaa
open Go.RowKit
set_option linter.unusedVariables false

set_option maxHeartbeats 400000 in
theorem size_any (b : Nat) (h : S8) (x : List Int) (nx ln : Int) (is : Bool) (w : World) (d : Dig w b h x nx ln is) :
    Calls Try.prog 64 #[.pointer (some ⟨b, 0, none⟩)] w fun e w' => e = .returned (.int .i64 (if is then 28 else 32)) ∧ w = w' := by
  have c74 := d.cis
  clear d
  cases is
  all_goals
    go_enter Try.func64, Try.ntmps64
    go_wp2
    go_ret
    exact ⟨rfl, rfl⟩

theorem blockSize_any (b : Nat) (w : World) :
    Calls Try.prog 62 #[.pointer (some ⟨b, 0, none⟩)] w fun e w' => e = .returned (.int .i64 64) ∧ w = w' := by
  go_enter Try.func62, Try.ntmps62
  go_wp2
  go_ret
  exact ⟨rfl, rfl⟩

theorem method_size (b : Nat) (w : World) : (method 202 64 (.pointer (some ⟨b, 0, none⟩)) "Size").run Try.prog w = .ok (64, .pointer (some ⟨b, 0, none⟩)) w := by kernel_rfl
theorem method_blockSize (b : Nat) (w : World) : (method 202 64 (.pointer (some ⟨b, 0, none⟩)) "BlockSize").run Try.prog w = .ok (62, .pointer (some ⟨b, 0, none⟩)) w := by kernel_rfl

set_option maxHeartbeats 400000 in
theorem sizes256_any (w : World) : Calls Try.prog 16 #[] w fun e w' => e = .returned (.tuple #[.int .i64 32, .int .i64 64]) ∧ Bel w w' := by
  have H := Lib.hid (shaNew_any w)
  have hm1 := method_size
  have hm2 := method_blockSize
  go_enter Try.func16, Try.ntmps16
  go_wp2_with (first | (go_at_call 33; refine H.out.mono ?_; rintro e w' ⟨rfl, h1⟩; have H3 := Lib.hid h1; clear h1) | (go_at_call 64; refine (size_any _ _ _ _ _ _ _ H3.out.1).mono ?_; rintro e w2 ⟨rfl, rfl⟩) | (go_at_call 62; refine (blockSize_any _ _).mono ?_; rintro e w2 ⟨rfl, rfl⟩))
  go_ret2
  exact ⟨rfl, H3.out.2.1⟩

set_option maxHeartbeats 400000 in
theorem sizes224_any (w : World) : Calls Try.prog 17 #[] w fun e w' => e = .returned (.tuple #[.int .i64 28, .int .i64 64]) ∧ Bel w w' := by
  have H := Lib.hid (shaNew224_any w)
  have hm1 := method_size
  have hm2 := method_blockSize
  go_enter Try.func17, Try.ntmps17
  go_wp2_with (first | (go_at_call 34; refine H.out.mono ?_; rintro e w' ⟨rfl, h1⟩; have H3 := Lib.hid h1; clear h1) | (go_at_call 64; refine (size_any _ _ _ _ _ _ _ H3.out.1).mono ?_; rintro e w2 ⟨rfl, rfl⟩) | (go_at_call 62; refine (blockSize_any _ _).mono ?_; rintro e w2 ⟨rfl, rfl⟩))
  go_ret2
  exact ⟨rfl, H3.out.2.1⟩

end Go.Proofs.Ytaknphghhlljmaa

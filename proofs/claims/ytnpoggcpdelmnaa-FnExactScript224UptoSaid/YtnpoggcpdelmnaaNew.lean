/-
  New and New224, of the inner package and of crypto/sha256: a new digest behind an interface value.
-/
import Derived.Test.YtnpoggcpdelmnaaDig
namespace Go.Proofs.Ytnpoggcpdelmnaa
open Go.RowKit
set_option linter.unusedVariables false

def zero8 : S8 := ⟨0, 0, 0, 0, 0, 0, 0, 0⟩
def zeros : List Int := List.replicate 64 0
theorem zeros_length : zeros.length = 64 := by simp [zeros]

/-- what a call that makes memory leaves: nothing that was there is turned -/
abbrev Bel (w w' : World) : Prop := Below w.heap.size w w'

/-- behind New: a new digest in the first new block -/
def NewAt (is : Bool) (w w' : World) : Prop :=
  Dig w' w.heap.size (initOf is) zeros 0 0 is ∧ Bel w w' ∧ w.heap.size < w'.heap.size

theorem newAt_of (is : Bool) (w w1 w' : World) (x : List Int) (hx : x = zeros) (h1 : w1.heap.size = w.heap.size + 1) (hb : Bel w w1) (hd : Dig w' w.heap.size (initOf is) x 0 0 is) (hg : w1.grownBy w' (some w.heap.size)) : NewAt is w w' := by
  subst hx
  refine ⟨hd, hb.trans ⟨hg.os, hg.tape, hg.output, hg.size, fun k hk => hg.block k (by omega) (fun e => ?_)⟩, ?_⟩
  · cases e; omega
  · have := hg.size; omega

theorem zeroDig (w : World) : (zeroValue 63).run Try.prog w = .ok (.agg (digC zero8 zeros 0 0 false)) w := by kernel_rfl

theorem dig_alloc0 (w : World) : Dig (w.alloc (.cells (digC zero8 zeros 0 0 false) 63)) w.heap.size zero8 zeros 0 0 false := ⟨zeros_length, heap_alloc_new w _⟩

set_option maxRecDepth 100000 in
set_option maxHeartbeats 1000000 in
theorem new_any (w : World) : Calls Try.prog 24 #[] w fun e w' =>
      e = .returned (.pointer (some ⟨w.heap.size, 0, none⟩)) ∧ NewAt false w w' := by
  have H := Lib.hid (reset_any w.heap.size zero8 zeros 0 0 false _ (dig_alloc0 w))
  have HF := Lib.hid (fun w' => newAt_of false w (w.alloc (.cells (digC zero8 zeros 0 0 false) 63)) w' zeros rfl (by simp) ((Below.refl _ _).alloc (Nat.le_refl _) _))
  have hz := zeroDig
  go_enter Try.func24, Try.ntmps24
  go_wp2_with (go_at_call 27; refine H.out.mono ?_; rintro e w' ⟨rfl, h1, h2⟩; have H3 := Lib.hid (HF.out w' h1 h2); clear h1 h2)
  go_ret
  exact ⟨rfl, H3.out⟩

theorem dig_alloc1 (w : World) : Dig (w.alloc (.cells ((digC zero8 zeros 0 0 false).setIfInBounds 74 (.bool true)) 63)) w.heap.size zero8 zeros 0 0 true :=
  ⟨zeros_length, by rw [heap_alloc_new, digC_set_is zeros_length]⟩

set_option maxRecDepth 100000 in
set_option maxHeartbeats 1000000 in
theorem new224_any (w : World) : Calls Try.prog 21 #[] w fun e w' =>
      e = .returned (.pointer (some ⟨w.heap.size, 0, none⟩)) ∧ NewAt true w w' := by
  have H := Lib.hid (reset_any w.heap.size zero8 zeros 0 0 true _ (dig_alloc1 w))
  have HF := Lib.hid (fun w' => newAt_of true w (w.alloc (.cells ((digC zero8 zeros 0 0 false).setIfInBounds 74 (.bool true)) 63)) w' zeros rfl (by simp) ((Below.refl _ _).alloc (Nat.le_refl _) _))
  have hz := zeroDig
  have c74 : (digC zero8 zeros 0 0 false)[74]? = some (.bool false) := digC_is zeros_length
  go_enter Try.func21, Try.ntmps21
  go_wp2_with (go_at_call 27; refine H.out.mono ?_; rintro e w' ⟨rfl, h1, h2⟩; have H3 := Lib.hid (HF.out w' h1 h2); clear h1 h2)
  go_ret
  exact ⟨rfl, H3.out⟩

/-- the interface value that holds a digest -/
abbrev hash (b : Nat) : Value := .iface 48 (.pointer (some ⟨b, 0, none⟩))

set_option maxHeartbeats 1000000 in
theorem shaNew_any (w : World) : Calls Try.prog 18 #[] w fun e w' => e = .returned (hash w.heap.size) ∧ NewAt false w w' := by
  have H := Lib.hid (new_any w)
  go_enter Try.func18, Try.ntmps18
  go_wp2_with (go_at_call 24; refine H.out.mono ?_; rintro e w' ⟨rfl, h1⟩; have H3 := Lib.hid h1; clear h1)
  go_ret
  exact ⟨rfl, H3.out⟩

set_option maxHeartbeats 1000000 in
theorem shaNew224_any (w : World) : Calls Try.prog 15 #[] w fun e w' => e = .returned (hash w.heap.size) ∧ NewAt true w w' := by
  have H := Lib.hid (new224_any w)
  go_enter Try.func15, Try.ntmps15
  go_wp2_with (go_at_call 21; refine H.out.mono ?_; rintro e w' ⟨rfl, h1⟩; have H3 := Lib.hid h1; clear h1)
  go_ret
  exact ⟨rfl, H3.out⟩

end Go.Proofs.Ytnpoggcpdelmnaa

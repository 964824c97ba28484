/-
  Clone of a hash: a new one that was given the same bytes.
-/
import Derived.Test.YtnpoggcpdelmnaaMeth
namespace Go.Proofs.Ytnpoggcpdelmnaa
open Go.RowKit
set_option linter.unusedVariables false

theorem method_clone (b : Nat) (w : World) : (method 190 48 (.pointer (some ⟨b, 0, none⟩)) "Clone").run Try.prog w = .ok (44, .pointer (some ⟨b, 0, none⟩)) w := by kernel_rfl

theorem is_cloner (b : Nat) (w : World) : (Instr.typeAssert (hash b) 40 55 false).run Try.prog w = .ok (hash b) w := by kernel_rfl

set_option maxRecDepth 100000 in
set_option maxHeartbeats 2000000 in
theorem clone_any (K : Nat → Int) (b : Nat) (is : Bool) (M : List Int) (w : World) (dd : DigAt K w b is M) :
    Calls Try.prog 44 #[.pointer (some ⟨b, 0, none⟩)] w fun e w' =>
      e = .returned (.tuple #[hash w.heap.size, .nilIface]) ∧ DigAt K w' w.heap.size is M ∧ w.grownBy w' none ∧ w'.heap.size = w.heap.size + 1 := by
  have hz := zeroDig
  obtain ⟨x, d, hx⟩ := dd
  have hlt := d.lt
  obtain ⟨C, hC⟩ : ∃ C, C = digC (hOf K is M) x ((M.length % 64 : Nat) : Int) ((M.length % 18446744073709551616 : Nat) : Int) is := ⟨_, rfl⟩
  have hd := d.2
  have hsz : C.size = 75 := by rw [hC]; exact digC_size d.1
  have hall : C.all (·.oneCell') = true := by rw [hC]; exact digC_all _ _ _ _ _
  rw [← hC] at hd
  have hin : (Try.prog.info? 63).map (·.size) = some C.size := by rw [hsz]; kernel_rfl
  have hold : (digC zero8 zeros 0 0 false).size = C.size := by rw [hsz, digC_size zeros_length]
  have hdd : DigAt K (w.alloc (.cells C 63)) w.heap.size is M := ⟨x, ⟨d.1, by rw [heap_alloc_new, hC]⟩, hx⟩
  have HD := Lib.hid hd
  have HI := Lib.hid hin
  have HO := Lib.hid hold
  have HA := Lib.hid hall
  have HDD := Lib.hid hdd
  clear hd hin hold hall hdd hx d hsz hC
  go_enter Try.func44, Try.ntmps44
  go_wp2_with (first | (refine wpList_load_row rfl 63 (.tmp 6) rfl b rfl _ C _ _ HD.out Try.underlying63 rfl HI.out ?_) | (refine wpList_store_row rfl 63 (.tmp 4) (.tmp 7) rfl w.heap.size C rfl rfl 63 (digC zero8 zeros 0 0 false) (heap_alloc_new w _) HI.out HO.out HA.out ?_; rw [World.setRow_alloc_new]))
  go_ret2
  exact ⟨rfl, HDD.out, World.grownBy_alloc w _ none, by simp⟩

theorem clone_has {K : Nat → Int} {w0 w : World} {b : Nat} {is : Bool} {M : List Int} (h : Has K w0 w b is M) :
    Calls Try.prog 44 #[.pointer (some ⟨b, 0, none⟩)] w fun e w' =>
      e = .returned (.tuple #[hash w.heap.size, .nilIface]) ∧ Has K w0 w' b is M ∧ Has K w0 w' w.heap.size is M ∧ w.grownBy w' none := by
  refine (clone_any K b is M w h.dig).mono fun e w' ⟨he, h1, h2, h3⟩ => ⟨he, h.keep h2 (fun k e => by cases e), ⟨h.bel.grown h2 (fun k e => by cases e), h.bel.size, h1⟩, h2⟩
end Go.Proofs.Ytnpoggcpdelmnaa

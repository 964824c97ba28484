/-
  blockGeneric as a whole: for every digest in memory and every whole number of chunks, the eight words are those behind the chunks; nothing else that was there is turned.
-/
import Derived.Test.YtnpoggcpdelmnaaBlkR
import Derived.Test.YtnpoggcpdelmnaaReg
namespace Go.Proofs.Ytnpoggcpdelmnaa
open Go.RowKit
set_option linter.unusedVariables false

def set8 (C : Array Value) (s : S8) : Array Value :=
  (((((((C.setIfInBounds 0 (.int .u32 s.a)).setIfInBounds 1 (.int .u32 s.b)).setIfInBounds 2 (.int .u32 s.c)).setIfInBounds 3 (.int .u32 s.d)).setIfInBounds 4 (.int .u32 s.e)).setIfInBounds 5 (.int .u32 s.f)).setIfInBounds 6 (.int .u32 s.g)).setIfInBounds 7 (.int .u32 s.h)

def zeros64 : Array Value := #[.int .u32 0, .int .u32 0, .int .u32 0, .int .u32 0, .int .u32 0, .int .u32 0, .int .u32 0, .int .u32 0, .int .u32 0, .int .u32 0, .int .u32 0, .int .u32 0, .int .u32 0, .int .u32 0, .int .u32 0, .int .u32 0, .int .u32 0, .int .u32 0, .int .u32 0, .int .u32 0, .int .u32 0, .int .u32 0, .int .u32 0, .int .u32 0, .int .u32 0, .int .u32 0, .int .u32 0, .int .u32 0, .int .u32 0, .int .u32 0, .int .u32 0, .int .u32 0, .int .u32 0, .int .u32 0, .int .u32 0, .int .u32 0, .int .u32 0, .int .u32 0, .int .u32 0, .int .u32 0, .int .u32 0, .int .u32 0, .int .u32 0, .int .u32 0, .int .u32 0, .int .u32 0, .int .u32 0, .int .u32 0, .int .u32 0, .int .u32 0, .int .u32 0, .int .u32 0, .int .u32 0, .int .u32 0, .int .u32 0, .int .u32 0, .int .u32 0, .int .u32 0, .int .u32 0, .int .u32 0, .int .u32 0, .int .u32 0, .int .u32 0, .int .u32 0]

set_option maxRecDepth 100000 in
set_option maxHeartbeats 4000000 in
theorem blk_core (b pb po n cap : Nat) (K y : Nat → Int) (s : S8) (w : World) (hb : b < w.heap.size)
  (h0 : w.cell? ⟨b, 0, none⟩ = some (.int .u32 s.a)) (h1 : w.cell? ⟨b, 1, none⟩ = some (.int .u32 s.b)) (h2 : w.cell? ⟨b, 2, none⟩ = some (.int .u32 s.c)) (h3 : w.cell? ⟨b, 3, none⟩ = some (.int .u32 s.d))
  (h4 : w.cell? ⟨b, 4, none⟩ = some (.int .u32 s.e)) (h5 : w.cell? ⟨b, 5, none⟩ = some (.int .u32 s.f)) (h6 : w.cell? ⟨b, 6, none⟩ = some (.int .u32 s.g)) (h7 : w.cell? ⟨b, 7, none⟩ = some (.int .u32 s.h))
  (hn : 64 * n ≤ cap) (hcap : cap ≤ 9223372036854775807)
  (hp : ∀ j, j < 64 * n → w.cell? ⟨pb, po + j, none⟩ = some (.int .u8 (y j)))
  (hK : ∀ j, j < 64 → w.cell? ⟨0, j, none⟩ = some (.int .u32 (K j)))
  (hz : ∀ j, j < 8 → w.frozen? ⟨b, j, none⟩ = false)
  (R : Ending → World → Prop)
  (hR : ∀ w2, w.grownBy w2 none → R (.returned (.tuple #[])) (store8 w2.drew b (absorb K y s n))) :
    Calls Try.prog 26 #[.pointer (some ⟨b, 0, none⟩), .slice (some ⟨pb, po, none⟩) (64 * n) cap] w R := by
  have HP := Lib.hid hp
  have HK := Lib.hid hK
  have HZ := Lib.hid hz
  have HR := Lib.hid hR
  clear hp hK hz hR
  go_enter Try.func26, Try.ntmps26
  go_wp2
  go_quiet (fail)
  go_wp2
  let W0 : World := (w.alloc (.cells zeros64 87)).drewN nq
  refine loop1 (fun n => (#[.pointer (some ⟨b, 0, none⟩), undef, undef, undef, .pointer (some ⟨w.heap.size, 0, none⟩), undef, undef, undef, undef, undef, undef, undef, undef, undef, undef, undef, undef, undef, undef, undef, undef, undef, undef, undef, undef, undef, undef, undef, undef, .pointer (some ⟨b, 0, none⟩), .pointer (some ⟨b, 0, none⟩), .pointer (some ⟨b, 0, none⟩), .pointer (some ⟨b, 0, none⟩), .int .u32 s.a, .pointer (some ⟨b, 0, none⟩), .pointer (some ⟨b, 0, none⟩), .pointer (some ⟨b, 0, none⟩), .pointer (some ⟨b, 1, none⟩), .int .u32 s.b, .pointer (some ⟨b, 0, none⟩), .pointer (some ⟨b, 0, none⟩), .pointer (some ⟨b, 0, none⟩), .pointer (some ⟨b, 2, none⟩), .int .u32 s.c, .pointer (some ⟨b, 0, none⟩), .pointer (some ⟨b, 0, none⟩), .pointer (some ⟨b, 0, none⟩), .pointer (some ⟨b, 3, none⟩), .int .u32 s.d, .pointer (some ⟨b, 0, none⟩), .pointer (some ⟨b, 0, none⟩), .pointer (some ⟨b, 0, none⟩), .pointer (some ⟨b, 4, none⟩), .int .u32 s.e, .pointer (some ⟨b, 0, none⟩), .pointer (some ⟨b, 0, none⟩), .pointer (some ⟨b, 0, none⟩), .pointer (some ⟨b, 5, none⟩), .int .u32 s.f, .pointer (some ⟨b, 0, none⟩), .pointer (some ⟨b, 0, none⟩), .pointer (some ⟨b, 0, none⟩), .pointer (some ⟨b, 6, none⟩), .int .u32 s.g, .pointer (some ⟨b, 0, none⟩), .pointer (some ⟨b, 0, none⟩), .pointer (some ⟨b, 0, none⟩), .pointer (some ⟨b, 7, none⟩), .int .u32 s.h, undef, undef, undef, undef, undef, undef, undef, undef, undef, undef, undef, undef, undef, undef, undef, undef, undef, undef, undef, undef, undef, undef, undef, undef, undef, undef, undef, undef, undef, undef, undef, undef, undef, undef, undef, undef, undef, undef, undef, undef, undef, undef, undef, undef, undef, undef, undef, undef, undef, undef, undef, undef, undef, undef, undef, undef, undef, undef, undef, undef, undef, undef, undef, undef, undef, undef, undef, undef, undef, undef, undef, undef, undef, undef, undef, undef, undef, undef, undef, undef, undef, undef, undef, undef, undef, undef, undef, undef, undef, undef, undef, undef, undef, undef, undef, undef, undef, undef, undef, undef, undef, undef, undef, undef, undef, undef, undef, undef, undef, undef, undef, undef, undef, undef, undef, undef, undef, undef, undef, undef, undef, undef, undef, undef, undef, undef, undef, undef, undef, undef, undef, undef, undef, undef, undef, undef, undef, undef, undef, undef, undef, undef, undef, undef, undef, undef, undef, undef, undef, undef, undef, undef, undef, undef, undef, undef, undef, undef, undef, undef, undef, undef, undef, undef, undef, undef, undef, undef, undef, undef, undef, undef, undef, undef, undef, undef, undef, undef, undef, undef, undef, undef, undef, undef, undef, undef, undef, undef, undef, undef, undef, undef, undef, undef, undef, undef, undef, undef, undef, undef, undef, undef, undef, undef, undef, undef, undef, undef, undef, undef, undef, undef, undef, undef] : Array Value).getD n undef) (fun _ => undef) pb po n cap w.heap.size K y s W0 W0 _ hn hcap ?hp ?hpb ?hK ?hk0 ?hin ?hQ
  case hQ =>
    intro u' q w2 hin2
    have e : F1 (fun n => (#[.pointer (some ⟨b, 0, none⟩), undef, undef, undef, .pointer (some ⟨w.heap.size, 0, none⟩), undef, undef, undef, undef, undef, undef, undef, undef, undef, undef, undef, undef, undef, undef, undef, undef, undef, undef, undef, undef, undef, undef, undef, undef, .pointer (some ⟨b, 0, none⟩), .pointer (some ⟨b, 0, none⟩), .pointer (some ⟨b, 0, none⟩), .pointer (some ⟨b, 0, none⟩), .int .u32 s.a, .pointer (some ⟨b, 0, none⟩), .pointer (some ⟨b, 0, none⟩), .pointer (some ⟨b, 0, none⟩), .pointer (some ⟨b, 1, none⟩), .int .u32 s.b, .pointer (some ⟨b, 0, none⟩), .pointer (some ⟨b, 0, none⟩), .pointer (some ⟨b, 0, none⟩), .pointer (some ⟨b, 2, none⟩), .int .u32 s.c, .pointer (some ⟨b, 0, none⟩), .pointer (some ⟨b, 0, none⟩), .pointer (some ⟨b, 0, none⟩), .pointer (some ⟨b, 3, none⟩), .int .u32 s.d, .pointer (some ⟨b, 0, none⟩), .pointer (some ⟨b, 0, none⟩), .pointer (some ⟨b, 0, none⟩), .pointer (some ⟨b, 4, none⟩), .int .u32 s.e, .pointer (some ⟨b, 0, none⟩), .pointer (some ⟨b, 0, none⟩), .pointer (some ⟨b, 0, none⟩), .pointer (some ⟨b, 5, none⟩), .int .u32 s.f, .pointer (some ⟨b, 0, none⟩), .pointer (some ⟨b, 0, none⟩), .pointer (some ⟨b, 0, none⟩), .pointer (some ⟨b, 6, none⟩), .int .u32 s.g, .pointer (some ⟨b, 0, none⟩), .pointer (some ⟨b, 0, none⟩), .pointer (some ⟨b, 0, none⟩), .pointer (some ⟨b, 7, none⟩), .int .u32 s.h, undef, undef, undef, undef, undef, undef, undef, undef, undef, undef, undef, undef, undef, undef, undef, undef, undef, undef, undef, undef, undef, undef, undef, undef, undef, undef, undef, undef, undef, undef, undef, undef, undef, undef, undef, undef, undef, undef, undef, undef, undef, undef, undef, undef, undef, undef, undef, undef, undef, undef, undef, undef, undef, undef, undef, undef, undef, undef, undef, undef, undef, undef, undef, undef, undef, undef, undef, undef, undef, undef, undef, undef, undef, undef, undef, undef, undef, undef, undef, undef, undef, undef, undef, undef, undef, undef, undef, undef, undef, undef, undef, undef, undef, undef, undef, undef, undef, undef, undef, undef, undef, undef, undef, undef, undef, undef, undef, undef, undef, undef, undef, undef, undef, undef, undef, undef, undef, undef, undef, undef, undef, undef, undef, undef, undef, undef, undef, undef, undef, undef, undef, undef, undef, undef, undef, undef, undef, undef, undef, undef, undef, undef, undef, undef, undef, undef, undef, undef, undef, undef, undef, undef, undef, undef, undef, undef, undef, undef, undef, undef, undef, undef, undef, undef, undef, undef, undef, undef, undef, undef, undef, undef, undef, undef, undef, undef, undef, undef, undef, undef, undef, undef, undef, undef, undef, undef, undef, undef, undef, undef, undef, undef, undef, undef, undef, undef, undef, undef, undef, undef, undef, undef, undef, undef, undef, undef, undef, undef, undef, undef, undef, undef, undef, undef] : Array Value).getD n undef) u' q w.heap.size (absorb K y s n) = ⟨#[.pointer (some ⟨b, 0, none⟩), q, undef, undef, .pointer (some ⟨w.heap.size, 0, none⟩), .int .u32 (absorb K y s n).a, .int .u32 (absorb K y s n).b, .int .u32 (absorb K y s n).c, .int .u32 (absorb K y s n).d, .int .u32 (absorb K y s n).e, .int .u32 (absorb K y s n).f, .int .u32 (absorb K y s n).g, .int .u32 (absorb K y s n).h, u' 13, u' 14, u' 15, u' 16, u' 17, u' 18, u' 19, u' 20, u' 21, u' 22, u' 23, u' 24, u' 25, u' 26, u' 27, u' 28, .pointer (some ⟨b, 0, none⟩), .pointer (some ⟨b, 0, none⟩), .pointer (some ⟨b, 0, none⟩), .pointer (some ⟨b, 0, none⟩), .int .u32 s.a, .pointer (some ⟨b, 0, none⟩), .pointer (some ⟨b, 0, none⟩), .pointer (some ⟨b, 0, none⟩), .pointer (some ⟨b, 1, none⟩), .int .u32 s.b, .pointer (some ⟨b, 0, none⟩), .pointer (some ⟨b, 0, none⟩), .pointer (some ⟨b, 0, none⟩), .pointer (some ⟨b, 2, none⟩), .int .u32 s.c, .pointer (some ⟨b, 0, none⟩), .pointer (some ⟨b, 0, none⟩), .pointer (some ⟨b, 0, none⟩), .pointer (some ⟨b, 3, none⟩), .int .u32 s.d, .pointer (some ⟨b, 0, none⟩), .pointer (some ⟨b, 0, none⟩), .pointer (some ⟨b, 0, none⟩), .pointer (some ⟨b, 4, none⟩), .int .u32 s.e, .pointer (some ⟨b, 0, none⟩), .pointer (some ⟨b, 0, none⟩), .pointer (some ⟨b, 0, none⟩), .pointer (some ⟨b, 5, none⟩), .int .u32 s.f, .pointer (some ⟨b, 0, none⟩), .pointer (some ⟨b, 0, none⟩), .pointer (some ⟨b, 0, none⟩), .pointer (some ⟨b, 6, none⟩), .int .u32 s.g, .pointer (some ⟨b, 0, none⟩), .pointer (some ⟨b, 0, none⟩), .pointer (some ⟨b, 0, none⟩), .pointer (some ⟨b, 7, none⟩), .int .u32 s.h, u' 69, u' 70, u' 71, u' 72, u' 73, u' 74, u' 75, u' 76, u' 77, u' 78, u' 79, u' 80, u' 81, u' 82, u' 83, u' 84, u' 85, u' 86, u' 87, u' 88, u' 89, u' 90, u' 91, u' 92, u' 93, u' 94, u' 95, u' 96, u' 97, u' 98, u' 99, u' 100, u' 101, u' 102, u' 103, u' 104, u' 105, u' 106, u' 107, u' 108, u' 109, u' 110, u' 111, u' 112, u' 113, u' 114, u' 115, u' 116, u' 117, u' 118, u' 119, u' 120, u' 121, u' 122, u' 123, u' 124, u' 125, u' 126, u' 127, u' 128, u' 129, u' 130, u' 131, u' 132, u' 133, u' 134, u' 135, u' 136, u' 137, u' 138, u' 139, u' 140, u' 141, u' 142, u' 143, u' 144, u' 145, u' 146, u' 147, u' 148, u' 149, u' 150, u' 151, u' 152, u' 153, u' 154, u' 155, u' 156, u' 157, u' 158, u' 159, u' 160, u' 161, u' 162, u' 163, u' 164, u' 165, u' 166, u' 167, u' 168, u' 169, u' 170, u' 171, u' 172, u' 173, u' 174, u' 175, u' 176, u' 177, u' 178, u' 179, u' 180, u' 181, u' 182, u' 183, u' 184, u' 185, u' 186, u' 187, u' 188, u' 189, u' 190, u' 191, u' 192, u' 193, u' 194, u' 195, u' 196, u' 197, u' 198, u' 199, u' 200, u' 201, u' 202, u' 203, u' 204, u' 205, u' 206, u' 207, u' 208, u' 209, u' 210, u' 211, u' 212, u' 213, u' 214, u' 215, u' 216, u' 217, u' 218, u' 219, u' 220, u' 221, u' 222, u' 223, u' 224, u' 225, u' 226, u' 227, u' 228, u' 229, u' 230, u' 231, u' 232, u' 233, u' 234, u' 235, u' 236, u' 237, u' 238, u' 239, u' 240, u' 241, u' 242, undef, undef, undef, undef, undef, undef, undef, undef, undef, undef, undef, undef, undef, undef, undef, undef, undef, undef, undef, undef, undef, undef, undef, undef, undef, undef, undef, undef, undef, undef, undef, undef, undef, undef, undef, undef, undef, undef, undef, undef], []⟩ := rfl
    rw [e]
    clear e
    have hg : w.grownBy w2 none := ⟨hin2.os, hin2.tape, hin2.output, by rw [hin2.size]; show _ ≤ (w.alloc _).heap.size; simp, fun k hk _ => by
      rw [hin2.other k (by omega)]; exact Below.heap_alloc w _ k hk⟩
    have HC : ∀ j, j < 8 → (w2.cell? ⟨b, j, none⟩).isSome = true := fun j hj => by
      rw [World.cell?_of_block (hg.block b hb (by simp))]
      have : j = 0 ∨ j = 1 ∨ j = 2 ∨ j = 3 ∨ j = 4 ∨ j = 5 ∨ j = 6 ∨ j = 7 := by omega
      rcases this with rfl | rfl | rfl | rfl | rfl | rfl | rfl | rfl <;> simp [*]
    have HF : ∀ j, j < 8 → w2.frozen? ⟨b, j, none⟩ = false := fun j hj => by
      rw [World.frozen?_of_block (hg.block b hb (by simp))]; exact HZ.out j hj
    have HC := Lib.hid HC
    have HF := Lib.hid HF
    have hg := Lib.hid hg
    clear hin2 HP HK
    clear h0 h1 h2 h3 h4 h5 h6 h7
    go_wp2
    refine reg35_any b (absorb K y s n) w2 _ _ (fun _ _ _ d _ h => by cases d <;> exact h) (Plan.Fr.of_all rfl rfl ?_) HC.out HF.out ?_
    · refine List.forall_mem_cons.2 ⟨rfl, List.forall_mem_cons.2 ⟨rfl, List.forall_mem_cons.2 ⟨rfl, List.forall_mem_cons.2 ⟨rfl, List.forall_mem_cons.2 ⟨rfl, List.forall_mem_cons.2 ⟨rfl, List.forall_mem_cons.2 ⟨rfl, List.forall_mem_cons.2 ⟨rfl, List.forall_mem_cons.2 ⟨rfl, ?_⟩⟩⟩⟩⟩⟩⟩⟩⟩
      exact fun _ h => absurd h List.not_mem_nil
    intro a ha
    exact bodyPost_end (results_none rfl _ _ _) ha (HR.out w2 hg.out)
  case hp =>
    intro j hj
    have h := HP.out j hj
    show (w.alloc _).cell? _ = _
    rw [World.cell?_alloc_lt _ _ _ (World.block_lt_of_cell? w _ h)]; exact h
  case hpb =>
    intro h e
    have h := World.block_lt_of_cell? w _ (HP.out 0 (by omega))
    simp only [e] at h
    omega
  case hK =>
    intro j hj
    have h := HK.out j hj
    show (w.alloc _).cell? _ = _
    rw [World.cell?_alloc_lt _ _ _ (World.block_lt_of_cell? w _ h)]; exact h
  case hk0 =>
    intro e
    have h := World.block_lt_of_cell? w _ (HK.out 0 (by omega))
    simp only [e] at h
    omega
  case hin => exact ⟨rfl, rfl, rfl, rfl, fun _ _ => rfl, zeros64, heap_alloc_new w _, rfl, fun j hj => absurd hj (Nat.not_lt_zero _)⟩

end Go.Proofs.Ytnpoggcpdelmnaa

/-
  Digest.checkSum: the checksum's 32 bytes are a function of the bytes that the digest has been given (of the table of words, and of the kind).
-/
import Derived.Test.YtnpoggcpdelmnaaCsTail
namespace Go.Proofs.Ytnpoggcpdelmnaa
open Go.RowKit
set_option linter.unusedVariables false

theorem to_FC {P : Program} {Q : Exit → Act → World → Prop} {w : World} {t : Array Value} (b r : Nat) (h : (⟨t, []⟩ : Act) = FC (fun n => t.getD n undef) b r)
    (k : ∀ c, Code.wp P csTail Q (FC c b r) w) : Code.wp P csTail Q ⟨t, []⟩ w := by rw [h]; exact k _

def tOf (n : Nat) : Nat := if n % 64 < 56 then 56 - n % 64 else 120 - n % 64
/-- the padding behind the bytes M -/
def pad (M : List Int) : List Int := padOf (tOf M.length) (IntKind.u64.wrap (((M.length % 18446744073709551616 : Nat) : Int) * 8))
theorem tOf_le (n : Nat) : 1 ≤ tOf n ∧ tOf n ≤ 64 ∧ (n + (tOf n + 8)) % 64 = 0 := by
  unfold tOf
  split <;> omega
theorem pad_length (M : List Int) : (pad M).length = tOf M.length + 8 := padOf_length _ _ (tOf_le _).2.1
theorem whole_pad (M : List Int) : (M ++ pad M).length % 64 = 0 := by
  rw [List.length_append, pad_length]; exact (tOf_le _).2.2

/-- the 32 bytes behind the bytes M -/
def sum32 (K : Nat → Int) (is : Bool) (M : List Int) : List Int := digOut (hOf K is (M ++ pad M)) is
theorem sum32_length (K : Nat → Int) (is : Bool) (M : List Int) : (sum32 K is M).length = 32 := digOut_length _ _

theorem Row.reads {w : World} {g : Nat} {T : TypeId} {l : List Int} (r : Row w g T l) (n : Nat) (h : n ≤ l.length) : Reads w g 0 n (fun i => (l.take n).getD i 0) := fun j hj => by
  rw [Nat.zero_add, r.cell (by omega)]
  simp [List.getD_eq_getElem?_getD, List.getElem?_take_of_lt hj]

theorem DigAt.lt {K : Nat → Int} {w : World} {b : Nat} {is : Bool} {M : List Int} (d : DigAt K w b is M) : b < w.heap.size := let ⟨_, h, _⟩ := d; h.lt
theorem DigAt.keep {K : Nat → Int} {w w' : World} {b : Nat} {is : Bool} {M : List Int} (d : DigAt K w b is M) (e : w'.heap[b]? = w.heap[b]?) : DigAt K w' b is M := let ⟨x, h, hx⟩ := d; ⟨x, h.keep e, hx⟩
theorem KAt.lt {w : World} {K : Nat → Int} (h : KAt w K) : 0 < w.heap.size := World.block_lt_of_cell? w _ (h 0 (by omega))

set_option maxRecDepth 100000 in
set_option maxHeartbeats 4000000 in
theorem checkSum_any (K : Nat → Int) (b : Nat) (is : Bool) (M : List Int) (w : World) (dd : DigAt K w b is M) (hK : KAt w K) (hKb : b ≠ 0) :
    Calls Try.prog 49 #[.pointer (some ⟨b, 0, none⟩)] w fun e w' =>
      e = .returned (.agg (bytesC (sum32 K is M))) ∧ w'.cell? ⟨b, 74, none⟩ = some (.bool is) ∧ w.grownBy w' (some b) := by
  have hlt := dd.lt
  obtain ⟨N, hN⟩ : ∃ N, N = M.length % 18446744073709551616 := ⟨_, rfl⟩
  obtain ⟨t, ht⟩ : ∃ t, t = tOf M.length := ⟨_, rfl⟩
  have htt := tOf_le M.length
  have eN : N % 64 = M.length % 64 := by omega
  -- the world behind the two new rows
  obtain ⟨W2, hW2⟩ : ∃ W2, W2 = (w.alloc (.cells (bytesC z32) 46)).alloc (.cells ((bytesC z72).setIfInBounds 0 (.int .u8 128)) 83) := ⟨_, rfl⟩
  have old2 : ∀ k, k < w.heap.size → W2.heap[k]? = w.heap[k]? := fun k hk => by
    rw [hW2, Below.heap_alloc _ _ _ (by simp; omega), Below.heap_alloc _ _ _ hk]
  have r2 : Row W2 (w.heap.size + 1) 83 (z72.set 0 128) := by
    have := heap_alloc_new (w.alloc (.cells (bytesC z32) 46)) (.cells ((bytesC z72).setIfInBounds 0 (.int .u8 128)) 83)
    simp only [World.size_alloc, bytesC_set] at this
    unfold Row
    rw [hW2, bytesC_set]
    exact this
  have rr2 : Row W2 w.heap.size 46 z32 := by
    unfold Row
    rw [hW2, Below.heap_alloc _ _ _ (by simp)]
    exact heap_alloc_new w _
  have size2 : W2.heap.size = w.heap.size + 2 := by rw [hW2]; simp
  have g2 : w.grownBy W2 (some b) := by rw [hW2]; exact grown_trans (World.grownBy_alloc w _ _) (World.grownBy_alloc _ _ _)
  have kk2 : KAt W2 K := hK.kept g2 hKb
  have dd2 : DigAt K W2 b is M := dd.keep (old2 b hlt)
  -- what each call leaves
  have put : Calls Try.prog 53 #[.slice (some ⟨w.heap.size + 1, t, none⟩) 8 (72 - t), .int .u64 (IntKind.u64.wrap ((N : Int) * 8))] W2 fun e w' =>
      e = .returned (.tuple #[]) ∧ Row w' (w.heap.size + 1) 83 (put8 (z72.set 0 128) t (IntKind.u64.wrap ((N : Int) * 8))) ∧ W2.grownBy w' (some (w.heap.size + 1)) :=
    put64_any (w.heap.size + 1) t 8 (72 - t) _ (z72.set 0 128) _ W2 (by omega) (by simp [z72]; omega) r2
  have ePad : padOf t (IntKind.u64.wrap ((N : Int) * 8)) = pad M := by rw [pad, ← hN, ← ht]
  have hpl : (pad M).length = t + 8 := by rw [pad_length, ht]
  have write : ∀ w3, Row w3 (w.heap.size + 1) 83 (put8 (z72.set 0 128) t (IntKind.u64.wrap ((N : Int) * 8))) → W2.grownBy w3 (some (w.heap.size + 1)) →
      Calls Try.prog 47 #[.pointer (some ⟨b, 0, none⟩), .slice (some ⟨w.heap.size + 1, 0, none⟩) (t + 8) 72] w3 fun e w' =>
        e = .returned (.tuple #[.int .i64 ((t + 8 : Nat) : Int), .nilIface]) ∧ (∃ x, Dig w' b (hOf K is (M ++ pad M)) x 0 (((M ++ pad M).length % 18446744073709551616 : Nat) : Int) is) ∧ Row w' w.heap.size 46 z32 ∧ w.grownBy w' (some b) ∧ w.heap.size < w'.heap.size := fun w3 r3 g3 => by
    have dd3 : DigAt K w3 b is M := dd2.keep (g3.block b (by omega) (fun e => by have := Option.some.inj e; omega))
    have kk3 : KAt w3 K := kk2.kept g3 (by have := hK.lt; omega)
    have hw := write_any K b is M (pad M) (some ⟨w.heap.size + 1, 0, none⟩) 72 w3 dd3 (fun _ => ⟨w.heap.size + 1, 0, rfl, by omega, by
      rw [hpl, ← ePad]
      exact r3.reads (t + 8) (by simp [put8_length, z72]; omega)⟩) (by omega) (by omega) kk3 hKb
    rw [hpl] at hw
    refine hw.mono fun e w' ⟨he, ⟨x, d4, _⟩, g4⟩ => ⟨he, ⟨x, ?_⟩, ?_, ?_, ?_⟩
    · rw [whole_pad] at d4; exact d4
    · refine Row.keep (Row.keep rr2 (g3.block _ (by omega) (fun e => by have := Option.some.inj e; omega))) (g4.block _ ?_ (fun e => by have := Option.some.inj e; omega))
      have := g3.size; omega
    · refine ⟨g4.os.trans (g3.os.trans g2.os), g4.tape.trans (g3.tape.trans g2.tape), g4.output.trans (g3.output.trans g2.output), Nat.le_trans g2.size (Nat.le_trans g3.size g4.size), fun k hk hkb => ?_⟩
      rw [g4.block k (Nat.lt_of_lt_of_le hk (Nat.le_trans g2.size g3.size)) hkb, g3.block k (Nat.lt_of_lt_of_le hk g2.size) (fun e => by have := Option.some.inj e; omega), g2.block k hk hkb]
    · have := g3.size; have := g4.size; omega
  have c73 : w.cell? ⟨b, 73, none⟩ = some (.int .u64 (N : Int)) := by
    obtain ⟨x, d, _⟩ := dd
    rw [hN]; exact d.cln
  have hz1 := zero32
  have hz2 := zero72
  have i0 : (0 : Int) ≤ (N : Int) := by omega
  have s0 : (bytesC z72)[0]? = some (.int .u8 0) := rfl
  have hs1 : ∀ w' : World, (Instr.sliceAt 83 (.pointer (some ⟨w.heap.size + 1, 0, none⟩)) none (some (.int .u64 ((t : Int) + 8))) none).run Try.prog w' = .ok (.slice (some ⟨w.heap.size + 1, 0, none⟩) (t + 8) 72) w' := fun w' => by
    have := slice_u64_hi (w.heap.size + 1) (t + 8) w' (by omega)
    simpa using this
  have hs2 : ∀ w' : World, (Instr.sliceAt 30 (.slice (some ⟨w.heap.size + 1, 0, none⟩) (t + 8) 72) (some (.int .u64 (t : Int))) none none).run Try.prog w' = .ok (.slice (some ⟨w.heap.size + 1, t, none⟩) 8 (72 - t)) w' := fun w' => by
    have := slice_u64_lo (w.heap.size + 1) t (t + 8) w' (by omega) (by omega)
    simpa using this
  have it : t ≤ 64 := by omega
  have HPUT := Lib.hid put
  have HWR := Lib.hid write
  have HW2 := Lib.hid hW2
  have hNlt : N < 18446744073709551616 := by omega
  have HSUM : Hid (sum32 K is M = digOut (hOf K is (M ++ pad M)) is) := rfl
  have two : (N % 64 < 56 ∧ (56 : Int) - (N : Int) % 64 = (t : Int)) ∨ (56 ≤ N % 64 ∧ (120 : Int) - (N : Int) % 64 = (t : Int)) := by
    have : t = if M.length % 64 < 56 then 56 - M.length % 64 else 120 - M.length % 64 := ht
    split at this <;> omega
  clear put write hW2 old2 r2 rr2 size2 g2 kk2 dd2 ePad hpl dd hK hN ht htt eN
  rcases two with ⟨hr, et⟩ | ⟨hr, et⟩
  · have t0 : decide (((N : Int) % 64) < 56) = true := by simp; omega
    have HR := Lib.hid hr
    clear hr
    go_enter Try.func49, Try.ntmps49
    refine wp_front 11 csTail rfl ?_
    simp only [front]
    go_wp2_with fail
    rw [← HW2.out]
    refine HPUT.out.mono ?_
    rintro e w3 ⟨rfl, r3, g3⟩
    have HWR3 := Lib.hid (HWR.out w3 r3 g3)
    clear r3 g3
    go_wp2_with fail
    refine HWR3.out.mono ?_
    rintro e w4 ⟨rfl, ⟨x4, d4⟩, r4, g4, l4⟩
    have c72 := d4.cnx
    have D4 := Lib.hid d4
    have R4 := Lib.hid r4
    have G4 := Lib.hid g4
    clear d4 r4 g4
    go_wp2_with fail
    refine to_FC b w.heap.size rfl fun c => ?_
    refine cs_tail c b w.heap.size _ x4 _ _ is w4 _ D4.out R4.out l4 (by omega) ?_
    exact fun w' h => ⟨rfl, (D4.out.keep (h.block b D4.out.lt (fun e => by have := Option.some.inj e; omega))).cis, ⟨h.os.trans G4.out.os, h.tape.trans G4.out.tape, h.output.trans G4.out.output, Nat.le_trans G4.out.size h.size, fun k hk hkb => by
      rw [h.block k (by omega) (fun e => by have := Option.some.inj e; omega)]; exact G4.out.block k hk hkb⟩⟩
  · have t0 : decide (((N : Int) % 64) < 56) = false := by simp; omega
    have hri : (N : Int) % 64 < 64 := by omega
    have HR := Lib.hid hr
    clear hr
    go_enter Try.func49, Try.ntmps49
    refine wp_front 11 csTail rfl ?_
    simp only [front]
    go_wp2_with fail
    rw [← HW2.out]
    refine HPUT.out.mono ?_
    rintro e w3 ⟨rfl, r3, g3⟩
    have HWR3 := Lib.hid (HWR.out w3 r3 g3)
    clear r3 g3
    go_wp2_with fail
    refine HWR3.out.mono ?_
    rintro e w4 ⟨rfl, ⟨x4, d4⟩, r4, g4, l4⟩
    have c72 := d4.cnx
    have D4 := Lib.hid d4
    have R4 := Lib.hid r4
    have G4 := Lib.hid g4
    clear d4 r4 g4
    go_wp2_with fail
    refine to_FC b w.heap.size rfl fun c => ?_
    refine cs_tail c b w.heap.size _ x4 _ _ is w4 _ D4.out R4.out l4 (by omega) ?_
    exact fun w' h => ⟨rfl, (D4.out.keep (h.block b D4.out.lt (fun e => by have := Option.some.inj e; omega))).cis, ⟨h.os.trans G4.out.os, h.tape.trans G4.out.tape, h.output.trans G4.out.output, Nat.le_trans G4.out.size h.size, fun k hk hkb => by
      rw [h.block k (by omega) (fun e => by have := Option.some.inj e; omega)]; exact G4.out.block k hk hkb⟩⟩

end Go.Proofs.Ytnpoggcpdelmnaa

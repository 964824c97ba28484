/-
  The methods behind the interface value that New returns; small facts on worlds for callers of a hash.
-/
import Derived.Test.YtnpoggcpdelmnaaSum
namespace Go.Proofs.Ytnpoggcpdelmnaa
open Go.RowKit
set_option linter.unusedVariables false

theorem method_write (b : Nat) (w : World) : (method 190 48 (.pointer (some ⟨b, 0, none⟩)) "Write").run Try.prog w = .ok (47, .pointer (some ⟨b, 0, none⟩)) w := by kernel_rfl
theorem method_sum (b : Nat) (w : World) : (method 190 48 (.pointer (some ⟨b, 0, none⟩)) "Sum").run Try.prog w = .ok (46, .pointer (some ⟨b, 0, none⟩)) w := by kernel_rfl
theorem nilAhead_sum (b : Nat) (w : World) : (nilAhead 190 48 (.pointer (some ⟨b, 0, none⟩)) "Sum").run Try.prog w = .ok (some false) w := by kernel_rfl

/-- a slice of bytes with the content B, readable in w -/
def SrcB (w : World) (ad : Option Addr) (B : List Int) : Prop :=
  0 < B.length → ∃ pb po, ad = some ⟨pb, po, none⟩ ∧ Reads w pb po B.length (fun i => B.getD i 0)

theorem bel_cell {B : Nat} {w w' : World} (h : Below B w w') {b o : Nat} (hb : b < B) : w'.cell? ⟨b, o, none⟩ = w.cell? ⟨b, o, none⟩ := h.cell (p := ⟨b, o, none⟩) hb
theorem SrcB.bel {w w' : World} {ad : Option Addr} {B : List Int} (h : SrcB w ad B) (hb : Bel w w') : SrcB w' ad B := fun h0 => by
  obtain ⟨pb, po, e, hr⟩ := h h0
  exact ⟨pb, po, e, fun j hj => by rw [bel_cell hb (World.block_lt_of_cell? w _ (hr j hj))]; exact hr j hj⟩
theorem SrcB.src {w w' : World} {ad : Option Addr} {B : List Int} {b : Nat} (h : SrcB w ad B) (hb : Bel w w') (hlt : w.heap.size ≤ b) : Src w' b ad B := fun h0 => by
  obtain ⟨pb, po, e, hr⟩ := h h0
  have hpb : pb < w.heap.size := World.block_lt_of_cell? w _ (hr 0 h0)
  exact ⟨pb, po, e, by omega, fun j hj => by rw [bel_cell hb hpb]; exact hr j hj⟩
theorem KAt.bel {w w' : World} {K : Nat → Int} (h : KAt w K) (hb : Bel w w') : KAt w' K := fun j hj => by
  rw [bel_cell hb h.lt]; exact h j hj
/-- a step that writes one block of the caller's own -/
theorem Bel.grown {w w1 w2 : World} {row : Option Nat} (h : Bel w w1) (hg : w1.grownBy w2 row) (hr : ∀ k, row = some k → w.heap.size ≤ k) : Bel w w2 :=
  Below.grown h hg h.size hr
theorem Bel.alloc {w w1 : World} (h : Bel w w1) (o : Obj) : Bel w (w1.alloc o) := Below.alloc h h.size o
theorem Bel.drew {w w1 : World} (h : Bel w w1) : Bel w w1.drew := Below.drew h
theorem Bel.trans' {w w1 w2 : World} (h : Bel w w1) (k : Bel w1 w2) : Bel w w2 := Below.trans h (Below.mono k h.size)
theorem Bel.setRow {w w1 : World} (h : Bel w w1) (g : Nat) (cs : Array Value) (hg : w.heap.size ≤ g) : Bel w (w1.setRow g cs) := below_setRow h hg cs

/-- a hash in the hands of a caller that began in world w0 -/
structure Has (K : Nat → Int) (w0 w : World) (b : Nat) (is : Bool) (M : List Int) : Prop where
  bel : Bel w0 w
  lo : w0.heap.size ≤ b
  dig : DigAt K w b is M
theorem Has.ofNew {K : Nat → Int} {w0 w w' : World} {is : Bool} (hb : Bel w0 w) (h : NewAt is w w') : Has K w0 w' w.heap.size is [] :=
  ⟨hb.trans' h.2.1, hb.size, digAt_new h⟩
theorem Has.keep {K : Nat → Int} {w0 w w' : World} {b : Nat} {is : Bool} {M : List Int} (h : Has K w0 w b is M) {row : Option Nat} (hg : w.grownBy w' row) (hr : ∀ k, row = some k → w0.heap.size ≤ k ∧ k ≠ b) : Has K w0 w' b is M :=
  ⟨h.bel.grown hg (fun k e => (hr k e).1), h.lo, h.dig.keep (hg.block b h.dig.lt (fun e => (hr b e.symm).2 rfl))⟩

theorem write_has {K : Nat → Int} {w0 w : World} {b : Nat} {is : Bool} {M : List Int} (h : Has K w0 w b is M) (hK : KAt w0 K) {ad : Option Addr} {B : List Int} {cap : Nat} (hs : SrcB w0 ad B) (hc : B.length ≤ cap) (hcap : cap ≤ 9223372036854775807) :
    Calls Try.prog 47 #[.pointer (some ⟨b, 0, none⟩), .slice ad B.length cap] w fun e w' =>
      e = .returned (.tuple #[.int .i64 B.length, .nilIface]) ∧ Has K w0 w' b is (M ++ B) ∧ w.grownBy w' (some b) := by
  have hkb : b ≠ 0 := by have := hK.lt; have := h.lo; omega
  refine (write_any K b is M B ad cap w h.dig (hs.src h.bel h.lo) hc hcap (hK.bel h.bel) hkb).mono fun e w' ⟨he, hd, hg⟩ => ⟨he, ⟨h.bel.grown hg (fun k e => by rw [← Option.some.inj e]; exact h.lo), h.lo, hd⟩, hg⟩

/-- what Sum of nil returns: a new slice with the checksum -/
theorem sum_has {K : Nat → Int} {w0 w : World} {b base : Nat} {is : Bool} {M l : List Int} {v : Value} (h : Has K w0 w b is M) (hK : KAt w0 K) (hv : OwnB w base v l) (hbase : base ≤ w.heap.size) (hb0 : w0.heap.size ≤ base) (hne : v.ownBlock ≠ some b) (hlen : l.length + 32 ≤ 140737488355328) :
    Calls Try.prog 46 #[.pointer (some ⟨b, 0, none⟩), v] w fun e w' =>
      ∃ v', e = .returned v' ∧ OwnB w' base v' (l ++ digest K is M) ∧ Has K w0 w' b is M ∧ w.grownBy w' v.ownBlock := by
  refine (sum_own K b base is M l v w h.dig (hK.bel h.bel) hv hbase hlen).mono fun e w' ⟨v', he, ho, hg⟩ => ⟨v', he, ho, h.keep hg (fun k e => ⟨?_, fun e2 => hne (by rw [e, e2])⟩), hg⟩
  exact Nat.le_trans hb0 (World.ownsRow.lt hv k e).1

theorem ownB_nil (w : World) (base : Nat) : OwnB w base (.slice none 0 0) [] := World.ownsRow_nil w base _ 1
end Go.Proofs.Ytnpoggcpdelmnaa

/-
  laws.same on two slices with the same bytes; slices of bytes as callers hand them on.
-/
import Derived.Test.YtnpoggcpdelmnaaMeth
namespace Go.Proofs.Ytnpoggcpdelmnaa
open Go.RowKit
set_option linter.unusedVariables false

/-- v is a slice of bytes with the content l, readable in w -/
def Bts (w : World) (v : Value) (l : List Int) : Prop :=
  ∃ ad cap, v = .slice ad l.length cap ∧ l.length ≤ cap ∧ cap ≤ 9223372036854775807 ∧ SrcB w ad l

theorem Bts.bel {w w' : World} {v : Value} {l : List Int} (h : Bts w v l) (hb : Bel w w') : Bts w' v l := by
  obtain ⟨ad, cap, e, h1, h2, h3⟩ := h
  exact ⟨ad, cap, e, h1, h2, h3.bel hb⟩
theorem Bts.heap {w w' : World} {v : Value} {l : List Int} (h : Bts w v l) (e : w'.heap = w.heap) : Bts w' v l := by
  obtain ⟨ad, cap, e1, h1, h2, h3⟩ := h
  refine ⟨ad, cap, e1, h1, h2, fun h0 => ?_⟩
  obtain ⟨pb, po, e2, hr⟩ := h3 h0
  exact ⟨pb, po, e2, fun j hj => by rw [World.cell?_of_block (w := w) (by rw [e])]; exact hr j hj⟩
/-- a slice whose row is not written -/
theorem Bts.grown {w w' : World} {v : Value} {l : List Int} {row : Option Nat} (h : Bts w v l) (hg : w.grownBy w' row) (hne : v.ownBlock ≠ row ∨ row = none) : Bts w' v l := by
  obtain ⟨ad, cap, e, h1, h2, h3⟩ := h
  refine ⟨ad, cap, e, h1, h2, fun h0 => ?_⟩
  obtain ⟨pb, po, e2, hr⟩ := h3 h0
  refine ⟨pb, po, e2, fun j hj => hg.cell (hr j hj) (fun e3 => ?_)⟩
  subst e e2
  rcases hne with hne | hne
  · exact hne e3
  · rw [hne] at e3; cases e3

theorem Row.bts {w : World} {g : Nat} {T : TypeId} {l : List Int} {n : Nat} (r : Row w g T l) (hn : n = l.length) (hl : n ≤ 9223372036854775807) : Bts w (.slice (some ⟨g, 0, none⟩) n n) l := by
  subst hn
  exact ⟨_, _, rfl, Nat.le_refl _, hl, fun _ => ⟨g, 0, rfl, fun j hj => by rw [Nat.zero_add]; exact r.cell hj⟩⟩

theorem OwnB.bts {w : World} {base : Nat} {v : Value} {l : List Int} (h : OwnB w base v l) : Bts w v l := by
  obtain ⟨hlen, h2⟩ := h
  rcases h2 with ⟨rfl, h0⟩ | ⟨g, cap, cur, rfl, hb, hh, hn, hm, hs, ht⟩
  · exact ⟨none, 0, by rw [h0], by omega, by omega, fun h1 => by omega⟩
  · refine ⟨_, cap, rfl, hn, hm, fun h1 => ⟨g, 0, rfl, fun j hj => ?_⟩⟩
    rw [Nat.zero_add, cell_of_row w g j cur _ _ hh]
    have hj' : (cur.toList.take (l.length * 1))[j]? = some (.int .u8 (l.getD j 0)) := by
      rw [ht]; simp [hj]
    rw [List.getElem?_take_of_lt (by omega)] at hj'
    simpa using hj'

theorem Bts.cell {w : World} {ad : Option Addr} {n cap : Nat} {l : List Int} (h : Bts w (.slice ad n cap) l) {k : Nat} (hk : k < n) : ∃ pb po, ad = some ⟨pb, po, none⟩ ∧ w.cell? ⟨pb, po + k, none⟩ = some (.int .u8 (l.getD k 0)) := by
  obtain ⟨ad', cap', e, h1, h2, h3⟩ := h
  obtain ⟨rfl, rfl, rfl⟩ : ad = ad' ∧ n = l.length ∧ cap = cap' := by injection e; exact ⟨by assumption, by assumption, by assumption⟩
  obtain ⟨pb, po, e2, hr⟩ := h3 (by omega)
  exact ⟨pb, po, e2, hr k hk⟩

set_option maxRecDepth 100000 in
set_option maxHeartbeats 1000000 in
theorem same_core (pa oa pb ob n ca cb : Nat) (l : Nat → Int) (w : World) (hn : n ≤ 9223372036854775807) (h1 : Reads w pa oa n l) (h2 : Reads w pb ob n l) :
    Calls Try.prog 10 #[.slice (some ⟨pa, oa, none⟩) n ca, .slice (some ⟨pb, ob, none⟩) n cb] w fun e w' => e = .returned (.bool true) ∧ ∃ m, w' = w.drewN m := by
  have H1 := Lib.hid h1
  have H2 := Lib.hid h2
  clear h1 h2
  go_enter Try.func10, Try.ntmps10
  go_wp2
  go_loopw [13] (fun i wr => ∃ k : Nat, k ≤ n ∧ i = .int .i64 k ∧ ∃ m, wr = w.drewN m) (fun i _ => n - (intOf i).toNat)
  case atStart => exact ⟨0, Nat.zero_le _, rfl, 0, rfl⟩
  case round =>
    obtain ⟨k, hk, rfl, m, rfl⟩ := hrel
    by_cases hlt : k < n
    · have c1 := H1.out k hlt
      have c2 := H2.out k hlt
      have i1 : (0 : Int) ≤ (k : Int) := by omega
      have i2 : (k : Int) < (n : Int) := by omega
      have t1 : decide ((k : Int) < (n : Int)) = true := by simp; omega
      go_wp2
      go_quiet (fail)
      go_wp2
      go_roundw
      case rel => exact ⟨k + 1, by omega, by go_num, _, rfl⟩
      case measure => simp [intOf]; omega
    · have t1 : decide ((k : Int) < (n : Int)) = false := by simp; omega
      go_wp2
      go_ret
      exact ⟨rfl, m, rfl⟩

set_option maxHeartbeats 1000000 in
theorem same_zero (a b : Option Addr) (ca cb : Nat) (w : World) :
    Calls Try.prog 10 #[.slice a 0 ca, .slice b 0 cb] w fun e w' => e = .returned (.bool true) ∧ ∃ m, w' = w.drewN m := by
  go_enter Try.func10, Try.ntmps10
  go_wp2
  go_loopw [13] (fun i wr => i = .int .i64 0 ∧ wr = w) (fun _ _ => 0)
  case atStart => exact ⟨rfl, rfl⟩
  case round =>
    obtain ⟨rfl, rfl⟩ := hrel
    go_wp2
    go_ret
    exact ⟨rfl, 0, rfl⟩

/-- 'same' of two slices with the same bytes -/
theorem same_any (va vb : Value) (l : List Int) (w : World) (ha : Bts w va l) (hb : Bts w vb l) :
    Calls Try.prog 10 #[va, vb] w fun e w' => e = .returned (.bool true) ∧ ∃ m, w' = w.drewN m := by
  obtain ⟨a, ca, rfl, h1, h2, h3⟩ := ha
  obtain ⟨b, cb, rfl, k1, k2, k3⟩ := hb
  by_cases h0 : 0 < l.length
  · obtain ⟨pa, oa, rfl, ra⟩ := h3 h0
    obtain ⟨pb, ob, rfl, rb⟩ := k3 h0
    exact same_core pa oa pb ob l.length ca cb _ w (by omega) ra rb
  · have e : l.length = 0 := by omega
    rw [e]
    exact same_zero a b ca cb w

/-- v is a new slice with the content l -/
def NewB (w0 w : World) (v : Value) (l : List Int) : Prop := Bts w v l ∧ Bel w0 w ∧ ∀ k, v.ownBlock = some k → w0.heap.size ≤ k

/-- ad is a slice of slices with the contents Bs -/
def Pts (w : World) (ad : Option Addr) (Bs : List (List Int)) : Prop :=
  ∀ i, i < Bs.length → ∃ pb po v, ad = some ⟨pb, po, none⟩ ∧ w.cell? ⟨pb, po + i, none⟩ = some v ∧ Bts w v (Bs.getD i [])

end Go.Proofs.Ytnpoggcpdelmnaa

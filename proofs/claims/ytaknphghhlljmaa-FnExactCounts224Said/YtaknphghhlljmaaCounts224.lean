/-
  impl.Counts224: how many bytes each Write told.
-/
import Derived.Test.YtaknphghhlljmaaCountsA
namespace Go.Proofs.Ytaknphghhlljmaa
open Go.RowKit
set_option linter.unusedVariables false

set_option maxRecDepth 100000 in
set_option maxHeartbeats 1000000 in
theorem counts224_any (K : Nat → Int) (Bs : List (List Int)) (ad : Option Addr) (cap : Nat) (w : World) (hs : Pts w ad Bs) (hK : KAt w K) (hn : Bs.length ≤ 5864062014805) :
    Calls Try.prog 32 #[.slice ad Bs.length cap] w fun e w' => ∃ v, e = .returned (.tuple #[v, .bool true]) ∧ OwnI w' w.heap.size v (Bs.map fun l => (l.length : Int)) ∧ Bel w w' := by
  have hm1 := method_write
  have HN := Lib.hid (shaNew224_any w)
  have HS := Lib.hid hs
  have HK := Lib.hid hK
  clear hs hK
  obtain ⟨n, hN⟩ : ∃ n, n = Bs.length := ⟨_, rfl⟩
  rw [← hN]
  have HNN := Lib.hid hN
  rw [← hN] at hn
  clear hN
  go_enter Try.func32, Try.ntmps32
  go_wp2_with (go_at_call 34; refine HN.out.mono ?_; rintro e w2 ⟨rfl, h1⟩; have H2 := Lib.hid (Has.ofNew (K := K) (Below.refl w.heap.size w) h1); clear h1)
  go_loopw [5, 6, 15] (fun o f i wr => ∃ (k : Nat) (vo : Value), k ≤ n ∧ i = .int .i64 k ∧ vo = o ∧ f = .bool true ∧ Hid (OwnI wr w.heap.size vo ((Bs.take k).map fun l => (l.length : Int)) ∧ Has K w wr w.heap.size true (Bs.take k).flatten ∧ vo.ownBlock ≠ some w.heap.size)) (fun _ _ i _ => n - (intOf i).toNat)
  case atStart => exact ⟨0, _, Nat.zero_le _, rfl, rfl, rfl, ownI_empty w2 w.heap.size H2.out.bel.size, H2.out.keep (World.grownBy_alloc w2 _ none) (fun k e => by cases e), fun e => by have e2 : w2.heap.size = w.heap.size := Option.some.inj e; have := H2.out.dig.lt; omega⟩
  case round =>
    obtain ⟨k, s3, hk, rfl, rfl, rfl, HH⟩ := hrel
    by_cases hlt : k < n
    · obtain ⟨pb, po, v, rfl, hcell, hv⟩ := HS.out k (by have := HNN.out; omega)
      have hc2 : wr.cell? ⟨pb, po + k, none⟩ = some v := by rw [bel_cell HH.out.2.1.bel (World.block_lt_of_cell? w _ hcell)]; exact hcell
      have hl : k < Bs.length := by have := HNN.out; omega
      have he : (Bs.take (k + 1)).map (fun l => (l.length : Int)) = (Bs.take k).map (fun l => (l.length : Int)) ++ [((Bs.getD k []).length : Int)] := by
        rw [List.take_succ_eq_append_getElem hl, List.map_append]
        simp [hl]
      have he2 : (Bs.take (k + 1)).flatten = (Bs.take k).flatten ++ Bs.getD k [] := by
        rw [List.take_succ_eq_append_getElem hl, List.flatten_append]
        simp [hl]
      obtain ⟨a9, c9, rfl, h1, h2, h3⟩ := hv
      have HW := Lib.hid (write_has HH.out.2.1 HK.out h3 h1 h2)
      have HNX := Lib.hid (show ∀ w5, Has K w w5 w.heap.size true ((Bs.take k).flatten ++ Bs.getD k []) → wr.grownBy w5 (some w.heap.size) → ∃ v6 w6, (Builtin.append_ #[45, 45] 45 #[s3, .slice (some ⟨w5.heap.size, 0, none⟩) 1 1]).run Try.prog (w5.alloc (.cells #[.int .i64 (Bs.getD k []).length] 3)) = .ok v6 w6 ∧ OwnI w6 w.heap.size v6 ((Bs.take (k + 1)).map fun l => (l.length : Int)) ∧ Has K w w6 w.heap.size true (Bs.take (k + 1)).flatten ∧ v6.ownBlock ≠ some w.heap.size from fun w5 hh hg => by
        have ho : OwnI w5 w.heap.size s3 _ := World.ownsRow.kept HH.out.1 hg (Or.inr HH.out.2.2)
        obtain ⟨v6, w6, hr, ho6, hg6, hb6⟩ := append_int w5 w.heap.size s3 _ ((Bs.getD k []).length : Int) 45 ho hh.bel.size (by simp; omega)
        rw [← he] at ho6
        refine ⟨v6, w6, hr, ho6, ?_, fun e => ?_⟩
        · rw [he2]
          exact hh.keep hg6 (fun j e => ⟨(World.ownsRow.lt ho j e).1, fun e2 => HH.out.2.2 (by rw [e, e2])⟩)
        · rcases hb6 with hb6 | hb6
          · exact HH.out.2.2 (hb6.symm.trans e)
          · have := Option.some.inj (hb6.symm.trans e)
            have := hh.dig.lt
            omega)
      clear h1 h2 h3 hcell he he2
      have i1 : (0 : Int) ≤ (k : Int) := by omega
      have i2 : (k : Int) < (n : Int) := by omega
      have t1 : decide ((k : Int) < (n : Int)) = true := by simp; omega
      generalize (Bs.getD k []).length = n9 at *
      go_wp2_with (first | (go_at_call 66; refine HW.out.mono ?_; rintro e w5 ⟨rfl, h3, g3⟩; obtain ⟨v6, w6, hr, ho6, hh6, hn6⟩ := HNX.out w5 h3 g3; have HR := Lib.hid hr; have H6 := Lib.hid (And.intro ho6 (And.intro hh6 hn6)); clear hr ho6 hh6 hn6 h3 g3) | (at_builtin; refine wpList_append_run rfl (.tmp 25) (.tmp 27) 45 rfl _ _ rfl rfl _ w6 HR.out ?_))
      go_roundw
      case rel => exact ⟨k + 1, v6, by omega, by go_num, rfl, rfl, H6.out⟩
      case measure => simp [intOf]; omega
    · have t1 : decide ((k : Int) < (n : Int)) = false := by simp; omega
      have hkn : Bs.take k = Bs := List.take_of_length_le (by have := HNN.out; omega)
      rw [hkn] at HH
      go_wp2_with fail
      go_ret2
      exact ⟨_, rfl, HH.out.1, HH.out.2.1.bel⟩
end Go.Proofs.Ytaknphghhlljmaa

/-
  impl.Kept224: the copy of the data that was written to a hash, as it was.
-/
import Derived.Test.YtaknphghhlljmaaApp
import Derived.Test.YtaknphghhlljmaaSteps224
namespace Go.Proofs.Ytaknphghhlljmaa
open Go.RowKit
set_option linter.unusedVariables false

theorem own_src224 {w : World} {base b n cap : Nat} {ad : Option Addr} {l : List Int} (h : OwnB w base (.slice ad n cap) l) (hb : b < base) : Src w b ad l := fun h0 => by
  obtain ⟨a', c', e, h1, h2, h3⟩ := h.bts
  obtain ⟨rfl, rfl, rfl⟩ : ad = a' ∧ n = l.length ∧ cap = c' := by injection e; exact ⟨by assumption, by assumption, by assumption⟩
  obtain ⟨pb, po, rfl, hr⟩ := h3 h0
  have := (World.ownsRow.lt h pb rfl).1
  exact ⟨pb, po, rfl, by omega, hr⟩

set_option maxRecDepth 100000 in
set_option maxHeartbeats 2000000 in
theorem kept224_any (K : Nat → Int) (v0 : Value) (D : List Int) (w : World) (h0 : Bts w v0 D) (hK : KAt w K) (hp : D.length ≤ 140737488351232) :
    Calls Try.prog 29 #[v0] w fun e w' => ∃ v, e = .returned v ∧ NewB w w' v D := by
  have HB0 := Lib.hid h0
  obtain ⟨a0, c0, rfl, _⟩ := h0
  have hm1 := method_write
  have hm2 := method_sum
  have HN := Lib.hid (shaNew224_any w)
  have HK := Lib.hid hK
  have happ : ∀ w2, NewAt true w w2 → ∃ a5 c5 w5, (Builtin.append_ #[27, 27] 27 #[.slice (some ⟨w2.heap.size, 0, none⟩) 0 0, .slice a0 D.length c0]).run Try.prog (w2.alloc (.cells #[] 5)) = .ok (.slice a5 D.length c5) w5 ∧
      OwnB w5 w2.heap.size (.slice a5 D.length c5) D ∧ w.heap.size < w2.heap.size ∧ Has K w w5 w.heap.size true [] := fun w2 h2 => by
    have h := Has.ofNew (K := K) (Below.refl w.heap.size w) h2
    have h4 : Has K w (w2.alloc (.cells #[] 5)) w.heap.size true [] := h.keep (World.grownBy_alloc w2 (.cells #[] 5) none) (fun k e => by cases e)
    obtain ⟨v5, w5, hr, ho, hg, hb⟩ := append_bts (w2.alloc (.cells #[] 5)) w2.heap.size _ _ [] D 27 (ownB_empty w2 w2.heap.size (Nat.le_refl _)) (HB0.out.bel h4.bel) (by rw [World.size_alloc]; exact Nat.le_succ _) (by simp; omega)
    rw [List.nil_append] at ho
    obtain ⟨a5, c5, rfl, _⟩ := ho.bts
    have hlt := h.dig.lt
    have hg' : (w2.alloc (.cells #[] 5)).grownBy w5 (some w2.heap.size) := hg
    exact ⟨a5, c5, w5, hr, ho, hlt, h4.keep hg' (fun k e => by have := Option.some.inj e; omega)⟩
  have HAPP := Lib.hid happ
  clear hK happ
  go_enter Try.func29, Try.ntmps29
  go_wp2_with (first | (go_at_call 34; refine HN.out.mono ?_; rintro e w2 ⟨rfl, h1⟩; obtain ⟨a5, c5, w5, hr, ho, hlt, h5⟩ := HAPP.out w2 h1; have HR5 := Lib.hid hr; have HO5 := Lib.hid ho; have H5 := Lib.hid h5; have HLT := Lib.hid hlt; clear hr ho hlt h5 h1) | (at_builtin; refine wpList_append_run rfl (.tmp 6) (.tmp 7) 27 rfl _ _ rfl rfl _ w5 HR5.out ?_))
  have hbt := HO5.out.bts
  obtain ⟨a', c', e, k1, k2, k3⟩ := hbt
  obtain ⟨rfl, rfl⟩ : a5 = a' ∧ c5 = c' := by injection e; exact ⟨by assumption, by assumption⟩
  clear k3 e
  have hkb : w.heap.size ≠ 0 := by have := HK.out.lt; omega
  have HWR := Lib.hid (write_any K w.heap.size true [] D a5 c5 w5 H5.out.dig (own_src224 HO5.out HLT.out) k1 k2 (HK.out.bel H5.out.bel) hkb)
  refine HWR.out.mono ?_
  rintro e w6 ⟨rfl, d6, g6⟩
  have H6 := Lib.hid (show Has K w w6 w.heap.size true D from ⟨H5.out.bel.grown g6 (fun k e => by rw [← Option.some.inj e]; exact Nat.le_refl _), Nat.le_refl _, by simpa using d6⟩)
  have hne : Value.ownBlock (.slice a5 D.length c5) ≠ some w.heap.size := fun e => by
    have := (World.ownsRow.lt HO5.out _ e).1
    have := HLT.out
    omega
  have HO6 := Lib.hid (HO5.out.keep g6 (Or.inr hne))
  clear d6 g6 hne HWR
  go_wp2_with fail
  have HS7 := Lib.hid (sum_has (base := w6.heap.size) H6.out HK.out (ownB_nil w6 _) (Nat.le_refl _) H6.out.bel.size (by simp [Value.ownBlock]) (by simp))
  refine HS7.out.mono ?_
  rintro e w7 ⟨v7, rfl, o7, h7, g7⟩
  have HO7 := Lib.hid (HO6.out.keep g7 (by cases (Value.ownBlock (.slice a5 D.length c5)) <;> simp [Value.ownBlock]))
  have H7 := Lib.hid h7
  clear o7 h7 g7 HS7
  go_wp2_with fail
  go_ret
  exact ⟨_, rfl, HO7.out.bts, H7.out.bel, fun k e => by
    have := (World.ownsRow.lt HO7.out k e).1
    have := HLT.out
    omega⟩

end Go.Proofs.Ytaknphghhlljmaa

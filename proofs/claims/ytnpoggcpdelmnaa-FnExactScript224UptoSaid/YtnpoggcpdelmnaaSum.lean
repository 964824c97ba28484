/-
  Digest.Sum: it appends the checksum, and leaves the digest as it is.
-/
import Derived.Test.YtnpoggcpdelmnaaCs
import Derived.Deep.WholeRow
import Derived.Deep.MidRow
namespace Go.Proofs.Ytnpoggcpdelmnaa
open Go.RowKit
set_option linter.unusedVariables false

theorem KAt.grown {w w' : World} {K : Nat → Int} {row : Option Nat} (h : KAt w K) (hg : w.grownBy w' row) (hne : row ≠ some 0) : KAt w' K := fun j hj =>
  hg.cell (h j hj) (fun e => hne e.symm)

/-- the checksum of the bytes M: 32 bytes, or 28 -/
def digest (K : Nat → Int) (is : Bool) (M : List Int) : List Int := (sum32 K is M).take (if is then 28 else 32)
theorem digest_length (K : Nat → Int) (is : Bool) (M : List Int) : (digest K is M).length = if is then 28 else 32 := by
  unfold digest
  rw [List.length_take, sum32_length]
  cases is <;> rfl

/-- behind the copy and checkSum: the checksum's bytes in a new row, and the kind -/
def SumAt (K : Nat → Int) (is : Bool) (M : List Int) (w w3 : World) (b0 r : Nat) : Prop :=
  w.heap.size ≤ b0 ∧ w.heap.size ≤ r ∧ r < w3.heap.size ∧ Row w3 r 46 (sum32 K is M) ∧ w3.cell? ⟨b0, 74, none⟩ = some (.bool is) ∧ w.grownBy w3 none

theorem sizeDig (h : S8) (x : List Int) (nx ln : Int) (is : Bool) (hx : x.length = 64) : (Try.prog.info? 63).map (·.size) = some (digC h x nx ln is).size := by
  rw [digC_size hx]; kernel_rfl
theorem digC_all (h : S8) (x : List Int) (nx ln : Int) (is : Bool) : (digC h x nx ln is).all (·.oneCell') = true :=
  Array.all_eq_true_iff_forall_mem.2 fun v hv => by
    simp only [digC, digL, List.mem_toArray, List.mem_append, List.mem_map, List.mem_cons, List.not_mem_nil, or_false] at hv
    rcases hv with (rfl | rfl | rfl | rfl | rfl | rfl | rfl | rfl) | ⟨z, _, rfl⟩ | rfl | rfl | rfl <;> rfl

noncomputable def sumTail : Code := dropSeq 4 (Try.f46.body.getD .skip)

def FS (c : Nat → Value) (v : Value) (b0 r : Nat) : Act :=
  ⟨#[c 0, v, c 2, c 3, c 4, .pointer (some ⟨b0, 0, none⟩), .pointer (some ⟨r, 0, none⟩), c 7, c 8, c 9, c 10, c 11, c 12, c 13, c 14, c 15, c 16, c 17, c 18, c 19], []⟩
theorem to_FS {P : Program} {Q : Exit → Act → World → Prop} {w : World} {t : Array Value} (v : Value) (b0 r : Nat) (h : (⟨t, []⟩ : Act) = FS (fun n => t.getD n undef) v b0 r)
    (k : ∀ c, Code.wp P sumTail Q (FS c v b0 r) w) : Code.wp P sumTail Q ⟨t, []⟩ w := by rw [h]; exact k _

set_option maxRecDepth 100000 in
set_option maxHeartbeats 2000000 in
theorem sum_front (K : Nat → Int) (b : Nat) (is : Bool) (M : List Int) (v : Value) (w : World) (R : Ending → World → Prop) (dd : DigAt K w b is M) (hK : KAt w K)
    (hT : ∀ (c : Nat → Value) (w3 : World) (b0 r : Nat), SumAt K is M w w3 b0 r → Code.wp Try.prog sumTail (bodyPost Try.prog Try.f46 R) (FS c v b0 r) w3) :
    Calls Try.prog 46 #[.pointer (some ⟨b, 0, none⟩), v] w R := by
  have hz := zeroDig
  have hz1 := zero32
  obtain ⟨x, d, hx⟩ := dd
  have hlt := d.lt
  obtain ⟨C, hC⟩ : ∃ C, C = digC (hOf K is M) x ((M.length % 64 : Nat) : Int) ((M.length % 18446744073709551616 : Nat) : Int) is := ⟨_, rfl⟩
  have hd := d.2
  have hsz : C.size = 75 := by rw [hC]; exact digC_size d.1
  have hall : C.all (·.oneCell') = true := by rw [hC]; exact digC_all _ _ _ _ _
  rw [← hC] at hd
  have hin : (Try.prog.info? 63).map (·.size) = some C.size := by rw [hsz]; kernel_rfl
  have hold : (digC zero8 zeros 0 0 false).size = C.size := by rw [hsz, digC_size zeros_length]
  -- checkSum of the copy
  have hdd : DigAt K (w.alloc (.cells C 63)) w.heap.size is M := ⟨x, ⟨d.1, by rw [heap_alloc_new, hC]⟩, hx⟩
  have gA : w.grownBy (w.alloc (.cells C 63)) none := World.grownBy_alloc w _ none
  have hkk : KAt (w.alloc (.cells C 63)) K := hK.grown gA (by simp)
  have hcs := checkSum_any K w.heap.size is M _ hdd hkk (by have := hK.lt; omega)
  have fin : ∀ w2 : World, w2.cell? ⟨w.heap.size, 74, none⟩ = some (.bool is) → (w.alloc (.cells C 63)).grownBy w2 (some w.heap.size) → SumAt K is M w (w2.alloc (.cells (bytesC (sum32 K is M)) 46)) w.heap.size w2.heap.size := fun w2 hc g2 => by
    have hs2 : w.heap.size + 1 ≤ w2.heap.size := by have := g2.size; simpa using this
    refine ⟨Nat.le_refl _, by omega, by simp, heap_alloc_new w2 _, ?_, ?_⟩
    · rw [World.cell?_alloc_lt _ _ _ (by simp; omega)]; exact hc
    · refine ⟨g2.os, g2.tape, g2.output, by simp; omega, fun k hk _ => ?_⟩
      rw [Below.heap_alloc _ _ _ (by omega), g2.block k (by simp; omega) (fun e => by have := Option.some.inj e; omega), Below.heap_alloc _ _ _ hk]
  have HD := Lib.hid hd
  have HI := Lib.hid hin
  have HO := Lib.hid hold
  have HA := Lib.hid hall
  have HCS := Lib.hid hcs
  have HF := Lib.hid fin
  have HT := Lib.hid hT
  clear hd hin hold hall hcs hT fin hdd hkk hsz hC hx d gA hK
  go_enter Try.func46, Try.ntmps46
  refine wp_front 4 sumTail rfl ?_
  simp only [front]
  go_wp2_with (first | (go_at_call 48; refine (approved_any _).mono ?_; rintro e w' ⟨rfl, rfl⟩) | (refine wpList_load_row rfl 63 (.tmp 9) rfl b rfl _ C _ _ HD.out Try.underlying63 rfl HI.out ?_) | (refine wpList_store_row rfl 63 (.tmp 5) (.tmp 10) rfl w.heap.size C rfl rfl 63 (digC zero8 zeros 0 0 false) (heap_alloc_new w _) HI.out HO.out HA.out ?_; rw [World.setRow_alloc_new]) | (go_at_call 49; refine HCS.out.mono ?_; rintro e w2 ⟨rfl, h1, h2⟩; have H2 := Lib.hid (HF.out w2 h1 h2); clear h1 h2) | (refine wpList_store_row rfl 46 (.tmp 6) (.tmp 11) rfl w2.heap.size (bytesC (sum32 K is M)) rfl rfl 46 (bytesC z32) (heap_alloc_new w2 _) (size32 _ (sum32_length _ _ _)) (by rw [bytesC_size, bytesC_size, sum32_length]; rfl) (bytesC_all _) ?_; rw [World.setRow_alloc_new]))
  refine to_FS v w.heap.size w2.heap.size rfl fun c => ?_
  exact HT.out c _ _ _ H2.out

theorem info8 : (Try.prog.info? 5).map (fun i => (i.zero, i.size, i.bytes)) = some (some (.int .u8 0), 1, 1) := by kernel_rfl

/-- v is a slice of bytes with the content l: nil, or at the head of a row of the caller's own from block base on -/
def OwnB (w : World) (base : Nat) (v : Value) (l : List Int) : Prop := w.ownsRow base 5 1 v l.length (l.map (Value.int .u8))

theorem OwnB.keep {w w' : World} {base : Nat} {v : Value} {l : List Int} (h : OwnB w base v l) {row : Option Nat} (hg : w.grownBy w' row) (hne : v.ownBlock = none ∨ v.ownBlock ≠ row) : OwnB w' base v l := World.ownsRow.kept h hg hne

theorem grown_mono {w w' : World} (h : w.grownBy w' none) (r : Option Nat) : w.grownBy w' r := ⟨h.os, h.tape, h.output, h.size, fun k hk _ => h.block k hk (by simp)⟩

theorem Row.news {w : World} {g : Nat} {T : TypeId} {l : List Int} (r : Row w g T l) (m : Nat) (hm : m ≤ l.length) : ∀ j u, ((l.take m).map (Value.int .u8))[j]? = some u → w.cell? ((⟨g, 0, none⟩ : Addr).add j) = some u := fun j u hu => by
  have hj : j < m := by
    have := (List.getElem?_eq_some_iff.1 hu).1
    simp only [List.length_map, List.length_take] at this
    omega
  rw [Addr.add_mid, Nat.zero_add, r.cell (by omega), ← hu]
  simp [List.getElem?_take_of_lt hj, show j < l.length by omega]

set_option maxRecDepth 100000 in
set_option maxHeartbeats 2000000 in
/-- Sum of nil, or of a slice of the caller's own -/
theorem sum_own (K : Nat → Int) (b base : Nat) (is : Bool) (M l : List Int) (v : Value) (w : World) (dd : DigAt K w b is M) (hK : KAt w K) (hv : OwnB w base v l) (hbase : base ≤ w.heap.size) (hlen : l.length + 32 ≤ 140737488355328) :
    Calls Try.prog 46 #[.pointer (some ⟨b, 0, none⟩), v] w fun e w' =>
      ∃ v', e = .returned v' ∧ OwnB w' base v' (l ++ digest K is M) ∧ w.grownBy w' v.ownBlock := by
  obtain ⟨i0, hi, hz0, hz1, hz2⟩ := info_parts info8
  refine sum_front K b is M v w _ dd hK ?_
  intro c w3 b0 r hS
  obtain ⟨h1, h2, h3, hr, his, hg⟩ := hS
  have hv3 : OwnB w3 base v l := hv.keep hg (by cases v.ownBlock <;> simp)
  have hs3 : base ≤ w3.heap.size := Nat.le_trans hbase hg.size
  have HG := Lib.hid hg
  have HV := Lib.hid hv3
  have HROW := Lib.hid hr
  have HI := Lib.hid hi
  have HZ0 := Lib.hid hz0
  have HZ1 := Lib.hid hz1
  have HZ2 := Lib.hid hz2
  clear hv dd hK hg hv3 hr hi hz0 hz1 hz2
  have hml : maxLen = 9223372036854775807 := rfl
  have HML := Lib.hid hml
  clear hml
  cases is with
  | true =>
    have hd : (digest K true M).length = 28 := digest_length K true M
    have HD := Lib.hid hd
    clear hd
    conv => arg 2; whnf
    unfold FS
    go_wp2_with (at_builtin; refine wpList_append_own _ rfl (.tmp 14) (.tmp 15) 30 rfl base 5 i0 (.int .u8 0) 1 1 Try.underlying30 HI.out HZ0.out HZ1.out HZ2.out rfl (by decide) v l.length (l.map (Value.int .u8)) rfl HV.out ⟨r, 0, none⟩ 28 32 ((digest K true M).map (Value.int .u8)) rfl (by simp [HD.out]) (HROW.out.news 28 (by rw [sum32_length]; omega)) (ints_oneCell _ _) (by rw [HML.out]; omega) (by omega) hs3 ?_; intro v' w' ho hgr hnil; have HO := Lib.hid ho; have HGR := Lib.hid hgr; clear ho hgr hnil)
    refine bodyPost_ret (results_tmp rfl _ _ _) rfl ⟨v', rfl, ?_, grown_trans (grown_mono HG.out _) HGR.out⟩
    unfold OwnB
    rw [List.length_append, List.map_append, HD.out]
    exact HO.out
  | false =>
    have hd : (digest K false M).length = 32 := digest_length K false M
    have HD := Lib.hid hd
    clear hd
    conv => arg 2; whnf
    unfold FS
    go_wp2_with (at_builtin; refine wpList_append_own _ rfl (.tmp 17) (.tmp 18) 30 rfl base 5 i0 (.int .u8 0) 1 1 Try.underlying30 HI.out HZ0.out HZ1.out HZ2.out rfl (by decide) v l.length (l.map (Value.int .u8)) rfl HV.out ⟨r, 0, none⟩ 32 32 ((digest K false M).map (Value.int .u8)) rfl (by simp [HD.out]) (HROW.out.news 32 (by rw [sum32_length]; omega)) (ints_oneCell _ _) (by rw [HML.out]; omega) (by omega) hs3 ?_; intro v' w' ho hgr hnil; have HO := Lib.hid ho; have HGR := Lib.hid hgr; clear ho hgr hnil)
    refine bodyPost_ret (results_tmp rfl _ _ _) rfl ⟨v', rfl, ?_, grown_trans (grown_mono HG.out _) HGR.out⟩
    unfold OwnB
    rw [List.length_append, List.map_append, HD.out]
    exact HO.out

theorem splice_zero (l0 d : List Int) (h : d.length = l0.length) : splice l0 0 d = d := by
  simp [splice, List.drop_eq_nil_of_le (show l0.length ≤ d.length by omega)]

/-- the walk over an append whose run is known -/
theorem wpList_append_run {P : Program} {w : World} {ops : Array Oper} {rest : List Oper} {o : Oper} {a : Act} {Q : Exit → Act → World → Prop} (hgd : o.guard = none) (s x : Operand) (t : TypeId)
    (ho : o.op = .call { callee := .builtin .append, args := #[s, x], argTypes := #[t, t] }) (vs vx : Value) (hs : a.eval s = vs) (hx : a.eval x = vx) (v' : Value) (w' : World)
    (hrun : (Builtin.append_ #[t, t] o.type #[vs, vx]).run P w = .ok v' w') (h : wpList P ops Q rest (a.put o.dst v') w') : wpList P ops Q (o :: rest) a w := by
  refine wpList_plain hgd fun K hK => ?_
  unfold Oper.wp
  simp [execOp, ho, resolve, invoke, builtin, hs, hx, hrun, Result.andThen]
  exact hK _ _ h

/-- append into the room of a row, whatever its type -/
theorem append_room (w : World) (g r m c cap : Nat) (T T2 : TypeId) (l0 l : List Int) (hg : Row w g T l0) (hr : Row w r T2 l) (hm : m ≤ cap) (hm2 : m = l0.length) (hml : m ≤ l.length) :
    (Builtin.append_ #[30, 30] 30 #[.slice (some ⟨g, 0, none⟩) 0 cap, .slice (some ⟨r, 0, none⟩) m c]).run Try.prog w = .ok (.slice (some ⟨g, 0, none⟩) m cap) (w.setRow g (bytesC (l.take m))) := by
  obtain ⟨i0, hi, hz0, hz1, hz2⟩ := info_parts info8
  have hl : ((l.take m).map (Value.int .u8)).length = m * i0.size := by rw [hz1]; simp; omega
  have hl' : ((l.take m).map (Value.int .u8)).length = m := by simp; omega
  have hf := run_firstCells_some (P := Try.prog) w i0.size m ⟨r, 0, none⟩ m c ((l.take m).map (Value.int .u8)) hl (hr.news m hml)
  have hst := run_storeCells_at Try.prog g 0 T ((l.take m).map (Value.int .u8)) 0 (bytesC l0) w hg (by rw [bytesC_size, hl']; omega) (ints_oneCell _ _)
  simp only [Nat.add_zero] at hst
  have e : (List.take 0 (bytesC l0).toList ++ (l.take m).map (Value.int .u8) ++ List.drop (0 + ((l.take m).map (Value.int .u8)).length) (bytesC l0).toList).toArray = bytesC (l.take m) := by
    rw [hl']
    simp [bytesC, hm2]
  rw [e] at hst
  clear e
  generalize (l.take m).map (Value.int .u8) = news at hf hst
  simp [Builtin.append_, run_underlying Try.underlying30, sizeOf, typeInfo, hi, Builtin.lenOf, hm, hf, Addr.add_lit, hst]

set_option maxRecDepth 100000 in
set_option maxHeartbeats 2000000 in
/-- Sum into an array of just the checksum's length -/
theorem sum_room (K : Nat → Int) (b g cap : Nat) (T : TypeId) (is : Bool) (M l0 : List Int) (w : World) (dd : DigAt K w b is M) (hK : KAt w K) (hg : Row w g T l0) (hglt : g < w.heap.size) (hl : l0.length = if is then 28 else 32) (hcap : cap = l0.length) :
    Calls Try.prog 46 #[.pointer (some ⟨b, 0, none⟩), .slice (some ⟨g, 0, none⟩) 0 cap] w fun e w' =>
      ∃ v', e = .returned v' ∧ Row w' g T (digest K is M) ∧ w.grownBy w' (some g) := by
  refine sum_front K b is M _ w _ dd hK ?_
  intro c w3 b0 r hS
  obtain ⟨h1, h2, h3, hr, his, hgr⟩ := hS
  have hg3 : Row w3 g T l0 := hg.keep (hgr.block g hglt (by simp))
  have hap := append_room w3 g r (if is then 28 else 32) 32 cap T _ l0 _ hg3 hr (by rw [hcap, hl]; exact Nat.le_refl _) hl.symm (by rw [sum32_length]; split <;> omega)
  have fin : Row (w3.setRow g (bytesC ((sum32 K is M).take (if is then 28 else 32)))) g T (digest K is M) ∧ w.grownBy (w3.setRow g (bytesC ((sum32 K is M).take (if is then 28 else 32)))) (some g) :=
    ⟨setRow_heap w3 g _ _ _ _ hg3, ⟨hgr.os, hgr.tape, hgr.output, by simpa [World.setRow] using hgr.size, fun k hk hkg => by
      rw [setRow_other w3 g k _ (fun e => hkg (by rw [e]))]; exact hgr.block k hk (by simp)⟩⟩
  have HF := Lib.hid fin
  clear fin hg hgr hg3 hr dd hK
  have HL := Lib.hid hl
  have HCAP := Lib.hid hcap
  clear hcap
  cases is with
  | true =>
    simp only [if_true] at hap HF hl
    clear HL
    have HHL := Lib.hid hl
    generalize w3.setRow g (bytesC ((sum32 K true M).take 28)) = w4 at hap HF
    clear hl
    have HAP := Lib.hid hap
    clear hap
    conv => arg 2; whnf
    unfold FS
    go_wp2_with (at_builtin; refine wpList_append_run rfl (.tmp 14) (.tmp 15) 30 rfl _ _ rfl rfl _ w4 HAP.out ?_)
    exact bodyPost_ret (results_tmp rfl _ _ _) rfl ⟨_, rfl, HF.out⟩
  | false =>
    simp only [Bool.false_eq_true, if_false] at hap HF hl
    clear HL
    have HHL := Lib.hid hl
    generalize w3.setRow g (bytesC ((sum32 K false M).take 32)) = w4 at hap HF
    clear hl
    have HAP := Lib.hid hap
    clear hap
    conv => arg 2; whnf
    unfold FS
    go_wp2_with (at_builtin; refine wpList_append_run rfl (.tmp 17) (.tmp 18) 30 rfl _ _ rfl rfl _ w4 HAP.out ?_)
    exact bodyPost_ret (results_tmp rfl _ _ _) rfl ⟨_, rfl, HF.out⟩

end Go.Proofs.Ytnpoggcpdelmnaa

/-
  The last statement of blockGeneric: eight stores, whatever order the operations around them come up in.
-/
import Derived.Test.YtnpoggcpdelmnaaSha
import Derived.Test.YtnpoggcpdelmnaaFr
namespace Go.Proofs.Ytnpoggcpdelmnaa
open Go.RowKit

theorem frozen_set {w : World} {a x : Addr} {v : Value} (h : w.frozen? x = false) : (w.setCell a v).frozen? x = false := by
  rw [World.frozen?_setCell]; exact h
theorem isSome_set {w : World} {a x : Addr} {v : Value} (h : (w.cell? x).isSome = true) : ((w.setCell a v).cell? x).isSome = true := by
  obtain ⟨u, hu⟩ := Option.isSome_iff_exists.1 h
  by_cases e : a = x
  · subst e; rw [World.cell?_setCell_same _ _ _ hu]; rfl
  · rw [World.cell?_setCell_other _ _ _ _ e, hu]; rfl

def lastCode : Code → Code
  | .seq _ b => lastCode b
  | .scope c => lastCode c
  | .block _ c => lastCode c
  | c => c
noncomputable def reg35 : Code := lastCode (Try.f26.body.getD .skip)

/-- the world behind the eight stores -/
def store8 (w : World) (b : Nat) (s : S8) : World :=
  (((((((w.setCell ⟨b, 0, none⟩ (.int .u32 s.a)).setCell ⟨b, 1, none⟩ (.int .u32 s.b)).setCell ⟨b, 2, none⟩ (.int .u32 s.c)).setCell ⟨b, 3, none⟩ (.int .u32 s.d)).setCell ⟨b, 4, none⟩ (.int .u32 s.e)).setCell ⟨b, 5, none⟩ (.int .u32 s.f)).setCell ⟨b, 6, none⟩ (.int .u32 s.g)).setCell ⟨b, 7, none⟩ (.int .u32 s.h)

set_option maxRecDepth 100000 in
set_option maxHeartbeats 2000000 in
theorem reg35_any (b : Nat) (s : S8) (w : World) (a : Act) (Q : Exit → Act → World → Prop) (hQ : ∀ c a w d v, Q (.panic c) (a.put d v) w → Q (.panic c) a w)
    (hF : Plan.Fr 283 a [(0, .pointer (some ⟨b, 0, none⟩)), (5, .int .u32 s.a), (6, .int .u32 s.b), (7, .int .u32 s.c), (8, .int .u32 s.d), (9, .int .u32 s.e), (10, .int .u32 s.f), (11, .int .u32 s.g), (12, .int .u32 s.h)])
    (HC : ∀ j, j < 8 → (w.drew.cell? ⟨b, j, none⟩).isSome = true) (HF : ∀ j, j < 8 → w.drew.frozen? ⟨b, j, none⟩ = false)
    (h : ∀ a : Act, a.defers = [] → Q .normal a (store8 w.drew b s)) : Code.wp Try.prog reg35 Q a w := by
  conv => arg 2; whnf
  refine Plan.wp_region_plan [(0, false), (1, false), (2, false), (3, false), (4, false), (5, false), (6, false), (7, false), (8, false), (9, false), (10, false), (11, false), (12, false), (13, false), (14, false), (15, false), (16, false), (17, false), (20, false), (21, false), (24, false), (25, false), (28, false), (29, false), (32, false), (33, false), (36, false), (37, false), (40, false), (41, false), (44, false), (45, false), (18, false), (19, true), (22, false), (23, true), (26, false), (27, true), (30, false), (31, true), (34, false), (35, true), (38, false), (39, true), (42, false), (43, true), (46, false), (47, true)] (by kernel_rfl) (by kernel_rfl) hQ ?_
  revert a
  change ∀ a, _ → Plan.wpPlan _ _ _ _ a w.drew
  refine Plan.take_move 243 0 (.pointer (some ⟨b, 0, none⟩)) rfl rfl rfl rfl (by decide) rfl ?_
  refine Plan.take_move 244 0 (.pointer (some ⟨b, 0, none⟩)) rfl rfl rfl rfl (by decide) rfl ?_
  refine Plan.take_move 245 0 (.pointer (some ⟨b, 0, none⟩)) rfl rfl rfl rfl (by decide) rfl ?_
  refine Plan.take_move 246 0 (.pointer (some ⟨b, 0, none⟩)) rfl rfl rfl rfl (by decide) rfl ?_
  refine Plan.take_move 247 0 (.pointer (some ⟨b, 0, none⟩)) rfl rfl rfl rfl (by decide) rfl ?_
  refine Plan.take_move 248 0 (.pointer (some ⟨b, 0, none⟩)) rfl rfl rfl rfl (by decide) rfl ?_
  refine Plan.take_move 249 0 (.pointer (some ⟨b, 0, none⟩)) rfl rfl rfl rfl (by decide) rfl ?_
  refine Plan.take_move 250 0 (.pointer (some ⟨b, 0, none⟩)) rfl rfl rfl rfl (by decide) rfl ?_
  refine Plan.take_move 251 5 (.int .u32 s.a) rfl rfl rfl rfl (by decide) rfl ?_
  refine Plan.take_move 252 6 (.int .u32 s.b) rfl rfl rfl rfl (by decide) rfl ?_
  refine Plan.take_move 253 7 (.int .u32 s.c) rfl rfl rfl rfl (by decide) rfl ?_
  refine Plan.take_move 254 8 (.int .u32 s.d) rfl rfl rfl rfl (by decide) rfl ?_
  refine Plan.take_move 255 9 (.int .u32 s.e) rfl rfl rfl rfl (by decide) rfl ?_
  refine Plan.take_move 256 10 (.int .u32 s.f) rfl rfl rfl rfl (by decide) rfl ?_
  refine Plan.take_move 257 11 (.int .u32 s.g) rfl rfl rfl rfl (by decide) rfl ?_
  refine Plan.take_move 258 12 (.int .u32 s.h) rfl rfl rfl rfl (by decide) rfl ?_
  refine Plan.take_nil 259 243 ⟨b, 0, none⟩ rfl rfl rfl rfl (by decide) rfl ?_
  refine Plan.take_field 260 259 63 0 (.pointer (some ⟨b, 0, none⟩)) (.pointer (some ⟨b, 0, none⟩)) rfl rfl rfl rfl (by decide) rfl (fun _ => by kernel_rfl) ?_
  refine Plan.take_nil 262 244 ⟨b, 0, none⟩ rfl rfl rfl rfl (by decide) rfl ?_
  refine Plan.take_field 263 262 63 0 (.pointer (some ⟨b, 0, none⟩)) (.pointer (some ⟨b, 0, none⟩)) rfl rfl rfl rfl (by decide) rfl (fun _ => by kernel_rfl) ?_
  refine Plan.take_nil 265 245 ⟨b, 0, none⟩ rfl rfl rfl rfl (by decide) rfl ?_
  refine Plan.take_field 266 265 63 0 (.pointer (some ⟨b, 0, none⟩)) (.pointer (some ⟨b, 0, none⟩)) rfl rfl rfl rfl (by decide) rfl (fun _ => by kernel_rfl) ?_
  refine Plan.take_nil 268 246 ⟨b, 0, none⟩ rfl rfl rfl rfl (by decide) rfl ?_
  refine Plan.take_field 269 268 63 0 (.pointer (some ⟨b, 0, none⟩)) (.pointer (some ⟨b, 0, none⟩)) rfl rfl rfl rfl (by decide) rfl (fun _ => by kernel_rfl) ?_
  refine Plan.take_nil 271 247 ⟨b, 0, none⟩ rfl rfl rfl rfl (by decide) rfl ?_
  refine Plan.take_field 272 271 63 0 (.pointer (some ⟨b, 0, none⟩)) (.pointer (some ⟨b, 0, none⟩)) rfl rfl rfl rfl (by decide) rfl (fun _ => by kernel_rfl) ?_
  refine Plan.take_nil 274 248 ⟨b, 0, none⟩ rfl rfl rfl rfl (by decide) rfl ?_
  refine Plan.take_field 275 274 63 0 (.pointer (some ⟨b, 0, none⟩)) (.pointer (some ⟨b, 0, none⟩)) rfl rfl rfl rfl (by decide) rfl (fun _ => by kernel_rfl) ?_
  refine Plan.take_nil 277 249 ⟨b, 0, none⟩ rfl rfl rfl rfl (by decide) rfl ?_
  refine Plan.take_field 278 277 63 0 (.pointer (some ⟨b, 0, none⟩)) (.pointer (some ⟨b, 0, none⟩)) rfl rfl rfl rfl (by decide) rfl (fun _ => by kernel_rfl) ?_
  refine Plan.take_nil 280 250 ⟨b, 0, none⟩ rfl rfl rfl rfl (by decide) rfl ?_
  refine Plan.take_field 281 280 63 0 (.pointer (some ⟨b, 0, none⟩)) (.pointer (some ⟨b, 0, none⟩)) rfl rfl rfl rfl (by decide) rfl (fun _ => by kernel_rfl) ?_
  refine Plan.take_index 261 260 59 (.int .i64 0) (.pointer (some ⟨b, 0, none⟩)) (.pointer (some ⟨b, 0, none⟩)) rfl rfl rfl rfl (by decide) rfl (fun _ => by kernel_rfl) ?_
  refine Plan.force_store 261 251 58 b 0 .u32 s.a rfl rfl rfl rfl rfl rfl (by kernel_rfl) (HC 0 (by omega)) (HF 0 (by omega)) ?_
  refine Plan.take_index 264 263 59 (.int .i64 1) (.pointer (some ⟨b, 0, none⟩)) (.pointer (some ⟨b, 1, none⟩)) rfl rfl rfl rfl (by decide) rfl (fun _ => by kernel_rfl) ?_
  refine Plan.force_store 264 252 58 b 1 .u32 s.b rfl rfl rfl rfl rfl rfl (by kernel_rfl) (isSome_set (HC 1 (by omega))) (frozen_set (HF 1 (by omega))) ?_
  refine Plan.take_index 267 266 59 (.int .i64 2) (.pointer (some ⟨b, 0, none⟩)) (.pointer (some ⟨b, 2, none⟩)) rfl rfl rfl rfl (by decide) rfl (fun _ => by kernel_rfl) ?_
  refine Plan.force_store 267 253 58 b 2 .u32 s.c rfl rfl rfl rfl rfl rfl (by kernel_rfl) (isSome_set (isSome_set (HC 2 (by omega)))) (frozen_set (frozen_set (HF 2 (by omega)))) ?_
  refine Plan.take_index 270 269 59 (.int .i64 3) (.pointer (some ⟨b, 0, none⟩)) (.pointer (some ⟨b, 3, none⟩)) rfl rfl rfl rfl (by decide) rfl (fun _ => by kernel_rfl) ?_
  refine Plan.force_store 270 254 58 b 3 .u32 s.d rfl rfl rfl rfl rfl rfl (by kernel_rfl) (isSome_set (isSome_set (isSome_set (HC 3 (by omega))))) (frozen_set (frozen_set (frozen_set (HF 3 (by omega))))) ?_
  refine Plan.take_index 273 272 59 (.int .i64 4) (.pointer (some ⟨b, 0, none⟩)) (.pointer (some ⟨b, 4, none⟩)) rfl rfl rfl rfl (by decide) rfl (fun _ => by kernel_rfl) ?_
  refine Plan.force_store 273 255 58 b 4 .u32 s.e rfl rfl rfl rfl rfl rfl (by kernel_rfl) (isSome_set (isSome_set (isSome_set (isSome_set (HC 4 (by omega)))))) (frozen_set (frozen_set (frozen_set (frozen_set (HF 4 (by omega)))))) ?_
  refine Plan.take_index 276 275 59 (.int .i64 5) (.pointer (some ⟨b, 0, none⟩)) (.pointer (some ⟨b, 5, none⟩)) rfl rfl rfl rfl (by decide) rfl (fun _ => by kernel_rfl) ?_
  refine Plan.force_store 276 256 58 b 5 .u32 s.f rfl rfl rfl rfl rfl rfl (by kernel_rfl) (isSome_set (isSome_set (isSome_set (isSome_set (isSome_set (HC 5 (by omega))))))) (frozen_set (frozen_set (frozen_set (frozen_set (frozen_set (HF 5 (by omega))))))) ?_
  refine Plan.take_index 279 278 59 (.int .i64 6) (.pointer (some ⟨b, 0, none⟩)) (.pointer (some ⟨b, 6, none⟩)) rfl rfl rfl rfl (by decide) rfl (fun _ => by kernel_rfl) ?_
  refine Plan.force_store 279 257 58 b 6 .u32 s.g rfl rfl rfl rfl rfl rfl (by kernel_rfl) (isSome_set (isSome_set (isSome_set (isSome_set (isSome_set (isSome_set (HC 6 (by omega)))))))) (frozen_set (frozen_set (frozen_set (frozen_set (frozen_set (frozen_set (HF 6 (by omega)))))))) ?_
  refine Plan.take_index 282 281 59 (.int .i64 7) (.pointer (some ⟨b, 0, none⟩)) (.pointer (some ⟨b, 7, none⟩)) rfl rfl rfl rfl (by decide) rfl (fun _ => by kernel_rfl) ?_
  refine Plan.force_store 282 258 58 b 7 .u32 s.h rfl rfl rfl rfl rfl rfl (by kernel_rfl) (isSome_set (isSome_set (isSome_set (isSome_set (isSome_set (isSome_set (isSome_set (HC 7 (by omega))))))))) (frozen_set (frozen_set (frozen_set (frozen_set (frozen_set (frozen_set (frozen_set (HF 7 (by omega))))))))) ?_
  exact fun a hF => Plan.plan_nil (h a hF.defers)

end Go.Proofs.Ytnpoggcpdelmnaa

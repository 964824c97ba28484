/-
  impl.Whole256: the checksum of the data.
-/
import Derived.Test.YtnpoggcpdelmnaaOne256
import Derived.Test.YtnpoggcpdelmnaaSame
namespace Go.Proofs.Ytnpoggcpdelmnaa
open Go.RowKit
set_option linter.unusedVariables false

set_option maxRecDepth 100000 in
set_option maxHeartbeats 1000000 in
theorem whole256_any (K : Nat → Int) (B : List Int) (ad : Option Addr) (cap : Nat) (w : World) (hs : SrcB w ad B) (hK : KAt w K) (hc : B.length ≤ cap) (hcap : cap ≤ 9223372036854775807) :
    Calls Try.prog 14 #[.slice ad B.length cap] w fun e w' => ∃ v, e = .returned v ∧ NewB w w' v (digest K false B) := by
  have hz := zeroArr256
  have H := Lib.hid (sum256_any K B ad cap w hs hK hc hcap)
  have hlen : (digest K false B).length = 32 := digest_length K false B
  have HLEN := Lib.hid hlen
  clear hs hK hlen
  go_enter Try.func14, Try.ntmps14
  go_wp2_with fail
  refine H.out.mono ?_
  rintro e w1 ⟨rfl, h1⟩
  have H1 := Lib.hid h1
  clear h1
  simp only []
  go_step
  refine wpList_plain rfl fun J hJ => ?_
  go_simp
  refine hJ _ _ ?_
  refine wpList_store_row rfl 46 (.tmp 3) (.tmp 5) rfl w1.heap.size (bytesC (digest K false B)) rfl rfl 46 (bytesC zz256) ?_ ?_ ?_ ?_ ?_
  case refine_1 => exact heap_alloc_new w1 _
  case refine_2 => exact sizeArr256 _ HLEN.out
  case refine_3 => rw [bytesC_size, bytesC_size, HLEN.out]; rfl
  case refine_4 => exact bytesC_all _
  rw [World.setRow_alloc_new]
  go_wp2_with fail
  go_ret
  have hrow : Row (w1.alloc (.cells (bytesC (digest K false B)) 46)) w1.heap.size 46 (digest K false B) := heap_alloc_new w1 _
  have hb := hrow.bts (n := 32) HLEN.out.symm (by omega)
  exact ⟨.slice (some ⟨w1.heap.size, 0, none⟩) 32 32, rfl, hb, H1.out.alloc _, fun k e => by
    have e' : w1.heap.size = k := Option.some.inj e
    have hsz := H1.out.size
    omega⟩

end Go.Proofs.Ytnpoggcpdelmnaa

/-
  impl.Whole224: the checksum of the data.
-/
import Derived.Test.YtnpoggcpdelmnaaOne224
import Derived.Test.YtnpoggcpdelmnaaSame
namespace Go.Proofs.Ytnpoggcpdelmnaa
open Go.RowKit
set_option linter.unusedVariables false

set_option maxRecDepth 100000 in
set_option maxHeartbeats 1000000 in
theorem whole224_any (K : Nat → Int) (B : List Int) (ad : Option Addr) (cap : Nat) (w : World) (hs : SrcB w ad B) (hK : KAt w K) (hc : B.length ≤ cap) (hcap : cap ≤ 9223372036854775807) :
    Calls Try.prog 12 #[.slice ad B.length cap] w fun e w' => ∃ v, e = .returned v ∧ NewB w w' v (digest K true B) := by
  have hz := zeroArr224
  have H := Lib.hid (sum224_any K B ad cap w hs hK hc hcap)
  have hlen : (digest K true B).length = 28 := digest_length K true B
  have HLEN := Lib.hid hlen
  clear hs hK hlen
  go_enter Try.func12, Try.ntmps12
  go_wp2_with fail
  refine H.out.mono ?_
  rintro e w1 ⟨rfl, h1⟩
  have H1 := Lib.hid h1
  clear h1
  simp only []
  go_step
  refine wpList_plain rfl fun J hJ => ?_
  go_simp
  refine hJ _ _ ?_
  refine wpList_store_row rfl 44 (.tmp 3) (.tmp 5) rfl w1.heap.size (bytesC (digest K true B)) rfl rfl 44 (bytesC zz224) ?_ ?_ ?_ ?_ ?_
  case refine_1 => exact heap_alloc_new w1 _
  case refine_2 => exact sizeArr224 _ HLEN.out
  case refine_3 => rw [bytesC_size, bytesC_size, HLEN.out]; rfl
  case refine_4 => exact bytesC_all _
  rw [World.setRow_alloc_new]
  go_wp2_with fail
  go_ret
  have hrow : Row (w1.alloc (.cells (bytesC (digest K true B)) 44)) w1.heap.size 44 (digest K true B) := heap_alloc_new w1 _
  have hb := hrow.bts (n := 28) HLEN.out.symm (by omega)
  exact ⟨.slice (some ⟨w1.heap.size, 0, none⟩) 28 28, rfl, hb, H1.out.alloc _, fun k e => by
    have e' : w1.heap.size = k := Option.some.inj e
    have hsz := H1.out.size
    omega⟩

end Go.Proofs.Ytnpoggcpdelmnaa

/-
  No cell of these rows narrows 'for every input' (looked for: loops, veiled, ifaces, maps, wideKeys, modest, calm, conditions, laid).
  DERIVED. THE GIVEN ROWS OF THIS SEAT. 4 by the template 'for every input the law returns true; each argument reads behind the call as it read before'; 0 by the template 'total and deterministic' (their statements: YtnpoggcpdelmnaaTotals.lean).
  GIVEN WITH THE SEED: the statements are not yours to turn. If you find one false, say at which input.
  Laid BY PROGRAM, IN A SANDBOX (cutbox-rows.mjs): the forced cells as the released guide's own fill.sh prints them over the translation 60bde8ee5d9b886c… (all of the seat's roots in one cut). By AI agents, Wed Nov 11 2026. No macro, syntax, notation, axiom, sorry.
-/
import Derived.Test.YtnpoggcpdelmnaaChecked
import GoSem.Claim
import GoSem.ClaimJoined
import GoSem.ClaimMapViews
import Derived.JoinedTies
import Derived.KernelRfl
namespace Go.Proofs.Ytnpoggcpdelmnaa
/- THE CELL 'sum', in the pinned program and in every row, IS THE sha256 OF THE DUMP (.gsa) THAT YtnpoggcpdelmnaaProg.lean LOADS. Nothing in Lean hashes anything: it is a label: what it is worth is what the hold of that sum in a sandbox is worth. -/
noncomputable def Try.pinned : Pinned := { name := "ytnpoggcpdelmnaa", sum := "60bde8ee5d9b886cbd10395f57185b2b45dd5f95c9bddb7e731dce4207cec14e", checked := Try.checked }
namespace Rows
def none {H : Type} : Left H := { results := [], args := [] }

/-- 'laws.FnExactScript224': WHATEVER THE INPUT: true; the input reads as it did. -/
def fnExactScript224Spec : ChangeSpec := { name := "fnExactScript224", fn := fun _ => fun
  | [d] => { results := [.lit (.bool true)], args := [d] }
  | _ => none }
def fnExactScript224Row : OpenClaim := { program := "ytnpoggcpdelmnaa", sum := "60bde8ee5d9b886cbd10395f57185b2b45dd5f95c9bddb7e731dce4207cec14e", func := "loop.example/lib-digestroads/laws.FnExactScript224", spec := "fnExactScript224", unfollowed := true, recurses := true, apart := false }
def FnExactScript224Said : Prop := fnExactScript224Row.holds Try.pinned (OpenSpec.ofChange fnExactScript224Spec)

/-- ITS FALSE NEIGHBOUR: 'it returns false'. Refute it at one input. -/
def fnExactScript224Wrong : ChangeSpec := { name := "fnExactScript224", fn := fun _ => fun
  | [d] => { results := [.lit (.bool false)], args := [d] }
  | _ => none }
def FnExactScript224WrongFalsely : Prop := fnExactScript224Row.holds Try.pinned (OpenSpec.ofChange fnExactScript224Wrong)

/-- 'laws.FnCloneGoesOn256': WHATEVER THE INPUT: true; the input reads as it did. -/
def fnCloneGoesOn256Spec : ChangeSpec := { name := "fnCloneGoesOn256", fn := fun _ => fun
  | [d] => { results := [.lit (.bool true)], args := [d] }
  | _ => none }
def fnCloneGoesOn256Row : OpenClaim := { program := "ytnpoggcpdelmnaa", sum := "60bde8ee5d9b886cbd10395f57185b2b45dd5f95c9bddb7e731dce4207cec14e", func := "loop.example/lib-digestroads/laws.FnCloneGoesOn256", spec := "fnCloneGoesOn256", unfollowed := true, recurses := true, apart := false }
def FnCloneGoesOn256Said : Prop := fnCloneGoesOn256Row.holds Try.pinned (OpenSpec.ofChange fnCloneGoesOn256Spec)

/-- ITS FALSE NEIGHBOUR: 'it returns false'. Refute it at one input. -/
def fnCloneGoesOn256Wrong : ChangeSpec := { name := "fnCloneGoesOn256", fn := fun _ => fun
  | [d] => { results := [.lit (.bool false)], args := [d] }
  | _ => none }
def FnCloneGoesOn256WrongFalsely : Prop := fnCloneGoesOn256Row.holds Try.pinned (OpenSpec.ofChange fnCloneGoesOn256Wrong)

/-- 'laws.FnCloneGoesOn224': WHATEVER THE INPUT: true; the input reads as it did. -/
def fnCloneGoesOn224Spec : ChangeSpec := { name := "fnCloneGoesOn224", fn := fun _ => fun
  | [d] => { results := [.lit (.bool true)], args := [d] }
  | _ => none }
def fnCloneGoesOn224Row : OpenClaim := { program := "ytnpoggcpdelmnaa", sum := "60bde8ee5d9b886cbd10395f57185b2b45dd5f95c9bddb7e731dce4207cec14e", func := "loop.example/lib-digestroads/laws.FnCloneGoesOn224", spec := "fnCloneGoesOn224", unfollowed := true, recurses := true, apart := false }
def FnCloneGoesOn224Said : Prop := fnCloneGoesOn224Row.holds Try.pinned (OpenSpec.ofChange fnCloneGoesOn224Spec)

/-- ITS FALSE NEIGHBOUR: 'it returns false'. Refute it at one input. -/
def fnCloneGoesOn224Wrong : ChangeSpec := { name := "fnCloneGoesOn224", fn := fun _ => fun
  | [d] => { results := [.lit (.bool false)], args := [d] }
  | _ => none }
def FnCloneGoesOn224WrongFalsely : Prop := fnCloneGoesOn224Row.holds Try.pinned (OpenSpec.ofChange fnCloneGoesOn224Wrong)

/-- 'laws.FnExactScript256': WHATEVER THE INPUT: true; the input reads as it did. -/
def fnExactScript256Spec : ChangeSpec := { name := "fnExactScript256", fn := fun _ => fun
  | [d] => { results := [.lit (.bool true)], args := [d] }
  | _ => none }
def fnExactScript256Row : OpenClaim := { program := "ytnpoggcpdelmnaa", sum := "60bde8ee5d9b886cbd10395f57185b2b45dd5f95c9bddb7e731dce4207cec14e", func := "loop.example/lib-digestroads/laws.FnExactScript256", spec := "fnExactScript256", unfollowed := true, recurses := true, apart := false }
def FnExactScript256Said : Prop := fnExactScript256Row.holds Try.pinned (OpenSpec.ofChange fnExactScript256Spec)

/-- ITS FALSE NEIGHBOUR: 'it returns false'. Refute it at one input. -/
def fnExactScript256Wrong : ChangeSpec := { name := "fnExactScript256", fn := fun _ => fun
  | [d] => { results := [.lit (.bool false)], args := [d] }
  | _ => none }
def FnExactScript256WrongFalsely : Prop := fnExactScript256Row.holds Try.pinned (OpenSpec.ofChange fnExactScript256Wrong)

/- THE SECOND FORM. 'bulk': how many values and letters a reading holds, each counted each time it is reached (what is shared counts as often as it is met; a slice's spare places count too). A statement '..UptoSaid' is the law's where the arguments, and the package variables that the reading takes, are together of bulk at most 1048576: NARROWER than '..Said'. Prove '..Said' where nothing that the law and all that it calls make is longer than what came in: it says more and counts as full. Else prove '..UptoSaid'. A law counts once. -/
mutual
def uptoBulk {H : Type} : DataW H → Nat
  | .lit (.string bytes) => bytes.length + 1
  | .lit _ => 1
  | .nil => 1
  | .ptr d => uptoBulk d + 1
  | .slice elems spare => uptoBulkAll elems + uptoBulkAll spare + 1
  | .agg parts => uptoBulkAll parts + 1
  | .iface _ d => uptoBulk d + 1
  | .map entries => uptoBulkEntries entries + 1
  | .held _ => 1
def uptoBulkAll {H : Type} : List (DataW H) → Nat
  | [] => 0
  | d :: r => uptoBulk d + uptoBulkAll r
def uptoBulkEntries {H : Type} : List (Lit × DataW H) → Nat
  | [] => 0
  | x :: r => uptoBulkEntry x + uptoBulkEntries r
def uptoBulkEntry {H : Type} : Lit × DataW H → Nat
  | (.string bytes, d) => bytes.length + uptoBulk d + 1
  | (_, d) => uptoBulk d + 1
 end
def uptoSmall : (H : Type) → List (DataW H) → Bool := fun _ ds => decide (uptoBulkAll ds ≤ 1048576)
def OpenSpec.upto (s : _root_.Go.ChangeSpec) : _root_.Go.OpenSpec := { _root_.Go.OpenSpec.ofChange s with cond := some uptoSmall }

/-- 'laws.FnExactScript224', WHERE WHAT IT READS IS OF BULK AT MOST 1048576: true; the input reads as it did. -/
def fnExactScript224UptoRow : OpenClaim := { program := "ytnpoggcpdelmnaa", sum := "60bde8ee5d9b886cbd10395f57185b2b45dd5f95c9bddb7e731dce4207cec14e", func := "loop.example/lib-digestroads/laws.FnExactScript224", spec := "fnExactScript224", unfollowed := true, recurses := true, apart := false, narrowed := true }
def FnExactScript224UptoSaid : Prop := fnExactScript224UptoRow.holds Try.pinned (OpenSpec.upto fnExactScript224Spec)

/-- 'laws.FnCloneGoesOn256', WHERE WHAT IT READS IS OF BULK AT MOST 1048576: true; the input reads as it did. -/
def fnCloneGoesOn256UptoRow : OpenClaim := { program := "ytnpoggcpdelmnaa", sum := "60bde8ee5d9b886cbd10395f57185b2b45dd5f95c9bddb7e731dce4207cec14e", func := "loop.example/lib-digestroads/laws.FnCloneGoesOn256", spec := "fnCloneGoesOn256", unfollowed := true, recurses := true, apart := false, narrowed := true }
def FnCloneGoesOn256UptoSaid : Prop := fnCloneGoesOn256UptoRow.holds Try.pinned (OpenSpec.upto fnCloneGoesOn256Spec)

/-- 'laws.FnCloneGoesOn224', WHERE WHAT IT READS IS OF BULK AT MOST 1048576: true; the input reads as it did. -/
def fnCloneGoesOn224UptoRow : OpenClaim := { program := "ytnpoggcpdelmnaa", sum := "60bde8ee5d9b886cbd10395f57185b2b45dd5f95c9bddb7e731dce4207cec14e", func := "loop.example/lib-digestroads/laws.FnCloneGoesOn224", spec := "fnCloneGoesOn224", unfollowed := true, recurses := true, apart := false, narrowed := true }
def FnCloneGoesOn224UptoSaid : Prop := fnCloneGoesOn224UptoRow.holds Try.pinned (OpenSpec.upto fnCloneGoesOn224Spec)

/-- 'laws.FnExactScript256', WHERE WHAT IT READS IS OF BULK AT MOST 1048576: true; the input reads as it did. -/
def fnExactScript256UptoRow : OpenClaim := { program := "ytnpoggcpdelmnaa", sum := "60bde8ee5d9b886cbd10395f57185b2b45dd5f95c9bddb7e731dce4207cec14e", func := "loop.example/lib-digestroads/laws.FnExactScript256", spec := "fnExactScript256", unfollowed := true, recurses := true, apart := false, narrowed := true }
def FnExactScript256UptoSaid : Prop := fnExactScript256UptoRow.holds Try.pinned (OpenSpec.upto fnExactScript256Spec)

end Rows
end Go.Proofs.Ytnpoggcpdelmnaa

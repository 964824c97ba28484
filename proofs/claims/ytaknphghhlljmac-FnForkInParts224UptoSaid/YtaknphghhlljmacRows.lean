/-
  No cell of these rows narrows 'for every input' (looked for: loops, veiled, ifaces, maps, wideKeys, modest, calm, conditions, laid).
  DERIVED. THE GIVEN ROWS OF THIS SEAT. 9 by the template 'for every input the law returns true; each argument reads behind the call as it read before'; 0 by the template 'total and deterministic' (their statements: YtaknphghhlljmacTotals.lean).
  GIVEN WITH THE SEED: the statements are not yours to turn. If you find one false, say at which input.
  Laid BY PROGRAM, IN A SANDBOX (cutbox-rows.mjs): the forced cells as the released guide's own fill.sh prints them over the translation 45aba54a3e57436c… (all of the seat's roots in one cut). By AI agents, Wed Nov 11 2026. No macro, syntax, notation, axiom, sorry.
-/
import Derived.Test.YtaknphghhlljmacChecked
import GoSem.Claim
import GoSem.ClaimJoined
import GoSem.ClaimMapViews
import Derived.JoinedTies
import Derived.KernelRfl
namespace Go.Proofs.Ytaknphghhlljmac
/- THE CELL 'sum', in the pinned program and in every row, IS THE sha256 OF THE DUMP (.gsa) THAT YtaknphghhlljmacProg.lean LOADS. Nothing in Lean hashes anything: it is a label: what it is worth is what the hold of that sum in a sandbox is worth. -/
noncomputable def Try.pinned : Pinned := { name := "ytaknphghhlljmac", sum := "45aba54a3e57436c2950e7ea32a2408ecfa2492f6500a39af05640f34178cc7e", checked := Try.checked }
namespace Rows
def none {H : Type} : Left H := { results := [], args := [] }

/-- 'laws.FnExactFork256': WHATEVER THE INPUT: true; the input reads as it did. -/
def fnExactFork256Spec : ChangeSpec := { name := "fnExactFork256", fn := fun _ => fun
  | [d1, d2, d3] => { results := [.lit (.bool true)], args := [d1, d2, d3] }
  | _ => none }
def fnExactFork256Row : OpenClaim := { program := "ytaknphghhlljmac", sum := "45aba54a3e57436c2950e7ea32a2408ecfa2492f6500a39af05640f34178cc7e", func := "loop.example/lib-digestroads/laws.FnExactFork256", spec := "fnExactFork256", unfollowed := true, recurses := true, apart := false }
def FnExactFork256Said : Prop := fnExactFork256Row.holds Try.pinned (OpenSpec.ofChange fnExactFork256Spec)

/-- ITS FALSE NEIGHBOUR: 'it returns false'. Refute it at one input. -/
def fnExactFork256Wrong : ChangeSpec := { name := "fnExactFork256", fn := fun _ => fun
  | [d1, d2, d3] => { results := [.lit (.bool false)], args := [d1, d2, d3] }
  | _ => none }
def FnExactFork256WrongFalsely : Prop := fnExactFork256Row.holds Try.pinned (OpenSpec.ofChange fnExactFork256Wrong)

/-- 'laws.FnForkInParts256': WHATEVER THE INPUT: true; the input reads as it did. -/
def fnForkInParts256Spec : ChangeSpec := { name := "fnForkInParts256", fn := fun _ => fun
  | [d1, d2] => { results := [.lit (.bool true)], args := [d1, d2] }
  | _ => none }
def fnForkInParts256Row : OpenClaim := { program := "ytaknphghhlljmac", sum := "45aba54a3e57436c2950e7ea32a2408ecfa2492f6500a39af05640f34178cc7e", func := "loop.example/lib-digestroads/laws.FnForkInParts256", spec := "fnForkInParts256", unfollowed := true, recurses := true, apart := false }
def FnForkInParts256Said : Prop := fnForkInParts256Row.holds Try.pinned (OpenSpec.ofChange fnForkInParts256Spec)

/-- ITS FALSE NEIGHBOUR: 'it returns false'. Refute it at one input. -/
def fnForkInParts256Wrong : ChangeSpec := { name := "fnForkInParts256", fn := fun _ => fun
  | [d1, d2] => { results := [.lit (.bool false)], args := [d1, d2] }
  | _ => none }
def FnForkInParts256WrongFalsely : Prop := fnForkInParts256Row.holds Try.pinned (OpenSpec.ofChange fnForkInParts256Wrong)

/-- 'laws.FnExactFork224': WHATEVER THE INPUT: true; the input reads as it did. -/
def fnExactFork224Spec : ChangeSpec := { name := "fnExactFork224", fn := fun _ => fun
  | [d1, d2, d3] => { results := [.lit (.bool true)], args := [d1, d2, d3] }
  | _ => none }
def fnExactFork224Row : OpenClaim := { program := "ytaknphghhlljmac", sum := "45aba54a3e57436c2950e7ea32a2408ecfa2492f6500a39af05640f34178cc7e", func := "loop.example/lib-digestroads/laws.FnExactFork224", spec := "fnExactFork224", unfollowed := true, recurses := true, apart := false }
def FnExactFork224Said : Prop := fnExactFork224Row.holds Try.pinned (OpenSpec.ofChange fnExactFork224Spec)

/-- ITS FALSE NEIGHBOUR: 'it returns false'. Refute it at one input. -/
def fnExactFork224Wrong : ChangeSpec := { name := "fnExactFork224", fn := fun _ => fun
  | [d1, d2, d3] => { results := [.lit (.bool false)], args := [d1, d2, d3] }
  | _ => none }
def FnExactFork224WrongFalsely : Prop := fnExactFork224Row.holds Try.pinned (OpenSpec.ofChange fnExactFork224Wrong)

/-- 'laws.FnForkInParts224': WHATEVER THE INPUT: true; the input reads as it did. -/
def fnForkInParts224Spec : ChangeSpec := { name := "fnForkInParts224", fn := fun _ => fun
  | [d1, d2] => { results := [.lit (.bool true)], args := [d1, d2] }
  | _ => none }
def fnForkInParts224Row : OpenClaim := { program := "ytaknphghhlljmac", sum := "45aba54a3e57436c2950e7ea32a2408ecfa2492f6500a39af05640f34178cc7e", func := "loop.example/lib-digestroads/laws.FnForkInParts224", spec := "fnForkInParts224", unfollowed := true, recurses := true, apart := false }
def FnForkInParts224Said : Prop := fnForkInParts224Row.holds Try.pinned (OpenSpec.ofChange fnForkInParts224Spec)

/-- ITS FALSE NEIGHBOUR: 'it returns false'. Refute it at one input. -/
def fnForkInParts224Wrong : ChangeSpec := { name := "fnForkInParts224", fn := fun _ => fun
  | [d1, d2] => { results := [.lit (.bool false)], args := [d1, d2] }
  | _ => none }
def FnForkInParts224WrongFalsely : Prop := fnForkInParts224Row.holds Try.pinned (OpenSpec.ofChange fnForkInParts224Wrong)

/-- 'laws.FnCloneGoesOn256': WHATEVER THE INPUT: true; the input reads as it did. -/
def fnCloneGoesOn256Spec : ChangeSpec := { name := "fnCloneGoesOn256", fn := fun _ => fun
  | [d] => { results := [.lit (.bool true)], args := [d] }
  | _ => none }
def fnCloneGoesOn256Row : OpenClaim := { program := "ytaknphghhlljmac", sum := "45aba54a3e57436c2950e7ea32a2408ecfa2492f6500a39af05640f34178cc7e", func := "loop.example/lib-digestroads/laws.FnCloneGoesOn256", spec := "fnCloneGoesOn256", unfollowed := true, recurses := true, apart := false }
def FnCloneGoesOn256Said : Prop := fnCloneGoesOn256Row.holds Try.pinned (OpenSpec.ofChange fnCloneGoesOn256Spec)

/-- ITS FALSE NEIGHBOUR: 'it returns false'. Refute it at one input. -/
def fnCloneGoesOn256Wrong : ChangeSpec := { name := "fnCloneGoesOn256", fn := fun _ => fun
  | [d] => { results := [.lit (.bool false)], args := [d] }
  | _ => none }
def FnCloneGoesOn256WrongFalsely : Prop := fnCloneGoesOn256Row.holds Try.pinned (OpenSpec.ofChange fnCloneGoesOn256Wrong)

/-- 'laws.FnCloneGoesOn224': WHATEVER THE INPUT: true; the input reads as it did. -/
def fnCloneGoesOn224Spec : ChangeSpec := { name := "fnCloneGoesOn224", fn := fun _ => fun
  | [d] => { results := [.lit (.bool true)], args := [d] }
  | _ => none }
def fnCloneGoesOn224Row : OpenClaim := { program := "ytaknphghhlljmac", sum := "45aba54a3e57436c2950e7ea32a2408ecfa2492f6500a39af05640f34178cc7e", func := "loop.example/lib-digestroads/laws.FnCloneGoesOn224", spec := "fnCloneGoesOn224", unfollowed := true, recurses := true, apart := false }
def FnCloneGoesOn224Said : Prop := fnCloneGoesOn224Row.holds Try.pinned (OpenSpec.ofChange fnCloneGoesOn224Spec)

/-- ITS FALSE NEIGHBOUR: 'it returns false'. Refute it at one input. -/
def fnCloneGoesOn224Wrong : ChangeSpec := { name := "fnCloneGoesOn224", fn := fun _ => fun
  | [d] => { results := [.lit (.bool false)], args := [d] }
  | _ => none }
def FnCloneGoesOn224WrongFalsely : Prop := fnCloneGoesOn224Row.holds Try.pinned (OpenSpec.ofChange fnCloneGoesOn224Wrong)

/-- 'laws.FnSumAgain256': WHATEVER THE INPUT: true; the input reads as it did. -/
def fnSumAgain256Spec : ChangeSpec := { name := "fnSumAgain256", fn := fun _ => fun
  | [d1, d2] => { results := [.lit (.bool true)], args := [d1, d2] }
  | _ => none }
def fnSumAgain256Row : OpenClaim := { program := "ytaknphghhlljmac", sum := "45aba54a3e57436c2950e7ea32a2408ecfa2492f6500a39af05640f34178cc7e", func := "loop.example/lib-digestroads/laws.FnSumAgain256", spec := "fnSumAgain256", unfollowed := true, recurses := true, apart := false }
def FnSumAgain256Said : Prop := fnSumAgain256Row.holds Try.pinned (OpenSpec.ofChange fnSumAgain256Spec)

/-- ITS FALSE NEIGHBOUR: 'it returns false'. Refute it at one input. -/
def fnSumAgain256Wrong : ChangeSpec := { name := "fnSumAgain256", fn := fun _ => fun
  | [d1, d2] => { results := [.lit (.bool false)], args := [d1, d2] }
  | _ => none }
def FnSumAgain256WrongFalsely : Prop := fnSumAgain256Row.holds Try.pinned (OpenSpec.ofChange fnSumAgain256Wrong)

/-- 'laws.FnSumAgain224': WHATEVER THE INPUT: true; the input reads as it did. -/
def fnSumAgain224Spec : ChangeSpec := { name := "fnSumAgain224", fn := fun _ => fun
  | [d1, d2] => { results := [.lit (.bool true)], args := [d1, d2] }
  | _ => none }
def fnSumAgain224Row : OpenClaim := { program := "ytaknphghhlljmac", sum := "45aba54a3e57436c2950e7ea32a2408ecfa2492f6500a39af05640f34178cc7e", func := "loop.example/lib-digestroads/laws.FnSumAgain224", spec := "fnSumAgain224", unfollowed := true, recurses := true, apart := false }
def FnSumAgain224Said : Prop := fnSumAgain224Row.holds Try.pinned (OpenSpec.ofChange fnSumAgain224Spec)

/-- ITS FALSE NEIGHBOUR: 'it returns false'. Refute it at one input. -/
def fnSumAgain224Wrong : ChangeSpec := { name := "fnSumAgain224", fn := fun _ => fun
  | [d1, d2] => { results := [.lit (.bool false)], args := [d1, d2] }
  | _ => none }
def FnSumAgain224WrongFalsely : Prop := fnSumAgain224Row.holds Try.pinned (OpenSpec.ofChange fnSumAgain224Wrong)

/-- 'laws.FnExactScript256': WHATEVER THE INPUT: true; the input reads as it did. -/
def fnExactScript256Spec : ChangeSpec := { name := "fnExactScript256", fn := fun _ => fun
  | [d] => { results := [.lit (.bool true)], args := [d] }
  | _ => none }
def fnExactScript256Row : OpenClaim := { program := "ytaknphghhlljmac", sum := "45aba54a3e57436c2950e7ea32a2408ecfa2492f6500a39af05640f34178cc7e", func := "loop.example/lib-digestroads/laws.FnExactScript256", spec := "fnExactScript256", unfollowed := true, recurses := true, apart := false }
def FnExactScript256Said : Prop := fnExactScript256Row.holds Try.pinned (OpenSpec.ofChange fnExactScript256Spec)

/-- ITS FALSE NEIGHBOUR: 'it returns false'. Refute it at one input. -/
def fnExactScript256Wrong : ChangeSpec := { name := "fnExactScript256", fn := fun _ => fun
  | [d] => { results := [.lit (.bool false)], args := [d] }
  | _ => none }
def FnExactScript256WrongFalsely : Prop := fnExactScript256Row.holds Try.pinned (OpenSpec.ofChange fnExactScript256Wrong)

/- THE SECOND FORM. 'bulk': how many values and letters a reading holds, each counted each time it is reached (what is shared counts as often as it is met; a slice's spare places count too). A statement '..UptoSaid' is the law's where the arguments, and the package variables that the reading takes, are together of bulk at most 1048576: NARROWER than '..Said'. Prove '..Said' where nothing that the law and all that it calls make is longer than what came in: it says more and counts as full. Else prove '..UptoSaid'. A law counts once. -/
mutual
def uptoBulk {H : Type} : DataW H → Nat
  | .lit (.string bytes) => bytes.length + 1
  | .lit _ => 1
  | .nil => 1
  | .ptr d => uptoBulk d + 1
  | .slice elems spare => uptoBulkAll elems + uptoBulkAll spare + 1
  | .agg parts => uptoBulkAll parts + 1
  | .iface _ d => uptoBulk d + 1
  | .map entries => uptoBulkEntries entries + 1
  | .held _ => 1
def uptoBulkAll {H : Type} : List (DataW H) → Nat
  | [] => 0
  | d :: r => uptoBulk d + uptoBulkAll r
def uptoBulkEntries {H : Type} : List (Lit × DataW H) → Nat
  | [] => 0
  | x :: r => uptoBulkEntry x + uptoBulkEntries r
def uptoBulkEntry {H : Type} : Lit × DataW H → Nat
  | (.string bytes, d) => bytes.length + uptoBulk d + 1
  | (_, d) => uptoBulk d + 1
 end
def uptoSmall : (H : Type) → List (DataW H) → Bool := fun _ ds => decide (uptoBulkAll ds ≤ 1048576)
def OpenSpec.upto (s : _root_.Go.ChangeSpec) : _root_.Go.OpenSpec := { _root_.Go.OpenSpec.ofChange s with cond := some uptoSmall }

/-- 'laws.FnExactFork256', WHERE WHAT IT READS IS OF BULK AT MOST 1048576: true; the input reads as it did. -/
def fnExactFork256UptoRow : OpenClaim := { program := "ytaknphghhlljmac", sum := "45aba54a3e57436c2950e7ea32a2408ecfa2492f6500a39af05640f34178cc7e", func := "loop.example/lib-digestroads/laws.FnExactFork256", spec := "fnExactFork256", unfollowed := true, recurses := true, apart := false, narrowed := true }
def FnExactFork256UptoSaid : Prop := fnExactFork256UptoRow.holds Try.pinned (OpenSpec.upto fnExactFork256Spec)

/-- 'laws.FnForkInParts256', WHERE WHAT IT READS IS OF BULK AT MOST 1048576: true; the input reads as it did. -/
def fnForkInParts256UptoRow : OpenClaim := { program := "ytaknphghhlljmac", sum := "45aba54a3e57436c2950e7ea32a2408ecfa2492f6500a39af05640f34178cc7e", func := "loop.example/lib-digestroads/laws.FnForkInParts256", spec := "fnForkInParts256", unfollowed := true, recurses := true, apart := false, narrowed := true }
def FnForkInParts256UptoSaid : Prop := fnForkInParts256UptoRow.holds Try.pinned (OpenSpec.upto fnForkInParts256Spec)

/-- 'laws.FnExactFork224', WHERE WHAT IT READS IS OF BULK AT MOST 1048576: true; the input reads as it did. -/
def fnExactFork224UptoRow : OpenClaim := { program := "ytaknphghhlljmac", sum := "45aba54a3e57436c2950e7ea32a2408ecfa2492f6500a39af05640f34178cc7e", func := "loop.example/lib-digestroads/laws.FnExactFork224", spec := "fnExactFork224", unfollowed := true, recurses := true, apart := false, narrowed := true }
def FnExactFork224UptoSaid : Prop := fnExactFork224UptoRow.holds Try.pinned (OpenSpec.upto fnExactFork224Spec)

/-- 'laws.FnForkInParts224', WHERE WHAT IT READS IS OF BULK AT MOST 1048576: true; the input reads as it did. -/
def fnForkInParts224UptoRow : OpenClaim := { program := "ytaknphghhlljmac", sum := "45aba54a3e57436c2950e7ea32a2408ecfa2492f6500a39af05640f34178cc7e", func := "loop.example/lib-digestroads/laws.FnForkInParts224", spec := "fnForkInParts224", unfollowed := true, recurses := true, apart := false, narrowed := true }
def FnForkInParts224UptoSaid : Prop := fnForkInParts224UptoRow.holds Try.pinned (OpenSpec.upto fnForkInParts224Spec)

/-- 'laws.FnCloneGoesOn256', WHERE WHAT IT READS IS OF BULK AT MOST 1048576: true; the input reads as it did. -/
def fnCloneGoesOn256UptoRow : OpenClaim := { program := "ytaknphghhlljmac", sum := "45aba54a3e57436c2950e7ea32a2408ecfa2492f6500a39af05640f34178cc7e", func := "loop.example/lib-digestroads/laws.FnCloneGoesOn256", spec := "fnCloneGoesOn256", unfollowed := true, recurses := true, apart := false, narrowed := true }
def FnCloneGoesOn256UptoSaid : Prop := fnCloneGoesOn256UptoRow.holds Try.pinned (OpenSpec.upto fnCloneGoesOn256Spec)

/-- 'laws.FnCloneGoesOn224', WHERE WHAT IT READS IS OF BULK AT MOST 1048576: true; the input reads as it did. -/
def fnCloneGoesOn224UptoRow : OpenClaim := { program := "ytaknphghhlljmac", sum := "45aba54a3e57436c2950e7ea32a2408ecfa2492f6500a39af05640f34178cc7e", func := "loop.example/lib-digestroads/laws.FnCloneGoesOn224", spec := "fnCloneGoesOn224", unfollowed := true, recurses := true, apart := false, narrowed := true }
def FnCloneGoesOn224UptoSaid : Prop := fnCloneGoesOn224UptoRow.holds Try.pinned (OpenSpec.upto fnCloneGoesOn224Spec)

/-- 'laws.FnSumAgain256', WHERE WHAT IT READS IS OF BULK AT MOST 1048576: true; the input reads as it did. -/
def fnSumAgain256UptoRow : OpenClaim := { program := "ytaknphghhlljmac", sum := "45aba54a3e57436c2950e7ea32a2408ecfa2492f6500a39af05640f34178cc7e", func := "loop.example/lib-digestroads/laws.FnSumAgain256", spec := "fnSumAgain256", unfollowed := true, recurses := true, apart := false, narrowed := true }
def FnSumAgain256UptoSaid : Prop := fnSumAgain256UptoRow.holds Try.pinned (OpenSpec.upto fnSumAgain256Spec)

/-- 'laws.FnSumAgain224', WHERE WHAT IT READS IS OF BULK AT MOST 1048576: true; the input reads as it did. -/
def fnSumAgain224UptoRow : OpenClaim := { program := "ytaknphghhlljmac", sum := "45aba54a3e57436c2950e7ea32a2408ecfa2492f6500a39af05640f34178cc7e", func := "loop.example/lib-digestroads/laws.FnSumAgain224", spec := "fnSumAgain224", unfollowed := true, recurses := true, apart := false, narrowed := true }
def FnSumAgain224UptoSaid : Prop := fnSumAgain224UptoRow.holds Try.pinned (OpenSpec.upto fnSumAgain224Spec)

/-- 'laws.FnExactScript256', WHERE WHAT IT READS IS OF BULK AT MOST 1048576: true; the input reads as it did. -/
def fnExactScript256UptoRow : OpenClaim := { program := "ytaknphghhlljmac", sum := "45aba54a3e57436c2950e7ea32a2408ecfa2492f6500a39af05640f34178cc7e", func := "loop.example/lib-digestroads/laws.FnExactScript256", spec := "fnExactScript256", unfollowed := true, recurses := true, apart := false, narrowed := true }
def FnExactScript256UptoSaid : Prop := fnExactScript256UptoRow.holds Try.pinned (OpenSpec.upto fnExactScript256Spec)

end Rows
end Go.Proofs.Ytaknphghhlljmac

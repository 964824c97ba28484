/-
  No cell of these rows narrows 'for every input' (looked for: loops, veiled, ifaces, maps, wideKeys, modest, calm, conditions, laid).
  DERIVED. THE GIVEN ROWS OF THIS SEAT. 12 by the template 'for every input the law returns true; each argument reads behind the call as it read before'; 0 by the template 'total and deterministic' (their statements: YtaknphghhlljmabTotals.lean).
  GIVEN WITH THE SEED: the statements are not yours to turn. If you find one false, say at which input.
  Laid BY PROGRAM, IN A SANDBOX (cutbox-rows.mjs): the forced cells as the released guide's own fill.sh prints them over the translation cd916fcec7b5e958… (all of the seat's roots in one cut). By AI agents, Wed Nov 11 2026. No macro, syntax, notation, axiom, sorry.
-/
import Derived.Test.YtaknphghhlljmabChecked
import GoSem.Claim
import GoSem.ClaimJoined
import GoSem.ClaimMapViews
import Derived.JoinedTies
import Derived.KernelRfl
namespace Go.Proofs.Ytaknphghhlljmab
/- THE CELL 'sum', in the pinned program and in every row, IS THE sha256 OF THE DUMP (.gsa) THAT YtaknphghhlljmabProg.lean LOADS. Nothing in Lean hashes anything: it is a label: what it is worth is what the hold of that sum in a sandbox is worth. -/
noncomputable def Try.pinned : Pinned := { name := "ytaknphghhlljmab", sum := "cd916fcec7b5e958484f1beaeeaeba32127fa17895feca0334698b84bad940c9", checked := Try.checked }
namespace Rows
def none {H : Type} : Left H := { results := [], args := [] }

/-- 'laws.FnForkTurned256': WHATEVER THE INPUT: true; the input reads as it did. -/
def fnForkTurned256Spec : ChangeSpec := { name := "fnForkTurned256", fn := fun _ => fun
  | [d1, d2, d3] => { results := [.lit (.bool true)], args := [d1, d2, d3] }
  | _ => none }
def fnForkTurned256Row : OpenClaim := { program := "ytaknphghhlljmab", sum := "cd916fcec7b5e958484f1beaeeaeba32127fa17895feca0334698b84bad940c9", func := "loop.example/lib-digestroads/laws.FnForkTurned256", spec := "fnForkTurned256", unfollowed := true, recurses := true, apart := false }
def FnForkTurned256Said : Prop := fnForkTurned256Row.holds Try.pinned (OpenSpec.ofChange fnForkTurned256Spec)

/-- ITS FALSE NEIGHBOUR: 'it returns false'. Refute it at one input. -/
def fnForkTurned256Wrong : ChangeSpec := { name := "fnForkTurned256", fn := fun _ => fun
  | [d1, d2, d3] => { results := [.lit (.bool false)], args := [d1, d2, d3] }
  | _ => none }
def FnForkTurned256WrongFalsely : Prop := fnForkTurned256Row.holds Try.pinned (OpenSpec.ofChange fnForkTurned256Wrong)

/-- 'laws.FnForkTurned224': WHATEVER THE INPUT: true; the input reads as it did. -/
def fnForkTurned224Spec : ChangeSpec := { name := "fnForkTurned224", fn := fun _ => fun
  | [d1, d2, d3] => { results := [.lit (.bool true)], args := [d1, d2, d3] }
  | _ => none }
def fnForkTurned224Row : OpenClaim := { program := "ytaknphghhlljmab", sum := "cd916fcec7b5e958484f1beaeeaeba32127fa17895feca0334698b84bad940c9", func := "loop.example/lib-digestroads/laws.FnForkTurned224", spec := "fnForkTurned224", unfollowed := true, recurses := true, apart := false }
def FnForkTurned224Said : Prop := fnForkTurned224Row.holds Try.pinned (OpenSpec.ofChange fnForkTurned224Spec)

/-- ITS FALSE NEIGHBOUR: 'it returns false'. Refute it at one input. -/
def fnForkTurned224Wrong : ChangeSpec := { name := "fnForkTurned224", fn := fun _ => fun
  | [d1, d2, d3] => { results := [.lit (.bool false)], args := [d1, d2, d3] }
  | _ => none }
def FnForkTurned224WrongFalsely : Prop := fnForkTurned224Row.holds Try.pinned (OpenSpec.ofChange fnForkTurned224Wrong)

/-- 'laws.FnExactOnto256': WHATEVER THE INPUT: true; the input reads as it did. -/
def fnExactOnto256Spec : ChangeSpec := { name := "fnExactOnto256", fn := fun _ => fun
  | [d1, d2] => { results := [.lit (.bool true)], args := [d1, d2] }
  | _ => none }
def fnExactOnto256Row : OpenClaim := { program := "ytaknphghhlljmab", sum := "cd916fcec7b5e958484f1beaeeaeba32127fa17895feca0334698b84bad940c9", func := "loop.example/lib-digestroads/laws.FnExactOnto256", spec := "fnExactOnto256", unfollowed := true, recurses := true, apart := false }
def FnExactOnto256Said : Prop := fnExactOnto256Row.holds Try.pinned (OpenSpec.ofChange fnExactOnto256Spec)

/-- ITS FALSE NEIGHBOUR: 'it returns false'. Refute it at one input. -/
def fnExactOnto256Wrong : ChangeSpec := { name := "fnExactOnto256", fn := fun _ => fun
  | [d1, d2] => { results := [.lit (.bool false)], args := [d1, d2] }
  | _ => none }
def FnExactOnto256WrongFalsely : Prop := fnExactOnto256Row.holds Try.pinned (OpenSpec.ofChange fnExactOnto256Wrong)

/-- 'laws.FnOntoItself256': WHATEVER THE INPUT: true; the input reads as it did. -/
def fnOntoItself256Spec : ChangeSpec := { name := "fnOntoItself256", fn := fun _ => fun
  | [d1, d2] => { results := [.lit (.bool true)], args := [d1, d2] }
  | _ => none }
def fnOntoItself256Row : OpenClaim := { program := "ytaknphghhlljmab", sum := "cd916fcec7b5e958484f1beaeeaeba32127fa17895feca0334698b84bad940c9", func := "loop.example/lib-digestroads/laws.FnOntoItself256", spec := "fnOntoItself256", unfollowed := true, recurses := true, apart := false }
def FnOntoItself256Said : Prop := fnOntoItself256Row.holds Try.pinned (OpenSpec.ofChange fnOntoItself256Spec)

/-- ITS FALSE NEIGHBOUR: 'it returns false'. Refute it at one input. -/
def fnOntoItself256Wrong : ChangeSpec := { name := "fnOntoItself256", fn := fun _ => fun
  | [d1, d2] => { results := [.lit (.bool false)], args := [d1, d2] }
  | _ => none }
def FnOntoItself256WrongFalsely : Prop := fnOntoItself256Row.holds Try.pinned (OpenSpec.ofChange fnOntoItself256Wrong)

/-- 'laws.FnExactOnto224': WHATEVER THE INPUT: true; the input reads as it did. -/
def fnExactOnto224Spec : ChangeSpec := { name := "fnExactOnto224", fn := fun _ => fun
  | [d1, d2] => { results := [.lit (.bool true)], args := [d1, d2] }
  | _ => none }
def fnExactOnto224Row : OpenClaim := { program := "ytaknphghhlljmab", sum := "cd916fcec7b5e958484f1beaeeaeba32127fa17895feca0334698b84bad940c9", func := "loop.example/lib-digestroads/laws.FnExactOnto224", spec := "fnExactOnto224", unfollowed := true, recurses := true, apart := false }
def FnExactOnto224Said : Prop := fnExactOnto224Row.holds Try.pinned (OpenSpec.ofChange fnExactOnto224Spec)

/-- ITS FALSE NEIGHBOUR: 'it returns false'. Refute it at one input. -/
def fnExactOnto224Wrong : ChangeSpec := { name := "fnExactOnto224", fn := fun _ => fun
  | [d1, d2] => { results := [.lit (.bool false)], args := [d1, d2] }
  | _ => none }
def FnExactOnto224WrongFalsely : Prop := fnExactOnto224Row.holds Try.pinned (OpenSpec.ofChange fnExactOnto224Wrong)

/-- 'laws.FnOntoItself224': WHATEVER THE INPUT: true; the input reads as it did. -/
def fnOntoItself224Spec : ChangeSpec := { name := "fnOntoItself224", fn := fun _ => fun
  | [d1, d2] => { results := [.lit (.bool true)], args := [d1, d2] }
  | _ => none }
def fnOntoItself224Row : OpenClaim := { program := "ytaknphghhlljmab", sum := "cd916fcec7b5e958484f1beaeeaeba32127fa17895feca0334698b84bad940c9", func := "loop.example/lib-digestroads/laws.FnOntoItself224", spec := "fnOntoItself224", unfollowed := true, recurses := true, apart := false }
def FnOntoItself224Said : Prop := fnOntoItself224Row.holds Try.pinned (OpenSpec.ofChange fnOntoItself224Spec)

/-- ITS FALSE NEIGHBOUR: 'it returns false'. Refute it at one input. -/
def fnOntoItself224Wrong : ChangeSpec := { name := "fnOntoItself224", fn := fun _ => fun
  | [d1, d2] => { results := [.lit (.bool false)], args := [d1, d2] }
  | _ => none }
def FnOntoItself224WrongFalsely : Prop := fnOntoItself224Row.holds Try.pinned (OpenSpec.ofChange fnOntoItself224Wrong)

/-- 'laws.FnByteByByte256': WHATEVER THE INPUT: true; the input reads as it did. -/
def fnByteByByte256Spec : ChangeSpec := { name := "fnByteByByte256", fn := fun _ => fun
  | [d] => { results := [.lit (.bool true)], args := [d] }
  | _ => none }
def fnByteByByte256Row : OpenClaim := { program := "ytaknphghhlljmab", sum := "cd916fcec7b5e958484f1beaeeaeba32127fa17895feca0334698b84bad940c9", func := "loop.example/lib-digestroads/laws.FnByteByByte256", spec := "fnByteByByte256", unfollowed := true, recurses := true, apart := false }
def FnByteByByte256Said : Prop := fnByteByByte256Row.holds Try.pinned (OpenSpec.ofChange fnByteByByte256Spec)

/-- ITS FALSE NEIGHBOUR: 'it returns false'. Refute it at one input. -/
def fnByteByByte256Wrong : ChangeSpec := { name := "fnByteByByte256", fn := fun _ => fun
  | [d] => { results := [.lit (.bool false)], args := [d] }
  | _ => none }
def FnByteByByte256WrongFalsely : Prop := fnByteByByte256Row.holds Try.pinned (OpenSpec.ofChange fnByteByByte256Wrong)

/-- 'laws.FnExactSteps256': WHATEVER THE INPUT: true; the input reads as it did. -/
def fnExactSteps256Spec : ChangeSpec := { name := "fnExactSteps256", fn := fun _ => fun
  | [d] => { results := [.lit (.bool true)], args := [d] }
  | _ => none }
def fnExactSteps256Row : OpenClaim := { program := "ytaknphghhlljmab", sum := "cd916fcec7b5e958484f1beaeeaeba32127fa17895feca0334698b84bad940c9", func := "loop.example/lib-digestroads/laws.FnExactSteps256", spec := "fnExactSteps256", unfollowed := true, recurses := true, apart := false }
def FnExactSteps256Said : Prop := fnExactSteps256Row.holds Try.pinned (OpenSpec.ofChange fnExactSteps256Spec)

/-- ITS FALSE NEIGHBOUR: 'it returns false'. Refute it at one input. -/
def fnExactSteps256Wrong : ChangeSpec := { name := "fnExactSteps256", fn := fun _ => fun
  | [d] => { results := [.lit (.bool false)], args := [d] }
  | _ => none }
def FnExactSteps256WrongFalsely : Prop := fnExactSteps256Row.holds Try.pinned (OpenSpec.ofChange fnExactSteps256Wrong)

/-- 'laws.FnExactWhole256': WHATEVER THE INPUT: true; the input reads as it did. -/
def fnExactWhole256Spec : ChangeSpec := { name := "fnExactWhole256", fn := fun _ => fun
  | [d] => { results := [.lit (.bool true)], args := [d] }
  | _ => none }
def fnExactWhole256Row : OpenClaim := { program := "ytaknphghhlljmab", sum := "cd916fcec7b5e958484f1beaeeaeba32127fa17895feca0334698b84bad940c9", func := "loop.example/lib-digestroads/laws.FnExactWhole256", spec := "fnExactWhole256", unfollowed := true, recurses := true, apart := false }
def FnExactWhole256Said : Prop := fnExactWhole256Row.holds Try.pinned (OpenSpec.ofChange fnExactWhole256Spec)

/-- ITS FALSE NEIGHBOUR: 'it returns false'. Refute it at one input. -/
def fnExactWhole256Wrong : ChangeSpec := { name := "fnExactWhole256", fn := fun _ => fun
  | [d] => { results := [.lit (.bool false)], args := [d] }
  | _ => none }
def FnExactWhole256WrongFalsely : Prop := fnExactWhole256Row.holds Try.pinned (OpenSpec.ofChange fnExactWhole256Wrong)

/-- 'laws.FnByteByByte224': WHATEVER THE INPUT: true; the input reads as it did. -/
def fnByteByByte224Spec : ChangeSpec := { name := "fnByteByByte224", fn := fun _ => fun
  | [d] => { results := [.lit (.bool true)], args := [d] }
  | _ => none }
def fnByteByByte224Row : OpenClaim := { program := "ytaknphghhlljmab", sum := "cd916fcec7b5e958484f1beaeeaeba32127fa17895feca0334698b84bad940c9", func := "loop.example/lib-digestroads/laws.FnByteByByte224", spec := "fnByteByByte224", unfollowed := true, recurses := true, apart := false }
def FnByteByByte224Said : Prop := fnByteByByte224Row.holds Try.pinned (OpenSpec.ofChange fnByteByByte224Spec)

/-- ITS FALSE NEIGHBOUR: 'it returns false'. Refute it at one input. -/
def fnByteByByte224Wrong : ChangeSpec := { name := "fnByteByByte224", fn := fun _ => fun
  | [d] => { results := [.lit (.bool false)], args := [d] }
  | _ => none }
def FnByteByByte224WrongFalsely : Prop := fnByteByByte224Row.holds Try.pinned (OpenSpec.ofChange fnByteByByte224Wrong)

/-- 'laws.FnExactSteps224': WHATEVER THE INPUT: true; the input reads as it did. -/
def fnExactSteps224Spec : ChangeSpec := { name := "fnExactSteps224", fn := fun _ => fun
  | [d] => { results := [.lit (.bool true)], args := [d] }
  | _ => none }
def fnExactSteps224Row : OpenClaim := { program := "ytaknphghhlljmab", sum := "cd916fcec7b5e958484f1beaeeaeba32127fa17895feca0334698b84bad940c9", func := "loop.example/lib-digestroads/laws.FnExactSteps224", spec := "fnExactSteps224", unfollowed := true, recurses := true, apart := false }
def FnExactSteps224Said : Prop := fnExactSteps224Row.holds Try.pinned (OpenSpec.ofChange fnExactSteps224Spec)

/-- ITS FALSE NEIGHBOUR: 'it returns false'. Refute it at one input. -/
def fnExactSteps224Wrong : ChangeSpec := { name := "fnExactSteps224", fn := fun _ => fun
  | [d] => { results := [.lit (.bool false)], args := [d] }
  | _ => none }
def FnExactSteps224WrongFalsely : Prop := fnExactSteps224Row.holds Try.pinned (OpenSpec.ofChange fnExactSteps224Wrong)

/-- 'laws.FnExactWhole224': WHATEVER THE INPUT: true; the input reads as it did. -/
def fnExactWhole224Spec : ChangeSpec := { name := "fnExactWhole224", fn := fun _ => fun
  | [d] => { results := [.lit (.bool true)], args := [d] }
  | _ => none }
def fnExactWhole224Row : OpenClaim := { program := "ytaknphghhlljmab", sum := "cd916fcec7b5e958484f1beaeeaeba32127fa17895feca0334698b84bad940c9", func := "loop.example/lib-digestroads/laws.FnExactWhole224", spec := "fnExactWhole224", unfollowed := true, recurses := true, apart := false }
def FnExactWhole224Said : Prop := fnExactWhole224Row.holds Try.pinned (OpenSpec.ofChange fnExactWhole224Spec)

/-- ITS FALSE NEIGHBOUR: 'it returns false'. Refute it at one input. -/
def fnExactWhole224Wrong : ChangeSpec := { name := "fnExactWhole224", fn := fun _ => fun
  | [d] => { results := [.lit (.bool false)], args := [d] }
  | _ => none }
def FnExactWhole224WrongFalsely : Prop := fnExactWhole224Row.holds Try.pinned (OpenSpec.ofChange fnExactWhole224Wrong)

/- THE SECOND FORM. 'bulk': how many values and letters a reading holds, each counted each time it is reached (what is shared counts as often as it is met; a slice's spare places count too). A statement '..UptoSaid' is the law's where the arguments, and the package variables that the reading takes, are together of bulk at most 1048576: NARROWER than '..Said'. Prove '..Said' where nothing that the law and all that it calls make is longer than what came in: it says more and counts as full. Else prove '..UptoSaid'. A law counts once. -/
mutual
def uptoBulk {H : Type} : DataW H → Nat
  | .lit (.string bytes) => bytes.length + 1
  | .lit _ => 1
  | .nil => 1
  | .ptr d => uptoBulk d + 1
  | .slice elems spare => uptoBulkAll elems + uptoBulkAll spare + 1
  | .agg parts => uptoBulkAll parts + 1
  | .iface _ d => uptoBulk d + 1
  | .map entries => uptoBulkEntries entries + 1
  | .held _ => 1
def uptoBulkAll {H : Type} : List (DataW H) → Nat
  | [] => 0
  | d :: r => uptoBulk d + uptoBulkAll r
def uptoBulkEntries {H : Type} : List (Lit × DataW H) → Nat
  | [] => 0
  | x :: r => uptoBulkEntry x + uptoBulkEntries r
def uptoBulkEntry {H : Type} : Lit × DataW H → Nat
  | (.string bytes, d) => bytes.length + uptoBulk d + 1
  | (_, d) => uptoBulk d + 1
 end
def uptoSmall : (H : Type) → List (DataW H) → Bool := fun _ ds => decide (uptoBulkAll ds ≤ 1048576)
def OpenSpec.upto (s : _root_.Go.ChangeSpec) : _root_.Go.OpenSpec := { _root_.Go.OpenSpec.ofChange s with cond := some uptoSmall }

/-- 'laws.FnForkTurned256', WHERE WHAT IT READS IS OF BULK AT MOST 1048576: true; the input reads as it did. -/
def fnForkTurned256UptoRow : OpenClaim := { program := "ytaknphghhlljmab", sum := "cd916fcec7b5e958484f1beaeeaeba32127fa17895feca0334698b84bad940c9", func := "loop.example/lib-digestroads/laws.FnForkTurned256", spec := "fnForkTurned256", unfollowed := true, recurses := true, apart := false, narrowed := true }
def FnForkTurned256UptoSaid : Prop := fnForkTurned256UptoRow.holds Try.pinned (OpenSpec.upto fnForkTurned256Spec)

/-- 'laws.FnForkTurned224', WHERE WHAT IT READS IS OF BULK AT MOST 1048576: true; the input reads as it did. -/
def fnForkTurned224UptoRow : OpenClaim := { program := "ytaknphghhlljmab", sum := "cd916fcec7b5e958484f1beaeeaeba32127fa17895feca0334698b84bad940c9", func := "loop.example/lib-digestroads/laws.FnForkTurned224", spec := "fnForkTurned224", unfollowed := true, recurses := true, apart := false, narrowed := true }
def FnForkTurned224UptoSaid : Prop := fnForkTurned224UptoRow.holds Try.pinned (OpenSpec.upto fnForkTurned224Spec)

/-- 'laws.FnExactOnto256', WHERE WHAT IT READS IS OF BULK AT MOST 1048576: true; the input reads as it did. -/
def fnExactOnto256UptoRow : OpenClaim := { program := "ytaknphghhlljmab", sum := "cd916fcec7b5e958484f1beaeeaeba32127fa17895feca0334698b84bad940c9", func := "loop.example/lib-digestroads/laws.FnExactOnto256", spec := "fnExactOnto256", unfollowed := true, recurses := true, apart := false, narrowed := true }
def FnExactOnto256UptoSaid : Prop := fnExactOnto256UptoRow.holds Try.pinned (OpenSpec.upto fnExactOnto256Spec)

/-- 'laws.FnOntoItself256', WHERE WHAT IT READS IS OF BULK AT MOST 1048576: true; the input reads as it did. -/
def fnOntoItself256UptoRow : OpenClaim := { program := "ytaknphghhlljmab", sum := "cd916fcec7b5e958484f1beaeeaeba32127fa17895feca0334698b84bad940c9", func := "loop.example/lib-digestroads/laws.FnOntoItself256", spec := "fnOntoItself256", unfollowed := true, recurses := true, apart := false, narrowed := true }
def FnOntoItself256UptoSaid : Prop := fnOntoItself256UptoRow.holds Try.pinned (OpenSpec.upto fnOntoItself256Spec)

/-- 'laws.FnExactOnto224', WHERE WHAT IT READS IS OF BULK AT MOST 1048576: true; the input reads as it did. -/
def fnExactOnto224UptoRow : OpenClaim := { program := "ytaknphghhlljmab", sum := "cd916fcec7b5e958484f1beaeeaeba32127fa17895feca0334698b84bad940c9", func := "loop.example/lib-digestroads/laws.FnExactOnto224", spec := "fnExactOnto224", unfollowed := true, recurses := true, apart := false, narrowed := true }
def FnExactOnto224UptoSaid : Prop := fnExactOnto224UptoRow.holds Try.pinned (OpenSpec.upto fnExactOnto224Spec)

/-- 'laws.FnOntoItself224', WHERE WHAT IT READS IS OF BULK AT MOST 1048576: true; the input reads as it did. -/
def fnOntoItself224UptoRow : OpenClaim := { program := "ytaknphghhlljmab", sum := "cd916fcec7b5e958484f1beaeeaeba32127fa17895feca0334698b84bad940c9", func := "loop.example/lib-digestroads/laws.FnOntoItself224", spec := "fnOntoItself224", unfollowed := true, recurses := true, apart := false, narrowed := true }
def FnOntoItself224UptoSaid : Prop := fnOntoItself224UptoRow.holds Try.pinned (OpenSpec.upto fnOntoItself224Spec)

/-- 'laws.FnByteByByte256', WHERE WHAT IT READS IS OF BULK AT MOST 1048576: true; the input reads as it did. -/
def fnByteByByte256UptoRow : OpenClaim := { program := "ytaknphghhlljmab", sum := "cd916fcec7b5e958484f1beaeeaeba32127fa17895feca0334698b84bad940c9", func := "loop.example/lib-digestroads/laws.FnByteByByte256", spec := "fnByteByByte256", unfollowed := true, recurses := true, apart := false, narrowed := true }
def FnByteByByte256UptoSaid : Prop := fnByteByByte256UptoRow.holds Try.pinned (OpenSpec.upto fnByteByByte256Spec)

/-- 'laws.FnExactSteps256', WHERE WHAT IT READS IS OF BULK AT MOST 1048576: true; the input reads as it did. -/
def fnExactSteps256UptoRow : OpenClaim := { program := "ytaknphghhlljmab", sum := "cd916fcec7b5e958484f1beaeeaeba32127fa17895feca0334698b84bad940c9", func := "loop.example/lib-digestroads/laws.FnExactSteps256", spec := "fnExactSteps256", unfollowed := true, recurses := true, apart := false, narrowed := true }
def FnExactSteps256UptoSaid : Prop := fnExactSteps256UptoRow.holds Try.pinned (OpenSpec.upto fnExactSteps256Spec)

/-- 'laws.FnExactWhole256', WHERE WHAT IT READS IS OF BULK AT MOST 1048576: true; the input reads as it did. -/
def fnExactWhole256UptoRow : OpenClaim := { program := "ytaknphghhlljmab", sum := "cd916fcec7b5e958484f1beaeeaeba32127fa17895feca0334698b84bad940c9", func := "loop.example/lib-digestroads/laws.FnExactWhole256", spec := "fnExactWhole256", unfollowed := true, recurses := true, apart := false, narrowed := true }
def FnExactWhole256UptoSaid : Prop := fnExactWhole256UptoRow.holds Try.pinned (OpenSpec.upto fnExactWhole256Spec)

/-- 'laws.FnByteByByte224', WHERE WHAT IT READS IS OF BULK AT MOST 1048576: true; the input reads as it did. -/
def fnByteByByte224UptoRow : OpenClaim := { program := "ytaknphghhlljmab", sum := "cd916fcec7b5e958484f1beaeeaeba32127fa17895feca0334698b84bad940c9", func := "loop.example/lib-digestroads/laws.FnByteByByte224", spec := "fnByteByByte224", unfollowed := true, recurses := true, apart := false, narrowed := true }
def FnByteByByte224UptoSaid : Prop := fnByteByByte224UptoRow.holds Try.pinned (OpenSpec.upto fnByteByByte224Spec)

/-- 'laws.FnExactSteps224', WHERE WHAT IT READS IS OF BULK AT MOST 1048576: true; the input reads as it did. -/
def fnExactSteps224UptoRow : OpenClaim := { program := "ytaknphghhlljmab", sum := "cd916fcec7b5e958484f1beaeeaeba32127fa17895feca0334698b84bad940c9", func := "loop.example/lib-digestroads/laws.FnExactSteps224", spec := "fnExactSteps224", unfollowed := true, recurses := true, apart := false, narrowed := true }
def FnExactSteps224UptoSaid : Prop := fnExactSteps224UptoRow.holds Try.pinned (OpenSpec.upto fnExactSteps224Spec)

/-- 'laws.FnExactWhole224', WHERE WHAT IT READS IS OF BULK AT MOST 1048576: true; the input reads as it did. -/
def fnExactWhole224UptoRow : OpenClaim := { program := "ytaknphghhlljmab", sum := "cd916fcec7b5e958484f1beaeeaeba32127fa17895feca0334698b84bad940c9", func := "loop.example/lib-digestroads/laws.FnExactWhole224", spec := "fnExactWhole224", unfollowed := true, recurses := true, apart := false, narrowed := true }
def FnExactWhole224UptoSaid : Prop := fnExactWhole224UptoRow.holds Try.pinned (OpenSpec.upto fnExactWhole224Spec)

end Rows
end Go.Proofs.Ytaknphghhlljmab

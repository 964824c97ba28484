/-
  No cell of these rows narrows 'for every input' (looked for: loops, veiled, ifaces, maps, wideKeys, modest, calm, conditions, laid).
  DERIVED. THE GIVEN ROWS OF THIS SEAT. 12 by the template 'for every input the law returns true; each argument reads behind the call as it read before'; 0 by the template 'total and deterministic' (their statements: YtaknphghhlljmaaTotals.lean).
  GIVEN WITH THE SEED: the statements are not yours to turn. If you find one false, say at which input.
  Laid BY PROGRAM, IN A SANDBOX (cutbox-rows.mjs): the forced cells as the released guide's own fill.sh prints them over the translation 0258595fb3829e2c… (all of the seat's roots in one cut). By AI agents, Wed Nov 11 2026. No macro, syntax, notation, axiom, sorry.
-/
import Derived.Test.YtaknphghhlljmaaChecked
import GoSem.Claim
import GoSem.ClaimJoined
import GoSem.ClaimMapViews
import Derived.JoinedTies
import Derived.KernelRfl
namespace Go.Proofs.Ytaknphghhlljmaa
/- THE CELL 'sum', in the pinned program and in every row, IS THE sha256 OF THE DUMP (.gsa) THAT YtaknphghhlljmaaProg.lean LOADS. Nothing in Lean hashes anything: it is a label: what it is worth is what the hold of that sum in a sandbox is worth. -/
noncomputable def Try.pinned : Pinned := { name := "ytaknphghhlljmaa", sum := "0258595fb3829e2c19bcf4656a78670547070a97b27ac244e1fae54980b5ef19", checked := Try.checked }
namespace Rows
def none {H : Type} : Left H := { results := [], args := [] }

/-- 'laws.FnExactConstants': WHATEVER THE INPUT: true; the input reads as it did. -/
def fnExactConstantsSpec : ChangeSpec := { name := "fnExactConstants", fn := fun _ => fun
  | [d] => { results := [.lit (.bool true)], args := [d] }
  | _ => none }
def fnExactConstantsRow : OpenClaim := { program := "ytaknphghhlljmaa", sum := "0258595fb3829e2c19bcf4656a78670547070a97b27ac244e1fae54980b5ef19", func := "loop.example/lib-digestroads/laws.FnExactConstants", spec := "fnExactConstants", apart := false }
def FnExactConstantsSaid : Prop := fnExactConstantsRow.holds Try.pinned (OpenSpec.ofChange fnExactConstantsSpec)

/-- ITS FALSE NEIGHBOUR: 'it returns false'. Refute it at one input. -/
def fnExactConstantsWrong : ChangeSpec := { name := "fnExactConstants", fn := fun _ => fun
  | [d] => { results := [.lit (.bool false)], args := [d] }
  | _ => none }
def FnExactConstantsWrongFalsely : Prop := fnExactConstantsRow.holds Try.pinned (OpenSpec.ofChange fnExactConstantsWrong)

/-- 'laws.FnExactSizes256': WHATEVER THE INPUT: true; the input reads as it did. -/
def fnExactSizes256Spec : ChangeSpec := { name := "fnExactSizes256", fn := fun _ => fun
  | [d] => { results := [.lit (.bool true)], args := [d] }
  | _ => none }
def fnExactSizes256Row : OpenClaim := { program := "ytaknphghhlljmaa", sum := "0258595fb3829e2c19bcf4656a78670547070a97b27ac244e1fae54980b5ef19", func := "loop.example/lib-digestroads/laws.FnExactSizes256", spec := "fnExactSizes256", unfollowed := true, recurses := true, apart := false }
def FnExactSizes256Said : Prop := fnExactSizes256Row.holds Try.pinned (OpenSpec.ofChange fnExactSizes256Spec)

/-- ITS FALSE NEIGHBOUR: 'it returns false'. Refute it at one input. -/
def fnExactSizes256Wrong : ChangeSpec := { name := "fnExactSizes256", fn := fun _ => fun
  | [d] => { results := [.lit (.bool false)], args := [d] }
  | _ => none }
def FnExactSizes256WrongFalsely : Prop := fnExactSizes256Row.holds Try.pinned (OpenSpec.ofChange fnExactSizes256Wrong)

/-- 'laws.FnExactSizes224': WHATEVER THE INPUT: true; the input reads as it did. -/
def fnExactSizes224Spec : ChangeSpec := { name := "fnExactSizes224", fn := fun _ => fun
  | [d] => { results := [.lit (.bool true)], args := [d] }
  | _ => none }
def fnExactSizes224Row : OpenClaim := { program := "ytaknphghhlljmaa", sum := "0258595fb3829e2c19bcf4656a78670547070a97b27ac244e1fae54980b5ef19", func := "loop.example/lib-digestroads/laws.FnExactSizes224", spec := "fnExactSizes224", unfollowed := true, recurses := true, apart := false }
def FnExactSizes224Said : Prop := fnExactSizes224Row.holds Try.pinned (OpenSpec.ofChange fnExactSizes224Spec)

/-- ITS FALSE NEIGHBOUR: 'it returns false'. Refute it at one input. -/
def fnExactSizes224Wrong : ChangeSpec := { name := "fnExactSizes224", fn := fun _ => fun
  | [d] => { results := [.lit (.bool false)], args := [d] }
  | _ => none }
def FnExactSizes224WrongFalsely : Prop := fnExactSizes224Row.holds Try.pinned (OpenSpec.ofChange fnExactSizes224Wrong)

/-- 'laws.FnResetIsNew256': WHATEVER THE INPUT: true; the input reads as it did. -/
def fnResetIsNew256Spec : ChangeSpec := { name := "fnResetIsNew256", fn := fun _ => fun
  | [d1, d2] => { results := [.lit (.bool true)], args := [d1, d2] }
  | _ => none }
def fnResetIsNew256Row : OpenClaim := { program := "ytaknphghhlljmaa", sum := "0258595fb3829e2c19bcf4656a78670547070a97b27ac244e1fae54980b5ef19", func := "loop.example/lib-digestroads/laws.FnResetIsNew256", spec := "fnResetIsNew256", unfollowed := true, recurses := true, apart := false }
def FnResetIsNew256Said : Prop := fnResetIsNew256Row.holds Try.pinned (OpenSpec.ofChange fnResetIsNew256Spec)

/-- ITS FALSE NEIGHBOUR: 'it returns false'. Refute it at one input. -/
def fnResetIsNew256Wrong : ChangeSpec := { name := "fnResetIsNew256", fn := fun _ => fun
  | [d1, d2] => { results := [.lit (.bool false)], args := [d1, d2] }
  | _ => none }
def FnResetIsNew256WrongFalsely : Prop := fnResetIsNew256Row.holds Try.pinned (OpenSpec.ofChange fnResetIsNew256Wrong)

/-- 'laws.FnEmptyParts256': WHATEVER THE INPUT: true; the input reads as it did. -/
def fnEmptyParts256Spec : ChangeSpec := { name := "fnEmptyParts256", fn := fun _ => fun
  | [d] => { results := [.lit (.bool true)], args := [d] }
  | _ => none }
def fnEmptyParts256Row : OpenClaim := { program := "ytaknphghhlljmaa", sum := "0258595fb3829e2c19bcf4656a78670547070a97b27ac244e1fae54980b5ef19", func := "loop.example/lib-digestroads/laws.FnEmptyParts256", spec := "fnEmptyParts256", unfollowed := true, recurses := true, apart := false }
def FnEmptyParts256Said : Prop := fnEmptyParts256Row.holds Try.pinned (OpenSpec.ofChange fnEmptyParts256Spec)

/-- ITS FALSE NEIGHBOUR: 'it returns false'. Refute it at one input. -/
def fnEmptyParts256Wrong : ChangeSpec := { name := "fnEmptyParts256", fn := fun _ => fun
  | [d] => { results := [.lit (.bool false)], args := [d] }
  | _ => none }
def FnEmptyParts256WrongFalsely : Prop := fnEmptyParts256Row.holds Try.pinned (OpenSpec.ofChange fnEmptyParts256Wrong)

/-- 'laws.FnExactKept256': WHATEVER THE INPUT: true; the input reads as it did. -/
def fnExactKept256Spec : ChangeSpec := { name := "fnExactKept256", fn := fun _ => fun
  | [d] => { results := [.lit (.bool true)], args := [d] }
  | _ => none }
def fnExactKept256Row : OpenClaim := { program := "ytaknphghhlljmaa", sum := "0258595fb3829e2c19bcf4656a78670547070a97b27ac244e1fae54980b5ef19", func := "loop.example/lib-digestroads/laws.FnExactKept256", spec := "fnExactKept256", unfollowed := true, recurses := true, apart := false }
def FnExactKept256Said : Prop := fnExactKept256Row.holds Try.pinned (OpenSpec.ofChange fnExactKept256Spec)

/-- ITS FALSE NEIGHBOUR: 'it returns false'. Refute it at one input. -/
def fnExactKept256Wrong : ChangeSpec := { name := "fnExactKept256", fn := fun _ => fun
  | [d] => { results := [.lit (.bool false)], args := [d] }
  | _ => none }
def FnExactKept256WrongFalsely : Prop := fnExactKept256Row.holds Try.pinned (OpenSpec.ofChange fnExactKept256Wrong)

/-- 'laws.FnExactScript224': WHATEVER THE INPUT: true; the input reads as it did. -/
def fnExactScript224Spec : ChangeSpec := { name := "fnExactScript224", fn := fun _ => fun
  | [d] => { results := [.lit (.bool true)], args := [d] }
  | _ => none }
def fnExactScript224Row : OpenClaim := { program := "ytaknphghhlljmaa", sum := "0258595fb3829e2c19bcf4656a78670547070a97b27ac244e1fae54980b5ef19", func := "loop.example/lib-digestroads/laws.FnExactScript224", spec := "fnExactScript224", unfollowed := true, recurses := true, apart := false }
def FnExactScript224Said : Prop := fnExactScript224Row.holds Try.pinned (OpenSpec.ofChange fnExactScript224Spec)

/-- ITS FALSE NEIGHBOUR: 'it returns false'. Refute it at one input. -/
def fnExactScript224Wrong : ChangeSpec := { name := "fnExactScript224", fn := fun _ => fun
  | [d] => { results := [.lit (.bool false)], args := [d] }
  | _ => none }
def FnExactScript224WrongFalsely : Prop := fnExactScript224Row.holds Try.pinned (OpenSpec.ofChange fnExactScript224Wrong)

/-- 'laws.FnEmptyParts224': WHATEVER THE INPUT: true; the input reads as it did. -/
def fnEmptyParts224Spec : ChangeSpec := { name := "fnEmptyParts224", fn := fun _ => fun
  | [d] => { results := [.lit (.bool true)], args := [d] }
  | _ => none }
def fnEmptyParts224Row : OpenClaim := { program := "ytaknphghhlljmaa", sum := "0258595fb3829e2c19bcf4656a78670547070a97b27ac244e1fae54980b5ef19", func := "loop.example/lib-digestroads/laws.FnEmptyParts224", spec := "fnEmptyParts224", unfollowed := true, recurses := true, apart := false }
def FnEmptyParts224Said : Prop := fnEmptyParts224Row.holds Try.pinned (OpenSpec.ofChange fnEmptyParts224Spec)

/-- ITS FALSE NEIGHBOUR: 'it returns false'. Refute it at one input. -/
def fnEmptyParts224Wrong : ChangeSpec := { name := "fnEmptyParts224", fn := fun _ => fun
  | [d] => { results := [.lit (.bool false)], args := [d] }
  | _ => none }
def FnEmptyParts224WrongFalsely : Prop := fnEmptyParts224Row.holds Try.pinned (OpenSpec.ofChange fnEmptyParts224Wrong)

/-- 'laws.FnExactKept224': WHATEVER THE INPUT: true; the input reads as it did. -/
def fnExactKept224Spec : ChangeSpec := { name := "fnExactKept224", fn := fun _ => fun
  | [d] => { results := [.lit (.bool true)], args := [d] }
  | _ => none }
def fnExactKept224Row : OpenClaim := { program := "ytaknphghhlljmaa", sum := "0258595fb3829e2c19bcf4656a78670547070a97b27ac244e1fae54980b5ef19", func := "loop.example/lib-digestroads/laws.FnExactKept224", spec := "fnExactKept224", unfollowed := true, recurses := true, apart := false }
def FnExactKept224Said : Prop := fnExactKept224Row.holds Try.pinned (OpenSpec.ofChange fnExactKept224Spec)

/-- ITS FALSE NEIGHBOUR: 'it returns false'. Refute it at one input. -/
def fnExactKept224Wrong : ChangeSpec := { name := "fnExactKept224", fn := fun _ => fun
  | [d] => { results := [.lit (.bool false)], args := [d] }
  | _ => none }
def FnExactKept224WrongFalsely : Prop := fnExactKept224Row.holds Try.pinned (OpenSpec.ofChange fnExactKept224Wrong)

/-- 'laws.FnExactCounts256': WHATEVER THE INPUT: true; the input reads as it did. -/
def fnExactCounts256Spec : ChangeSpec := { name := "fnExactCounts256", fn := fun _ => fun
  | [d] => { results := [.lit (.bool true)], args := [d] }
  | _ => none }
def fnExactCounts256Row : OpenClaim := { program := "ytaknphghhlljmaa", sum := "0258595fb3829e2c19bcf4656a78670547070a97b27ac244e1fae54980b5ef19", func := "loop.example/lib-digestroads/laws.FnExactCounts256", spec := "fnExactCounts256", unfollowed := true, recurses := true, apart := false }
def FnExactCounts256Said : Prop := fnExactCounts256Row.holds Try.pinned (OpenSpec.ofChange fnExactCounts256Spec)

/-- ITS FALSE NEIGHBOUR: 'it returns false'. Refute it at one input. -/
def fnExactCounts256Wrong : ChangeSpec := { name := "fnExactCounts256", fn := fun _ => fun
  | [d] => { results := [.lit (.bool false)], args := [d] }
  | _ => none }
def FnExactCounts256WrongFalsely : Prop := fnExactCounts256Row.holds Try.pinned (OpenSpec.ofChange fnExactCounts256Wrong)

/-- 'laws.FnResetIsNew224': WHATEVER THE INPUT: true; the input reads as it did. -/
def fnResetIsNew224Spec : ChangeSpec := { name := "fnResetIsNew224", fn := fun _ => fun
  | [d1, d2] => { results := [.lit (.bool true)], args := [d1, d2] }
  | _ => none }
def fnResetIsNew224Row : OpenClaim := { program := "ytaknphghhlljmaa", sum := "0258595fb3829e2c19bcf4656a78670547070a97b27ac244e1fae54980b5ef19", func := "loop.example/lib-digestroads/laws.FnResetIsNew224", spec := "fnResetIsNew224", unfollowed := true, recurses := true, apart := false }
def FnResetIsNew224Said : Prop := fnResetIsNew224Row.holds Try.pinned (OpenSpec.ofChange fnResetIsNew224Spec)

/-- ITS FALSE NEIGHBOUR: 'it returns false'. Refute it at one input. -/
def fnResetIsNew224Wrong : ChangeSpec := { name := "fnResetIsNew224", fn := fun _ => fun
  | [d1, d2] => { results := [.lit (.bool false)], args := [d1, d2] }
  | _ => none }
def FnResetIsNew224WrongFalsely : Prop := fnResetIsNew224Row.holds Try.pinned (OpenSpec.ofChange fnResetIsNew224Wrong)

/-- 'laws.FnExactCounts224': WHATEVER THE INPUT: true; the input reads as it did. -/
def fnExactCounts224Spec : ChangeSpec := { name := "fnExactCounts224", fn := fun _ => fun
  | [d] => { results := [.lit (.bool true)], args := [d] }
  | _ => none }
def fnExactCounts224Row : OpenClaim := { program := "ytaknphghhlljmaa", sum := "0258595fb3829e2c19bcf4656a78670547070a97b27ac244e1fae54980b5ef19", func := "loop.example/lib-digestroads/laws.FnExactCounts224", spec := "fnExactCounts224", unfollowed := true, recurses := true, apart := false }
def FnExactCounts224Said : Prop := fnExactCounts224Row.holds Try.pinned (OpenSpec.ofChange fnExactCounts224Spec)

/-- ITS FALSE NEIGHBOUR: 'it returns false'. Refute it at one input. -/
def fnExactCounts224Wrong : ChangeSpec := { name := "fnExactCounts224", fn := fun _ => fun
  | [d] => { results := [.lit (.bool false)], args := [d] }
  | _ => none }
def FnExactCounts224WrongFalsely : Prop := fnExactCounts224Row.holds Try.pinned (OpenSpec.ofChange fnExactCounts224Wrong)

/- THE SECOND FORM. 'bulk': how many values and letters a reading holds, each counted each time it is reached (what is shared counts as often as it is met; a slice's spare places count too). A statement '..UptoSaid' is the law's where the arguments, and the package variables that the reading takes, are together of bulk at most 1048576: NARROWER than '..Said'. Prove '..Said' where nothing that the law and all that it calls make is longer than what came in: it says more and counts as full. Else prove '..UptoSaid'. A law counts once. -/
mutual
def uptoBulk {H : Type} : DataW H → Nat
  | .lit (.string bytes) => bytes.length + 1
  | .lit _ => 1
  | .nil => 1
  | .ptr d => uptoBulk d + 1
  | .slice elems spare => uptoBulkAll elems + uptoBulkAll spare + 1
  | .agg parts => uptoBulkAll parts + 1
  | .iface _ d => uptoBulk d + 1
  | .map entries => uptoBulkEntries entries + 1
  | .held _ => 1
def uptoBulkAll {H : Type} : List (DataW H) → Nat
  | [] => 0
  | d :: r => uptoBulk d + uptoBulkAll r
def uptoBulkEntries {H : Type} : List (Lit × DataW H) → Nat
  | [] => 0
  | x :: r => uptoBulkEntry x + uptoBulkEntries r
def uptoBulkEntry {H : Type} : Lit × DataW H → Nat
  | (.string bytes, d) => bytes.length + uptoBulk d + 1
  | (_, d) => uptoBulk d + 1
 end
def uptoSmall : (H : Type) → List (DataW H) → Bool := fun _ ds => decide (uptoBulkAll ds ≤ 1048576)
def OpenSpec.upto (s : _root_.Go.ChangeSpec) : _root_.Go.OpenSpec := { _root_.Go.OpenSpec.ofChange s with cond := some uptoSmall }

/-- 'laws.FnExactConstants', WHERE WHAT IT READS IS OF BULK AT MOST 1048576: true; the input reads as it did. -/
def fnExactConstantsUptoRow : OpenClaim := { program := "ytaknphghhlljmaa", sum := "0258595fb3829e2c19bcf4656a78670547070a97b27ac244e1fae54980b5ef19", func := "loop.example/lib-digestroads/laws.FnExactConstants", spec := "fnExactConstants", apart := false, narrowed := true }
def FnExactConstantsUptoSaid : Prop := fnExactConstantsUptoRow.holds Try.pinned (OpenSpec.upto fnExactConstantsSpec)

/-- 'laws.FnExactSizes256', WHERE WHAT IT READS IS OF BULK AT MOST 1048576: true; the input reads as it did. -/
def fnExactSizes256UptoRow : OpenClaim := { program := "ytaknphghhlljmaa", sum := "0258595fb3829e2c19bcf4656a78670547070a97b27ac244e1fae54980b5ef19", func := "loop.example/lib-digestroads/laws.FnExactSizes256", spec := "fnExactSizes256", unfollowed := true, recurses := true, apart := false, narrowed := true }
def FnExactSizes256UptoSaid : Prop := fnExactSizes256UptoRow.holds Try.pinned (OpenSpec.upto fnExactSizes256Spec)

/-- 'laws.FnExactSizes224', WHERE WHAT IT READS IS OF BULK AT MOST 1048576: true; the input reads as it did. -/
def fnExactSizes224UptoRow : OpenClaim := { program := "ytaknphghhlljmaa", sum := "0258595fb3829e2c19bcf4656a78670547070a97b27ac244e1fae54980b5ef19", func := "loop.example/lib-digestroads/laws.FnExactSizes224", spec := "fnExactSizes224", unfollowed := true, recurses := true, apart := false, narrowed := true }
def FnExactSizes224UptoSaid : Prop := fnExactSizes224UptoRow.holds Try.pinned (OpenSpec.upto fnExactSizes224Spec)

/-- 'laws.FnResetIsNew256', WHERE WHAT IT READS IS OF BULK AT MOST 1048576: true; the input reads as it did. -/
def fnResetIsNew256UptoRow : OpenClaim := { program := "ytaknphghhlljmaa", sum := "0258595fb3829e2c19bcf4656a78670547070a97b27ac244e1fae54980b5ef19", func := "loop.example/lib-digestroads/laws.FnResetIsNew256", spec := "fnResetIsNew256", unfollowed := true, recurses := true, apart := false, narrowed := true }
def FnResetIsNew256UptoSaid : Prop := fnResetIsNew256UptoRow.holds Try.pinned (OpenSpec.upto fnResetIsNew256Spec)

/-- 'laws.FnEmptyParts256', WHERE WHAT IT READS IS OF BULK AT MOST 1048576: true; the input reads as it did. -/
def fnEmptyParts256UptoRow : OpenClaim := { program := "ytaknphghhlljmaa", sum := "0258595fb3829e2c19bcf4656a78670547070a97b27ac244e1fae54980b5ef19", func := "loop.example/lib-digestroads/laws.FnEmptyParts256", spec := "fnEmptyParts256", unfollowed := true, recurses := true, apart := false, narrowed := true }
def FnEmptyParts256UptoSaid : Prop := fnEmptyParts256UptoRow.holds Try.pinned (OpenSpec.upto fnEmptyParts256Spec)

/-- 'laws.FnExactKept256', WHERE WHAT IT READS IS OF BULK AT MOST 1048576: true; the input reads as it did. -/
def fnExactKept256UptoRow : OpenClaim := { program := "ytaknphghhlljmaa", sum := "0258595fb3829e2c19bcf4656a78670547070a97b27ac244e1fae54980b5ef19", func := "loop.example/lib-digestroads/laws.FnExactKept256", spec := "fnExactKept256", unfollowed := true, recurses := true, apart := false, narrowed := true }
def FnExactKept256UptoSaid : Prop := fnExactKept256UptoRow.holds Try.pinned (OpenSpec.upto fnExactKept256Spec)

/-- 'laws.FnExactScript224', WHERE WHAT IT READS IS OF BULK AT MOST 1048576: true; the input reads as it did. -/
def fnExactScript224UptoRow : OpenClaim := { program := "ytaknphghhlljmaa", sum := "0258595fb3829e2c19bcf4656a78670547070a97b27ac244e1fae54980b5ef19", func := "loop.example/lib-digestroads/laws.FnExactScript224", spec := "fnExactScript224", unfollowed := true, recurses := true, apart := false, narrowed := true }
def FnExactScript224UptoSaid : Prop := fnExactScript224UptoRow.holds Try.pinned (OpenSpec.upto fnExactScript224Spec)

/-- 'laws.FnEmptyParts224', WHERE WHAT IT READS IS OF BULK AT MOST 1048576: true; the input reads as it did. -/
def fnEmptyParts224UptoRow : OpenClaim := { program := "ytaknphghhlljmaa", sum := "0258595fb3829e2c19bcf4656a78670547070a97b27ac244e1fae54980b5ef19", func := "loop.example/lib-digestroads/laws.FnEmptyParts224", spec := "fnEmptyParts224", unfollowed := true, recurses := true, apart := false, narrowed := true }
def FnEmptyParts224UptoSaid : Prop := fnEmptyParts224UptoRow.holds Try.pinned (OpenSpec.upto fnEmptyParts224Spec)

/-- 'laws.FnExactKept224', WHERE WHAT IT READS IS OF BULK AT MOST 1048576: true; the input reads as it did. -/
def fnExactKept224UptoRow : OpenClaim := { program := "ytaknphghhlljmaa", sum := "0258595fb3829e2c19bcf4656a78670547070a97b27ac244e1fae54980b5ef19", func := "loop.example/lib-digestroads/laws.FnExactKept224", spec := "fnExactKept224", unfollowed := true, recurses := true, apart := false, narrowed := true }
def FnExactKept224UptoSaid : Prop := fnExactKept224UptoRow.holds Try.pinned (OpenSpec.upto fnExactKept224Spec)

/-- 'laws.FnExactCounts256', WHERE WHAT IT READS IS OF BULK AT MOST 1048576: true; the input reads as it did. -/
def fnExactCounts256UptoRow : OpenClaim := { program := "ytaknphghhlljmaa", sum := "0258595fb3829e2c19bcf4656a78670547070a97b27ac244e1fae54980b5ef19", func := "loop.example/lib-digestroads/laws.FnExactCounts256", spec := "fnExactCounts256", unfollowed := true, recurses := true, apart := false, narrowed := true }
def FnExactCounts256UptoSaid : Prop := fnExactCounts256UptoRow.holds Try.pinned (OpenSpec.upto fnExactCounts256Spec)

/-- 'laws.FnResetIsNew224', WHERE WHAT IT READS IS OF BULK AT MOST 1048576: true; the input reads as it did. -/
def fnResetIsNew224UptoRow : OpenClaim := { program := "ytaknphghhlljmaa", sum := "0258595fb3829e2c19bcf4656a78670547070a97b27ac244e1fae54980b5ef19", func := "loop.example/lib-digestroads/laws.FnResetIsNew224", spec := "fnResetIsNew224", unfollowed := true, recurses := true, apart := false, narrowed := true }
def FnResetIsNew224UptoSaid : Prop := fnResetIsNew224UptoRow.holds Try.pinned (OpenSpec.upto fnResetIsNew224Spec)

/-- 'laws.FnExactCounts224', WHERE WHAT IT READS IS OF BULK AT MOST 1048576: true; the input reads as it did. -/
def fnExactCounts224UptoRow : OpenClaim := { program := "ytaknphghhlljmaa", sum := "0258595fb3829e2c19bcf4656a78670547070a97b27ac244e1fae54980b5ef19", func := "loop.example/lib-digestroads/laws.FnExactCounts224", spec := "fnExactCounts224", unfollowed := true, recurses := true, apart := false, narrowed := true }
def FnExactCounts224UptoSaid : Prop := fnExactCounts224UptoRow.holds Try.pinned (OpenSpec.upto fnExactCounts224Spec)

end Rows
end Go.Proofs.Ytaknphghhlljmaa

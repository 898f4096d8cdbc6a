/-
  No cell of these rows narrows 'for every input' (looked for: loops, veiled, ifaces, maps, wideKeys, modest, calm, conditions, laid).
  DERIVED. THE GIVEN ROWS OF THIS SEAT. 12 by the template 'for every input the law returns true; each argument reads behind the call as it read before'; 0 by the template 'total and deterministic' (their statements: YtcgbghmeommmfaaTotals.lean).
  GIVEN WITH THE SEED: the statements are not yours to turn. If you find one false, say at which input.
  Laid BY PROGRAM, IN A SANDBOX (cutbox-rows.mjs): the forced cells as the released guide's own fill.sh prints them over the translation c2a0e01db1eed408… (all of the seat's roots in one cut). By AI agents, Wed Nov 11 2026. No macro, syntax, notation, axiom, sorry.
-/
import Derived.Test.YtcgbghmeommmfaaChecked
import GoSem.Claim
import GoSem.ClaimJoined
import GoSem.ClaimMapViews
import Derived.JoinedTies
import Derived.KernelRfl
namespace Go.Proofs.Ytcgbghmeommmfaa
/- THE CELL 'sum', in the pinned program and in every row, IS THE sha256 OF THE DUMP (.gsa) THAT YtcgbghmeommmfaaProg.lean LOADS. Nothing in Lean hashes anything: it is a label: what it is worth is what the hold of that sum in a sandbox is worth. -/
noncomputable def Try.pinned : Pinned := { name := "ytcgbghmeommmfaa", sum := "c2a0e01db1eed408d485b2ad7c58748d3432de5e37cf206c5a2020c29365bfed", checked := Try.checked }
namespace Rows
def none {H : Type} : Left H := { results := [], args := [] }

/-- 'laws.FnPathBack': WHATEVER THE INPUT: true; the input reads as it did. -/
def fnPathBackSpec : ChangeSpec := { name := "fnPathBack", fn := fun _ => fun
  | [d1, d2, d3] => { results := [.lit (.bool true)], args := [d1, d2, d3] }
  | _ => none }
def fnPathBackRow : OpenClaim := { program := "ytcgbghmeommmfaa", sum := "c2a0e01db1eed408d485b2ad7c58748d3432de5e37cf206c5a2020c29365bfed", func := "loop.example/lib-g01430/laws.FnPathBack", spec := "fnPathBack", inPlace := ["math.Float64frombits", "math.Float64bits"], apart := false }
def FnPathBackSaid : Prop := fnPathBackRow.holds Try.pinned (OpenSpec.ofChange fnPathBackSpec)

/-- ITS FALSE NEIGHBOUR: 'it returns false'. Refute it at one input. -/
def fnPathBackWrong : ChangeSpec := { name := "fnPathBack", fn := fun _ => fun
  | [d1, d2, d3] => { results := [.lit (.bool false)], args := [d1, d2, d3] }
  | _ => none }
def FnPathBackWrongFalsely : Prop := fnPathBackRow.holds Try.pinned (OpenSpec.ofChange fnPathBackWrong)

/-- 'laws.FnPathCut': WHATEVER THE INPUT: true; the input reads as it did. -/
def fnPathCutSpec : ChangeSpec := { name := "fnPathCut", fn := fun _ => fun
  | [d1, d2, d3, d4] => { results := [.lit (.bool true)], args := [d1, d2, d3, d4] }
  | _ => none }
def fnPathCutRow : OpenClaim := { program := "ytcgbghmeommmfaa", sum := "c2a0e01db1eed408d485b2ad7c58748d3432de5e37cf206c5a2020c29365bfed", func := "loop.example/lib-g01430/laws.FnPathCut", spec := "fnPathCut", inPlace := ["math.Float64frombits", "math.Float64bits"], apart := false }
def FnPathCutSaid : Prop := fnPathCutRow.holds Try.pinned (OpenSpec.ofChange fnPathCutSpec)

/-- ITS FALSE NEIGHBOUR: 'it returns false'. Refute it at one input. -/
def fnPathCutWrong : ChangeSpec := { name := "fnPathCut", fn := fun _ => fun
  | [d1, d2, d3, d4] => { results := [.lit (.bool false)], args := [d1, d2, d3, d4] }
  | _ => none }
def FnPathCutWrongFalsely : Prop := fnPathCutRow.holds Try.pinned (OpenSpec.ofChange fnPathCutWrong)

/-- 'laws.FnPathIs': WHATEVER THE INPUT: true; the input reads as it did. -/
def fnPathIsSpec : ChangeSpec := { name := "fnPathIs", fn := fun _ => fun
  | [d1, d2, d3] => { results := [.lit (.bool true)], args := [d1, d2, d3] }
  | _ => none }
def fnPathIsRow : OpenClaim := { program := "ytcgbghmeommmfaa", sum := "c2a0e01db1eed408d485b2ad7c58748d3432de5e37cf206c5a2020c29365bfed", func := "loop.example/lib-g01430/laws.FnPathIs", spec := "fnPathIs", inPlace := ["math.Float64frombits", "math.Float64bits"], apart := false }
def FnPathIsSaid : Prop := fnPathIsRow.holds Try.pinned (OpenSpec.ofChange fnPathIsSpec)

/-- ITS FALSE NEIGHBOUR: 'it returns false'. Refute it at one input. -/
def fnPathIsWrong : ChangeSpec := { name := "fnPathIs", fn := fun _ => fun
  | [d1, d2, d3] => { results := [.lit (.bool false)], args := [d1, d2, d3] }
  | _ => none }
def FnPathIsWrongFalsely : Prop := fnPathIsRow.holds Try.pinned (OpenSpec.ofChange fnPathIsWrong)

/-- 'laws.FnPathOpposite': WHATEVER THE INPUT: true; the input reads as it did. -/
def fnPathOppositeSpec : ChangeSpec := { name := "fnPathOpposite", fn := fun _ => fun
  | [d1, d2, d3] => { results := [.lit (.bool true)], args := [d1, d2, d3] }
  | _ => none }
def fnPathOppositeRow : OpenClaim := { program := "ytcgbghmeommmfaa", sum := "c2a0e01db1eed408d485b2ad7c58748d3432de5e37cf206c5a2020c29365bfed", func := "loop.example/lib-g01430/laws.FnPathOpposite", spec := "fnPathOpposite", inPlace := ["math.Float64frombits", "math.Float64bits"], apart := false }
def FnPathOppositeSaid : Prop := fnPathOppositeRow.holds Try.pinned (OpenSpec.ofChange fnPathOppositeSpec)

/-- ITS FALSE NEIGHBOUR: 'it returns false'. Refute it at one input. -/
def fnPathOppositeWrong : ChangeSpec := { name := "fnPathOpposite", fn := fun _ => fun
  | [d1, d2, d3] => { results := [.lit (.bool false)], args := [d1, d2, d3] }
  | _ => none }
def FnPathOppositeWrongFalsely : Prop := fnPathOppositeRow.holds Try.pinned (OpenSpec.ofChange fnPathOppositeWrong)

/-- 'laws.FnPathTowards': WHATEVER THE INPUT: true; the input reads as it did. -/
def fnPathTowardsSpec : ChangeSpec := { name := "fnPathTowards", fn := fun _ => fun
  | [d1, d2, d3] => { results := [.lit (.bool true)], args := [d1, d2, d3] }
  | _ => none }
def fnPathTowardsRow : OpenClaim := { program := "ytcgbghmeommmfaa", sum := "c2a0e01db1eed408d485b2ad7c58748d3432de5e37cf206c5a2020c29365bfed", func := "loop.example/lib-g01430/laws.FnPathTowards", spec := "fnPathTowards", inPlace := ["math.Float64frombits", "math.Float64bits"], apart := false }
def FnPathTowardsSaid : Prop := fnPathTowardsRow.holds Try.pinned (OpenSpec.ofChange fnPathTowardsSpec)

/-- ITS FALSE NEIGHBOUR: 'it returns false'. Refute it at one input. -/
def fnPathTowardsWrong : ChangeSpec := { name := "fnPathTowards", fn := fun _ => fun
  | [d1, d2, d3] => { results := [.lit (.bool false)], args := [d1, d2, d3] }
  | _ => none }
def FnPathTowardsWrongFalsely : Prop := fnPathTowardsRow.holds Try.pinned (OpenSpec.ofChange fnPathTowardsWrong)

/-- 'laws.FnPathNext': WHATEVER THE INPUT: true; the input reads as it did. -/
def fnPathNextSpec : ChangeSpec := { name := "fnPathNext", fn := fun _ => fun
  | [d1, d2] => { results := [.lit (.bool true)], args := [d1, d2] }
  | _ => none }
def fnPathNextRow : OpenClaim := { program := "ytcgbghmeommmfaa", sum := "c2a0e01db1eed408d485b2ad7c58748d3432de5e37cf206c5a2020c29365bfed", func := "loop.example/lib-g01430/laws.FnPathNext", spec := "fnPathNext", inPlace := ["math.Float64frombits", "math.Float64bits"], apart := false }
def FnPathNextSaid : Prop := fnPathNextRow.holds Try.pinned (OpenSpec.ofChange fnPathNextSpec)

/-- ITS FALSE NEIGHBOUR: 'it returns false'. Refute it at one input. -/
def fnPathNextWrong : ChangeSpec := { name := "fnPathNext", fn := fun _ => fun
  | [d1, d2] => { results := [.lit (.bool false)], args := [d1, d2] }
  | _ => none }
def FnPathNextWrongFalsely : Prop := fnPathNextRow.holds Try.pinned (OpenSpec.ofChange fnPathNextWrong)

/-- 'laws.FnDotScaled': WHATEVER THE INPUT: true; the input reads as it did. -/
def fnDotScaledSpec : ChangeSpec := { name := "fnDotScaled", fn := fun _ => fun
  | [d1, d2, d3] => { results := [.lit (.bool true)], args := [d1, d2, d3] }
  | _ => none }
def fnDotScaledRow : OpenClaim := { program := "ytcgbghmeommmfaa", sum := "c2a0e01db1eed408d485b2ad7c58748d3432de5e37cf206c5a2020c29365bfed", func := "loop.example/lib-g01430/laws.FnDotScaled", spec := "fnDotScaled", inPlace := ["math.FMA", "math.Float64bits", "math.Float64frombits"], apart := false }
def FnDotScaledSaid : Prop := fnDotScaledRow.holds Try.pinned (OpenSpec.ofChange fnDotScaledSpec)

/-- ITS FALSE NEIGHBOUR: 'it returns false'. Refute it at one input. -/
def fnDotScaledWrong : ChangeSpec := { name := "fnDotScaled", fn := fun _ => fun
  | [d1, d2, d3] => { results := [.lit (.bool false)], args := [d1, d2, d3] }
  | _ => none }
def FnDotScaledWrongFalsely : Prop := fnDotScaledRow.holds Try.pinned (OpenSpec.ofChange fnDotScaledWrong)

/-- 'laws.FnDigitsOpposite': WHATEVER THE INPUT: true; the input reads as it did. -/
def fnDigitsOppositeSpec : ChangeSpec := { name := "fnDigitsOpposite", fn := fun _ => fun
  | [d1, d2] => { results := [.lit (.bool true)], args := [d1, d2] }
  | _ => none }
def fnDigitsOppositeRow : OpenClaim := { program := "ytcgbghmeommmfaa", sum := "c2a0e01db1eed408d485b2ad7c58748d3432de5e37cf206c5a2020c29365bfed", func := "loop.example/lib-g01430/laws.FnDigitsOpposite", spec := "fnDigitsOpposite", inPlace := ["math.archTrunc", "math.Float64bits", "math.Float64frombits"], apart := false }
def FnDigitsOppositeSaid : Prop := fnDigitsOppositeRow.holds Try.pinned (OpenSpec.ofChange fnDigitsOppositeSpec)

/-- ITS FALSE NEIGHBOUR: 'it returns false'. Refute it at one input. -/
def fnDigitsOppositeWrong : ChangeSpec := { name := "fnDigitsOpposite", fn := fun _ => fun
  | [d1, d2] => { results := [.lit (.bool false)], args := [d1, d2] }
  | _ => none }
def FnDigitsOppositeWrongFalsely : Prop := fnDigitsOppositeRow.holds Try.pinned (OpenSpec.ofChange fnDigitsOppositeWrong)

/-- 'laws.FnExactDigits': WHATEVER THE INPUT: true; the input reads as it did. -/
def fnExactDigitsSpec : ChangeSpec := { name := "fnExactDigits", fn := fun _ => fun
  | [d1, d2] => { results := [.lit (.bool true)], args := [d1, d2] }
  | _ => none }
def fnExactDigitsRow : OpenClaim := { program := "ytcgbghmeommmfaa", sum := "c2a0e01db1eed408d485b2ad7c58748d3432de5e37cf206c5a2020c29365bfed", func := "loop.example/lib-g01430/laws.FnExactDigits", spec := "fnExactDigits", inPlace := ["math.archTrunc", "math.Float64bits", "math.Float64frombits"], apart := false }
def FnExactDigitsSaid : Prop := fnExactDigitsRow.holds Try.pinned (OpenSpec.ofChange fnExactDigitsSpec)

/-- ITS FALSE NEIGHBOUR: 'it returns false'. Refute it at one input. -/
def fnExactDigitsWrong : ChangeSpec := { name := "fnExactDigits", fn := fun _ => fun
  | [d1, d2] => { results := [.lit (.bool false)], args := [d1, d2] }
  | _ => none }
def FnExactDigitsWrongFalsely : Prop := fnExactDigitsRow.holds Try.pinned (OpenSpec.ofChange fnExactDigitsWrong)

/-- 'laws.FnScaleBack': WHATEVER THE INPUT: true; the input reads as it did. -/
def fnScaleBackSpec : ChangeSpec := { name := "fnScaleBack", fn := fun _ => fun
  | [d1, d2, d3] => { results := [.lit (.bool true)], args := [d1, d2, d3] }
  | _ => none }
def fnScaleBackRow : OpenClaim := { program := "ytcgbghmeommmfaa", sum := "c2a0e01db1eed408d485b2ad7c58748d3432de5e37cf206c5a2020c29365bfed", func := "loop.example/lib-g01430/laws.FnScaleBack", spec := "fnScaleBack", inPlace := ["math.Float64bits", "math.Float64frombits"], apart := false }
def FnScaleBackSaid : Prop := fnScaleBackRow.holds Try.pinned (OpenSpec.ofChange fnScaleBackSpec)

/-- ITS FALSE NEIGHBOUR: 'it returns false'. Refute it at one input. -/
def fnScaleBackWrong : ChangeSpec := { name := "fnScaleBack", fn := fun _ => fun
  | [d1, d2, d3] => { results := [.lit (.bool false)], args := [d1, d2, d3] }
  | _ => none }
def FnScaleBackWrongFalsely : Prop := fnScaleBackRow.holds Try.pinned (OpenSpec.ofChange fnScaleBackWrong)

/-- 'laws.FnScaleIs': WHATEVER THE INPUT: true; the input reads as it did. -/
def fnScaleIsSpec : ChangeSpec := { name := "fnScaleIs", fn := fun _ => fun
  | [d1, d2] => { results := [.lit (.bool true)], args := [d1, d2] }
  | _ => none }
def fnScaleIsRow : OpenClaim := { program := "ytcgbghmeommmfaa", sum := "c2a0e01db1eed408d485b2ad7c58748d3432de5e37cf206c5a2020c29365bfed", func := "loop.example/lib-g01430/laws.FnScaleIs", spec := "fnScaleIs", inPlace := ["math.Float64bits", "math.Float64frombits"], apart := false }
def FnScaleIsSaid : Prop := fnScaleIsRow.holds Try.pinned (OpenSpec.ofChange fnScaleIsSpec)

/-- ITS FALSE NEIGHBOUR: 'it returns false'. Refute it at one input. -/
def fnScaleIsWrong : ChangeSpec := { name := "fnScaleIs", fn := fun _ => fun
  | [d1, d2] => { results := [.lit (.bool false)], args := [d1, d2] }
  | _ => none }
def FnScaleIsWrongFalsely : Prop := fnScaleIsRow.holds Try.pinned (OpenSpec.ofChange fnScaleIsWrong)

/-- 'laws.FnScaleOrder': WHATEVER THE INPUT: true; the input reads as it did. -/
def fnScaleOrderSpec : ChangeSpec := { name := "fnScaleOrder", fn := fun _ => fun
  | [d1, d2] => { results := [.lit (.bool true)], args := [d1, d2] }
  | _ => none }
def fnScaleOrderRow : OpenClaim := { program := "ytcgbghmeommmfaa", sum := "c2a0e01db1eed408d485b2ad7c58748d3432de5e37cf206c5a2020c29365bfed", func := "loop.example/lib-g01430/laws.FnScaleOrder", spec := "fnScaleOrder", inPlace := ["math.Float64bits", "math.Float64frombits"], apart := false }
def FnScaleOrderSaid : Prop := fnScaleOrderRow.holds Try.pinned (OpenSpec.ofChange fnScaleOrderSpec)

/-- ITS FALSE NEIGHBOUR: 'it returns false'. Refute it at one input. -/
def fnScaleOrderWrong : ChangeSpec := { name := "fnScaleOrder", fn := fun _ => fun
  | [d1, d2] => { results := [.lit (.bool false)], args := [d1, d2] }
  | _ => none }
def FnScaleOrderWrongFalsely : Prop := fnScaleOrderRow.holds Try.pinned (OpenSpec.ofChange fnScaleOrderWrong)

/- THE SECOND FORM. 'bulk': how many values and letters a reading holds, each counted each time it is reached (what is shared counts as often as it is met; a slice's spare places count too). A statement '..UptoSaid' is the law's where the arguments, and the package variables that the reading takes, are together of bulk at most 1048576: NARROWER than '..Said'. Prove '..Said' where nothing that the law and all that it calls make is longer than what came in: it says more and counts as full. Else prove '..UptoSaid'. A law counts once. -/
mutual
def uptoBulk {H : Type} : DataW H → Nat
  | .lit (.string bytes) => bytes.length + 1
  | .lit _ => 1
  | .nil => 1
  | .ptr d => uptoBulk d + 1
  | .slice elems spare => uptoBulkAll elems + uptoBulkAll spare + 1
  | .agg parts => uptoBulkAll parts + 1
  | .iface _ d => uptoBulk d + 1
  | .map entries => uptoBulkEntries entries + 1
  | .held _ => 1
def uptoBulkAll {H : Type} : List (DataW H) → Nat
  | [] => 0
  | d :: r => uptoBulk d + uptoBulkAll r
def uptoBulkEntries {H : Type} : List (Lit × DataW H) → Nat
  | [] => 0
  | x :: r => uptoBulkEntry x + uptoBulkEntries r
def uptoBulkEntry {H : Type} : Lit × DataW H → Nat
  | (.string bytes, d) => bytes.length + uptoBulk d + 1
  | (_, d) => uptoBulk d + 1
 end
def uptoSmall : (H : Type) → List (DataW H) → Bool := fun _ ds => decide (uptoBulkAll ds ≤ 1048576)
def OpenSpec.upto (s : _root_.Go.ChangeSpec) : _root_.Go.OpenSpec := { _root_.Go.OpenSpec.ofChange s with cond := some uptoSmall }

/-- 'laws.FnPathBack', WHERE WHAT IT READS IS OF BULK AT MOST 1048576: true; the input reads as it did. -/
def fnPathBackUptoRow : OpenClaim := { program := "ytcgbghmeommmfaa", sum := "c2a0e01db1eed408d485b2ad7c58748d3432de5e37cf206c5a2020c29365bfed", func := "loop.example/lib-g01430/laws.FnPathBack", spec := "fnPathBack", inPlace := ["math.Float64frombits", "math.Float64bits"], apart := false, narrowed := true }
def FnPathBackUptoSaid : Prop := fnPathBackUptoRow.holds Try.pinned (OpenSpec.upto fnPathBackSpec)

/-- 'laws.FnPathCut', WHERE WHAT IT READS IS OF BULK AT MOST 1048576: true; the input reads as it did. -/
def fnPathCutUptoRow : OpenClaim := { program := "ytcgbghmeommmfaa", sum := "c2a0e01db1eed408d485b2ad7c58748d3432de5e37cf206c5a2020c29365bfed", func := "loop.example/lib-g01430/laws.FnPathCut", spec := "fnPathCut", inPlace := ["math.Float64frombits", "math.Float64bits"], apart := false, narrowed := true }
def FnPathCutUptoSaid : Prop := fnPathCutUptoRow.holds Try.pinned (OpenSpec.upto fnPathCutSpec)

/-- 'laws.FnPathIs', WHERE WHAT IT READS IS OF BULK AT MOST 1048576: true; the input reads as it did. -/
def fnPathIsUptoRow : OpenClaim := { program := "ytcgbghmeommmfaa", sum := "c2a0e01db1eed408d485b2ad7c58748d3432de5e37cf206c5a2020c29365bfed", func := "loop.example/lib-g01430/laws.FnPathIs", spec := "fnPathIs", inPlace := ["math.Float64frombits", "math.Float64bits"], apart := false, narrowed := true }
def FnPathIsUptoSaid : Prop := fnPathIsUptoRow.holds Try.pinned (OpenSpec.upto fnPathIsSpec)

/-- 'laws.FnPathOpposite', WHERE WHAT IT READS IS OF BULK AT MOST 1048576: true; the input reads as it did. -/
def fnPathOppositeUptoRow : OpenClaim := { program := "ytcgbghmeommmfaa", sum := "c2a0e01db1eed408d485b2ad7c58748d3432de5e37cf206c5a2020c29365bfed", func := "loop.example/lib-g01430/laws.FnPathOpposite", spec := "fnPathOpposite", inPlace := ["math.Float64frombits", "math.Float64bits"], apart := false, narrowed := true }
def FnPathOppositeUptoSaid : Prop := fnPathOppositeUptoRow.holds Try.pinned (OpenSpec.upto fnPathOppositeSpec)

/-- 'laws.FnPathTowards', WHERE WHAT IT READS IS OF BULK AT MOST 1048576: true; the input reads as it did. -/
def fnPathTowardsUptoRow : OpenClaim := { program := "ytcgbghmeommmfaa", sum := "c2a0e01db1eed408d485b2ad7c58748d3432de5e37cf206c5a2020c29365bfed", func := "loop.example/lib-g01430/laws.FnPathTowards", spec := "fnPathTowards", inPlace := ["math.Float64frombits", "math.Float64bits"], apart := false, narrowed := true }
def FnPathTowardsUptoSaid : Prop := fnPathTowardsUptoRow.holds Try.pinned (OpenSpec.upto fnPathTowardsSpec)

/-- 'laws.FnPathNext', WHERE WHAT IT READS IS OF BULK AT MOST 1048576: true; the input reads as it did. -/
def fnPathNextUptoRow : OpenClaim := { program := "ytcgbghmeommmfaa", sum := "c2a0e01db1eed408d485b2ad7c58748d3432de5e37cf206c5a2020c29365bfed", func := "loop.example/lib-g01430/laws.FnPathNext", spec := "fnPathNext", inPlace := ["math.Float64frombits", "math.Float64bits"], apart := false, narrowed := true }
def FnPathNextUptoSaid : Prop := fnPathNextUptoRow.holds Try.pinned (OpenSpec.upto fnPathNextSpec)

/-- 'laws.FnDotScaled', WHERE WHAT IT READS IS OF BULK AT MOST 1048576: true; the input reads as it did. -/
def fnDotScaledUptoRow : OpenClaim := { program := "ytcgbghmeommmfaa", sum := "c2a0e01db1eed408d485b2ad7c58748d3432de5e37cf206c5a2020c29365bfed", func := "loop.example/lib-g01430/laws.FnDotScaled", spec := "fnDotScaled", inPlace := ["math.FMA", "math.Float64bits", "math.Float64frombits"], apart := false, narrowed := true }
def FnDotScaledUptoSaid : Prop := fnDotScaledUptoRow.holds Try.pinned (OpenSpec.upto fnDotScaledSpec)

/-- 'laws.FnDigitsOpposite', WHERE WHAT IT READS IS OF BULK AT MOST 1048576: true; the input reads as it did. -/
def fnDigitsOppositeUptoRow : OpenClaim := { program := "ytcgbghmeommmfaa", sum := "c2a0e01db1eed408d485b2ad7c58748d3432de5e37cf206c5a2020c29365bfed", func := "loop.example/lib-g01430/laws.FnDigitsOpposite", spec := "fnDigitsOpposite", inPlace := ["math.archTrunc", "math.Float64bits", "math.Float64frombits"], apart := false, narrowed := true }
def FnDigitsOppositeUptoSaid : Prop := fnDigitsOppositeUptoRow.holds Try.pinned (OpenSpec.upto fnDigitsOppositeSpec)

/-- 'laws.FnExactDigits', WHERE WHAT IT READS IS OF BULK AT MOST 1048576: true; the input reads as it did. -/
def fnExactDigitsUptoRow : OpenClaim := { program := "ytcgbghmeommmfaa", sum := "c2a0e01db1eed408d485b2ad7c58748d3432de5e37cf206c5a2020c29365bfed", func := "loop.example/lib-g01430/laws.FnExactDigits", spec := "fnExactDigits", inPlace := ["math.archTrunc", "math.Float64bits", "math.Float64frombits"], apart := false, narrowed := true }
def FnExactDigitsUptoSaid : Prop := fnExactDigitsUptoRow.holds Try.pinned (OpenSpec.upto fnExactDigitsSpec)

/-- 'laws.FnScaleBack', WHERE WHAT IT READS IS OF BULK AT MOST 1048576: true; the input reads as it did. -/
def fnScaleBackUptoRow : OpenClaim := { program := "ytcgbghmeommmfaa", sum := "c2a0e01db1eed408d485b2ad7c58748d3432de5e37cf206c5a2020c29365bfed", func := "loop.example/lib-g01430/laws.FnScaleBack", spec := "fnScaleBack", inPlace := ["math.Float64bits", "math.Float64frombits"], apart := false, narrowed := true }
def FnScaleBackUptoSaid : Prop := fnScaleBackUptoRow.holds Try.pinned (OpenSpec.upto fnScaleBackSpec)

/-- 'laws.FnScaleIs', WHERE WHAT IT READS IS OF BULK AT MOST 1048576: true; the input reads as it did. -/
def fnScaleIsUptoRow : OpenClaim := { program := "ytcgbghmeommmfaa", sum := "c2a0e01db1eed408d485b2ad7c58748d3432de5e37cf206c5a2020c29365bfed", func := "loop.example/lib-g01430/laws.FnScaleIs", spec := "fnScaleIs", inPlace := ["math.Float64bits", "math.Float64frombits"], apart := false, narrowed := true }
def FnScaleIsUptoSaid : Prop := fnScaleIsUptoRow.holds Try.pinned (OpenSpec.upto fnScaleIsSpec)

/-- 'laws.FnScaleOrder', WHERE WHAT IT READS IS OF BULK AT MOST 1048576: true; the input reads as it did. -/
def fnScaleOrderUptoRow : OpenClaim := { program := "ytcgbghmeommmfaa", sum := "c2a0e01db1eed408d485b2ad7c58748d3432de5e37cf206c5a2020c29365bfed", func := "loop.example/lib-g01430/laws.FnScaleOrder", spec := "fnScaleOrder", inPlace := ["math.Float64bits", "math.Float64frombits"], apart := false, narrowed := true }
def FnScaleOrderUptoSaid : Prop := fnScaleOrderUptoRow.holds Try.pinned (OpenSpec.upto fnScaleOrderSpec)

end Rows
end Go.Proofs.Ytcgbghmeommmfaa

/-
  No cell of these rows narrows 'for every input' (looked for: loops, veiled, ifaces, maps, wideKeys, modest, calm, conditions, laid).
  DERIVED. THE GIVEN ROWS OF THIS SEAT. 12 by the template 'for every input the law returns true; each argument reads behind the call as it read before'; 0 by the template 'total and deterministic' (their statements: YtbhallblmphlmaaTotals.lean).
  GIVEN WITH THE SEED: the statements are not yours to turn. If you find one false, say at which input.
  Laid BY PROGRAM, IN A SANDBOX (cutbox-rows.mjs): the forced cells as the released guide's own fill.sh prints them over the translation 5fe4aa00727e4187… (all of the seat's roots in one cut). By AI agents, Wed Nov 11 2026. No macro, syntax, notation, axiom, sorry.
-/
import Derived.Test.YtbhallblmphlmaaChecked
import GoSem.Claim
import GoSem.ClaimJoined
import GoSem.ClaimMapViews
import Derived.JoinedTies
import Derived.KernelRfl
namespace Go.Proofs.Ytbhallblmphlmaa
/- THE CELL 'sum', in the pinned program and in every row, IS THE sha256 OF THE DUMP (.gsa) THAT YtbhallblmphlmaaProg.lean LOADS. Nothing in Lean hashes anything: it is a label: what it is worth is what the hold of that sum in a sandbox is worth. -/
noncomputable def Try.pinned : Pinned := { name := "ytbhallblmphlmaa", sum := "5fe4aa00727e41874486bf4215176ab5c788d9505dd26a5c92b66c43b8950ec6", checked := Try.checked }
namespace Rows
def none {H : Type} : Left H := { results := [], args := [] }

/-- 'laws.FnHornerCut': WHATEVER THE INPUT: true; the input reads as it did. -/
def fnHornerCutSpec : ChangeSpec := { name := "fnHornerCut", fn := fun _ => fun
  | [d1, d2, d3, d4] => { results := [.lit (.bool true)], args := [d1, d2, d3, d4] }
  | _ => none }
def fnHornerCutRow : OpenClaim := { program := "ytbhallblmphlmaa", sum := "5fe4aa00727e41874486bf4215176ab5c788d9505dd26a5c92b66c43b8950ec6", func := "loop.example/lib-g01430/laws.FnHornerCut", spec := "fnHornerCut", inPlace := ["math.FMA"], apart := false }
def FnHornerCutSaid : Prop := fnHornerCutRow.holds Try.pinned (OpenSpec.ofChange fnHornerCutSpec)

/-- ITS FALSE NEIGHBOUR: 'it returns false'. Refute it at one input. -/
def fnHornerCutWrong : ChangeSpec := { name := "fnHornerCut", fn := fun _ => fun
  | [d1, d2, d3, d4] => { results := [.lit (.bool false)], args := [d1, d2, d3, d4] }
  | _ => none }
def FnHornerCutWrongFalsely : Prop := fnHornerCutRow.holds Try.pinned (OpenSpec.ofChange fnHornerCutWrong)

/-- 'laws.FnHornerIs': WHATEVER THE INPUT: true; the input reads as it did. -/
def fnHornerIsSpec : ChangeSpec := { name := "fnHornerIs", fn := fun _ => fun
  | [d1, d2, d3] => { results := [.lit (.bool true)], args := [d1, d2, d3] }
  | _ => none }
def fnHornerIsRow : OpenClaim := { program := "ytbhallblmphlmaa", sum := "5fe4aa00727e41874486bf4215176ab5c788d9505dd26a5c92b66c43b8950ec6", func := "loop.example/lib-g01430/laws.FnHornerIs", spec := "fnHornerIs", inPlace := ["math.FMA"], apart := false }
def FnHornerIsSaid : Prop := fnHornerIsRow.holds Try.pinned (OpenSpec.ofChange fnHornerIsSpec)

/-- ITS FALSE NEIGHBOUR: 'it returns false'. Refute it at one input. -/
def fnHornerIsWrong : ChangeSpec := { name := "fnHornerIs", fn := fun _ => fun
  | [d1, d2, d3] => { results := [.lit (.bool false)], args := [d1, d2, d3] }
  | _ => none }
def FnHornerIsWrongFalsely : Prop := fnHornerIsRow.holds Try.pinned (OpenSpec.ofChange fnHornerIsWrong)

/-- 'laws.FnHornerOnes': WHATEVER THE INPUT: true; the input reads as it did. -/
def fnHornerOnesSpec : ChangeSpec := { name := "fnHornerOnes", fn := fun _ => fun
  | [d1, d2] => { results := [.lit (.bool true)], args := [d1, d2] }
  | _ => none }
def fnHornerOnesRow : OpenClaim := { program := "ytbhallblmphlmaa", sum := "5fe4aa00727e41874486bf4215176ab5c788d9505dd26a5c92b66c43b8950ec6", func := "loop.example/lib-g01430/laws.FnHornerOnes", spec := "fnHornerOnes", inPlace := ["math.FMA"], apart := false }
def FnHornerOnesSaid : Prop := fnHornerOnesRow.holds Try.pinned (OpenSpec.ofChange fnHornerOnesSpec)

/-- ITS FALSE NEIGHBOUR: 'it returns false'. Refute it at one input. -/
def fnHornerOnesWrong : ChangeSpec := { name := "fnHornerOnes", fn := fun _ => fun
  | [d1, d2] => { results := [.lit (.bool false)], args := [d1, d2] }
  | _ => none }
def FnHornerOnesWrongFalsely : Prop := fnHornerOnesRow.holds Try.pinned (OpenSpec.ofChange fnHornerOnesWrong)

/-- 'laws.FnHornerOpposite': WHATEVER THE INPUT: true; the input reads as it did. -/
def fnHornerOppositeSpec : ChangeSpec := { name := "fnHornerOpposite", fn := fun _ => fun
  | [d1, d2, d3] => { results := [.lit (.bool true)], args := [d1, d2, d3] }
  | _ => none }
def fnHornerOppositeRow : OpenClaim := { program := "ytbhallblmphlmaa", sum := "5fe4aa00727e41874486bf4215176ab5c788d9505dd26a5c92b66c43b8950ec6", func := "loop.example/lib-g01430/laws.FnHornerOpposite", spec := "fnHornerOpposite", inPlace := ["math.FMA"], apart := false }
def FnHornerOppositeSaid : Prop := fnHornerOppositeRow.holds Try.pinned (OpenSpec.ofChange fnHornerOppositeSpec)

/-- ITS FALSE NEIGHBOUR: 'it returns false'. Refute it at one input. -/
def fnHornerOppositeWrong : ChangeSpec := { name := "fnHornerOpposite", fn := fun _ => fun
  | [d1, d2, d3] => { results := [.lit (.bool false)], args := [d1, d2, d3] }
  | _ => none }
def FnHornerOppositeWrongFalsely : Prop := fnHornerOppositeRow.holds Try.pinned (OpenSpec.ofChange fnHornerOppositeWrong)

/-- 'laws.FnHornerWhole': WHATEVER THE INPUT: true; the input reads as it did. -/
def fnHornerWholeSpec : ChangeSpec := { name := "fnHornerWhole", fn := fun _ => fun
  | [d1, d2, d3] => { results := [.lit (.bool true)], args := [d1, d2, d3] }
  | _ => none }
def fnHornerWholeRow : OpenClaim := { program := "ytbhallblmphlmaa", sum := "5fe4aa00727e41874486bf4215176ab5c788d9505dd26a5c92b66c43b8950ec6", func := "loop.example/lib-g01430/laws.FnHornerWhole", spec := "fnHornerWhole", inPlace := ["math.FMA"], apart := false }
def FnHornerWholeSaid : Prop := fnHornerWholeRow.holds Try.pinned (OpenSpec.ofChange fnHornerWholeSpec)

/-- ITS FALSE NEIGHBOUR: 'it returns false'. Refute it at one input. -/
def fnHornerWholeWrong : ChangeSpec := { name := "fnHornerWhole", fn := fun _ => fun
  | [d1, d2, d3] => { results := [.lit (.bool false)], args := [d1, d2, d3] }
  | _ => none }
def FnHornerWholeWrongFalsely : Prop := fnHornerWholeRow.holds Try.pinned (OpenSpec.ofChange fnHornerWholeWrong)

/-- 'laws.FnDotCut': WHATEVER THE INPUT: true; the input reads as it did. -/
def fnDotCutSpec : ChangeSpec := { name := "fnDotCut", fn := fun _ => fun
  | [d1, d2, d3, d4] => { results := [.lit (.bool true)], args := [d1, d2, d3, d4] }
  | _ => none }
def fnDotCutRow : OpenClaim := { program := "ytbhallblmphlmaa", sum := "5fe4aa00727e41874486bf4215176ab5c788d9505dd26a5c92b66c43b8950ec6", func := "loop.example/lib-g01430/laws.FnDotCut", spec := "fnDotCut", inPlace := ["math.FMA"], apart := false }
def FnDotCutSaid : Prop := fnDotCutRow.holds Try.pinned (OpenSpec.ofChange fnDotCutSpec)

/-- ITS FALSE NEIGHBOUR: 'it returns false'. Refute it at one input. -/
def fnDotCutWrong : ChangeSpec := { name := "fnDotCut", fn := fun _ => fun
  | [d1, d2, d3, d4] => { results := [.lit (.bool false)], args := [d1, d2, d3, d4] }
  | _ => none }
def FnDotCutWrongFalsely : Prop := fnDotCutRow.holds Try.pinned (OpenSpec.ofChange fnDotCutWrong)

/-- 'laws.FnDotIs': WHATEVER THE INPUT: true; the input reads as it did. -/
def fnDotIsSpec : ChangeSpec := { name := "fnDotIs", fn := fun _ => fun
  | [d1, d2, d3] => { results := [.lit (.bool true)], args := [d1, d2, d3] }
  | _ => none }
def fnDotIsRow : OpenClaim := { program := "ytbhallblmphlmaa", sum := "5fe4aa00727e41874486bf4215176ab5c788d9505dd26a5c92b66c43b8950ec6", func := "loop.example/lib-g01430/laws.FnDotIs", spec := "fnDotIs", inPlace := ["math.FMA"], apart := false }
def FnDotIsSaid : Prop := fnDotIsRow.holds Try.pinned (OpenSpec.ofChange fnDotIsSpec)

/-- ITS FALSE NEIGHBOUR: 'it returns false'. Refute it at one input. -/
def fnDotIsWrong : ChangeSpec := { name := "fnDotIs", fn := fun _ => fun
  | [d1, d2, d3] => { results := [.lit (.bool false)], args := [d1, d2, d3] }
  | _ => none }
def FnDotIsWrongFalsely : Prop := fnDotIsRow.holds Try.pinned (OpenSpec.ofChange fnDotIsWrong)

/-- 'laws.FnDotOpposite': WHATEVER THE INPUT: true; the input reads as it did. -/
def fnDotOppositeSpec : ChangeSpec := { name := "fnDotOpposite", fn := fun _ => fun
  | [d1, d2, d3] => { results := [.lit (.bool true)], args := [d1, d2, d3] }
  | _ => none }
def fnDotOppositeRow : OpenClaim := { program := "ytbhallblmphlmaa", sum := "5fe4aa00727e41874486bf4215176ab5c788d9505dd26a5c92b66c43b8950ec6", func := "loop.example/lib-g01430/laws.FnDotOpposite", spec := "fnDotOpposite", inPlace := ["math.FMA"], apart := false }
def FnDotOppositeSaid : Prop := fnDotOppositeRow.holds Try.pinned (OpenSpec.ofChange fnDotOppositeSpec)

/-- ITS FALSE NEIGHBOUR: 'it returns false'. Refute it at one input. -/
def fnDotOppositeWrong : ChangeSpec := { name := "fnDotOpposite", fn := fun _ => fun
  | [d1, d2, d3] => { results := [.lit (.bool false)], args := [d1, d2, d3] }
  | _ => none }
def FnDotOppositeWrongFalsely : Prop := fnDotOppositeRow.holds Try.pinned (OpenSpec.ofChange fnDotOppositeWrong)

/-- 'laws.FnDotSwap': WHATEVER THE INPUT: true; the input reads as it did. -/
def fnDotSwapSpec : ChangeSpec := { name := "fnDotSwap", fn := fun _ => fun
  | [d1, d2, d3] => { results := [.lit (.bool true)], args := [d1, d2, d3] }
  | _ => none }
def fnDotSwapRow : OpenClaim := { program := "ytbhallblmphlmaa", sum := "5fe4aa00727e41874486bf4215176ab5c788d9505dd26a5c92b66c43b8950ec6", func := "loop.example/lib-g01430/laws.FnDotSwap", spec := "fnDotSwap", inPlace := ["math.FMA"], apart := false }
def FnDotSwapSaid : Prop := fnDotSwapRow.holds Try.pinned (OpenSpec.ofChange fnDotSwapSpec)

/-- ITS FALSE NEIGHBOUR: 'it returns false'. Refute it at one input. -/
def fnDotSwapWrong : ChangeSpec := { name := "fnDotSwap", fn := fun _ => fun
  | [d1, d2, d3] => { results := [.lit (.bool false)], args := [d1, d2, d3] }
  | _ => none }
def FnDotSwapWrongFalsely : Prop := fnDotSwapRow.holds Try.pinned (OpenSpec.ofChange fnDotSwapWrong)

/-- 'laws.FnTailsCut': WHATEVER THE INPUT: true; the input reads as it did. -/
def fnTailsCutSpec : ChangeSpec := { name := "fnTailsCut", fn := fun _ => fun
  | [d1, d2, d3] => { results := [.lit (.bool true)], args := [d1, d2, d3] }
  | _ => none }
def fnTailsCutRow : OpenClaim := { program := "ytbhallblmphlmaa", sum := "5fe4aa00727e41874486bf4215176ab5c788d9505dd26a5c92b66c43b8950ec6", func := "loop.example/lib-g01430/laws.FnTailsCut", spec := "fnTailsCut", inPlace := ["math.FMA"], apart := false }
def FnTailsCutSaid : Prop := fnTailsCutRow.holds Try.pinned (OpenSpec.ofChange fnTailsCutSpec)

/-- ITS FALSE NEIGHBOUR: 'it returns false'. Refute it at one input. -/
def fnTailsCutWrong : ChangeSpec := { name := "fnTailsCut", fn := fun _ => fun
  | [d1, d2, d3] => { results := [.lit (.bool false)], args := [d1, d2, d3] }
  | _ => none }
def FnTailsCutWrongFalsely : Prop := fnTailsCutRow.holds Try.pinned (OpenSpec.ofChange fnTailsCutWrong)

/-- 'laws.FnTailsIs': WHATEVER THE INPUT: true; the input reads as it did. -/
def fnTailsIsSpec : ChangeSpec := { name := "fnTailsIs", fn := fun _ => fun
  | [d1, d2] => { results := [.lit (.bool true)], args := [d1, d2] }
  | _ => none }
def fnTailsIsRow : OpenClaim := { program := "ytbhallblmphlmaa", sum := "5fe4aa00727e41874486bf4215176ab5c788d9505dd26a5c92b66c43b8950ec6", func := "loop.example/lib-g01430/laws.FnTailsIs", spec := "fnTailsIs", inPlace := ["math.FMA"], apart := false }
def FnTailsIsSaid : Prop := fnTailsIsRow.holds Try.pinned (OpenSpec.ofChange fnTailsIsSpec)

/-- ITS FALSE NEIGHBOUR: 'it returns false'. Refute it at one input. -/
def fnTailsIsWrong : ChangeSpec := { name := "fnTailsIs", fn := fun _ => fun
  | [d1, d2] => { results := [.lit (.bool false)], args := [d1, d2] }
  | _ => none }
def FnTailsIsWrongFalsely : Prop := fnTailsIsRow.holds Try.pinned (OpenSpec.ofChange fnTailsIsWrong)

/-- 'laws.FnDotHorner': WHATEVER THE INPUT: true; the input reads as it did. -/
def fnDotHornerSpec : ChangeSpec := { name := "fnDotHorner", fn := fun _ => fun
  | [d1, d2, d3] => { results := [.lit (.bool true)], args := [d1, d2, d3] }
  | _ => none }
def fnDotHornerRow : OpenClaim := { program := "ytbhallblmphlmaa", sum := "5fe4aa00727e41874486bf4215176ab5c788d9505dd26a5c92b66c43b8950ec6", func := "loop.example/lib-g01430/laws.FnDotHorner", spec := "fnDotHorner", inPlace := ["math.FMA"], apart := false }
def FnDotHornerSaid : Prop := fnDotHornerRow.holds Try.pinned (OpenSpec.ofChange fnDotHornerSpec)

/-- ITS FALSE NEIGHBOUR: 'it returns false'. Refute it at one input. -/
def fnDotHornerWrong : ChangeSpec := { name := "fnDotHorner", fn := fun _ => fun
  | [d1, d2, d3] => { results := [.lit (.bool false)], args := [d1, d2, d3] }
  | _ => none }
def FnDotHornerWrongFalsely : Prop := fnDotHornerRow.holds Try.pinned (OpenSpec.ofChange fnDotHornerWrong)

/- THE SECOND FORM. 'bulk': how many values and letters a reading holds, each counted each time it is reached (what is shared counts as often as it is met; a slice's spare places count too). A statement '..UptoSaid' is the law's where the arguments, and the package variables that the reading takes, are together of bulk at most 1048576: NARROWER than '..Said'. Prove '..Said' where nothing that the law and all that it calls make is longer than what came in: it says more and counts as full. Else prove '..UptoSaid'. A law counts once. -/
mutual
def uptoBulk {H : Type} : DataW H → Nat
  | .lit (.string bytes) => bytes.length + 1
  | .lit _ => 1
  | .nil => 1
  | .ptr d => uptoBulk d + 1
  | .slice elems spare => uptoBulkAll elems + uptoBulkAll spare + 1
  | .agg parts => uptoBulkAll parts + 1
  | .iface _ d => uptoBulk d + 1
  | .map entries => uptoBulkEntries entries + 1
  | .held _ => 1
def uptoBulkAll {H : Type} : List (DataW H) → Nat
  | [] => 0
  | d :: r => uptoBulk d + uptoBulkAll r
def uptoBulkEntries {H : Type} : List (Lit × DataW H) → Nat
  | [] => 0
  | x :: r => uptoBulkEntry x + uptoBulkEntries r
def uptoBulkEntry {H : Type} : Lit × DataW H → Nat
  | (.string bytes, d) => bytes.length + uptoBulk d + 1
  | (_, d) => uptoBulk d + 1
 end
def uptoSmall : (H : Type) → List (DataW H) → Bool := fun _ ds => decide (uptoBulkAll ds ≤ 1048576)
def OpenSpec.upto (s : _root_.Go.ChangeSpec) : _root_.Go.OpenSpec := { _root_.Go.OpenSpec.ofChange s with cond := some uptoSmall }

/-- 'laws.FnHornerCut', WHERE WHAT IT READS IS OF BULK AT MOST 1048576: true; the input reads as it did. -/
def fnHornerCutUptoRow : OpenClaim := { program := "ytbhallblmphlmaa", sum := "5fe4aa00727e41874486bf4215176ab5c788d9505dd26a5c92b66c43b8950ec6", func := "loop.example/lib-g01430/laws.FnHornerCut", spec := "fnHornerCut", inPlace := ["math.FMA"], apart := false, narrowed := true }
def FnHornerCutUptoSaid : Prop := fnHornerCutUptoRow.holds Try.pinned (OpenSpec.upto fnHornerCutSpec)

/-- 'laws.FnHornerIs', WHERE WHAT IT READS IS OF BULK AT MOST 1048576: true; the input reads as it did. -/
def fnHornerIsUptoRow : OpenClaim := { program := "ytbhallblmphlmaa", sum := "5fe4aa00727e41874486bf4215176ab5c788d9505dd26a5c92b66c43b8950ec6", func := "loop.example/lib-g01430/laws.FnHornerIs", spec := "fnHornerIs", inPlace := ["math.FMA"], apart := false, narrowed := true }
def FnHornerIsUptoSaid : Prop := fnHornerIsUptoRow.holds Try.pinned (OpenSpec.upto fnHornerIsSpec)

/-- 'laws.FnHornerOnes', WHERE WHAT IT READS IS OF BULK AT MOST 1048576: true; the input reads as it did. -/
def fnHornerOnesUptoRow : OpenClaim := { program := "ytbhallblmphlmaa", sum := "5fe4aa00727e41874486bf4215176ab5c788d9505dd26a5c92b66c43b8950ec6", func := "loop.example/lib-g01430/laws.FnHornerOnes", spec := "fnHornerOnes", inPlace := ["math.FMA"], apart := false, narrowed := true }
def FnHornerOnesUptoSaid : Prop := fnHornerOnesUptoRow.holds Try.pinned (OpenSpec.upto fnHornerOnesSpec)

/-- 'laws.FnHornerOpposite', WHERE WHAT IT READS IS OF BULK AT MOST 1048576: true; the input reads as it did. -/
def fnHornerOppositeUptoRow : OpenClaim := { program := "ytbhallblmphlmaa", sum := "5fe4aa00727e41874486bf4215176ab5c788d9505dd26a5c92b66c43b8950ec6", func := "loop.example/lib-g01430/laws.FnHornerOpposite", spec := "fnHornerOpposite", inPlace := ["math.FMA"], apart := false, narrowed := true }
def FnHornerOppositeUptoSaid : Prop := fnHornerOppositeUptoRow.holds Try.pinned (OpenSpec.upto fnHornerOppositeSpec)

/-- 'laws.FnHornerWhole', WHERE WHAT IT READS IS OF BULK AT MOST 1048576: true; the input reads as it did. -/
def fnHornerWholeUptoRow : OpenClaim := { program := "ytbhallblmphlmaa", sum := "5fe4aa00727e41874486bf4215176ab5c788d9505dd26a5c92b66c43b8950ec6", func := "loop.example/lib-g01430/laws.FnHornerWhole", spec := "fnHornerWhole", inPlace := ["math.FMA"], apart := false, narrowed := true }
def FnHornerWholeUptoSaid : Prop := fnHornerWholeUptoRow.holds Try.pinned (OpenSpec.upto fnHornerWholeSpec)

/-- 'laws.FnDotCut', WHERE WHAT IT READS IS OF BULK AT MOST 1048576: true; the input reads as it did. -/
def fnDotCutUptoRow : OpenClaim := { program := "ytbhallblmphlmaa", sum := "5fe4aa00727e41874486bf4215176ab5c788d9505dd26a5c92b66c43b8950ec6", func := "loop.example/lib-g01430/laws.FnDotCut", spec := "fnDotCut", inPlace := ["math.FMA"], apart := false, narrowed := true }
def FnDotCutUptoSaid : Prop := fnDotCutUptoRow.holds Try.pinned (OpenSpec.upto fnDotCutSpec)

/-- 'laws.FnDotIs', WHERE WHAT IT READS IS OF BULK AT MOST 1048576: true; the input reads as it did. -/
def fnDotIsUptoRow : OpenClaim := { program := "ytbhallblmphlmaa", sum := "5fe4aa00727e41874486bf4215176ab5c788d9505dd26a5c92b66c43b8950ec6", func := "loop.example/lib-g01430/laws.FnDotIs", spec := "fnDotIs", inPlace := ["math.FMA"], apart := false, narrowed := true }
def FnDotIsUptoSaid : Prop := fnDotIsUptoRow.holds Try.pinned (OpenSpec.upto fnDotIsSpec)

/-- 'laws.FnDotOpposite', WHERE WHAT IT READS IS OF BULK AT MOST 1048576: true; the input reads as it did. -/
def fnDotOppositeUptoRow : OpenClaim := { program := "ytbhallblmphlmaa", sum := "5fe4aa00727e41874486bf4215176ab5c788d9505dd26a5c92b66c43b8950ec6", func := "loop.example/lib-g01430/laws.FnDotOpposite", spec := "fnDotOpposite", inPlace := ["math.FMA"], apart := false, narrowed := true }
def FnDotOppositeUptoSaid : Prop := fnDotOppositeUptoRow.holds Try.pinned (OpenSpec.upto fnDotOppositeSpec)

/-- 'laws.FnDotSwap', WHERE WHAT IT READS IS OF BULK AT MOST 1048576: true; the input reads as it did. -/
def fnDotSwapUptoRow : OpenClaim := { program := "ytbhallblmphlmaa", sum := "5fe4aa00727e41874486bf4215176ab5c788d9505dd26a5c92b66c43b8950ec6", func := "loop.example/lib-g01430/laws.FnDotSwap", spec := "fnDotSwap", inPlace := ["math.FMA"], apart := false, narrowed := true }
def FnDotSwapUptoSaid : Prop := fnDotSwapUptoRow.holds Try.pinned (OpenSpec.upto fnDotSwapSpec)

/-- 'laws.FnTailsCut', WHERE WHAT IT READS IS OF BULK AT MOST 1048576: true; the input reads as it did. -/
def fnTailsCutUptoRow : OpenClaim := { program := "ytbhallblmphlmaa", sum := "5fe4aa00727e41874486bf4215176ab5c788d9505dd26a5c92b66c43b8950ec6", func := "loop.example/lib-g01430/laws.FnTailsCut", spec := "fnTailsCut", inPlace := ["math.FMA"], apart := false, narrowed := true }
def FnTailsCutUptoSaid : Prop := fnTailsCutUptoRow.holds Try.pinned (OpenSpec.upto fnTailsCutSpec)

/-- 'laws.FnTailsIs', WHERE WHAT IT READS IS OF BULK AT MOST 1048576: true; the input reads as it did. -/
def fnTailsIsUptoRow : OpenClaim := { program := "ytbhallblmphlmaa", sum := "5fe4aa00727e41874486bf4215176ab5c788d9505dd26a5c92b66c43b8950ec6", func := "loop.example/lib-g01430/laws.FnTailsIs", spec := "fnTailsIs", inPlace := ["math.FMA"], apart := false, narrowed := true }
def FnTailsIsUptoSaid : Prop := fnTailsIsUptoRow.holds Try.pinned (OpenSpec.upto fnTailsIsSpec)

/-- 'laws.FnDotHorner', WHERE WHAT IT READS IS OF BULK AT MOST 1048576: true; the input reads as it did. -/
def fnDotHornerUptoRow : OpenClaim := { program := "ytbhallblmphlmaa", sum := "5fe4aa00727e41874486bf4215176ab5c788d9505dd26a5c92b66c43b8950ec6", func := "loop.example/lib-g01430/laws.FnDotHorner", spec := "fnDotHorner", inPlace := ["math.FMA"], apart := false, narrowed := true }
def FnDotHornerUptoSaid : Prop := fnDotHornerUptoRow.holds Try.pinned (OpenSpec.upto fnDotHornerSpec)

end Rows
end Go.Proofs.Ytbhallblmphlmaa

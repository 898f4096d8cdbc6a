/-
  No cell of these rows narrows 'for every input' (looked for: loops, veiled, ifaces, maps, wideKeys, modest, calm, conditions, laid).
  DERIVED. THE GIVEN ROWS OF THIS SEAT. 10 by the template 'for every input the law returns true; each argument reads behind the call as it read before'; 0 by the template 'total and deterministic' (their statements: YtmhdjhfkndfhmaaTotals.lean).
  GIVEN WITH THE SEED: the statements are not yours to turn. If you find one false, say at which input.
  Laid BY PROGRAM, IN A SANDBOX (cutbox-rows.mjs): the forced cells as the released guide's own fill.sh prints them over the translation 76c00b4e026d9ebb… (all of the seat's roots in one cut). By AI agents, Wed Nov 11 2026. No macro, syntax, notation, axiom, sorry.
-/
import Derived.Test.YtmhdjhfkndfhmaaChecked
import GoSem.Claim
import GoSem.ClaimJoined
import GoSem.ClaimMapViews
import Derived.JoinedTies
import Derived.KernelRfl
namespace Go.Proofs.Ytmhdjhfkndfhmaa
/- THE CELL 'sum', in the pinned program and in every row, IS THE sha256 OF THE DUMP (.gsa) THAT YtmhdjhfkndfhmaaProg.lean LOADS. Nothing in Lean hashes anything: it is a label: what it is worth is what the hold of that sum in a sandbox is worth. -/
noncomputable def Try.pinned : Pinned := { name := "ytmhdjhfkndfhmaa", sum := "76c00b4e026d9ebb2861d4e94c260271afe54d07293303650f766045287f46b7", checked := Try.checked }
namespace Rows
def none {H : Type} : Left H := { results := [], args := [] }

/-- 'laws.FnNearestHalves': WHATEVER THE INPUT: true; the input reads as it did. -/
def fnNearestHalvesSpec : ChangeSpec := { name := "fnNearestHalves", fn := fun _ => fun
  | [d1, d2] => { results := [.lit (.bool true)], args := [d1, d2] }
  | _ => none }
def fnNearestHalvesRow : OpenClaim := { program := "ytmhdjhfkndfhmaa", sum := "76c00b4e026d9ebb2861d4e94c260271afe54d07293303650f766045287f46b7", func := "loop.example/lib-g01430/laws.FnNearestHalves", spec := "fnNearestHalves", inPlace := ["math.Float64bits", "math.Float64frombits"], apart := false }
def FnNearestHalvesSaid : Prop := fnNearestHalvesRow.holds Try.pinned (OpenSpec.ofChange fnNearestHalvesSpec)

/-- ITS FALSE NEIGHBOUR: 'it returns false'. Refute it at one input. -/
def fnNearestHalvesWrong : ChangeSpec := { name := "fnNearestHalves", fn := fun _ => fun
  | [d1, d2] => { results := [.lit (.bool false)], args := [d1, d2] }
  | _ => none }
def FnNearestHalvesWrongFalsely : Prop := fnNearestHalvesRow.holds Try.pinned (OpenSpec.ofChange fnNearestHalvesWrong)

/-- 'laws.FnNearestIs': WHATEVER THE INPUT: true; the input reads as it did. -/
def fnNearestIsSpec : ChangeSpec := { name := "fnNearestIs", fn := fun _ => fun
  | [d1, d2] => { results := [.lit (.bool true)], args := [d1, d2] }
  | _ => none }
def fnNearestIsRow : OpenClaim := { program := "ytmhdjhfkndfhmaa", sum := "76c00b4e026d9ebb2861d4e94c260271afe54d07293303650f766045287f46b7", func := "loop.example/lib-g01430/laws.FnNearestIs", spec := "fnNearestIs", inPlace := ["math.Float64bits", "math.Float64frombits"], apart := false }
def FnNearestIsSaid : Prop := fnNearestIsRow.holds Try.pinned (OpenSpec.ofChange fnNearestIsSpec)

/-- ITS FALSE NEIGHBOUR: 'it returns false'. Refute it at one input. -/
def fnNearestIsWrong : ChangeSpec := { name := "fnNearestIs", fn := fun _ => fun
  | [d1, d2] => { results := [.lit (.bool false)], args := [d1, d2] }
  | _ => none }
def FnNearestIsWrongFalsely : Prop := fnNearestIsRow.holds Try.pinned (OpenSpec.ofChange fnNearestIsWrong)

/-- 'laws.FnEuclidDivides': WHATEVER THE INPUT: true; the input reads as it did. -/
def fnEuclidDividesSpec : ChangeSpec := { name := "fnEuclidDivides", fn := fun _ => fun
  | [d1, d2] => { results := [.lit (.bool true)], args := [d1, d2] }
  | _ => none }
def fnEuclidDividesRow : OpenClaim := { program := "ytmhdjhfkndfhmaa", sum := "76c00b4e026d9ebb2861d4e94c260271afe54d07293303650f766045287f46b7", func := "loop.example/lib-g01430/laws.FnEuclidDivides", spec := "fnEuclidDivides", inPlace := ["math.Float64bits", "math.Float64frombits"], apart := false }
def FnEuclidDividesSaid : Prop := fnEuclidDividesRow.holds Try.pinned (OpenSpec.ofChange fnEuclidDividesSpec)

/-- ITS FALSE NEIGHBOUR: 'it returns false'. Refute it at one input. -/
def fnEuclidDividesWrong : ChangeSpec := { name := "fnEuclidDivides", fn := fun _ => fun
  | [d1, d2] => { results := [.lit (.bool false)], args := [d1, d2] }
  | _ => none }
def FnEuclidDividesWrongFalsely : Prop := fnEuclidDividesRow.holds Try.pinned (OpenSpec.ofChange fnEuclidDividesWrong)

/-- 'laws.FnEuclidWhole': WHATEVER THE INPUT: true; the input reads as it did. -/
def fnEuclidWholeSpec : ChangeSpec := { name := "fnEuclidWhole", fn := fun _ => fun
  | [d1, d2] => { results := [.lit (.bool true)], args := [d1, d2] }
  | _ => none }
def fnEuclidWholeRow : OpenClaim := { program := "ytmhdjhfkndfhmaa", sum := "76c00b4e026d9ebb2861d4e94c260271afe54d07293303650f766045287f46b7", func := "loop.example/lib-g01430/laws.FnEuclidWhole", spec := "fnEuclidWhole", inPlace := ["math.Float64bits", "math.Float64frombits"], apart := false }
def FnEuclidWholeSaid : Prop := fnEuclidWholeRow.holds Try.pinned (OpenSpec.ofChange fnEuclidWholeSpec)

/-- ITS FALSE NEIGHBOUR: 'it returns false'. Refute it at one input. -/
def fnEuclidWholeWrong : ChangeSpec := { name := "fnEuclidWhole", fn := fun _ => fun
  | [d1, d2] => { results := [.lit (.bool false)], args := [d1, d2] }
  | _ => none }
def FnEuclidWholeWrongFalsely : Prop := fnEuclidWholeRow.holds Try.pinned (OpenSpec.ofChange fnEuclidWholeWrong)

/-- 'laws.FnNearestDivisor': WHATEVER THE INPUT: true; the input reads as it did. -/
def fnNearestDivisorSpec : ChangeSpec := { name := "fnNearestDivisor", fn := fun _ => fun
  | [d1, d2] => { results := [.lit (.bool true)], args := [d1, d2] }
  | _ => none }
def fnNearestDivisorRow : OpenClaim := { program := "ytmhdjhfkndfhmaa", sum := "76c00b4e026d9ebb2861d4e94c260271afe54d07293303650f766045287f46b7", func := "loop.example/lib-g01430/laws.FnNearestDivisor", spec := "fnNearestDivisor", inPlace := ["math.Float64bits", "math.Float64frombits"], apart := false }
def FnNearestDivisorSaid : Prop := fnNearestDivisorRow.holds Try.pinned (OpenSpec.ofChange fnNearestDivisorSpec)

/-- ITS FALSE NEIGHBOUR: 'it returns false'. Refute it at one input. -/
def fnNearestDivisorWrong : ChangeSpec := { name := "fnNearestDivisor", fn := fun _ => fun
  | [d1, d2] => { results := [.lit (.bool false)], args := [d1, d2] }
  | _ => none }
def FnNearestDivisorWrongFalsely : Prop := fnNearestDivisorRow.holds Try.pinned (OpenSpec.ofChange fnNearestDivisorWrong)

/-- 'laws.FnNearestOpposite': WHATEVER THE INPUT: true; the input reads as it did. -/
def fnNearestOppositeSpec : ChangeSpec := { name := "fnNearestOpposite", fn := fun _ => fun
  | [d1, d2] => { results := [.lit (.bool true)], args := [d1, d2] }
  | _ => none }
def fnNearestOppositeRow : OpenClaim := { program := "ytmhdjhfkndfhmaa", sum := "76c00b4e026d9ebb2861d4e94c260271afe54d07293303650f766045287f46b7", func := "loop.example/lib-g01430/laws.FnNearestOpposite", spec := "fnNearestOpposite", inPlace := ["math.Float64bits", "math.Float64frombits"], apart := false }
def FnNearestOppositeSaid : Prop := fnNearestOppositeRow.holds Try.pinned (OpenSpec.ofChange fnNearestOppositeSpec)

/-- ITS FALSE NEIGHBOUR: 'it returns false'. Refute it at one input. -/
def fnNearestOppositeWrong : ChangeSpec := { name := "fnNearestOpposite", fn := fun _ => fun
  | [d1, d2] => { results := [.lit (.bool false)], args := [d1, d2] }
  | _ => none }
def FnNearestOppositeWrongFalsely : Prop := fnNearestOppositeRow.holds Try.pinned (OpenSpec.ofChange fnNearestOppositeWrong)

/-- 'laws.FnNearestShorter': WHATEVER THE INPUT: true; the input reads as it did. -/
def fnNearestShorterSpec : ChangeSpec := { name := "fnNearestShorter", fn := fun _ => fun
  | [d1, d2] => { results := [.lit (.bool true)], args := [d1, d2] }
  | _ => none }
def fnNearestShorterRow : OpenClaim := { program := "ytmhdjhfkndfhmaa", sum := "76c00b4e026d9ebb2861d4e94c260271afe54d07293303650f766045287f46b7", func := "loop.example/lib-g01430/laws.FnNearestShorter", spec := "fnNearestShorter", inPlace := ["math.Float64bits", "math.Float64frombits"], apart := false }
def FnNearestShorterSaid : Prop := fnNearestShorterRow.holds Try.pinned (OpenSpec.ofChange fnNearestShorterSpec)

/-- ITS FALSE NEIGHBOUR: 'it returns false'. Refute it at one input. -/
def fnNearestShorterWrong : ChangeSpec := { name := "fnNearestShorter", fn := fun _ => fun
  | [d1, d2] => { results := [.lit (.bool false)], args := [d1, d2] }
  | _ => none }
def FnNearestShorterWrongFalsely : Prop := fnNearestShorterRow.holds Try.pinned (OpenSpec.ofChange fnNearestShorterWrong)

/-- 'laws.FnEuclidScaled': WHATEVER THE INPUT: true; the input reads as it did. -/
def fnEuclidScaledSpec : ChangeSpec := { name := "fnEuclidScaled", fn := fun _ => fun
  | [d1, d2, d3] => { results := [.lit (.bool true)], args := [d1, d2, d3] }
  | _ => none }
def fnEuclidScaledRow : OpenClaim := { program := "ytmhdjhfkndfhmaa", sum := "76c00b4e026d9ebb2861d4e94c260271afe54d07293303650f766045287f46b7", func := "loop.example/lib-g01430/laws.FnEuclidScaled", spec := "fnEuclidScaled", inPlace := ["math.Float64bits", "math.Float64frombits"], apart := false }
def FnEuclidScaledSaid : Prop := fnEuclidScaledRow.holds Try.pinned (OpenSpec.ofChange fnEuclidScaledSpec)

/-- ITS FALSE NEIGHBOUR: 'it returns false'. Refute it at one input. -/
def fnEuclidScaledWrong : ChangeSpec := { name := "fnEuclidScaled", fn := fun _ => fun
  | [d1, d2, d3] => { results := [.lit (.bool false)], args := [d1, d2, d3] }
  | _ => none }
def FnEuclidScaledWrongFalsely : Prop := fnEuclidScaledRow.holds Try.pinned (OpenSpec.ofChange fnEuclidScaledWrong)

/-- 'laws.FnTailsHalf': WHATEVER THE INPUT: true; the input reads as it did. -/
def fnTailsHalfSpec : ChangeSpec := { name := "fnTailsHalf", fn := fun _ => fun
  | [d1, d2] => { results := [.lit (.bool true)], args := [d1, d2] }
  | _ => none }
def fnTailsHalfRow : OpenClaim := { program := "ytmhdjhfkndfhmaa", sum := "76c00b4e026d9ebb2861d4e94c260271afe54d07293303650f766045287f46b7", func := "loop.example/lib-g01430/laws.FnTailsHalf", spec := "fnTailsHalf", inPlace := ["math.FMA", "math.Float64frombits", "math.Float64bits"], apart := false }
def FnTailsHalfSaid : Prop := fnTailsHalfRow.holds Try.pinned (OpenSpec.ofChange fnTailsHalfSpec)

/-- ITS FALSE NEIGHBOUR: 'it returns false'. Refute it at one input. -/
def fnTailsHalfWrong : ChangeSpec := { name := "fnTailsHalf", fn := fun _ => fun
  | [d1, d2] => { results := [.lit (.bool false)], args := [d1, d2] }
  | _ => none }
def FnTailsHalfWrongFalsely : Prop := fnTailsHalfRow.holds Try.pinned (OpenSpec.ofChange fnTailsHalfWrong)

/-- 'laws.FnTailsPowers': WHATEVER THE INPUT: true; the input reads as it did. -/
def fnTailsPowersSpec : ChangeSpec := { name := "fnTailsPowers", fn := fun _ => fun
  | [d1, d2] => { results := [.lit (.bool true)], args := [d1, d2] }
  | _ => none }
def fnTailsPowersRow : OpenClaim := { program := "ytmhdjhfkndfhmaa", sum := "76c00b4e026d9ebb2861d4e94c260271afe54d07293303650f766045287f46b7", func := "loop.example/lib-g01430/laws.FnTailsPowers", spec := "fnTailsPowers", inPlace := ["math.Float64bits", "math.Float64frombits", "math.FMA"], apart := false }
def FnTailsPowersSaid : Prop := fnTailsPowersRow.holds Try.pinned (OpenSpec.ofChange fnTailsPowersSpec)

/-- ITS FALSE NEIGHBOUR: 'it returns false'. Refute it at one input. -/
def fnTailsPowersWrong : ChangeSpec := { name := "fnTailsPowers", fn := fun _ => fun
  | [d1, d2] => { results := [.lit (.bool false)], args := [d1, d2] }
  | _ => none }
def FnTailsPowersWrongFalsely : Prop := fnTailsPowersRow.holds Try.pinned (OpenSpec.ofChange fnTailsPowersWrong)

/- THE SECOND FORM. 'bulk': how many values and letters a reading holds, each counted each time it is reached (what is shared counts as often as it is met; a slice's spare places count too). A statement '..UptoSaid' is the law's where the arguments, and the package variables that the reading takes, are together of bulk at most 1048576: NARROWER than '..Said'. Prove '..Said' where nothing that the law and all that it calls make is longer than what came in: it says more and counts as full. Else prove '..UptoSaid'. A law counts once. -/
mutual
def uptoBulk {H : Type} : DataW H → Nat
  | .lit (.string bytes) => bytes.length + 1
  | .lit _ => 1
  | .nil => 1
  | .ptr d => uptoBulk d + 1
  | .slice elems spare => uptoBulkAll elems + uptoBulkAll spare + 1
  | .agg parts => uptoBulkAll parts + 1
  | .iface _ d => uptoBulk d + 1
  | .map entries => uptoBulkEntries entries + 1
  | .held _ => 1
def uptoBulkAll {H : Type} : List (DataW H) → Nat
  | [] => 0
  | d :: r => uptoBulk d + uptoBulkAll r
def uptoBulkEntries {H : Type} : List (Lit × DataW H) → Nat
  | [] => 0
  | x :: r => uptoBulkEntry x + uptoBulkEntries r
def uptoBulkEntry {H : Type} : Lit × DataW H → Nat
  | (.string bytes, d) => bytes.length + uptoBulk d + 1
  | (_, d) => uptoBulk d + 1
 end
def uptoSmall : (H : Type) → List (DataW H) → Bool := fun _ ds => decide (uptoBulkAll ds ≤ 1048576)
def OpenSpec.upto (s : _root_.Go.ChangeSpec) : _root_.Go.OpenSpec := { _root_.Go.OpenSpec.ofChange s with cond := some uptoSmall }

/-- 'laws.FnNearestHalves', WHERE WHAT IT READS IS OF BULK AT MOST 1048576: true; the input reads as it did. -/
def fnNearestHalvesUptoRow : OpenClaim := { program := "ytmhdjhfkndfhmaa", sum := "76c00b4e026d9ebb2861d4e94c260271afe54d07293303650f766045287f46b7", func := "loop.example/lib-g01430/laws.FnNearestHalves", spec := "fnNearestHalves", inPlace := ["math.Float64bits", "math.Float64frombits"], apart := false, narrowed := true }
def FnNearestHalvesUptoSaid : Prop := fnNearestHalvesUptoRow.holds Try.pinned (OpenSpec.upto fnNearestHalvesSpec)

/-- 'laws.FnNearestIs', WHERE WHAT IT READS IS OF BULK AT MOST 1048576: true; the input reads as it did. -/
def fnNearestIsUptoRow : OpenClaim := { program := "ytmhdjhfkndfhmaa", sum := "76c00b4e026d9ebb2861d4e94c260271afe54d07293303650f766045287f46b7", func := "loop.example/lib-g01430/laws.FnNearestIs", spec := "fnNearestIs", inPlace := ["math.Float64bits", "math.Float64frombits"], apart := false, narrowed := true }
def FnNearestIsUptoSaid : Prop := fnNearestIsUptoRow.holds Try.pinned (OpenSpec.upto fnNearestIsSpec)

/-- 'laws.FnEuclidDivides', WHERE WHAT IT READS IS OF BULK AT MOST 1048576: true; the input reads as it did. -/
def fnEuclidDividesUptoRow : OpenClaim := { program := "ytmhdjhfkndfhmaa", sum := "76c00b4e026d9ebb2861d4e94c260271afe54d07293303650f766045287f46b7", func := "loop.example/lib-g01430/laws.FnEuclidDivides", spec := "fnEuclidDivides", inPlace := ["math.Float64bits", "math.Float64frombits"], apart := false, narrowed := true }
def FnEuclidDividesUptoSaid : Prop := fnEuclidDividesUptoRow.holds Try.pinned (OpenSpec.upto fnEuclidDividesSpec)

/-- 'laws.FnEuclidWhole', WHERE WHAT IT READS IS OF BULK AT MOST 1048576: true; the input reads as it did. -/
def fnEuclidWholeUptoRow : OpenClaim := { program := "ytmhdjhfkndfhmaa", sum := "76c00b4e026d9ebb2861d4e94c260271afe54d07293303650f766045287f46b7", func := "loop.example/lib-g01430/laws.FnEuclidWhole", spec := "fnEuclidWhole", inPlace := ["math.Float64bits", "math.Float64frombits"], apart := false, narrowed := true }
def FnEuclidWholeUptoSaid : Prop := fnEuclidWholeUptoRow.holds Try.pinned (OpenSpec.upto fnEuclidWholeSpec)

/-- 'laws.FnNearestDivisor', WHERE WHAT IT READS IS OF BULK AT MOST 1048576: true; the input reads as it did. -/
def fnNearestDivisorUptoRow : OpenClaim := { program := "ytmhdjhfkndfhmaa", sum := "76c00b4e026d9ebb2861d4e94c260271afe54d07293303650f766045287f46b7", func := "loop.example/lib-g01430/laws.FnNearestDivisor", spec := "fnNearestDivisor", inPlace := ["math.Float64bits", "math.Float64frombits"], apart := false, narrowed := true }
def FnNearestDivisorUptoSaid : Prop := fnNearestDivisorUptoRow.holds Try.pinned (OpenSpec.upto fnNearestDivisorSpec)

/-- 'laws.FnNearestOpposite', WHERE WHAT IT READS IS OF BULK AT MOST 1048576: true; the input reads as it did. -/
def fnNearestOppositeUptoRow : OpenClaim := { program := "ytmhdjhfkndfhmaa", sum := "76c00b4e026d9ebb2861d4e94c260271afe54d07293303650f766045287f46b7", func := "loop.example/lib-g01430/laws.FnNearestOpposite", spec := "fnNearestOpposite", inPlace := ["math.Float64bits", "math.Float64frombits"], apart := false, narrowed := true }
def FnNearestOppositeUptoSaid : Prop := fnNearestOppositeUptoRow.holds Try.pinned (OpenSpec.upto fnNearestOppositeSpec)

/-- 'laws.FnNearestShorter', WHERE WHAT IT READS IS OF BULK AT MOST 1048576: true; the input reads as it did. -/
def fnNearestShorterUptoRow : OpenClaim := { program := "ytmhdjhfkndfhmaa", sum := "76c00b4e026d9ebb2861d4e94c260271afe54d07293303650f766045287f46b7", func := "loop.example/lib-g01430/laws.FnNearestShorter", spec := "fnNearestShorter", inPlace := ["math.Float64bits", "math.Float64frombits"], apart := false, narrowed := true }
def FnNearestShorterUptoSaid : Prop := fnNearestShorterUptoRow.holds Try.pinned (OpenSpec.upto fnNearestShorterSpec)

/-- 'laws.FnEuclidScaled', WHERE WHAT IT READS IS OF BULK AT MOST 1048576: true; the input reads as it did. -/
def fnEuclidScaledUptoRow : OpenClaim := { program := "ytmhdjhfkndfhmaa", sum := "76c00b4e026d9ebb2861d4e94c260271afe54d07293303650f766045287f46b7", func := "loop.example/lib-g01430/laws.FnEuclidScaled", spec := "fnEuclidScaled", inPlace := ["math.Float64bits", "math.Float64frombits"], apart := false, narrowed := true }
def FnEuclidScaledUptoSaid : Prop := fnEuclidScaledUptoRow.holds Try.pinned (OpenSpec.upto fnEuclidScaledSpec)

/-- 'laws.FnTailsHalf', WHERE WHAT IT READS IS OF BULK AT MOST 1048576: true; the input reads as it did. -/
def fnTailsHalfUptoRow : OpenClaim := { program := "ytmhdjhfkndfhmaa", sum := "76c00b4e026d9ebb2861d4e94c260271afe54d07293303650f766045287f46b7", func := "loop.example/lib-g01430/laws.FnTailsHalf", spec := "fnTailsHalf", inPlace := ["math.FMA", "math.Float64frombits", "math.Float64bits"], apart := false, narrowed := true }
def FnTailsHalfUptoSaid : Prop := fnTailsHalfUptoRow.holds Try.pinned (OpenSpec.upto fnTailsHalfSpec)

/-- 'laws.FnTailsPowers', WHERE WHAT IT READS IS OF BULK AT MOST 1048576: true; the input reads as it did. -/
def fnTailsPowersUptoRow : OpenClaim := { program := "ytmhdjhfkndfhmaa", sum := "76c00b4e026d9ebb2861d4e94c260271afe54d07293303650f766045287f46b7", func := "loop.example/lib-g01430/laws.FnTailsPowers", spec := "fnTailsPowers", inPlace := ["math.Float64bits", "math.Float64frombits", "math.FMA"], apart := false, narrowed := true }
def FnTailsPowersUptoSaid : Prop := fnTailsPowersUptoRow.holds Try.pinned (OpenSpec.upto fnTailsPowersSpec)

end Rows
end Go.Proofs.Ytmhdjhfkndfhmaa

/-
  No cell of these rows narrows 'for every input' (looked for: loops, veiled, ifaces, maps, wideKeys, modest, calm, conditions, laid).
  DERIVED. THE GIVEN ROWS OF THIS SEAT. 12 by the template 'for every input the law returns true; each argument reads behind the call as it read before'; 0 by the template 'total and deterministic' (their statements: YtlpcpoganlmiaaaTotals.lean).
  GIVEN WITH THE SEED: the statements are not yours to turn. If you find one false, say at which input.
  Laid BY PROGRAM, IN A SANDBOX (cutbox-rows.mjs): the forced cells as the released guide's own fill.sh prints them over the translation ddd59ed49ecf73ec… (all of the seat's roots in one cut). By AI agents, Wed Nov 11 2026. No macro, syntax, notation, axiom, sorry.
-/
import Derived.Test.YtlpcpoganlmiaaaChecked
import GoSem.Claim
import GoSem.ClaimJoined
import GoSem.ClaimMapViews
import Derived.JoinedTies
import Derived.KernelRfl
namespace Go.Proofs.Ytlpcpoganlmiaaa
/- THE CELL 'sum', in the pinned program and in every row, IS THE sha256 OF THE DUMP (.gsa) THAT YtlpcpoganlmiaaaProg.lean LOADS. Nothing in Lean hashes anything: it is a label: what it is worth is what the hold of that sum in a sandbox is worth. -/
noncomputable def Try.pinned : Pinned := { name := "ytlpcpoganlmiaaa", sum := "ddd59ed49ecf73ec4e6be38ac384e24a8ad4afc2cdcc8248da902e79e4d1caa6", checked := Try.checked }
namespace Rows
def none {H : Type} : Left H := { results := [], args := [] }

/-- 'laws.FnPathSmall': WHATEVER THE INPUT: true; the input reads as it did. -/
def fnPathSmallSpec : ChangeSpec := { name := "fnPathSmall", fn := fun _ => fun
  | [d] => { results := [.lit (.bool true)], args := [d] }
  | _ => none }
def fnPathSmallRow : OpenClaim := { program := "ytlpcpoganlmiaaa", sum := "ddd59ed49ecf73ec4e6be38ac384e24a8ad4afc2cdcc8248da902e79e4d1caa6", func := "loop.example/lib-g01430/laws.FnPathSmall", spec := "fnPathSmall", inPlace := ["math.Float64frombits", "math.Float64bits"], apart := false }
def FnPathSmallSaid : Prop := fnPathSmallRow.holds Try.pinned (OpenSpec.ofChange fnPathSmallSpec)

/-- ITS FALSE NEIGHBOUR: 'it returns false'. Refute it at one input. -/
def fnPathSmallWrong : ChangeSpec := { name := "fnPathSmall", fn := fun _ => fun
  | [d] => { results := [.lit (.bool false)], args := [d] }
  | _ => none }
def FnPathSmallWrongFalsely : Prop := fnPathSmallRow.holds Try.pinned (OpenSpec.ofChange fnPathSmallWrong)

/-- 'laws.FnPathScaled': WHATEVER THE INPUT: true; the input reads as it did. -/
def fnPathScaledSpec : ChangeSpec := { name := "fnPathScaled", fn := fun _ => fun
  | [d1, d2, d3, d4] => { results := [.lit (.bool true)], args := [d1, d2, d3, d4] }
  | _ => none }
def fnPathScaledRow : OpenClaim := { program := "ytlpcpoganlmiaaa", sum := "ddd59ed49ecf73ec4e6be38ac384e24a8ad4afc2cdcc8248da902e79e4d1caa6", func := "loop.example/lib-g01430/laws.FnPathScaled", spec := "fnPathScaled", inPlace := ["math.Float64frombits", "math.Float64bits"], apart := false }
def FnPathScaledSaid : Prop := fnPathScaledRow.holds Try.pinned (OpenSpec.ofChange fnPathScaledSpec)

/-- ITS FALSE NEIGHBOUR: 'it returns false'. Refute it at one input. -/
def fnPathScaledWrong : ChangeSpec := { name := "fnPathScaled", fn := fun _ => fun
  | [d1, d2, d3, d4] => { results := [.lit (.bool false)], args := [d1, d2, d3, d4] }
  | _ => none }
def FnPathScaledWrongFalsely : Prop := fnPathScaledRow.holds Try.pinned (OpenSpec.ofChange fnPathScaledWrong)

/-- 'laws.FnHornerBits': WHATEVER THE INPUT: true; the input reads as it did. -/
def fnHornerBitsSpec : ChangeSpec := { name := "fnHornerBits", fn := fun _ => fun
  | [d] => { results := [.lit (.bool true)], args := [d] }
  | _ => none }
def fnHornerBitsRow : OpenClaim := { program := "ytlpcpoganlmiaaa", sum := "ddd59ed49ecf73ec4e6be38ac384e24a8ad4afc2cdcc8248da902e79e4d1caa6", func := "loop.example/lib-g01430/laws.FnHornerBits", spec := "fnHornerBits", inPlace := ["math.Float64bits", "math.Float64frombits", "math.archTrunc", "math.FMA"], apart := false }
def FnHornerBitsSaid : Prop := fnHornerBitsRow.holds Try.pinned (OpenSpec.ofChange fnHornerBitsSpec)

/-- ITS FALSE NEIGHBOUR: 'it returns false'. Refute it at one input. -/
def fnHornerBitsWrong : ChangeSpec := { name := "fnHornerBits", fn := fun _ => fun
  | [d] => { results := [.lit (.bool false)], args := [d] }
  | _ => none }
def FnHornerBitsWrongFalsely : Prop := fnHornerBitsRow.holds Try.pinned (OpenSpec.ofChange fnHornerBitsWrong)

/-- 'laws.FnExactPowers': WHATEVER THE INPUT: true; the input reads as it did. -/
def fnExactPowersSpec : ChangeSpec := { name := "fnExactPowers", fn := fun _ => fun
  | [d] => { results := [.lit (.bool true)], args := [d] }
  | _ => none }
def fnExactPowersRow : OpenClaim := { program := "ytlpcpoganlmiaaa", sum := "ddd59ed49ecf73ec4e6be38ac384e24a8ad4afc2cdcc8248da902e79e4d1caa6", func := "loop.example/lib-g01430/laws.FnExactPowers", spec := "fnExactPowers", inPlace := ["math.Float64bits", "math.Float64frombits"], apart := false }
def FnExactPowersSaid : Prop := fnExactPowersRow.holds Try.pinned (OpenSpec.ofChange fnExactPowersSpec)

/-- ITS FALSE NEIGHBOUR: 'it returns false'. Refute it at one input. -/
def fnExactPowersWrong : ChangeSpec := { name := "fnExactPowers", fn := fun _ => fun
  | [d] => { results := [.lit (.bool false)], args := [d] }
  | _ => none }
def FnExactPowersWrongFalsely : Prop := fnExactPowersRow.holds Try.pinned (OpenSpec.ofChange fnExactPowersWrong)

/-- 'laws.FnPowersFall': WHATEVER THE INPUT: true; the input reads as it did. -/
def fnPowersFallSpec : ChangeSpec := { name := "fnPowersFall", fn := fun _ => fun
  | [d] => { results := [.lit (.bool true)], args := [d] }
  | _ => none }
def fnPowersFallRow : OpenClaim := { program := "ytlpcpoganlmiaaa", sum := "ddd59ed49ecf73ec4e6be38ac384e24a8ad4afc2cdcc8248da902e79e4d1caa6", func := "loop.example/lib-g01430/laws.FnPowersFall", spec := "fnPowersFall", inPlace := ["math.Float64bits", "math.Float64frombits"], apart := false }
def FnPowersFallSaid : Prop := fnPowersFallRow.holds Try.pinned (OpenSpec.ofChange fnPowersFallSpec)

/-- ITS FALSE NEIGHBOUR: 'it returns false'. Refute it at one input. -/
def fnPowersFallWrong : ChangeSpec := { name := "fnPowersFall", fn := fun _ => fun
  | [d] => { results := [.lit (.bool false)], args := [d] }
  | _ => none }
def FnPowersFallWrongFalsely : Prop := fnPowersFallRow.holds Try.pinned (OpenSpec.ofChange fnPowersFallWrong)

/-- 'laws.FnPowersOne': WHATEVER THE INPUT: true; the input reads as it did. -/
def fnPowersOneSpec : ChangeSpec := { name := "fnPowersOne", fn := fun _ => fun
  | [d] => { results := [.lit (.bool true)], args := [d] }
  | _ => none }
def fnPowersOneRow : OpenClaim := { program := "ytlpcpoganlmiaaa", sum := "ddd59ed49ecf73ec4e6be38ac384e24a8ad4afc2cdcc8248da902e79e4d1caa6", func := "loop.example/lib-g01430/laws.FnPowersOne", spec := "fnPowersOne", inPlace := ["math.Float64bits", "math.Float64frombits"], apart := false }
def FnPowersOneSaid : Prop := fnPowersOneRow.holds Try.pinned (OpenSpec.ofChange fnPowersOneSpec)

/-- ITS FALSE NEIGHBOUR: 'it returns false'. Refute it at one input. -/
def fnPowersOneWrong : ChangeSpec := { name := "fnPowersOne", fn := fun _ => fun
  | [d] => { results := [.lit (.bool false)], args := [d] }
  | _ => none }
def FnPowersOneWrongFalsely : Prop := fnPowersOneRow.holds Try.pinned (OpenSpec.ofChange fnPowersOneWrong)

/-- 'laws.FnPowersScaled': WHATEVER THE INPUT: true; the input reads as it did. -/
def fnPowersScaledSpec : ChangeSpec := { name := "fnPowersScaled", fn := fun _ => fun
  | [d1, d2] => { results := [.lit (.bool true)], args := [d1, d2] }
  | _ => none }
def fnPowersScaledRow : OpenClaim := { program := "ytlpcpoganlmiaaa", sum := "ddd59ed49ecf73ec4e6be38ac384e24a8ad4afc2cdcc8248da902e79e4d1caa6", func := "loop.example/lib-g01430/laws.FnPowersScaled", spec := "fnPowersScaled", inPlace := ["math.Float64bits", "math.Float64frombits"], apart := false }
def FnPowersScaledSaid : Prop := fnPowersScaledRow.holds Try.pinned (OpenSpec.ofChange fnPowersScaledSpec)

/-- ITS FALSE NEIGHBOUR: 'it returns false'. Refute it at one input. -/
def fnPowersScaledWrong : ChangeSpec := { name := "fnPowersScaled", fn := fun _ => fun
  | [d1, d2] => { results := [.lit (.bool false)], args := [d1, d2] }
  | _ => none }
def FnPowersScaledWrongFalsely : Prop := fnPowersScaledRow.holds Try.pinned (OpenSpec.ofChange fnPowersScaledWrong)

/-- 'laws.FnPowersSum': WHATEVER THE INPUT: true; the input reads as it did. -/
def fnPowersSumSpec : ChangeSpec := { name := "fnPowersSum", fn := fun _ => fun
  | [d] => { results := [.lit (.bool true)], args := [d] }
  | _ => none }
def fnPowersSumRow : OpenClaim := { program := "ytlpcpoganlmiaaa", sum := "ddd59ed49ecf73ec4e6be38ac384e24a8ad4afc2cdcc8248da902e79e4d1caa6", func := "loop.example/lib-g01430/laws.FnPowersSum", spec := "fnPowersSum", inPlace := ["math.Float64bits", "math.Float64frombits"], apart := false }
def FnPowersSumSaid : Prop := fnPowersSumRow.holds Try.pinned (OpenSpec.ofChange fnPowersSumSpec)

/-- ITS FALSE NEIGHBOUR: 'it returns false'. Refute it at one input. -/
def fnPowersSumWrong : ChangeSpec := { name := "fnPowersSum", fn := fun _ => fun
  | [d] => { results := [.lit (.bool false)], args := [d] }
  | _ => none }
def FnPowersSumWrongFalsely : Prop := fnPowersSumRow.holds Try.pinned (OpenSpec.ofChange fnPowersSumWrong)

/-- 'laws.FnDigitsCut': WHATEVER THE INPUT: true; the input reads as it did. -/
def fnDigitsCutSpec : ChangeSpec := { name := "fnDigitsCut", fn := fun _ => fun
  | [d1, d2, d3] => { results := [.lit (.bool true)], args := [d1, d2, d3] }
  | _ => none }
def fnDigitsCutRow : OpenClaim := { program := "ytlpcpoganlmiaaa", sum := "ddd59ed49ecf73ec4e6be38ac384e24a8ad4afc2cdcc8248da902e79e4d1caa6", func := "loop.example/lib-g01430/laws.FnDigitsCut", spec := "fnDigitsCut", inPlace := ["math.archTrunc", "math.Float64bits", "math.Float64frombits"], apart := false }
def FnDigitsCutSaid : Prop := fnDigitsCutRow.holds Try.pinned (OpenSpec.ofChange fnDigitsCutSpec)

/-- ITS FALSE NEIGHBOUR: 'it returns false'. Refute it at one input. -/
def fnDigitsCutWrong : ChangeSpec := { name := "fnDigitsCut", fn := fun _ => fun
  | [d1, d2, d3] => { results := [.lit (.bool false)], args := [d1, d2, d3] }
  | _ => none }
def FnDigitsCutWrongFalsely : Prop := fnDigitsCutRow.holds Try.pinned (OpenSpec.ofChange fnDigitsCutWrong)

/-- 'laws.FnDigitsValue': WHATEVER THE INPUT: true; the input reads as it did. -/
def fnDigitsValueSpec : ChangeSpec := { name := "fnDigitsValue", fn := fun _ => fun
  | [d1, d2] => { results := [.lit (.bool true)], args := [d1, d2] }
  | _ => none }
def fnDigitsValueRow : OpenClaim := { program := "ytlpcpoganlmiaaa", sum := "ddd59ed49ecf73ec4e6be38ac384e24a8ad4afc2cdcc8248da902e79e4d1caa6", func := "loop.example/lib-g01430/laws.FnDigitsValue", spec := "fnDigitsValue", inPlace := ["math.archTrunc", "math.Float64bits", "math.Float64frombits"], apart := false }
def FnDigitsValueSaid : Prop := fnDigitsValueRow.holds Try.pinned (OpenSpec.ofChange fnDigitsValueSpec)

/-- ITS FALSE NEIGHBOUR: 'it returns false'. Refute it at one input. -/
def fnDigitsValueWrong : ChangeSpec := { name := "fnDigitsValue", fn := fun _ => fun
  | [d1, d2] => { results := [.lit (.bool false)], args := [d1, d2] }
  | _ => none }
def FnDigitsValueWrongFalsely : Prop := fnDigitsValueRow.holds Try.pinned (OpenSpec.ofChange fnDigitsValueWrong)

/-- 'laws.FnDigitsPowers': WHATEVER THE INPUT: true; the input reads as it did. -/
def fnDigitsPowersSpec : ChangeSpec := { name := "fnDigitsPowers", fn := fun _ => fun
  | [d] => { results := [.lit (.bool true)], args := [d] }
  | _ => none }
def fnDigitsPowersRow : OpenClaim := { program := "ytlpcpoganlmiaaa", sum := "ddd59ed49ecf73ec4e6be38ac384e24a8ad4afc2cdcc8248da902e79e4d1caa6", func := "loop.example/lib-g01430/laws.FnDigitsPowers", spec := "fnDigitsPowers", inPlace := ["math.archTrunc", "math.Float64bits", "math.Float64frombits"], apart := false }
def FnDigitsPowersSaid : Prop := fnDigitsPowersRow.holds Try.pinned (OpenSpec.ofChange fnDigitsPowersSpec)

/-- ITS FALSE NEIGHBOUR: 'it returns false'. Refute it at one input. -/
def fnDigitsPowersWrong : ChangeSpec := { name := "fnDigitsPowers", fn := fun _ => fun
  | [d] => { results := [.lit (.bool false)], args := [d] }
  | _ => none }
def FnDigitsPowersWrongFalsely : Prop := fnDigitsPowersRow.holds Try.pinned (OpenSpec.ofChange fnDigitsPowersWrong)

/-- 'laws.FnPathMiddle': WHATEVER THE INPUT: true; the input reads as it did. -/
def fnPathMiddleSpec : ChangeSpec := { name := "fnPathMiddle", fn := fun _ => fun
  | [d1, d2, d3] => { results := [.lit (.bool true)], args := [d1, d2, d3] }
  | _ => none }
def fnPathMiddleRow : OpenClaim := { program := "ytlpcpoganlmiaaa", sum := "ddd59ed49ecf73ec4e6be38ac384e24a8ad4afc2cdcc8248da902e79e4d1caa6", func := "loop.example/lib-g01430/laws.FnPathMiddle", spec := "fnPathMiddle", inPlace := ["math.Float64frombits", "math.Float64bits", "math.FMA"], apart := false }
def FnPathMiddleSaid : Prop := fnPathMiddleRow.holds Try.pinned (OpenSpec.ofChange fnPathMiddleSpec)

/-- ITS FALSE NEIGHBOUR: 'it returns false'. Refute it at one input. -/
def fnPathMiddleWrong : ChangeSpec := { name := "fnPathMiddle", fn := fun _ => fun
  | [d1, d2, d3] => { results := [.lit (.bool false)], args := [d1, d2, d3] }
  | _ => none }
def FnPathMiddleWrongFalsely : Prop := fnPathMiddleRow.holds Try.pinned (OpenSpec.ofChange fnPathMiddleWrong)

/- THE SECOND FORM. 'bulk': how many values and letters a reading holds, each counted each time it is reached (what is shared counts as often as it is met; a slice's spare places count too). A statement '..UptoSaid' is the law's where the arguments, and the package variables that the reading takes, are together of bulk at most 1048576: NARROWER than '..Said'. Prove '..Said' where nothing that the law and all that it calls make is longer than what came in: it says more and counts as full. Else prove '..UptoSaid'. A law counts once. -/
mutual
def uptoBulk {H : Type} : DataW H → Nat
  | .lit (.string bytes) => bytes.length + 1
  | .lit _ => 1
  | .nil => 1
  | .ptr d => uptoBulk d + 1
  | .slice elems spare => uptoBulkAll elems + uptoBulkAll spare + 1
  | .agg parts => uptoBulkAll parts + 1
  | .iface _ d => uptoBulk d + 1
  | .map entries => uptoBulkEntries entries + 1
  | .held _ => 1
def uptoBulkAll {H : Type} : List (DataW H) → Nat
  | [] => 0
  | d :: r => uptoBulk d + uptoBulkAll r
def uptoBulkEntries {H : Type} : List (Lit × DataW H) → Nat
  | [] => 0
  | x :: r => uptoBulkEntry x + uptoBulkEntries r
def uptoBulkEntry {H : Type} : Lit × DataW H → Nat
  | (.string bytes, d) => bytes.length + uptoBulk d + 1
  | (_, d) => uptoBulk d + 1
 end
def uptoSmall : (H : Type) → List (DataW H) → Bool := fun _ ds => decide (uptoBulkAll ds ≤ 1048576)
def OpenSpec.upto (s : _root_.Go.ChangeSpec) : _root_.Go.OpenSpec := { _root_.Go.OpenSpec.ofChange s with cond := some uptoSmall }

/-- 'laws.FnPathSmall', WHERE WHAT IT READS IS OF BULK AT MOST 1048576: true; the input reads as it did. -/
def fnPathSmallUptoRow : OpenClaim := { program := "ytlpcpoganlmiaaa", sum := "ddd59ed49ecf73ec4e6be38ac384e24a8ad4afc2cdcc8248da902e79e4d1caa6", func := "loop.example/lib-g01430/laws.FnPathSmall", spec := "fnPathSmall", inPlace := ["math.Float64frombits", "math.Float64bits"], apart := false, narrowed := true }
def FnPathSmallUptoSaid : Prop := fnPathSmallUptoRow.holds Try.pinned (OpenSpec.upto fnPathSmallSpec)

/-- 'laws.FnPathScaled', WHERE WHAT IT READS IS OF BULK AT MOST 1048576: true; the input reads as it did. -/
def fnPathScaledUptoRow : OpenClaim := { program := "ytlpcpoganlmiaaa", sum := "ddd59ed49ecf73ec4e6be38ac384e24a8ad4afc2cdcc8248da902e79e4d1caa6", func := "loop.example/lib-g01430/laws.FnPathScaled", spec := "fnPathScaled", inPlace := ["math.Float64frombits", "math.Float64bits"], apart := false, narrowed := true }
def FnPathScaledUptoSaid : Prop := fnPathScaledUptoRow.holds Try.pinned (OpenSpec.upto fnPathScaledSpec)

/-- 'laws.FnHornerBits', WHERE WHAT IT READS IS OF BULK AT MOST 1048576: true; the input reads as it did. -/
def fnHornerBitsUptoRow : OpenClaim := { program := "ytlpcpoganlmiaaa", sum := "ddd59ed49ecf73ec4e6be38ac384e24a8ad4afc2cdcc8248da902e79e4d1caa6", func := "loop.example/lib-g01430/laws.FnHornerBits", spec := "fnHornerBits", inPlace := ["math.Float64bits", "math.Float64frombits", "math.archTrunc", "math.FMA"], apart := false, narrowed := true }
def FnHornerBitsUptoSaid : Prop := fnHornerBitsUptoRow.holds Try.pinned (OpenSpec.upto fnHornerBitsSpec)

/-- 'laws.FnExactPowers', WHERE WHAT IT READS IS OF BULK AT MOST 1048576: true; the input reads as it did. -/
def fnExactPowersUptoRow : OpenClaim := { program := "ytlpcpoganlmiaaa", sum := "ddd59ed49ecf73ec4e6be38ac384e24a8ad4afc2cdcc8248da902e79e4d1caa6", func := "loop.example/lib-g01430/laws.FnExactPowers", spec := "fnExactPowers", inPlace := ["math.Float64bits", "math.Float64frombits"], apart := false, narrowed := true }
def FnExactPowersUptoSaid : Prop := fnExactPowersUptoRow.holds Try.pinned (OpenSpec.upto fnExactPowersSpec)

/-- 'laws.FnPowersFall', WHERE WHAT IT READS IS OF BULK AT MOST 1048576: true; the input reads as it did. -/
def fnPowersFallUptoRow : OpenClaim := { program := "ytlpcpoganlmiaaa", sum := "ddd59ed49ecf73ec4e6be38ac384e24a8ad4afc2cdcc8248da902e79e4d1caa6", func := "loop.example/lib-g01430/laws.FnPowersFall", spec := "fnPowersFall", inPlace := ["math.Float64bits", "math.Float64frombits"], apart := false, narrowed := true }
def FnPowersFallUptoSaid : Prop := fnPowersFallUptoRow.holds Try.pinned (OpenSpec.upto fnPowersFallSpec)

/-- 'laws.FnPowersOne', WHERE WHAT IT READS IS OF BULK AT MOST 1048576: true; the input reads as it did. -/
def fnPowersOneUptoRow : OpenClaim := { program := "ytlpcpoganlmiaaa", sum := "ddd59ed49ecf73ec4e6be38ac384e24a8ad4afc2cdcc8248da902e79e4d1caa6", func := "loop.example/lib-g01430/laws.FnPowersOne", spec := "fnPowersOne", inPlace := ["math.Float64bits", "math.Float64frombits"], apart := false, narrowed := true }
def FnPowersOneUptoSaid : Prop := fnPowersOneUptoRow.holds Try.pinned (OpenSpec.upto fnPowersOneSpec)

/-- 'laws.FnPowersScaled', WHERE WHAT IT READS IS OF BULK AT MOST 1048576: true; the input reads as it did. -/
def fnPowersScaledUptoRow : OpenClaim := { program := "ytlpcpoganlmiaaa", sum := "ddd59ed49ecf73ec4e6be38ac384e24a8ad4afc2cdcc8248da902e79e4d1caa6", func := "loop.example/lib-g01430/laws.FnPowersScaled", spec := "fnPowersScaled", inPlace := ["math.Float64bits", "math.Float64frombits"], apart := false, narrowed := true }
def FnPowersScaledUptoSaid : Prop := fnPowersScaledUptoRow.holds Try.pinned (OpenSpec.upto fnPowersScaledSpec)

/-- 'laws.FnPowersSum', WHERE WHAT IT READS IS OF BULK AT MOST 1048576: true; the input reads as it did. -/
def fnPowersSumUptoRow : OpenClaim := { program := "ytlpcpoganlmiaaa", sum := "ddd59ed49ecf73ec4e6be38ac384e24a8ad4afc2cdcc8248da902e79e4d1caa6", func := "loop.example/lib-g01430/laws.FnPowersSum", spec := "fnPowersSum", inPlace := ["math.Float64bits", "math.Float64frombits"], apart := false, narrowed := true }
def FnPowersSumUptoSaid : Prop := fnPowersSumUptoRow.holds Try.pinned (OpenSpec.upto fnPowersSumSpec)

/-- 'laws.FnDigitsCut', WHERE WHAT IT READS IS OF BULK AT MOST 1048576: true; the input reads as it did. -/
def fnDigitsCutUptoRow : OpenClaim := { program := "ytlpcpoganlmiaaa", sum := "ddd59ed49ecf73ec4e6be38ac384e24a8ad4afc2cdcc8248da902e79e4d1caa6", func := "loop.example/lib-g01430/laws.FnDigitsCut", spec := "fnDigitsCut", inPlace := ["math.archTrunc", "math.Float64bits", "math.Float64frombits"], apart := false, narrowed := true }
def FnDigitsCutUptoSaid : Prop := fnDigitsCutUptoRow.holds Try.pinned (OpenSpec.upto fnDigitsCutSpec)

/-- 'laws.FnDigitsValue', WHERE WHAT IT READS IS OF BULK AT MOST 1048576: true; the input reads as it did. -/
def fnDigitsValueUptoRow : OpenClaim := { program := "ytlpcpoganlmiaaa", sum := "ddd59ed49ecf73ec4e6be38ac384e24a8ad4afc2cdcc8248da902e79e4d1caa6", func := "loop.example/lib-g01430/laws.FnDigitsValue", spec := "fnDigitsValue", inPlace := ["math.archTrunc", "math.Float64bits", "math.Float64frombits"], apart := false, narrowed := true }
def FnDigitsValueUptoSaid : Prop := fnDigitsValueUptoRow.holds Try.pinned (OpenSpec.upto fnDigitsValueSpec)

/-- 'laws.FnDigitsPowers', WHERE WHAT IT READS IS OF BULK AT MOST 1048576: true; the input reads as it did. -/
def fnDigitsPowersUptoRow : OpenClaim := { program := "ytlpcpoganlmiaaa", sum := "ddd59ed49ecf73ec4e6be38ac384e24a8ad4afc2cdcc8248da902e79e4d1caa6", func := "loop.example/lib-g01430/laws.FnDigitsPowers", spec := "fnDigitsPowers", inPlace := ["math.archTrunc", "math.Float64bits", "math.Float64frombits"], apart := false, narrowed := true }
def FnDigitsPowersUptoSaid : Prop := fnDigitsPowersUptoRow.holds Try.pinned (OpenSpec.upto fnDigitsPowersSpec)

/-- 'laws.FnPathMiddle', WHERE WHAT IT READS IS OF BULK AT MOST 1048576: true; the input reads as it did. -/
def fnPathMiddleUptoRow : OpenClaim := { program := "ytlpcpoganlmiaaa", sum := "ddd59ed49ecf73ec4e6be38ac384e24a8ad4afc2cdcc8248da902e79e4d1caa6", func := "loop.example/lib-g01430/laws.FnPathMiddle", spec := "fnPathMiddle", inPlace := ["math.Float64frombits", "math.Float64bits", "math.FMA"], apart := false, narrowed := true }
def FnPathMiddleUptoSaid : Prop := fnPathMiddleUptoRow.holds Try.pinned (OpenSpec.upto fnPathMiddleSpec)

end Rows
end Go.Proofs.Ytlpcpoganlmiaaa

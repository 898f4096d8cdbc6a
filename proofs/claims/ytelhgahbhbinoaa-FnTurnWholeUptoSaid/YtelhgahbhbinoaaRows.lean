/-
  No cell of these rows narrows 'for every input' (looked for: loops, veiled, ifaces, maps, wideKeys, modest, calm, conditions, laid).
  DERIVED. THE GIVEN ROWS OF THIS SEAT. 12 by the template 'for every input the law returns true; each argument reads behind the call as it read before'; 0 by the template 'total and deterministic' (their statements: YtelhgahbhbinoaaTotals.lean).
  GIVEN WITH THE SEED: the statements are not yours to turn. If you find one false, say at which input.
  Laid BY PROGRAM, IN A SANDBOX (cutbox-rows.mjs): the forced cells as the released guide's own fill.sh prints them over the translation 0b55d70c07b52ad2… (all of the seat's roots in one cut). By AI agents, Wed Nov 11 2026. No macro, syntax, notation, axiom, sorry.
-/
import Derived.Test.YtelhgahbhbinoaaChecked
import GoSem.Claim
import GoSem.ClaimJoined
import GoSem.ClaimMapViews
import Derived.JoinedTies
import Derived.KernelRfl
namespace Go.Proofs.Ytelhgahbhbinoaa
/- THE CELL 'sum', in the pinned program and in every row, IS THE sha256 OF THE DUMP (.gsa) THAT YtelhgahbhbinoaaProg.lean LOADS. Nothing in Lean hashes anything: it is a label: what it is worth is what the hold of that sum in a sandbox is worth. -/
noncomputable def Try.pinned : Pinned := { name := "ytelhgahbhbinoaa", sum := "0b55d70c07b52ad2ad7ac18c75115bc84ffef284ef505a58e3fd7f7004af5ae3", checked := Try.checked }
namespace Rows
def none {H : Type} : Left H := { results := [], args := [] }

/-- 'laws.FnTailsWhole': WHATEVER THE INPUT: true; the input reads as it did. -/
def fnTailsWholeSpec : ChangeSpec := { name := "fnTailsWhole", fn := fun _ => fun
  | [d1, d2] => { results := [.lit (.bool true)], args := [d1, d2] }
  | _ => none }
def fnTailsWholeRow : OpenClaim := { program := "ytelhgahbhbinoaa", sum := "0b55d70c07b52ad2ad7ac18c75115bc84ffef284ef505a58e3fd7f7004af5ae3", func := "loop.example/lib-g01430/laws.FnTailsWhole", spec := "fnTailsWhole", inPlace := ["math.FMA", "math.Float64bits", "math.Float64frombits"], apart := false }
def FnTailsWholeSaid : Prop := fnTailsWholeRow.holds Try.pinned (OpenSpec.ofChange fnTailsWholeSpec)

/-- ITS FALSE NEIGHBOUR: 'it returns false'. Refute it at one input. -/
def fnTailsWholeWrong : ChangeSpec := { name := "fnTailsWhole", fn := fun _ => fun
  | [d1, d2] => { results := [.lit (.bool false)], args := [d1, d2] }
  | _ => none }
def FnTailsWholeWrongFalsely : Prop := fnTailsWholeRow.holds Try.pinned (OpenSpec.ofChange fnTailsWholeWrong)

/-- 'laws.FnReduceIs': WHATEVER THE INPUT: true; the input reads as it did. -/
def fnReduceIsSpec : ChangeSpec := { name := "fnReduceIs", fn := fun _ => fun
  | [d1, d2] => { results := [.lit (.bool true)], args := [d1, d2] }
  | _ => none }
def fnReduceIsRow : OpenClaim := { program := "ytelhgahbhbinoaa", sum := "0b55d70c07b52ad2ad7ac18c75115bc84ffef284ef505a58e3fd7f7004af5ae3", func := "loop.example/lib-g01430/laws.FnReduceIs", spec := "fnReduceIs", inPlace := ["math.Float64bits", "math.Float64frombits"], apart := false }
def FnReduceIsSaid : Prop := fnReduceIsRow.holds Try.pinned (OpenSpec.ofChange fnReduceIsSpec)

/-- ITS FALSE NEIGHBOUR: 'it returns false'. Refute it at one input. -/
def fnReduceIsWrong : ChangeSpec := { name := "fnReduceIs", fn := fun _ => fun
  | [d1, d2] => { results := [.lit (.bool false)], args := [d1, d2] }
  | _ => none }
def FnReduceIsWrongFalsely : Prop := fnReduceIsRow.holds Try.pinned (OpenSpec.ofChange fnReduceIsWrong)

/-- 'laws.FnReduceSign': WHATEVER THE INPUT: true; the input reads as it did. -/
def fnReduceSignSpec : ChangeSpec := { name := "fnReduceSign", fn := fun _ => fun
  | [d1, d2] => { results := [.lit (.bool true)], args := [d1, d2] }
  | _ => none }
def fnReduceSignRow : OpenClaim := { program := "ytelhgahbhbinoaa", sum := "0b55d70c07b52ad2ad7ac18c75115bc84ffef284ef505a58e3fd7f7004af5ae3", func := "loop.example/lib-g01430/laws.FnReduceSign", spec := "fnReduceSign", inPlace := ["math.Float64bits", "math.Float64frombits"], apart := false }
def FnReduceSignSaid : Prop := fnReduceSignRow.holds Try.pinned (OpenSpec.ofChange fnReduceSignSpec)

/-- ITS FALSE NEIGHBOUR: 'it returns false'. Refute it at one input. -/
def fnReduceSignWrong : ChangeSpec := { name := "fnReduceSign", fn := fun _ => fun
  | [d1, d2] => { results := [.lit (.bool false)], args := [d1, d2] }
  | _ => none }
def FnReduceSignWrongFalsely : Prop := fnReduceSignRow.holds Try.pinned (OpenSpec.ofChange fnReduceSignWrong)

/-- 'laws.FnEuclidFalls': WHATEVER THE INPUT: true; the input reads as it did. -/
def fnEuclidFallsSpec : ChangeSpec := { name := "fnEuclidFalls", fn := fun _ => fun
  | [d1, d2] => { results := [.lit (.bool true)], args := [d1, d2] }
  | _ => none }
def fnEuclidFallsRow : OpenClaim := { program := "ytelhgahbhbinoaa", sum := "0b55d70c07b52ad2ad7ac18c75115bc84ffef284ef505a58e3fd7f7004af5ae3", func := "loop.example/lib-g01430/laws.FnEuclidFalls", spec := "fnEuclidFalls", inPlace := ["math.Float64bits", "math.Float64frombits"], apart := false }
def FnEuclidFallsSaid : Prop := fnEuclidFallsRow.holds Try.pinned (OpenSpec.ofChange fnEuclidFallsSpec)

/-- ITS FALSE NEIGHBOUR: 'it returns false'. Refute it at one input. -/
def fnEuclidFallsWrong : ChangeSpec := { name := "fnEuclidFalls", fn := fun _ => fun
  | [d1, d2] => { results := [.lit (.bool false)], args := [d1, d2] }
  | _ => none }
def FnEuclidFallsWrongFalsely : Prop := fnEuclidFallsRow.holds Try.pinned (OpenSpec.ofChange fnEuclidFallsWrong)

/-- 'laws.FnEuclidIs': WHATEVER THE INPUT: true; the input reads as it did. -/
def fnEuclidIsSpec : ChangeSpec := { name := "fnEuclidIs", fn := fun _ => fun
  | [d1, d2] => { results := [.lit (.bool true)], args := [d1, d2] }
  | _ => none }
def fnEuclidIsRow : OpenClaim := { program := "ytelhgahbhbinoaa", sum := "0b55d70c07b52ad2ad7ac18c75115bc84ffef284ef505a58e3fd7f7004af5ae3", func := "loop.example/lib-g01430/laws.FnEuclidIs", spec := "fnEuclidIs", inPlace := ["math.Float64bits", "math.Float64frombits"], apart := false }
def FnEuclidIsSaid : Prop := fnEuclidIsRow.holds Try.pinned (OpenSpec.ofChange fnEuclidIsSpec)

/-- ITS FALSE NEIGHBOUR: 'it returns false'. Refute it at one input. -/
def fnEuclidIsWrong : ChangeSpec := { name := "fnEuclidIs", fn := fun _ => fun
  | [d1, d2] => { results := [.lit (.bool false)], args := [d1, d2] }
  | _ => none }
def FnEuclidIsWrongFalsely : Prop := fnEuclidIsRow.holds Try.pinned (OpenSpec.ofChange fnEuclidIsWrong)

/-- 'laws.FnReduceMultiples': WHATEVER THE INPUT: true; the input reads as it did. -/
def fnReduceMultiplesSpec : ChangeSpec := { name := "fnReduceMultiples", fn := fun _ => fun
  | [d1, d2, d3] => { results := [.lit (.bool true)], args := [d1, d2, d3] }
  | _ => none }
def fnReduceMultiplesRow : OpenClaim := { program := "ytelhgahbhbinoaa", sum := "0b55d70c07b52ad2ad7ac18c75115bc84ffef284ef505a58e3fd7f7004af5ae3", func := "loop.example/lib-g01430/laws.FnReduceMultiples", spec := "fnReduceMultiples", inPlace := ["math.Float64bits", "math.Float64frombits"], apart := false }
def FnReduceMultiplesSaid : Prop := fnReduceMultiplesRow.holds Try.pinned (OpenSpec.ofChange fnReduceMultiplesSpec)

/-- ITS FALSE NEIGHBOUR: 'it returns false'. Refute it at one input. -/
def fnReduceMultiplesWrong : ChangeSpec := { name := "fnReduceMultiples", fn := fun _ => fun
  | [d1, d2, d3] => { results := [.lit (.bool false)], args := [d1, d2, d3] }
  | _ => none }
def FnReduceMultiplesWrongFalsely : Prop := fnReduceMultiplesRow.holds Try.pinned (OpenSpec.ofChange fnReduceMultiplesWrong)

/-- 'laws.FnReduceOrder': WHATEVER THE INPUT: true; the input reads as it did. -/
def fnReduceOrderSpec : ChangeSpec := { name := "fnReduceOrder", fn := fun _ => fun
  | [d1, d2] => { results := [.lit (.bool true)], args := [d1, d2] }
  | _ => none }
def fnReduceOrderRow : OpenClaim := { program := "ytelhgahbhbinoaa", sum := "0b55d70c07b52ad2ad7ac18c75115bc84ffef284ef505a58e3fd7f7004af5ae3", func := "loop.example/lib-g01430/laws.FnReduceOrder", spec := "fnReduceOrder", inPlace := ["math.Float64bits", "math.Float64frombits"], apart := false }
def FnReduceOrderSaid : Prop := fnReduceOrderRow.holds Try.pinned (OpenSpec.ofChange fnReduceOrderSpec)

/-- ITS FALSE NEIGHBOUR: 'it returns false'. Refute it at one input. -/
def fnReduceOrderWrong : ChangeSpec := { name := "fnReduceOrder", fn := fun _ => fun
  | [d1, d2] => { results := [.lit (.bool false)], args := [d1, d2] }
  | _ => none }
def FnReduceOrderWrongFalsely : Prop := fnReduceOrderRow.holds Try.pinned (OpenSpec.ofChange fnReduceOrderWrong)

/-- 'laws.FnEuclidTail': WHATEVER THE INPUT: true; the input reads as it did. -/
def fnEuclidTailSpec : ChangeSpec := { name := "fnEuclidTail", fn := fun _ => fun
  | [d1, d2] => { results := [.lit (.bool true)], args := [d1, d2] }
  | _ => none }
def fnEuclidTailRow : OpenClaim := { program := "ytelhgahbhbinoaa", sum := "0b55d70c07b52ad2ad7ac18c75115bc84ffef284ef505a58e3fd7f7004af5ae3", func := "loop.example/lib-g01430/laws.FnEuclidTail", spec := "fnEuclidTail", inPlace := ["math.Float64bits", "math.Float64frombits"], apart := false }
def FnEuclidTailSaid : Prop := fnEuclidTailRow.holds Try.pinned (OpenSpec.ofChange fnEuclidTailSpec)

/-- ITS FALSE NEIGHBOUR: 'it returns false'. Refute it at one input. -/
def fnEuclidTailWrong : ChangeSpec := { name := "fnEuclidTail", fn := fun _ => fun
  | [d1, d2] => { results := [.lit (.bool false)], args := [d1, d2] }
  | _ => none }
def FnEuclidTailWrongFalsely : Prop := fnEuclidTailRow.holds Try.pinned (OpenSpec.ofChange fnEuclidTailWrong)

/-- 'laws.FnTurnCut': WHATEVER THE INPUT: true; the input reads as it did. -/
def fnTurnCutSpec : ChangeSpec := { name := "fnTurnCut", fn := fun _ => fun
  | [d1, d2, d3, d4] => { results := [.lit (.bool true)], args := [d1, d2, d3, d4] }
  | _ => none }
def fnTurnCutRow : OpenClaim := { program := "ytelhgahbhbinoaa", sum := "0b55d70c07b52ad2ad7ac18c75115bc84ffef284ef505a58e3fd7f7004af5ae3", func := "loop.example/lib-g01430/laws.FnTurnCut", spec := "fnTurnCut", inPlace := ["math.Float64bits", "math.Float64frombits"], apart := false }
def FnTurnCutSaid : Prop := fnTurnCutRow.holds Try.pinned (OpenSpec.ofChange fnTurnCutSpec)

/-- ITS FALSE NEIGHBOUR: 'it returns false'. Refute it at one input. -/
def fnTurnCutWrong : ChangeSpec := { name := "fnTurnCut", fn := fun _ => fun
  | [d1, d2, d3, d4] => { results := [.lit (.bool false)], args := [d1, d2, d3, d4] }
  | _ => none }
def FnTurnCutWrongFalsely : Prop := fnTurnCutRow.holds Try.pinned (OpenSpec.ofChange fnTurnCutWrong)

/-- 'laws.FnTurnIs': WHATEVER THE INPUT: true; the input reads as it did. -/
def fnTurnIsSpec : ChangeSpec := { name := "fnTurnIs", fn := fun _ => fun
  | [d1, d2, d3] => { results := [.lit (.bool true)], args := [d1, d2, d3] }
  | _ => none }
def fnTurnIsRow : OpenClaim := { program := "ytelhgahbhbinoaa", sum := "0b55d70c07b52ad2ad7ac18c75115bc84ffef284ef505a58e3fd7f7004af5ae3", func := "loop.example/lib-g01430/laws.FnTurnIs", spec := "fnTurnIs", inPlace := ["math.Float64bits", "math.Float64frombits"], apart := false }
def FnTurnIsSaid : Prop := fnTurnIsRow.holds Try.pinned (OpenSpec.ofChange fnTurnIsSpec)

/-- ITS FALSE NEIGHBOUR: 'it returns false'. Refute it at one input. -/
def fnTurnIsWrong : ChangeSpec := { name := "fnTurnIs", fn := fun _ => fun
  | [d1, d2, d3] => { results := [.lit (.bool false)], args := [d1, d2, d3] }
  | _ => none }
def FnTurnIsWrongFalsely : Prop := fnTurnIsRow.holds Try.pinned (OpenSpec.ofChange fnTurnIsWrong)

/-- 'laws.FnTurnOpposite': WHATEVER THE INPUT: true; the input reads as it did. -/
def fnTurnOppositeSpec : ChangeSpec := { name := "fnTurnOpposite", fn := fun _ => fun
  | [d1, d2, d3] => { results := [.lit (.bool true)], args := [d1, d2, d3] }
  | _ => none }
def fnTurnOppositeRow : OpenClaim := { program := "ytelhgahbhbinoaa", sum := "0b55d70c07b52ad2ad7ac18c75115bc84ffef284ef505a58e3fd7f7004af5ae3", func := "loop.example/lib-g01430/laws.FnTurnOpposite", spec := "fnTurnOpposite", inPlace := ["math.Float64bits", "math.Float64frombits"], apart := false }
def FnTurnOppositeSaid : Prop := fnTurnOppositeRow.holds Try.pinned (OpenSpec.ofChange fnTurnOppositeSpec)

/-- ITS FALSE NEIGHBOUR: 'it returns false'. Refute it at one input. -/
def fnTurnOppositeWrong : ChangeSpec := { name := "fnTurnOpposite", fn := fun _ => fun
  | [d1, d2, d3] => { results := [.lit (.bool false)], args := [d1, d2, d3] }
  | _ => none }
def FnTurnOppositeWrongFalsely : Prop := fnTurnOppositeRow.holds Try.pinned (OpenSpec.ofChange fnTurnOppositeWrong)

/-- 'laws.FnTurnWhole': WHATEVER THE INPUT: true; the input reads as it did. -/
def fnTurnWholeSpec : ChangeSpec := { name := "fnTurnWhole", fn := fun _ => fun
  | [d1, d2, d3] => { results := [.lit (.bool true)], args := [d1, d2, d3] }
  | _ => none }
def fnTurnWholeRow : OpenClaim := { program := "ytelhgahbhbinoaa", sum := "0b55d70c07b52ad2ad7ac18c75115bc84ffef284ef505a58e3fd7f7004af5ae3", func := "loop.example/lib-g01430/laws.FnTurnWhole", spec := "fnTurnWhole", inPlace := ["math.Float64bits", "math.Float64frombits"], apart := false }
def FnTurnWholeSaid : Prop := fnTurnWholeRow.holds Try.pinned (OpenSpec.ofChange fnTurnWholeSpec)

/-- ITS FALSE NEIGHBOUR: 'it returns false'. Refute it at one input. -/
def fnTurnWholeWrong : ChangeSpec := { name := "fnTurnWhole", fn := fun _ => fun
  | [d1, d2, d3] => { results := [.lit (.bool false)], args := [d1, d2, d3] }
  | _ => none }
def FnTurnWholeWrongFalsely : Prop := fnTurnWholeRow.holds Try.pinned (OpenSpec.ofChange fnTurnWholeWrong)

/- THE SECOND FORM. 'bulk': how many values and letters a reading holds, each counted each time it is reached (what is shared counts as often as it is met; a slice's spare places count too). A statement '..UptoSaid' is the law's where the arguments, and the package variables that the reading takes, are together of bulk at most 1048576: NARROWER than '..Said'. Prove '..Said' where nothing that the law and all that it calls make is longer than what came in: it says more and counts as full. Else prove '..UptoSaid'. A law counts once. -/
mutual
def uptoBulk {H : Type} : DataW H → Nat
  | .lit (.string bytes) => bytes.length + 1
  | .lit _ => 1
  | .nil => 1
  | .ptr d => uptoBulk d + 1
  | .slice elems spare => uptoBulkAll elems + uptoBulkAll spare + 1
  | .agg parts => uptoBulkAll parts + 1
  | .iface _ d => uptoBulk d + 1
  | .map entries => uptoBulkEntries entries + 1
  | .held _ => 1
def uptoBulkAll {H : Type} : List (DataW H) → Nat
  | [] => 0
  | d :: r => uptoBulk d + uptoBulkAll r
def uptoBulkEntries {H : Type} : List (Lit × DataW H) → Nat
  | [] => 0
  | x :: r => uptoBulkEntry x + uptoBulkEntries r
def uptoBulkEntry {H : Type} : Lit × DataW H → Nat
  | (.string bytes, d) => bytes.length + uptoBulk d + 1
  | (_, d) => uptoBulk d + 1
 end
def uptoSmall : (H : Type) → List (DataW H) → Bool := fun _ ds => decide (uptoBulkAll ds ≤ 1048576)
def OpenSpec.upto (s : _root_.Go.ChangeSpec) : _root_.Go.OpenSpec := { _root_.Go.OpenSpec.ofChange s with cond := some uptoSmall }

/-- 'laws.FnTailsWhole', WHERE WHAT IT READS IS OF BULK AT MOST 1048576: true; the input reads as it did. -/
def fnTailsWholeUptoRow : OpenClaim := { program := "ytelhgahbhbinoaa", sum := "0b55d70c07b52ad2ad7ac18c75115bc84ffef284ef505a58e3fd7f7004af5ae3", func := "loop.example/lib-g01430/laws.FnTailsWhole", spec := "fnTailsWhole", inPlace := ["math.FMA", "math.Float64bits", "math.Float64frombits"], apart := false, narrowed := true }
def FnTailsWholeUptoSaid : Prop := fnTailsWholeUptoRow.holds Try.pinned (OpenSpec.upto fnTailsWholeSpec)

/-- 'laws.FnReduceIs', WHERE WHAT IT READS IS OF BULK AT MOST 1048576: true; the input reads as it did. -/
def fnReduceIsUptoRow : OpenClaim := { program := "ytelhgahbhbinoaa", sum := "0b55d70c07b52ad2ad7ac18c75115bc84ffef284ef505a58e3fd7f7004af5ae3", func := "loop.example/lib-g01430/laws.FnReduceIs", spec := "fnReduceIs", inPlace := ["math.Float64bits", "math.Float64frombits"], apart := false, narrowed := true }
def FnReduceIsUptoSaid : Prop := fnReduceIsUptoRow.holds Try.pinned (OpenSpec.upto fnReduceIsSpec)

/-- 'laws.FnReduceSign', WHERE WHAT IT READS IS OF BULK AT MOST 1048576: true; the input reads as it did. -/
def fnReduceSignUptoRow : OpenClaim := { program := "ytelhgahbhbinoaa", sum := "0b55d70c07b52ad2ad7ac18c75115bc84ffef284ef505a58e3fd7f7004af5ae3", func := "loop.example/lib-g01430/laws.FnReduceSign", spec := "fnReduceSign", inPlace := ["math.Float64bits", "math.Float64frombits"], apart := false, narrowed := true }
def FnReduceSignUptoSaid : Prop := fnReduceSignUptoRow.holds Try.pinned (OpenSpec.upto fnReduceSignSpec)

/-- 'laws.FnEuclidFalls', WHERE WHAT IT READS IS OF BULK AT MOST 1048576: true; the input reads as it did. -/
def fnEuclidFallsUptoRow : OpenClaim := { program := "ytelhgahbhbinoaa", sum := "0b55d70c07b52ad2ad7ac18c75115bc84ffef284ef505a58e3fd7f7004af5ae3", func := "loop.example/lib-g01430/laws.FnEuclidFalls", spec := "fnEuclidFalls", inPlace := ["math.Float64bits", "math.Float64frombits"], apart := false, narrowed := true }
def FnEuclidFallsUptoSaid : Prop := fnEuclidFallsUptoRow.holds Try.pinned (OpenSpec.upto fnEuclidFallsSpec)

/-- 'laws.FnEuclidIs', WHERE WHAT IT READS IS OF BULK AT MOST 1048576: true; the input reads as it did. -/
def fnEuclidIsUptoRow : OpenClaim := { program := "ytelhgahbhbinoaa", sum := "0b55d70c07b52ad2ad7ac18c75115bc84ffef284ef505a58e3fd7f7004af5ae3", func := "loop.example/lib-g01430/laws.FnEuclidIs", spec := "fnEuclidIs", inPlace := ["math.Float64bits", "math.Float64frombits"], apart := false, narrowed := true }
def FnEuclidIsUptoSaid : Prop := fnEuclidIsUptoRow.holds Try.pinned (OpenSpec.upto fnEuclidIsSpec)

/-- 'laws.FnReduceMultiples', WHERE WHAT IT READS IS OF BULK AT MOST 1048576: true; the input reads as it did. -/
def fnReduceMultiplesUptoRow : OpenClaim := { program := "ytelhgahbhbinoaa", sum := "0b55d70c07b52ad2ad7ac18c75115bc84ffef284ef505a58e3fd7f7004af5ae3", func := "loop.example/lib-g01430/laws.FnReduceMultiples", spec := "fnReduceMultiples", inPlace := ["math.Float64bits", "math.Float64frombits"], apart := false, narrowed := true }
def FnReduceMultiplesUptoSaid : Prop := fnReduceMultiplesUptoRow.holds Try.pinned (OpenSpec.upto fnReduceMultiplesSpec)

/-- 'laws.FnReduceOrder', WHERE WHAT IT READS IS OF BULK AT MOST 1048576: true; the input reads as it did. -/
def fnReduceOrderUptoRow : OpenClaim := { program := "ytelhgahbhbinoaa", sum := "0b55d70c07b52ad2ad7ac18c75115bc84ffef284ef505a58e3fd7f7004af5ae3", func := "loop.example/lib-g01430/laws.FnReduceOrder", spec := "fnReduceOrder", inPlace := ["math.Float64bits", "math.Float64frombits"], apart := false, narrowed := true }
def FnReduceOrderUptoSaid : Prop := fnReduceOrderUptoRow.holds Try.pinned (OpenSpec.upto fnReduceOrderSpec)

/-- 'laws.FnEuclidTail', WHERE WHAT IT READS IS OF BULK AT MOST 1048576: true; the input reads as it did. -/
def fnEuclidTailUptoRow : OpenClaim := { program := "ytelhgahbhbinoaa", sum := "0b55d70c07b52ad2ad7ac18c75115bc84ffef284ef505a58e3fd7f7004af5ae3", func := "loop.example/lib-g01430/laws.FnEuclidTail", spec := "fnEuclidTail", inPlace := ["math.Float64bits", "math.Float64frombits"], apart := false, narrowed := true }
def FnEuclidTailUptoSaid : Prop := fnEuclidTailUptoRow.holds Try.pinned (OpenSpec.upto fnEuclidTailSpec)

/-- 'laws.FnTurnCut', WHERE WHAT IT READS IS OF BULK AT MOST 1048576: true; the input reads as it did. -/
def fnTurnCutUptoRow : OpenClaim := { program := "ytelhgahbhbinoaa", sum := "0b55d70c07b52ad2ad7ac18c75115bc84ffef284ef505a58e3fd7f7004af5ae3", func := "loop.example/lib-g01430/laws.FnTurnCut", spec := "fnTurnCut", inPlace := ["math.Float64bits", "math.Float64frombits"], apart := false, narrowed := true }
def FnTurnCutUptoSaid : Prop := fnTurnCutUptoRow.holds Try.pinned (OpenSpec.upto fnTurnCutSpec)

/-- 'laws.FnTurnIs', WHERE WHAT IT READS IS OF BULK AT MOST 1048576: true; the input reads as it did. -/
def fnTurnIsUptoRow : OpenClaim := { program := "ytelhgahbhbinoaa", sum := "0b55d70c07b52ad2ad7ac18c75115bc84ffef284ef505a58e3fd7f7004af5ae3", func := "loop.example/lib-g01430/laws.FnTurnIs", spec := "fnTurnIs", inPlace := ["math.Float64bits", "math.Float64frombits"], apart := false, narrowed := true }
def FnTurnIsUptoSaid : Prop := fnTurnIsUptoRow.holds Try.pinned (OpenSpec.upto fnTurnIsSpec)

/-- 'laws.FnTurnOpposite', WHERE WHAT IT READS IS OF BULK AT MOST 1048576: true; the input reads as it did. -/
def fnTurnOppositeUptoRow : OpenClaim := { program := "ytelhgahbhbinoaa", sum := "0b55d70c07b52ad2ad7ac18c75115bc84ffef284ef505a58e3fd7f7004af5ae3", func := "loop.example/lib-g01430/laws.FnTurnOpposite", spec := "fnTurnOpposite", inPlace := ["math.Float64bits", "math.Float64frombits"], apart := false, narrowed := true }
def FnTurnOppositeUptoSaid : Prop := fnTurnOppositeUptoRow.holds Try.pinned (OpenSpec.upto fnTurnOppositeSpec)

/-- 'laws.FnTurnWhole', WHERE WHAT IT READS IS OF BULK AT MOST 1048576: true; the input reads as it did. -/
def fnTurnWholeUptoRow : OpenClaim := { program := "ytelhgahbhbinoaa", sum := "0b55d70c07b52ad2ad7ac18c75115bc84ffef284ef505a58e3fd7f7004af5ae3", func := "loop.example/lib-g01430/laws.FnTurnWhole", spec := "fnTurnWhole", inPlace := ["math.Float64bits", "math.Float64frombits"], apart := false, narrowed := true }
def FnTurnWholeUptoSaid : Prop := fnTurnWholeUptoRow.holds Try.pinned (OpenSpec.upto fnTurnWholeSpec)

end Rows
end Go.Proofs.Ytelhgahbhbinoaa

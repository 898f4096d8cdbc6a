/-
  Contracts of small functions of package math: Float64bits, Float64frombits, IsNaN, NaN, Copysign, Nextafter.
-/
import Derived.Test.YtbhallblmphlmaaRows
import Derived.Test.YtbhallblmphlmaaFlc
import Derived.WalkKit
import Derived.WalkSpells
import Derived.WalkLawsBesides
import Derived.Laws.Externs
import Derived.Lib.Hide
namespace Go.Proofs.Ytbhallblmphlmaa
open Go.RowKit Flt

theorem ret_float {a b : Nat} (h : a = b) : Ending.returned (.float .f64 a) = .returned (.float .f64 b) := by rw [h]
theorem ret_int {k : IntKind} {a b : Int} (h : a = b) : Ending.returned (.int k a) = .returned (.int k b) := by rw [h]

theorem add_one_u64 (x : Nat) (h : x + 1 < 2 ^ 64) : (IntKind.u64.wrap ((x : Int) + 1)).toNat = x + 1 := by
  rw [IntKind.wrap_u64]; omega
theorem sub_one_u64 (x : Nat) (h : x < 2 ^ 64) (h0 : 0 < x) : (IntKind.u64.wrap ((x : Int) - 1)).toNat = x - 1 := by
  rw [IntKind.wrap_u64]; omega

theorem nxt_nan_l {x y : Nat} (h : nan x = true) : nxt x y = qNaN := nan_nxt (Or.inl h)
theorem nxt_nan_r {x y : Nat} (h : nan y = true) : nxt x y = qNaN := nan_nxt (Or.inr h)

end Go.Proofs.Ytbhallblmphlmaa

/-
  Contracts of small functions of package math: Float64bits, Float64frombits, IsNaN, NaN, Copysign, Nextafter.
-/
import Derived.Test.YtelhgahbhbinoaaRows
import Derived.Test.YtelhgahbhbinoaaFlc
import Derived.WalkKit
import Derived.WalkSpells
import Derived.WalkLawsBesides
import Derived.Laws.Externs
import Derived.Lib.Hide
namespace Go.Proofs.Ytelhgahbhbinoaa
open Go.RowKit Flt

theorem ret_float {a b : Nat} (h : a = b) : Ending.returned (.float .f64 a) = .returned (.float .f64 b) := by rw [h]
theorem ret_int {k : IntKind} {a b : Int} (h : a = b) : Ending.returned (.int k a) = .returned (.int k b) := by rw [h]

theorem ext_frombits : Extern.find Try.f53 = some Extern.MathFloatBits.float64frombits := by kernel_rfl
theorem call_frombits (n : Int) (w : World) : (callFunc 53 #[.int .u64 n]).run Try.prog w = .ok (.value (.float .f64 n.toNat)) w := by
  rw [run_callFunc_extern Try.func53 (by kernel_rfl) (by kernel_rfl) (by kernel_rfl) ext_frombits]; rfl
theorem ext_bits : Extern.find Try.f54 = some Extern.MathFloatBits.float64bits := by kernel_rfl
theorem call_bits (b : Nat) (w : World) : (callFunc 54 #[.float .f64 b]).run Try.prog w = .ok (.value (.int .u64 (b : Int))) w := by
  rw [run_callFunc_extern Try.func54 (by kernel_rfl) (by kernel_rfl) (by kernel_rfl) ext_bits]; rfl

set_option maxHeartbeats 400000 in
theorem isNaN_any (x : Nat) (w : World) :
    Calls Try.prog 46 #[.float .f64 x] w fun e w' => e = .returned (.bool (nan x)) ∧ w = w' := by
  have h := Lib.hid (c_self x)
  go_enter Try.func46, Try.ntmps46
  go_wp2
  go_ret
  exact ⟨by rw [← h.out]; rfl, rfl⟩

set_option maxHeartbeats 400000 in
theorem naN_any (w : World) :
    Calls Try.prog 47 #[] w fun e w' => e = .returned (.float .f64 qNaN) ∧ w = w' := by
  have h1 := call_frombits
  go_enter Try.func47, Try.ntmps47
  go_wp2
  go_ret
  exact ⟨rfl, rfl⟩

set_option maxHeartbeats 400000 in
theorem copysign_any (x y : Nat) (w : World) (hx : x < 2 ^ 64) (hy : y < 2 ^ 64) :
    Calls Try.prog 60 #[.float .f64 x, .float .f64 y] w fun e w' => e = .returned (.float .f64 (mk (sg y) (rg x))) ∧ w = w' := by
  have h := Lib.hid (copy_bits x y hx hy)
  clear hx hy
  have h1 := call_frombits
  have h2 := call_bits
  go_enter Try.func60, Try.ntmps60
  go_wp2
  go_ret
  exact ⟨ret_float h.out, rfl⟩

theorem add_one_u64 (x : Nat) (h : x + 1 < 2 ^ 64) : (IntKind.u64.wrap ((x : Int) + 1)).toNat = x + 1 := by
  rw [IntKind.wrap_u64]; omega
theorem sub_one_u64 (x : Nat) (h : x < 2 ^ 64) (h0 : 0 < x) : (IntKind.u64.wrap ((x : Int) - 1)).toNat = x - 1 := by
  rw [IntKind.wrap_u64]; omega

theorem nxt_nan_l {x y : Nat} (h : nan x = true) : nxt x y = qNaN := nan_nxt (Or.inl h)
theorem nxt_nan_r {x y : Nat} (h : nan y = true) : nxt x y = qNaN := nan_nxt (Or.inr h)

end Go.Proofs.Ytelhgahbhbinoaa

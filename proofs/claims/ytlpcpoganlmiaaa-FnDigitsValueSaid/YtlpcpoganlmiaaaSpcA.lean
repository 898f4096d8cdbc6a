/-
  Contracts of the reference: Abs, partsOf, value.
-/
import Derived.Test.YtlpcpoganlmiaaaLibA
import Derived.Test.YtlpcpoganlmiaaaMem
import Derived.Test.YtlpcpoganlmiaaaFlp
import Derived.Deep.LoopGhost
namespace Go.Proofs.Ytlpcpoganlmiaaa
open Go.RowKit Flt

theorem run_f {op : BinOp} {x y r : Nat} (h : floatBits op .f64 x y = some r) (w : World) : (binOp op 24 (.float .f64 x) (.float .f64 y)).run Try.prog w = .ok (.float .f64 r) w := run_float_arith w op _ .f64 x y r h

theorem neg_run (b : Nat) (w : World) : (Op.unary .neg (.float .f64 b)).run Try.prog w = .ok (.float .f64 (Op.negFloat .f64 b)) w := rfl

/-- the absolute value of a word that is no NaN, a nought's sign kept -/
def absW (b : Nat) : Nat := if key b < 0 then mk false (rg b) else b

set_option maxHeartbeats 400000 in
theorem specAbs_any (b : Nat) (w : World) (hb : b < 2 ^ 64) (hn : nan b = false) :
    Calls Try.prog 33 #[.float .f64 b] w fun e w' => e = .returned (.float .f64 (absW b)) ∧ w = w' := by
  have h1 := c_lt (nan_false.1 hn) rg_zero_le
  rw [key_zero] at h1
  have hng := neg_run
  by_cases hk : key b < 0
  · rw [decide_eq_true hk] at h1
    have hsg : sg b = true := by unfold key at hk; cases h : sg b; rw [h] at hk; simp at hk; omega; rfl
    have hfin : Hid (Op.negFloat .f64 b = absW b) := by
      show _ = _
      unfold absW; rw [if_pos hk, neg_bits b hb, hsg]; rfl
    clear hk hsg hb hn
    go_enter Try.func33, Try.ntmps33
    go_wp2
    go_ret
    exact ⟨ret_float hfin.out, rfl⟩
  · rw [decide_eq_false hk] at h1
    have hfin : Hid (b = absW b) := by show _ = _; unfold absW; rw [if_neg hk]
    clear hk hb hn
    go_enter Try.func33, Try.ntmps33
    go_wp2
    go_ret
    exact ⟨ret_float hfin.out, rfl⟩

theorem ofU64_run (n : Int) (w : World) : (convert 51 24 (.int .u64 n)).run Try.prog w = .ok (.float .f64 (floatOfInt .f64 n)) w :=
  run_convert_int_float w _ _ .u64 .f64 n (by rw [Try.underlying51]; rfl) Try.underlying24

end Go.Proofs.Ytlpcpoganlmiaaa

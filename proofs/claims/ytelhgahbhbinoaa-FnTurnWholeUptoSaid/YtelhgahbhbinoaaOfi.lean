/-
  Integers as words: the conversion to float64, and laws.isExact.
-/
import Derived.Test.YtelhgahbhbinoaaLawA
import Derived.Test.YtelhgahbhbinoaaFsw
import Derived.Test.YtelhgahbhbinoaaFln
import Derived.Laws.Cover2
namespace Go.Proofs.Ytelhgahbhbinoaa
open Go.RowKit Flt

theorem conv_run (n : Int) (w : World) : (convert 3 23 (.int .i64 n)).run Try.prog w = .ok (.float .f64 (floatOfInt .f64 n)) w :=
  run_convert_int_float w _ _ .i64 .f64 n (by rw [Try.underlying3]; rfl) Try.underlying23

theorem U_pos' : 0 < U := pow_pos e0
theorem mulU_abs (n : Int) : (n * (U : Int)).natAbs = n.natAbs * U := by rw [Int.natAbs_mul, Int.natAbs_natCast]
theorem mulU_neg (n : Int) : n * (U : Int) < 0 ↔ n < 0 := by
  have hU : (0 : Int) < (U : Int) := Int.ofNat_lt.2 U_pos'
  constructor
  · intro h
    rcases Int.lt_or_le n 0 with h' | h'
    · exact h'
    · have := Int.mul_nonneg h' (Int.le_of_lt hU); omega
  · intro h; exact Int.mul_neg_of_neg_of_pos h hU
theorem fits_i {n : Int} (h : n.natAbs ≤ 2 ^ 53) : Fits (n * (U : Int)).natAbs := by rw [mulU_abs]; exact fits_small h
/-- the word of an integer -/
theorem ofInt_sw {n : Int} (h : n.natAbs ≤ 2 ^ 53) : floatOfInt .f64 n = sw (n * (U : Int)) := by
  have hF := fits_small h
  have he := e0_eq
  show Ieee.double.nearest _ _ _ = _
  rw [nearest_eq _ _ 0 e0 0 (by omega), ← U_eq]
  unfold sw
  have h1 : decide (n * (U : Int) < 0) = decide (n < 0) := by rw [decide_eq_decide]; exact mulU_neg n
  rw [mulU_abs, h1]
  show mk _ (min (wd (n.natAbs * U)) INF) = _
  rw [Nat.min_eq_left (Nat.le_of_lt (wd_fin hF.rep hF.lt))]

theorem isExact_yes (n : Int) (w : World) (h1 : -9007199254740992 ≤ n) (h2 : n ≤ 9007199254740992) :
    Calls Try.prog 15 #[.int .i64 n] w fun e w' => e = .returned (.bool true) ∧ w = w' := by
  have t1 : decide (-9007199254740992 ≤ n) = true := decide_eq_true h1
  have t2 : decide (n ≤ 9007199254740992) = true := decide_eq_true h2
  go_enter Try.func15, Try.ntmps15
  go_wp2
  go_ret
  exact ⟨rfl, rfl⟩
theorem isExact_no (n : Int) (w : World) (h : n < -9007199254740992 ∨ 9007199254740992 < n) :
    Calls Try.prog 15 #[.int .i64 n] w fun e w' => e = .returned (.bool false) ∧ w = w' := by
  rcases Int.lt_or_le n (-9007199254740992) with h1 | h1
  · have t1 : decide (-9007199254740992 ≤ n) = false := decide_eq_false (by omega)
    go_enter Try.func15, Try.ntmps15
    go_wp2
    go_ret
    exact ⟨rfl, rfl⟩
  · have t1 : decide (-9007199254740992 ≤ n) = true := decide_eq_true h1
    have t2 : decide (n ≤ 9007199254740992) = false := decide_eq_false (by omega)
    go_enter Try.func15, Try.ntmps15
    go_wp2
    go_ret
    exact ⟨rfl, rfl⟩
end Go.Proofs.Ytelhgahbhbinoaa

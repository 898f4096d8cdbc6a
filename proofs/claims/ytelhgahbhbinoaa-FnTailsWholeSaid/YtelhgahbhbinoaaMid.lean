/-
  Contracts: laws.middle, spec.Shift.
-/
import Derived.Test.YtelhgahbhbinoaaSpcA
import Derived.Test.YtelhgahbhbinoaaFlm
namespace Go.Proofs.Ytelhgahbhbinoaa
open Go.RowKit Flt

set_option maxHeartbeats 400000 in
theorem specAbs_nan (b : Nat) (w : World) (hn : nan b = true) :
    Calls Try.prog 17 #[.float .f64 b] w fun e w' => e = .returned (.float .f64 b) ∧ w = w' := by
  have h1 : (FloatKind.f64.format.order b 0 == some .lt) = false := by rw [c_nan (Or.inl (nan_true.1 hn))]; rfl
  clear hn
  go_enter Try.func17, Try.ntmps17
  go_wp2
  go_ret
  exact ⟨rfl, rfl⟩

theorem absW_rg {b : Nat} (hb : b < 2 ^ 64) (h : rg b ≠ 0) : absW b = rg b := by
  unfold absW
  have hm := mk_of hb
  unfold key
  cases hs : sg b
  · rw [hs] at hm
    simp only [Bool.false_eq_true, if_false]
    rw [if_neg (by omega)]; exact hm.symm
  · simp only [if_true]
    rw [if_pos (by omega)]; rfl

theorem rg_self {r : Nat} (h : r < 2 ^ 63) : rg r = r := by unfold rg; exact Nat.mod_eq_of_lt h
theorem key_self {r : Nat} (h : r < 2 ^ 63) : key r = (r : Int) := by
  have := key_mk false h; rw [mk_false] at this; rw [this]; simp

end Go.Proofs.Ytelhgahbhbinoaa

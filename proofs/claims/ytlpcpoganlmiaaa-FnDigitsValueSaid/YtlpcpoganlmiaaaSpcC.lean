/-
  Contracts of the reference: NaN, Finite.
-/
import Derived.Test.YtlpcpoganlmiaaaSpcA
import Derived.Test.YtlpcpoganlmiaaaFln
namespace Go.Proofs.Ytlpcpoganlmiaaa
open Go.RowKit Flt

theorem run_n {op : BinOp} {x y : Nat} (hop : op = .add ∨ op = .sub ∨ op = .mul ∨ op = .quo) (h : floatBits op .f64 x y = none) (w : World) : (binOp op 24 (.float .f64 x) (.float .f64 y)).run Try.prog w = .ok (.float .f64 (nb w x y)) w.drew := run_float_nan hop h w

/-- some NaN -/
def GivesNaN (w : World) (e : Ending) (w' : World) : Prop := ∃ b, e = .returned (.float .f64 b) ∧ nan b = true ∧ b < 2 ^ 64 ∧ Qt w w'


set_option maxHeartbeats 400000 in
theorem specFinite_yes (x : Nat) (w : World) (hf : rg x < INF) :
    Calls Try.prog 30 #[.float .f64 x] w fun e w' => e = .returned (.bool true) ∧ w = w' := by
  obtain ⟨r, h1, h2⟩ := sub_self_fin hf
  have h3 := run_f h1
  have h4 : (FloatKind.f64.format.order r 0 == some .eq) = true := by
    rw [c_eq (by rw [h2]; exact Nat.zero_le _) rg_zero_le, key_zero, decide_eq_true]
    have := key_natAbs r; omega
  clear h1 h2 hf
  go_enter Try.func30, Try.ntmps30
  go_wp2
  go_ret
  exact ⟨rfl, rfl⟩

set_option maxHeartbeats 400000 in
theorem specFinite_no (x : Nat) (w : World) (hf : INF ≤ rg x) :
    Calls Try.prog 30 #[.float .f64 x] w fun e w' => e = .returned (.bool false) ∧ Qt w w' := by
  have h3 := run_n (op := .sub) (Or.inr (Or.inl rfl)) (sub_self_nan hf)
  have h4 : (FloatKind.f64.format.order (nb w x x) 0 == some .eq) = false := by
    rw [c_nan (Or.inl (nan_true.1 (nan_nb w x x)))]; rfl
  clear hf
  go_enter Try.func30, Try.ntmps30
  go_wp2
  go_ret
  exact ⟨rfl, (Qt.refl _).drew⟩
end Go.Proofs.Ytlpcpoganlmiaaa

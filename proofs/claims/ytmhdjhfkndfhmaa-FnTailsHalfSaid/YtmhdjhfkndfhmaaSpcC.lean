/-
  Contracts of the reference: NaN, Finite.
-/
import Derived.Test.YtmhdjhfkndfhmaaSpcA
import Derived.Test.YtmhdjhfkndfhmaaFln
namespace Go.Proofs.Ytmhdjhfkndfhmaa
open Go.RowKit Flt

theorem run_n {op : BinOp} {x y : Nat} (hop : op = .add ∨ op = .sub ∨ op = .mul ∨ op = .quo) (h : floatBits op .f64 x y = none) (w : World) : (binOp op 22 (.float .f64 x) (.float .f64 y)).run Try.prog w = .ok (.float .f64 (nb w x y)) w.drew := run_float_nan hop h w

/-- some NaN -/
def GivesNaN (w : World) (e : Ending) (w' : World) : Prop := ∃ b, e = .returned (.float .f64 b) ∧ nan b = true ∧ b < 2 ^ 64 ∧ Qt w w'

set_option maxHeartbeats 400000 in
theorem specNaN_any (w : World) : Calls Try.prog 64 #[] w (GivesNaN w) := by
  have h := run_n (op := .quo) (Or.inr (Or.inr (Or.inr rfl))) quo_zero_nan
  have h1 := Lib.hid (nan_nb w 0 0)
  have h2 := Lib.hid (nb_lt w 0 0)
  go_enter Try.func64, Try.ntmps64
  go_wp2
  go_ret
  exact ⟨_, rfl, h1.out, h2.out, (Qt.refl _).drew⟩

set_option maxHeartbeats 400000 in
theorem specFinite_yes (x : Nat) (w : World) (hf : rg x < INF) :
    Calls Try.prog 14 #[.float .f64 x] w fun e w' => e = .returned (.bool true) ∧ w = w' := by
  obtain ⟨r, h1, h2⟩ := sub_self_fin hf
  have h3 := run_f h1
  have h4 : (FloatKind.f64.format.order r 0 == some .eq) = true := by
    rw [c_eq (by rw [h2]; exact Nat.zero_le _) rg_zero_le, key_zero, decide_eq_true]
    have := key_natAbs r; omega
  clear h1 h2 hf
  go_enter Try.func14, Try.ntmps14
  go_wp2
  go_ret
  exact ⟨rfl, rfl⟩

set_option maxHeartbeats 400000 in
theorem specFinite_no (x : Nat) (w : World) (hf : INF ≤ rg x) :
    Calls Try.prog 14 #[.float .f64 x] w fun e w' => e = .returned (.bool false) ∧ Qt w w' := by
  have h3 := run_n (op := .sub) (Or.inr (Or.inl rfl)) (sub_self_nan hf)
  have h4 : (FloatKind.f64.format.order (nb w x x) 0 == some .eq) = false := by
    rw [c_nan (Or.inl (nan_true.1 (nan_nb w x x)))]; rfl
  clear hf
  go_enter Try.func14, Try.ntmps14
  go_wp2
  go_ret
  exact ⟨rfl, (Qt.refl _).drew⟩
end Go.Proofs.Ytmhdjhfkndfhmaa

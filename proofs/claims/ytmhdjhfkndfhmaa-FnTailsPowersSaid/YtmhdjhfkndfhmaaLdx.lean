/-
  Contract of impl.Ldexp.
-/
import Derived.Test.YtmhdjhfkndfhmaaLibC
import Derived.Test.YtmhdjhfkndfhmaaImpA
namespace Go.Proofs.Ytmhdjhfkndfhmaa
open Go.RowKit Flt

/-- the exponent that the thin package makes of an integer -/
def ex (e : Int) : Int := e % 8001 - 4000
theorem ex_bd (e : Int) : -4000 ≤ ex e ∧ ex e ≤ 4000 := by unfold ex; omega
theorem ex_shift {k : Int} (h1 : -4000 ≤ k) (h2 : k ≤ 4000) : ex (k + 4000) = k := by unfold ex; omega

set_option maxHeartbeats 400000 in
theorem impLdexp_any (x : Nat) (e : Int) (w : World) (hx : x < 2 ^ 64) :
    Calls Try.prog 29 #[.float .f64 x, .int .i64 e] w fun e' w' => e' = .returned (.float .f64 (ld x (ex e))) ∧ w = w' := by
  have hb := ex_bd e
  have h0 := Int.emod_nonneg e (show (8001 : Int) ≠ 0 by omega)
  have h1 := Int.emod_lt_of_pos e (show (0 : Int) < 8001 by omega)
  have H := Lib.hid (fun W : World => ldexp_any x (ex e) W hx (by omega) (by omega))
  have he : Hid (ex e = e % 8001 - 4000) := rfl
  rw [he.out] at H ⊢
  clear hx hb he
  go_enter Try.func29, Try.ntmps29
  go_wp2_with (first | (go_at_call 39; ((with_reducible refine (at_any _ _ _ (by decide) (by decide)).mono ?_)); rintro e w' ⟨rfl, rfl⟩) | (go_at_call 38; ((with_reducible refine (H.out _).mono ?_)); rintro e w' ⟨rfl, rfl⟩))
  go_ret
  exact ⟨rfl, rfl⟩
end Go.Proofs.Ytmhdjhfkndfhmaa

/-
  Contracts of impl.Mod and impl.Reduce.
-/
import Derived.Test.YtmhdjhfkndfhmaaLibE
import Derived.Test.YtmhdjhfkndfhmaaMem
namespace Go.Proofs.Ytmhdjhfkndfhmaa
open Go.RowKit Flt

set_option maxHeartbeats 400000 in
theorem impMod_any (x y : Nat) (w : World) (hx : x < 2 ^ 64) (hy : y < 2 ^ 64) :
    Calls Try.prog 20 #[.float .f64 x, .float .f64 y] w fun e w' => e = .returned (.float .f64 (modW x y)) ∧ w = w' := by
  have H := Lib.hid (fun W : World => mod_any x y W hx hy)
  clear hx hy
  go_enter Try.func20, Try.ntmps20
  go_wp2_with (go_at_call 37; ((with_reducible refine (H.out _).mono ?_)); rintro e w' ⟨rfl, rfl⟩)
  go_ret
  exact ⟨rfl, rfl⟩

/-- all remainders, one after the other -/
def redW (x : Nat) (l : List Nat) : Nat := l.foldl modW x
theorem redW_lt {x : Nat} (hx : x < 2 ^ 64) (l : List Nat) : redW x l < 2 ^ 64 := by
  induction l generalizing x with
  | nil => exact hx
  | cons y l ih => exact ih modW_lt
theorem redW_snoc (x : Nat) (l : List Nat) (y : Nat) : redW x (l ++ [y]) = modW (redW x l) y := by
  unfold redW; rw [List.foldl_append]; rfl

theorem one_one : (FloatKind.f64.format.order 4607182418800017408 4607182418800017408 == some .eq) = true := by
  rw [c_self']; rfl
end Go.Proofs.Ytmhdjhfkndfhmaa

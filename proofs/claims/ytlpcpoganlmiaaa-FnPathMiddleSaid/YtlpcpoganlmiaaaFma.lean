/-
  Calls of math.FMA, and impl.Dot where all sums are numbers.
-/
import Derived.Test.YtlpcpoganlmiaaaMem
import Derived.Test.YtlpcpoganlmiaaaFlw
import Derived.Test.YtlpcpoganlmiaaaRows
namespace Go.Proofs.Ytlpcpoganlmiaaa
open Go.RowKit Flt Ieee

theorem ext_fma : Extern.find Try.f41 = some Extern.MathFMA.fma := by kernel_rfl
theorem fma_form (x y z : Nat) : ∃ F : Sem Value, Extern.MathFMA.fma #[.float .f64 x, .float .f64 y, .float .f64 z] = (match double.fma x y z with | some r => pure (.float .f64 r) | none => F) := ⟨_, rfl⟩
theorem call_fma {x y z r : Nat} (h : double.fma x y z = some r) (w : World) : (callFunc 41 #[.float .f64 x, .float .f64 y, .float .f64 z]).run Try.prog w = .ok (.value (.float .f64 r)) w := by
  rw [run_callFunc_extern Try.func41 (by kernel_rfl) (by kernel_rfl) (by kernel_rfl) ext_fma]
  obtain ⟨F, hF⟩ := fma_form x y z
  rw [hF, h]
  rfl

/-- the sums on the way are numbers: Z tells them -/
structure DotTo (xs ys : List Nat) (Z : Nat → Nat) (n : Nat) : Prop where
  step : ∀ i, i < n → double.fma (xs.getD i 0) (ys.getD i 0) (Z i) = some (Z (i + 1))

end Go.Proofs.Ytlpcpoganlmiaaa

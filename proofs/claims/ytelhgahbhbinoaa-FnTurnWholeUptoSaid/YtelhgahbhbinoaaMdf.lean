/-
  Contracts of package math: Trunc, Modf, of finite numbers.
-/
import Derived.Test.YtelhgahbhbinoaaLibA
import Derived.Test.YtelhgahbhbinoaaMem
import Derived.Test.YtelhgahbhbinoaaFld
namespace Go.Proofs.Ytelhgahbhbinoaa
open Go.RowKit Flt

theorem run_h {op : BinOp} {x y r : Nat} (h : floatBits op .f64 x y = some r) (w : World) : (binOp op 23 (.float .f64 x) (.float .f64 y)).run Try.prog w = .ok (.float .f64 r) w := run_float_arith w op _ .f64 x y r h

theorem trunc_form (x : Nat) : ∃ F : Bool → Nat → Sem Value, Extern.MathFloor.toIntegral "math.archTrunc" .zero #[.float .f64 x] = (match FloatKind.f64.decode x with | .nan s t => F s t | d => pure (.float .f64 (FloatKind.f64.encode (d.integral .zero)))) := ⟨_, rfl⟩
theorem run_trunc {x : Nat} {d : Ieee.Datum} (hd : FloatKind.f64.decode x = d) (hn : d.isNaN = false) : Extern.MathFloor.toIntegral "math.archTrunc" .zero #[.float .f64 x] = pure (.float .f64 (FloatKind.f64.encode (d.integral .zero))) := by
  obtain ⟨F, h⟩ := trunc_form x
  rw [h, hd]
  cases d with
  | number s m i => rfl
  | infinity s => rfl
  | nan s t => cases hn

end Go.Proofs.Ytelhgahbhbinoaa

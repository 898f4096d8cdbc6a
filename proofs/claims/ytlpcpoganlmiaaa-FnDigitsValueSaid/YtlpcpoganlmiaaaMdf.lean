/-
  Contracts of package math: Trunc, Modf, of finite numbers.
-/
import Derived.Test.YtlpcpoganlmiaaaLibA
import Derived.Test.YtlpcpoganlmiaaaMem
import Derived.Test.YtlpcpoganlmiaaaFld
namespace Go.Proofs.Ytlpcpoganlmiaaa
open Go.RowKit Flt

theorem run_h {op : BinOp} {x y r : Nat} (h : floatBits op .f64 x y = some r) (w : World) : (binOp op 24 (.float .f64 x) (.float .f64 y)).run Try.prog w = .ok (.float .f64 r) w := run_float_arith w op _ .f64 x y r h

theorem ext_trunc : Extern.find Try.f57 = some (Extern.MathFloor.toIntegral "math.archTrunc" .zero) := by kernel_rfl
theorem trunc_form (x : Nat) : ∃ F : Bool → Nat → Sem Value, Extern.MathFloor.toIntegral "math.archTrunc" .zero #[.float .f64 x] = (match FloatKind.f64.decode x with | .nan s t => F s t | d => pure (.float .f64 (FloatKind.f64.encode (d.integral .zero)))) := ⟨_, rfl⟩
theorem run_trunc {x : Nat} {d : Ieee.Datum} (hd : FloatKind.f64.decode x = d) (hn : d.isNaN = false) : Extern.MathFloor.toIntegral "math.archTrunc" .zero #[.float .f64 x] = pure (.float .f64 (FloatKind.f64.encode (d.integral .zero))) := by
  obtain ⟨F, h⟩ := trunc_form x
  rw [h, hd]
  cases d with
  | number s m i => rfl
  | infinity s => rfl
  | nan s t => cases hn

theorem call_trunc (x : Nat) (hx : rg x < INF) (w : World) : (callFunc 57 #[.float .f64 x]).run Try.prog w = .ok (.value (.float .f64 (ipart x))) w := by
  rw [run_callFunc_extern Try.func57 (by kernel_rfl) (by kernel_rfl) (by kernel_rfl) ext_trunc]
  have h := trunc_eq hx
  obtain ⟨m, e, hr, _⟩ := read_fin hx
  have e1 : FloatKind.f64.decode x = .number (sg x) m ((e : Int) - 1074) := hr
  rw [← h, run_trunc (d := FloatKind.f64.decode x) rfl (by rw [e1]; rfl)]
  rfl

set_option maxHeartbeats 400000 in
theorem trunc_any (x : Nat) (w : World) (hx : rg x < INF) :
    Calls Try.prog 51 #[.float .f64 x] w fun e w' => e = .returned (.float .f64 (ipart x)) ∧ w = w' := by
  have h := call_trunc x hx
  clear hx
  go_enter Try.func51, Try.ntmps51
  go_wp2
  go_ret
  exact ⟨rfl, rfl⟩

set_option maxHeartbeats 400000 in
theorem modf_any (x : Nat) (w : World) (hx : x < 2 ^ 64) (hf : rg x < INF) :
    Calls Try.prog 40 #[.float .f64 x] w fun e w' => e = .returned (.tuple #[.float .f64 (ipart x), .float .f64 (fpart x)]) ∧ w = w' := by
  obtain ⟨r, hr, hl, hm⟩ := sub_ipart hf
  have hs := run_h hr
  have HT := Lib.hid (fun W : World => trunc_any x W hf)
  have HC := Lib.hid (fun W : World => copysign_any r x W hl hx)
  rw [hm] at HC
  clear hr hl hm hx hf
  go_enter Try.func40, Try.ntmps40
  go_wp2_with (first | (go_at_call 51; ((with_reducible refine (HT.out _).mono ?_)); rintro e w' ⟨rfl, rfl⟩) | (go_at_call 46; ((with_reducible refine (HC.out _).mono ?_)); rintro e w' ⟨rfl, rfl⟩))
  go_ret2
  exact ⟨rfl, rfl⟩
end Go.Proofs.Ytlpcpoganlmiaaa

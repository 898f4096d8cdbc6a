/-
  The contract of impl.Modf.
-/
import Derived.Test.YtlpcpoganlmiaaaMdf
namespace Go.Proofs.Ytlpcpoganlmiaaa
open Go.RowKit Flt

set_option maxHeartbeats 400000 in
theorem impModf_any (x : Nat) (w : World) (hx : x < 2 ^ 64) (hf : rg x < INF) :
    Calls Try.prog 34 #[.float .f64 x] w fun e w' => e = .returned (.tuple #[.float .f64 (ipart x), .float .f64 (fpart x)]) ∧ w = w' := by
  have H := Lib.hid (fun W : World => modf_any x W hx hf)
  clear hx hf
  generalize ipart x = a at *
  generalize fpart x = b at *
  go_enter Try.func34, Try.ntmps34
  go_wp2_with (go_at_call 40; ((with_reducible refine (H.out _).mono ?_)); rintro e w' ⟨rfl, rfl⟩)
  go_ret2
  exact ⟨rfl, rfl⟩
end Go.Proofs.Ytlpcpoganlmiaaa

/-
  The walk of laws.FnTurnIs: it returns true, for every start, all steps and every whole turn.
-/
import Derived.Test.YtelhgahbhbinoaaSpS
import Derived.Test.YtelhgahbhbinoaaLawA
import Derived.Test.YtelhgahbhbinoaaRow
namespace Go.Proofs.Ytelhgahbhbinoaa.LTurnIs
open Go.RowKit Flt

set_option maxHeartbeats 800000 in
theorem walk (w : World) (s : Nat) (hs : s < 2 ^ 64) (A : Option Addr) (n c : Nat) (l : List Nat) (h : FRow w A n c l) (y : Nat) (hy : y < 2 ^ 64) :
    Calls Try.prog 12 #[.float .f64 s, .slice A n c, .float .f64 y] w fun e' w' => e' = .returned (.bool true) ∧ Below w.heap.size w w' := by
  obtain ⟨hlen, hcap, hroom, hrd, hwd⟩ := h
  have H1 := Lib.hid (turn_any s y l A c n w.heap.size w hs hy hlen (by omega) hrd)
  have H2 := Lib.hid (fun (W : World) (q : Qt w W) => specTurn_any s y l A c n w.heap.size W hs hy hlen (by omega) (Nat.le_of_eq q.size.symm) (hrd.qt q))
  have o1 := one_two
  clear hlen hwd hrd
  go_enter Try.func12, Try.ntmps12
  go_wp2_with fail
  ((with_reducible refine H1.out.mono ?_); rintro e w1 ⟨b1, rfl, v1, l1, q1⟩; have V1 := Lib.hid v1; clear v1)
  go_wp2_with fail
  ((with_reducible refine (H2.out _ q1).mono ?_); rintro e w2 ⟨b2, rfl, v2, l2, bel2⟩; have V2 := Lib.hid v2; clear v2)
  have HS := Lib.hid (fun W : World => same_any b1 b2 W)
  rw [vl_same (show vl b1 = vl b2 by rw [V1.out, V2.out])] at HS
  clear V2 V1
  go_wp2_with fail
  ((with_reducible refine (HS.out _).mono ?_); rintro e w' ⟨rfl, rfl⟩)
  go_wp2_with fail
  ((with_reducible refine (turn_nil _ _ _ _ _).mono ?_); rintro e w' ⟨rfl, rfl⟩)
  go_wp2
  go_ret
  exact ⟨rfl, (q1.below _).trans (bel2.mono (Nat.le_of_eq q1.size.symm))⟩
end Go.Proofs.Ytelhgahbhbinoaa.LTurnIs

/-
  The walk of laws.FnPathNext: it returns true, for all words x, y.
-/
import Derived.Test.YtcgbghmeommmfaaLawA
import Derived.Test.YtcgbghmeommmfaaPth
namespace Go.Proofs.Ytcgbghmeommmfaa
open Go.RowKit Flt

set_option maxHeartbeats 400000 in
theorem impNextafter_any (x y : Nat) (w : World) (hx : x < 2 ^ 64) (hy : y < 2 ^ 64) :
    Calls Try.prog 22 #[.float .f64 x, .float .f64 y] w fun e w' => e = .returned (.float .f64 (nxt x y)) ∧ w = w' := by
  go_enter Try.func22, Try.ntmps22
  go_wp2_with (go_at_call 38; refine (nextafter_any _ _ _ hx hy).mono ?_; rintro e w' ⟨rfl, rfl⟩)
  go_ret
  exact ⟨rfl, rfl⟩

namespace LPathNext
set_option maxHeartbeats 800000 in
theorem walk (w : World) (x : Nat) (hx : x < 2 ^ 64) (y : Nat) (hy : y < 2 ^ 64) :
    Calls Try.prog 8 #[.float .f64 x, .float .f64 y] w fun e w' => e = .returned (.bool true) ∧ Below w.heap.size w w' := by
  go_enter Try.func8, Try.ntmps8
  go_wp2_with fail
  refine (path_any _ _ _ _ hx hy).mono ?_
  rintro e w1 ⟨A, c, rfl, hc, hown, hbel⟩
  have hr := Rd.of_own hown
  have hl := pathV_len y x 2
  have hm : ((2 : Int) % 200).toNat = 2 := rfl
  rw [hm] at *
  rw [hl]
  obtain ⟨ad, rfl, _, c1⟩ := hr.fl (k := 1) (by rw [pathW_len]; omega)
  obtain ⟨ad', e2, _, c2⟩ := hr.fl (k := 2) (by rw [pathW_len]; omega)
  cases e2
  rw [pathW_get (by omega)] at c1 c2
  have s1 : same (it y x 1) (nxt x y) = true := same_refl _
  have s2 : same (it y x 2) (nxt (it y x 1) y) = true := same_refl _
  have l1 := it_lt y hx 1
  generalize it y x 1 = p1 at *
  generalize it y x 2 = p2 at *
  simp [Addr.add] at c1 c2
  clear hown hr hl hm hc
  go_wp2
  go_quiet (first | (go_at_call 17; exact quiet_w (same_any _ _ _)) | (go_at_call 22; exact quiet_w (impNextafter_any _ _ _ (by assumption) hy)))
  go_wp2
  go_ret
  exact ⟨rfl, (Qt.drewN (Qt.refl _) _).below _ |> hbel.trans⟩
end LPathNext
end Go.Proofs.Ytcgbghmeommmfaa

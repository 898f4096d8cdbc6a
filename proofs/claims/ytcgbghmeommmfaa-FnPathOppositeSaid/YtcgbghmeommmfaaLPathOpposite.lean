/-
  The walk of laws.FnPathOpposite: it returns true, for all words x, y and every n.
-/
import Derived.Test.YtcgbghmeommmfaaLawA
import Derived.Test.YtcgbghmeommmfaaNeg
import Derived.Test.YtcgbghmeommmfaaPth
namespace Go.Proofs.Ytcgbghmeommmfaa.LPathOpposite
open Go.RowKit Flt

theorem alls (x y m : Nat) (hx : x < 2 ^ 64) (hy : y < 2 ^ 64) : Alls (pathW (Op.negFloat .f64 y) (Op.negFloat .f64 x) m) (negs (pathW y x m)) := by
  refine ⟨by rw [negs_len, pathW_len, pathW_len], fun k hk => ?_⟩
  rw [pathW_len] at hk
  rw [pathW_get (by omega), negs_get (by rw [pathW_len]; omega), pathW_get (by omega)]
  exact it_opposite hx hy k

set_option maxHeartbeats 800000 in
theorem walk (w : World) (x : Nat) (hx : x < 2 ^ 64) (y : Nat) (hy : y < 2 ^ 64) (n : Int) (_hn : -9223372036854775808 ≤ n ∧ n ≤ 9223372036854775807) :
    Calls Try.prog 6 #[.float .f64 x, .float .f64 y, .int .i64 n] w fun e w' => e = .returned (.bool true) ∧ Below w.heap.size w w' := by
  have hng := neg_word
  go_enter Try.func6, Try.ntmps6
  go_wp2_with fail
  refine (path_any _ _ _ _ hx hy).mono ?_
  have hm200 : (n % 200).toNat < 200 := by omega
  generalize hm : (n % 200).toNat = m at *
  have hM := Lib.hid hm
  clear hm
  rintro e w1 ⟨A, c, rfl, hc, hown, hbel⟩
  have hr := Rd.of_own hown
  rw [pathV_len]
  have hS := Lib.hid (alls x y m hx hy)
  clear hown hc
  go_wp2_with fail
  refine (path_any _ _ _ _ (neg_lt x hx) (neg_lt y hy)).mono ?_
  rw [hM.out]
  rintro e w2 ⟨A2, c2, rfl, hc2, hown2, hbel2⟩
  have hr2 := Rd.of_own hown2
  have hr1 := hr.below hbel2
  rw [pathV_len]
  clear hown2 hc2 hr
  go_wp2_with fail
  refine (negated_any (pathW y x m) _ _ _ _ _ (pathW_len y x m) (by omega) hbel2.size hr1).mono ?_
  rintro e w3 ⟨A3, c3, rfl, hc3, hown3, hbel3⟩
  have hr3 := Rd.of_own hown3
  have hr2' := hr2.below hbel3
  have hl3 : (fl (negs (pathW y x m))).length = m + 1 := by rw [fl_len, negs_len, pathW_len]
  rw [hl3]
  clear hl3 hown3 hc3 hr2
  go_wp2_with fail
  refine (sameAll_any _ _ _ _ _ _ _ _ _ _ (pathW_len _ _ m) (by rw [negs_len, pathW_len]) (by omega) (hr2'.more hbel3.size) hr3 hS.out).mono ?_
  rintro e w4 ⟨rfl, hq⟩
  go_wp2
  go_ret
  exact ⟨rfl, ((hbel.trans (hbel2.mono hbel.size)).trans (hbel3.mono (Nat.le_trans hbel.size hbel2.size))).trans (hq.below _)⟩
end Go.Proofs.Ytcgbghmeommmfaa.LPathOpposite

/-
  The walk of laws.FnHornerCut: it returns true, for every start, all lists of at most 1048576 numbers, and every x.
-/
import Derived.Test.YtbhallblmphlmaaHor
import Derived.Test.YtbhallblmphlmaaJoi
import Derived.Test.YtbhallblmphlmaaLawA
import Derived.Test.YtbhallblmphlmaaRow
namespace Go.Proofs.Ytbhallblmphlmaa.LHornerCut
open Go.RowKit Flt

set_option maxHeartbeats 1600000 in
theorem walk (w : World) (s : Nat) (hs : s < 2 ^ 64) (A : Option Addr) (n c : Nat) (l : List Nat) (h : FRow w A n c l) (hb : n ≤ 1048576) (hz : A = none → c = 0)
    (A' : Option Addr) (n' c' : Nat) (l' : List Nat) (h' : FRow w A' n' c' l') (hb' : n' ≤ 1048576) (hz' : A' = none → c' = 0) (y : Nat) (_hy : y < 2 ^ 64) :
    Calls Try.prog 3 #[.float .f64 s, .slice A n c, .slice A' n' c', .float .f64 y] w fun e' w' => e' = .returned (.bool true) ∧ Below w.heap.size w w' := by
  have R := Lib.hid h
  have R' := Lib.hid h'
  have HZ := Lib.hid hz
  have HZ' := Lib.hid hz'
  have o1 := c_self' s
  have o2 := c_self s
  have HT := Lib.hid (horner_any s y l A c n w.heap.size w hs h.len (by omega) h.reads)
  clear h h' hz hz'
  generalize nan s = ns at *
  go_enter Try.func3, Try.ntmps3
  go_wp2_with fail
  ((with_reducible refine HT.out.mono ?_); rintro e w1 ⟨b1, rfl, v1, l1, q1⟩; have V1 := Lib.hid v1; clear v1 HT)
  have HT2 := Lib.hid (horner_any b1 y l' A' c' n' w.heap.size w1 l1 R'.out.len (by omega) (R'.out.reads.qt q1))
  go_wp2_with fail
  ((with_reducible refine HT2.out.mono ?_); rintro e w2 ⟨b2, rfl, v2, l2, q2⟩; have V2 := Lib.hid v2; clear v2 HT2)
  have q12 := q1.trans q2
  have HJ := Lib.hid (joined_any l l' A A' c c' n n' w.heap.size w2 R.out.len R'.out.len (by omega) (Nat.le_of_eq q12.size.symm) (R.out.reads.qt q12) (R'.out.reads.qt q12) HZ.out HZ'.out)
  go_wp2_with fail
  ((with_reducible refine HJ.out.mono ?_); rintro e w3 ⟨A3, c3, rfl, hc3, hown3, hbel3⟩; clear HJ)
  have hl3 : (l ++ l').length = n + n' := by rw [List.length_append, R.out.len, R'.out.len]
  have HT3 := Lib.hid (horner_any s y (l ++ l') A3 c3 (n + n') w3.heap.size w3 hs hl3 (by omega) (Rd.of_own hown3))
  rw [fl_len, hl3]
  clear hl3 hown3 hc3
  go_wp2_with fail
  ((with_reducible refine HT3.out.mono ?_); rintro e w4 ⟨b4, rfl, v4, l4, q4⟩; have V4 := Lib.hid v4; clear v4 HT3)
  have HS := Lib.hid (fun W : World => same_any b2 b4 W)
  rw [vl_same (show vl b2 = vl b4 by rw [V2.out, V4.out, V1.out, List.map_append, horv_append])] at HS
  clear V1 V2 V4
  go_wp2_with fail
  ((with_reducible refine (HS.out _).mono ?_); rintro e w' ⟨rfl, rfl⟩)
  go_wp2_with fail
  ((with_reducible refine (horner_nil _ _ _ _ _).mono ?_); rintro e w' ⟨rfl, rfl⟩)
  cases ns
  all_goals
    go_wp2
    go_ret
    exact ⟨rfl, ((q12.below _).trans (hbel3.mono (Nat.le_of_eq q12.size.symm))).trans (q4.below _)⟩
end Go.Proofs.Ytbhallblmphlmaa.LHornerCut

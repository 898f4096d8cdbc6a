/-
  The walk of laws.FnHornerIs: it returns true, for every start, all lists and every x.
-/
import Derived.Test.YtbhallblmphlmaaSpH
import Derived.Test.YtbhallblmphlmaaLawA
import Derived.Test.YtbhallblmphlmaaRow
namespace Go.Proofs.Ytbhallblmphlmaa.LHornerIs
open Go.RowKit Flt

theorem same_yes {a b : Nat} (h : vl a = vl b) (w : World) : Calls Try.prog 15 #[.float .f64 a, .float .f64 b] w fun e w' => e = .returned (.bool true) ∧ w = w' := by
  have := same_any a b w
  rw [vl_same h] at this
  exact this

set_option maxHeartbeats 1600000 in
theorem walk (w : World) (s : Nat) (hs : s < 2 ^ 64) (A : Option Addr) (n c : Nat) (l : List Nat) (h : FRow w A n c l) (x : Nat) (hx : x < 2 ^ 64) :
    Calls Try.prog 4 #[.float .f64 s, .slice A n c, .float .f64 x] w fun e' w' => e' = .returned (.bool true) ∧ Below w.heap.size w w' := by
  have hroom := h.room
  have R := Lib.hid h
  have o1 := one_three
  have HH := Lib.hid (horner_any s x l A c n w.heap.size w hs h.len (by omega) h.reads)
  clear h
  go_enter Try.func4, Try.ntmps4
  go_wp2_with fail
  ((with_reducible refine HH.out.mono ?_); rintro e w1 ⟨b1, rfl, v1, l1, q1⟩)
  have V1 := Lib.hid v1
  have HS := Lib.hid (specHorner_any s x l A c n w.heap.size w1 hs hx R.out.words R.out.len (by omega) (Nat.le_of_eq q1.size.symm) (R.out.reads.qt q1))
  clear v1 HH
  go_wp2_with fail
  ((with_reducible refine HS.out.mono ?_); rintro e w2 ⟨b2, rfl, v2, l2, be2⟩)
  have HE := Lib.hid (fun W : World => same_yes (a := b1) (b := b2) (by rw [V1.out, v2]) W)
  clear v2 HS V1
  go_wp2_with fail
  ((with_reducible refine (HE.out _).mono ?_); rintro e w' ⟨rfl, rfl⟩)
  go_wp2_with fail
  ((with_reducible refine (horner_nil _ _ _ _ _).mono ?_); rintro e w' ⟨rfl, rfl⟩)
  go_wp2
  go_ret
  exact ⟨rfl, (q1.below _).trans (be2.mono (Nat.le_of_eq q1.size.symm))⟩
end Go.Proofs.Ytbhallblmphlmaa.LHornerIs

/-
  The walk of laws.FnDotIs: it returns true, for every start and all lists.
-/
import Derived.Test.YtbhallblmphlmaaSpH
import Derived.Test.YtbhallblmphlmaaLawA
import Derived.Test.YtbhallblmphlmaaRow
namespace Go.Proofs.Ytbhallblmphlmaa.LDotIs
open Go.RowKit Flt

theorem same_yes {a b : Nat} (h : vl a = vl b) (w : World) : Calls Try.prog 15 #[.float .f64 a, .float .f64 b] w fun e w' => e = .returned (.bool true) ∧ w = w' := by
  have := same_any a b w
  rw [vl_same h] at this
  exact this

set_option maxHeartbeats 1600000 in
theorem walk (w : World) (s : Nat) (hs : s < 2 ^ 64) (A : Option Addr) (n c : Nat) (l : List Nat) (h : FRow w A n c l) (A' : Option Addr) (n' c' : Nat) (l' : List Nat) (h' : FRow w A' n' c' l') :
    Calls Try.prog 9 #[.float .f64 s, .slice A n c, .slice A' n' c'] w fun e' w' => e' = .returned (.bool true) ∧ Below w.heap.size w w' := by
  have hroom := h.room
  have hroom' := h'.room
  have R := Lib.hid h
  have R' := Lib.hid h'
  have o1 := one_three
  have HH := Lib.hid (dotVal_any s l l' A A' c c' n n' w.heap.size w hs h.len h'.len (by omega) (by omega) h.reads h'.reads)
  clear h h'
  go_enter Try.func9, Try.ntmps9
  go_wp2_with fail
  ((with_reducible refine HH.out.mono ?_); rintro e w1 ⟨b1, rfl, v1, l1, q1⟩)
  have V1 := Lib.hid v1
  have HS := Lib.hid (specDot_any s l l' A A' c c' n n' w.heap.size w1 hs R.out.words R'.out.words R.out.len R'.out.len (by omega) (by omega) (Nat.le_of_eq q1.size.symm) (R.out.reads.qt q1) (R'.out.reads.qt q1))
  clear v1 HH
  go_wp2_with fail
  ((with_reducible refine HS.out.mono ?_); rintro e w2 ⟨b2, rfl, v2, l2, be2⟩)
  have HE := Lib.hid (fun W : World => same_yes (a := b1) (b := b2) (by rw [V1.out, v2]) W)
  clear v2 HS V1
  go_wp2_with fail
  ((with_reducible refine (HE.out _).mono ?_); rintro e w' ⟨rfl, rfl⟩)
  go_wp2_with fail
  ((with_reducible refine (dotVal_nil _ _ _ _ _ _ _).mono ?_); rintro e w' ⟨rfl, rfl⟩)
  go_wp2
  go_ret
  exact ⟨rfl, (q1.below _).trans (be2.mono (Nat.le_of_eq q1.size.symm))⟩
end Go.Proofs.Ytbhallblmphlmaa.LDotIs

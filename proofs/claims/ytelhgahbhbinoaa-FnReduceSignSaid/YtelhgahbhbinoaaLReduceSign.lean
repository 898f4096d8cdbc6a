/-
  The walk of laws.FnReduceSign: it returns true, for every number and every list.
-/
import Derived.Test.YtelhgahbhbinoaaRed
import Derived.Test.YtelhgahbhbinoaaSpcB
import Derived.Test.YtelhgahbhbinoaaSpcC
import Derived.Test.YtelhgahbhbinoaaLawA
import Derived.Test.YtelhgahbhbinoaaRow
namespace Go.Proofs.Ytelhgahbhbinoaa.LReduceSign
open Go.RowKit Flt

/-- what the remainders leave: no number, or the sign and at most the absolute value of the number -/
theorem red_sign {x : Nat} (l : List Nat) : nan (redW x l) = true ∨ (sg (redW x l) = sg x ∧ rg (redW x l) ≤ rg x ∧ rg x ≤ INF) := by
  induction l generalizing x with
  | nil =>
    rcases Nat.lt_or_ge INF (rg x) with h | h
    · exact Or.inl (nan_true.2 h)
    · exact Or.inr ⟨rfl, Nat.le_refl _, h⟩
  | cons y l ih =>
    show nan (redW (modW x y) l) = true ∨ (sg (redW (modW x y) l) = sg x ∧ rg (redW (modW x y) l) ≤ rg x ∧ rg x ≤ INF)
    by_cases h : INF ≤ rg x ∨ rg y = 0 ∨ INF < rg y
    · rw [modW_nan h]
      left
      have : ∀ l : List Nat, nan (redW qNaN l) = true := by
        intro l
        induction l with
        | nil => exact nan_qNaN
        | cons z l ih =>
          show nan (redW (modW qNaN z) l) = true
          rw [modW_nan (Or.inl (by decide))]; exact ih
      exact this l
    · have hF := modW_fits (x := x) (y := y) (by omega) (by omega)
      have e := modW_num (x := x) (y := y) (by omega) (by omega) (by omega)
      have e1 : sg (modW x y) = sg x := by rw [e, sg_mkwd _ hF.rep hF.lt]
      have e2 : rg (modW x y) ≤ rg x := by
        rw [e, rg_mkwd _ hF.rep hF.lt]
        have h1 := (wd_le_iff hF.rep (rep_rv (rg x))).2 (Nat.mod_le _ _)
        rwa [wd_rv] at h1
      rcases ih (x := modW x y) with h1 | ⟨h1, h2, _⟩
      · exact Or.inl h1
      · exact Or.inr ⟨by rw [h1, e1], by omega, by omega⟩

set_option maxHeartbeats 1600000 in
theorem walk (w : World) (x : Nat) (hx : x < 2 ^ 64) (A : Option Addr) (n c : Nat) (l : List Nat) (h : FRow w A n c l) :
    Calls Try.prog 5 #[.float .f64 x, .slice A n c] w fun e' w' => e' = .returned (.bool true) ∧ Below w.heap.size w w' := by
  obtain ⟨hlen0, hcap, hroom, hrd, hwd0⟩ := h
  have HR := Lib.hid (fun W : World => fun (hr : Rd W w.heap.size A (fl l)) => reduce_any x l A c n w.heap.size W hx hlen0 hwd0 (by omega) hr)
  have H0 := Lib.hid (HR.out w hrd)
  have HN := Lib.hid (fun W : World => reduce_nil 4607182418800017408 none 0 W)
  have o1 := one_one
  have hsgn := red_sign (x := x) l
  have hr := redW_lt hx l
  generalize redW x l = r at *
  clear HR hlen0 hwd0 hrd
  by_cases h0 : rg r = 0
  · have b0 := eq_zero_of h0
    clear hsgn hr h0
    go_enter Try.func5, Try.ntmps5
    go_wp2_with (go_at_call 20; first | (((with_reducible refine H0.out.mono ?_)); rintro e w' ⟨rfl, rfl⟩) | (((with_reducible refine (HN.out _).mono ?_)); rintro e w' ⟨rfl, rfl⟩))
    go_ret
    exact ⟨rfl, Below.refl _ _⟩
  have b0 := ne_zero_of h0
  have b1 := c_self r
  rcases hsgn with hn | ⟨h1, h2, h3⟩
  · rw [hn] at b1
    clear hr h0 hn
    go_enter Try.func5, Try.ntmps5
    go_wp2_with (go_at_call 20; first | (((with_reducible refine H0.out.mono ?_)); rintro e w' ⟨rfl, rfl⟩) | (((with_reducible refine (HN.out _).mono ?_)); rintro e w' ⟨rfl, rfl⟩))
    go_ret
    exact ⟨rfl, Below.refl _ _⟩
  rw [nan_false.2 (show rg r ≤ INF by omega)] at b1
  have b2 := lt_zero_sg h0 (show rg r ≤ INF by omega)
  have b3 := lt_zero_sg (x := x) (by omega) (by omega)
  rw [h1] at b2
  have HA := Lib.hid (fun W : World => specAbs_any r W hr (nan_false.2 (by omega)))
  have HB := Lib.hid (fun W : World => specAbs_any x W hx (nan_false.2 (by omega)))
  have hle : (FloatKind.f64.format.order (absW r) (absW x) == some .lt || FloatKind.f64.format.order (absW r) (absW x) == some .eq) = true := by
    rw [abs_rg hr h0, abs_rg hx (by omega), c_le (by rw [rg_rg]; omega) (by rw [rg_rg]; omega), key_rg, key_rg]
    exact decide_eq_true (by omega)
  generalize absW r = ar at *
  generalize absW x = ax at *
  clear hr h0 h1 h2 h3 hx
  cases sg x
  all_goals
    go_enter Try.func5, Try.ntmps5
    go_wp2_with (first | (go_at_call 20; first | (((with_reducible refine H0.out.mono ?_)); rintro e w' ⟨rfl, rfl⟩) | (((with_reducible refine (HN.out _).mono ?_)); rintro e w' ⟨rfl, rfl⟩)) | (go_at_call 17; first | (((with_reducible refine (HA.out _).mono ?_)); rintro e w' ⟨rfl, rfl⟩) | (((with_reducible refine (HB.out _).mono ?_)); rintro e w' ⟨rfl, rfl⟩)))
    go_ret
    exact ⟨rfl, Below.refl _ _⟩
end Go.Proofs.Ytelhgahbhbinoaa.LReduceSign

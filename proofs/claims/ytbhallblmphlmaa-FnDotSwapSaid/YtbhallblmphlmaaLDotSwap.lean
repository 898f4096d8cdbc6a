/-
  The walk of laws.FnDotSwap: it returns true, for every start and all lists.
-/
import Derived.Test.YtbhallblmphlmaaHor
import Derived.Test.YtbhallblmphlmaaLawA
import Derived.Test.YtbhallblmphlmaaRow
import Derived.Deep.RegionHeld3
namespace Go.Proofs.Ytbhallblmphlmaa.LDotSwap
open Go.RowKit Flt

theorem dot_swap : ∀ (l m : List Val) (s : Val), dotv s (m.zip l) = dotv s (l.zip m) := by
  intro l
  induction l with
  | nil => intro m s; rw [List.zip_nil_right, List.zip_nil_left]
  | cons a l ih =>
    intro m s
    cases m with
    | nil => rfl
    | cons b m =>
      show dotv (fmv b a s) (m.zip l) = dotv (fmv a b s) (l.zip m)
      rw [fmv_comm, ih]
theorem zip_take {α β : Type} : ∀ (k : Nat) (l : List α) (m : List β), (l.take k).zip (m.take k) = (l.zip m).take k := by
  intro k
  induction k with
  | zero => intro l m; rfl
  | succ k ih =>
    intro l m
    cases l with
    | nil => rfl
    | cons a l =>
      cases m with
      | nil => rfl
      | cons b m =>
        show (a, b) :: (l.take k).zip (m.take k) = (a, b) :: (l.zip m).take k
        rw [ih]
theorem prs_take (l l' : List Nat) (k : Nat) (h : min l.length l'.length ≤ k) : prs (l.take k) (l'.take k) = prs l l' := by
  unfold prs
  rw [List.map_take, List.map_take, zip_take, List.take_of_length_le]
  rw [List.length_zip, List.length_map, List.length_map]; exact h
theorem same_yes {a b : Nat} (h : vl a = vl b) (w : World) : Calls Try.prog 15 #[.float .f64 a, .float .f64 b] w fun e w' => e = .returned (.bool true) ∧ w = w' := by
  have := same_any a b w
  rw [vl_same h] at this
  exact this

set_option maxHeartbeats 1600000 in
theorem walk (w : World) (s : Nat) (hs : s < 2 ^ 64) (A : Option Addr) (n c : Nat) (l : List Nat) (h : FRow w A n c l) (A' : Option Addr) (n' c' : Nat) (l' : List Nat) (h' : FRow w A' n' c' l') :
    Calls Try.prog 11 #[.float .f64 s, .slice A n c, .slice A' n' c'] w fun e' w' => e' = .returned (.bool true) ∧ Below w.heap.size w w' := by
  have hroom := h.room
  have hroom' := h'.room
  have hcap := h.cap
  have hcap' := h'.cap
  have R := Lib.hid h
  have R' := Lib.hid h'
  have o1 := one_three
  have HD := Lib.hid (dotVal_any s l l' A A' c c' n n' w.heap.size w hs h.len h'.len (by omega) (by omega) h.reads h'.reads)
  clear h h'
  go_enter Try.func11, Try.ntmps11
  go_wp2_with fail
  ((with_reducible refine HD.out.mono ?_); rintro e w1 ⟨b1, rfl, v1, l1, q1⟩; have V1 := Lib.hid v1; clear v1 HD)
  have HD2 : Hid (∀ W : World, Qt w1 W → Calls Try.prog 24 #[.float .f64 s, .slice A' n' c', .slice A n c] W (FmGives (vl b1) W)) := fun W q => by
    have := dotVal_any s l' l A' A c' c n' n w.heap.size W hs R'.out.len R.out.len (by omega) (by omega) ((R'.out.reads.qt q1).qt q) ((R.out.reads.qt q1).qt q)
    have e : dotv (vl s) (prs l' l) = vl b1 := by rw [V1.out]; exact dot_swap _ _ _
    rw [e] at this
    exact this
  have HD3 : Hid (∀ k : Nat, k ≤ n → k ≤ n' → min n n' = k → ∀ W : World, Qt w1 W → Calls Try.prog 24 #[.float .f64 s, .slice A k c, .slice A' k c'] W (FmGives (vl b1) W)) := fun k hk1 hk2 hk3 W q => by
    have r1 := ((R.out.reads.qt q1).qt q).take k
    have r2 := ((R'.out.reads.qt q1).qt q).take k
    rw [fl_take] at r1 r2
    have := dotVal_any s (l.take k) (l'.take k) A A' c c' k k w.heap.size W hs (by rw [List.length_take, R.out.len]; omega) (by rw [List.length_take, R'.out.len]; omega) (by omega) (by omega) r1 r2
    rw [prs_take l l' k (by rw [R.out.len, R'.out.len, hk3]; exact Nat.le_refl _), ← V1.out] at this
    exact this
  have hQ : Qt w1 w1.drew := (Qt.refl _).drew
  have i4 : (n : Int) ≤ (c : Int) := by omega
  have i5 : (n' : Int) ≤ (c' : Int) := by omega
  rcases Nat.lt_or_ge n' n with hmm | hmm
  all_goals
    first | (have i1 : (n' : Int) ≤ (n : Int) := by omega) | (have i1 : (n : Int) ≤ (n' : Int) := by omega)
    first | (have i2 : (n' : Int) ≤ (c : Int) := by omega) | (have i2 : (n : Int) ≤ (c' : Int) := by omega)
    first | (have i3 : n' ≤ c := by omega) | (have i3 : n ≤ c' := by omega)
    first | have HD4 := Lib.hid (HD3.out n' (by omega) (by omega) (by omega)) | have HD4 := Lib.hid (HD3.out n (by omega) (by omega) (by omega))
    clear HD3
    go_wp2
    go_region_held3 (fun w' => Qt w1 w') (first | exact hQ3 | exact hQ2 | exact hQ) (first | (go_at_call 24; first | (((with_reducible refine (HD2.out _ hQ).mono ?_)); rintro e w2 ⟨b2, rfl, v2, l2, q2⟩; have V2 := Lib.hid v2; have hQ2 := hQ.trans q2; clear v2) | (((with_reducible refine (HD4.out _ hQ2).mono ?_)); rintro e w3 ⟨b2, rfl, v2, l2, q3⟩; have V2 := Lib.hid v2; have hQ3 := hQ2.trans q3; clear v2) | (((with_reducible refine (dotVal_nil _ _ _ _ _ _ _).mono ?_)); rintro e w' ⟨rfl, rfl⟩)) | (go_at_call 15; ((with_reducible refine (same_yes V2.out _).mono ?_)); rintro e w' ⟨rfl, rfl⟩))
    all_goals
      go_wp2
      go_ret
      exact ⟨rfl, (q1.trans hQ3).below _⟩
end Go.Proofs.Ytbhallblmphlmaa.LDotSwap

/-
  The walk of laws.FnDotCut: it returns true, for every start, all lists and every k.
-/
import Derived.Test.YtbhallblmphlmaaHor
import Derived.Test.YtbhallblmphlmaaLawA
import Derived.Test.YtbhallblmphlmaaRow
import Derived.Deep.RegionHeld3
namespace Go.Proofs.Ytbhallblmphlmaa.LDotCut
open Go.RowKit Flt

theorem zip_cut {α β : Type} : ∀ (k : Nat) (l : List α) (m : List β), k ≤ l.length → k ≤ m.length → (l.take k).zip (m.take k) ++ (l.drop k).zip (m.drop k) = l.zip m := by
  intro k
  induction k with
  | zero => intro l m _ _; rfl
  | succ k ih =>
    intro l m h1 h2
    cases l with
    | nil => cases h1
    | cons a l =>
      cases m with
      | nil => cases h2
      | cons b m =>
        show (a, b) :: ((l.take k).zip (m.take k) ++ (l.drop k).zip (m.drop k)) = (a, b) :: l.zip m
        rw [ih l m (by simpa using h1) (by simpa using h2)]
theorem dot_cut {l l' : List Nat} {k : Nat} (h1 : k ≤ l.length) (h2 : k ≤ l'.length) (s : Val) : dotv (dotv s (prs (l.take k) (l'.take k))) (prs (l.drop k) (l'.drop k)) = dotv s (prs l l') := by
  rw [← dotv_append]
  unfold prs
  rw [List.map_take, List.map_take, List.map_drop, List.map_drop, zip_cut k _ _ (by rw [List.length_map]; exact h1) (by rw [List.length_map]; exact h2)]
theorem same_yes {a b : Nat} (h : vl a = vl b) (w : World) : Calls Try.prog 15 #[.float .f64 a, .float .f64 b] w fun e w' => e = .returned (.bool true) ∧ w = w' := by
  have := same_any a b w
  rw [vl_same h] at this
  exact this

set_option maxHeartbeats 3200000 in
theorem walk (w : World) (s : Nat) (hs : s < 2 ^ 64) (A : Option Addr) (n c : Nat) (l : List Nat) (h : FRow w A n c l) (A' : Option Addr) (n' c' : Nat) (l' : List Nat) (h' : FRow w A' n' c' l') (k : Int) (_hk : -9223372036854775808 ≤ k ∧ k ≤ 9223372036854775807) :
    Calls Try.prog 8 #[.float .f64 s, .slice A n c, .slice A' n' c', .int .i64 k] w fun e' w' => e' = .returned (.bool true) ∧ Below w.heap.size w w' := by
  have hroom := h.room
  have hroom' := h'.room
  have hcap := h.cap
  have hcap' := h'.cap
  have R := Lib.hid h
  have R' := Lib.hid h'
  have o1 := one_three
  clear h h'
  obtain ⟨j, hj, hj1, hj2⟩ : ∃ j : Nat, k % ((min n n' : Nat) + 1 : Int) = (j : Int) ∧ j ≤ n ∧ j ≤ n' := by
    have h1 := Int.emod_nonneg k (show ((min n n' : Nat) + 1 : Int) ≠ 0 by omega)
    have h2 := Int.emod_lt_of_pos k (show (0 : Int) < ((min n n' : Nat) + 1 : Int) by omega)
    exact ⟨(k % ((min n n' : Nat) + 1 : Int)).toNat, by omega, by omega, by omega⟩
  have HJ := Lib.hid hj
  have HD1 : Hid (∀ W : World, Qt w W → Calls Try.prog 24 #[.float .f64 s, .slice A j c, .slice A' j c'] W (FmGives (dotv (vl s) (prs (l.take j) (l'.take j))) W)) := fun W q => by
    have r1 := (R.out.reads.qt q).take j
    have r2 := (R'.out.reads.qt q).take j
    rw [fl_take] at r1 r2
    exact dotVal_any s (l.take j) (l'.take j) A A' c c' j j w.heap.size W hs (by rw [List.length_take, R.out.len]; omega) (by rw [List.length_take, R'.out.len]; omega) (by omega) (by omega) r1 r2
  have HD2 : Hid (∀ (b : Nat) (W : World), b < 2 ^ 64 → Qt w W → Calls Try.prog 24 #[.float .f64 b, .slice (if c = j then A else A.map (·.add j)) (n - j) (c - j), .slice (if c' = j then A' else A'.map (·.add j)) (n' - j) (c' - j)] W (FmGives (dotv (vl b) (prs (l.drop j) (l'.drop j))) W)) := fun b W hb q => by
    have r1 := (R.out.reads.qt q).drop (k := j) (cap := c) (by rw [fl_len, R.out.len]; exact hcap) (by rw [fl_len, R.out.len]; exact hj1)
    have r2 := (R'.out.reads.qt q).drop (k := j) (cap := c') (by rw [fl_len, R'.out.len]; exact hcap') (by rw [fl_len, R'.out.len]; exact hj2)
    rw [fl_drop] at r1 r2
    exact dotVal_any b (l.drop j) (l'.drop j) _ _ (c - j) (c' - j) (n - j) (n' - j) w.heap.size W hb (by rw [List.length_drop, R.out.len]) (by rw [List.length_drop, R'.out.len]) (by omega) (by omega) r1 r2
  have HD3 : Hid (∀ W : World, Qt w W → Calls Try.prog 24 #[.float .f64 s, .slice A n c, .slice A' n' c'] W (FmGives (dotv (vl s) (prs l l')) W)) := fun W q =>
    dotVal_any s l l' A A' c c' n n' w.heap.size W hs R.out.len R'.out.len (by omega) (by omega) (R.out.reads.qt q) (R'.out.reads.qt q)
  have hcut := Lib.hid (dot_cut (l := l) (l' := l') (k := j) (by rw [R.out.len]; exact hj1) (by rw [R'.out.len]; exact hj2) (vl s))
  have hQ : Qt w w.drew := (Qt.refl _).drew
  have i1 : (0 : Int) ≤ (j : Int) := by omega
  have i2 : (j : Int) ≤ (n : Int) := by omega
  have i3 : (j : Int) ≤ (n' : Int) := by omega
  have i4 : (j : Int) ≤ (c : Int) := by omega
  have i5 : (j : Int) ≤ (c' : Int) := by omega
  have i6 : j ≤ c := by omega
  have i7 : j ≤ c' := by omega
  clear hj
  have sl : ∀ (A : Option Addr) (n c : Nat), j ≤ n → n ≤ c → ∀ W : World, (Instr.slice 23 (.slice A n c) (some (.int .i64 (j : Int))) none none).run Try.prog W = .ok (.slice (if c = j then A else A.map (·.add j)) (n - j) (c - j)) W := fun A n c h1 h2 W => by
    have hu : Try.prog.underlying 23 = some (.slice (Try.prog.elem 23)) := by kernel_rfl
    have hz : (sizeOf (Try.prog.elem 23)).run Try.prog W = .ok 1 W := by kernel_rfl
    rw [run_slice_l W 23 A n c hu .i64 (j : Int) (by omega) (by omega), hz]
    show Result.ok (sliced A j n c 1) W = _
    unfold sliced
    rw [Nat.mul_one]
  have s1 := sl A n c hj1 hcap
  have s2 := sl A' n' c' hj2 hcap'
  clear sl
  generalize (if c = j then A else A.map (·.add j)) = X at *
  generalize (if c' = j then A' else A'.map (·.add j)) = X' at *
  rcases Nat.lt_or_ge n' n with hmm | hmm
  all_goals
    first | (have em : Hid (min n n' = n') := Nat.min_eq_right (by omega)) | (have em : Hid (min n n' = n) := Nat.min_eq_left (by omega))
    rw [em.out] at HJ
    go_enter Try.func8, Try.ntmps8
    go_wp2_with (go_at_call 23; ((with_reducible refine (specAt_any _ _ _ (by omega) (by omega)).mono ?_)); rintro e w' ⟨rfl, rfl⟩)
    rw [HJ.out]
    go_region_held3 (fun w' => Qt w w') (first | exact hQ4 | exact hQ3 | exact hQ2 | exact hQ) (first | (go_at_call 24; first | (((with_reducible refine (HD1.out _ hQ).mono ?_)); rintro e w2 ⟨b2, rfl, v2, l2, q2⟩; have V2 := Lib.hid v2; have hQ2 := hQ.trans q2; clear v2) | (((with_reducible refine (HD2.out _ _ l2 hQ2).mono ?_)); rintro e w3 ⟨b3, rfl, v3, l3, q3⟩; have V3 := Lib.hid v3; have hQ3 := hQ2.trans q3; clear v3) | (((with_reducible refine (HD3.out _ hQ3).mono ?_)); rintro e w4 ⟨b4, rfl, v4, l4, q4⟩; have V4 := Lib.hid v4; have hQ4 := hQ3.trans q4; clear v4) | (((with_reducible refine (dotVal_nil _ _ _ _ _ _ _).mono ?_)); rintro e w' ⟨rfl, rfl⟩)) | (go_at_call 15; ((with_reducible refine (same_yes (by rw [V3.out, V4.out, V2.out]; exact hcut.out) _).mono ?_)); rintro e w' ⟨rfl, rfl⟩))
    all_goals
      go_wp2
      go_ret
      exact ⟨rfl, hQ4.below _⟩
end Go.Proofs.Ytbhallblmphlmaa.LDotCut

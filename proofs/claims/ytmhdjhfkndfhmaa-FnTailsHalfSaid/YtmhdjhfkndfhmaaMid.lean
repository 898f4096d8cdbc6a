/-
  Contracts: laws.middle, spec.Shift.
-/
import Derived.Test.YtmhdjhfkndfhmaaSpcA
import Derived.Test.YtmhdjhfkndfhmaaFlm
namespace Go.Proofs.Ytmhdjhfkndfhmaa
open Go.RowKit Flt

set_option maxHeartbeats 400000 in
theorem shift_any (k : Int) (w : World) (h1 : -1000000 ≤ k) (h2 : k ≤ 1000000) :
    Calls Try.prog 27 #[.int .i64 k] w fun e w' => e = .returned (.int .i64 (k + 4000)) ∧ w = w' := by
  go_enter Try.func27, Try.ntmps27
  go_wp2
  go_ret
  exact ⟨rfl, rfl⟩

set_option maxHeartbeats 400000 in
theorem specAbs_nan (b : Nat) (w : World) (hn : nan b = true) :
    Calls Try.prog 15 #[.float .f64 b] w fun e w' => e = .returned (.float .f64 b) ∧ w = w' := by
  have h1 : (FloatKind.f64.format.order b 0 == some .lt) = false := by rw [c_nan (Or.inl (nan_true.1 hn))]; rfl
  clear hn
  go_enter Try.func15, Try.ntmps15
  go_wp2
  go_ret
  exact ⟨rfl, rfl⟩

theorem absW_rg {b : Nat} (hb : b < 2 ^ 64) (h : rg b ≠ 0) : absW b = rg b := by
  unfold absW
  have hm := mk_of hb
  unfold key
  cases hs : sg b
  · rw [hs] at hm
    simp only [Bool.false_eq_true, if_false]
    rw [if_neg (by omega)]; exact hm.symm
  · simp only [if_true]
    rw [if_pos (by omega)]; rfl

theorem rg_self {r : Nat} (h : r < 2 ^ 63) : rg r = r := by unfold rg; exact Nat.mod_eq_of_lt h
theorem key_self {r : Nat} (h : r < 2 ^ 63) : key r = (r : Int) := by
  have := key_mk false h; rw [mk_false] at this; rw [this]; simp

set_option maxHeartbeats 800000 in
theorem middle_any (b : Nat) (w : World) (hb : b < 2 ^ 64) :
    Calls Try.prog 26 #[.float .f64 b] w fun e w' => e = .returned (.bool (decide (Mid (rg b)))) ∧ w = w' := by
  have hI := INF_val
  have hl := rg_lt b
  cases hn : nan b
  · have hr := nan_false.1 hn
    have h0 := c_eq hr rg_zero_le
    rw [key_zero] at h0
    have hk := key_natAbs b
    have HA := Lib.hid (fun W : World => specAbs_any b W hb hn)
    by_cases hz : rg b = 0
    · rw [decide_eq_true (by omega)] at h0
      have hres : Hid (decide (Mid (rg b)) = true) := decide_eq_true (Or.inl hz)
      clear hz hk hr hn hl hI hb
      go_enter Try.func26, Try.ntmps26
      go_wp2_with (go_at_call 15; ((with_reducible refine (HA.out _).mono ?_)); rintro e w' ⟨rfl, rfl⟩)
      go_ret
      exact ⟨by rw [hres.out]; rfl, rfl⟩
    · rw [decide_eq_false (by omega)] at h0
      rw [absW_rg hb hz] at HA
      have q1 := c_ge (a := rg b) (b := 2805742567851819008) (by rw [(rg_self hl)]; exact hr) (by decide)
      have q2 := c_le (a := rg b) (b := 6408622269748215808) (by rw [(rg_self hl)]; exact hr) (by decide)
      rw [key_self hl, key_self (show 2805742567851819008 < 2 ^ 63 by decide)] at q1
      rw [key_self hl, key_self (show 6408622269748215808 < 2 ^ 63 by decide)] at q2
      by_cases p1 : 623 * 2 ^ 52 ≤ rg b
      · rw [decide_eq_true (by omega)] at q1
        by_cases p2 : rg b ≤ 1423 * 2 ^ 52
        · rw [decide_eq_true (by omega)] at q2
          have hres : Hid (decide (Mid (rg b)) = true) := decide_eq_true (Or.inr ⟨p1, p2⟩)
          generalize rg b = r at *
          clear hz hk hr hn hl hI hb p1 p2
          go_enter Try.func26, Try.ntmps26
          go_wp2_with (go_at_call 15; ((with_reducible refine (HA.out _).mono ?_)); rintro e w' ⟨rfl, rfl⟩)
          go_ret
          exact ⟨by rw [hres.out]; rfl, rfl⟩
        · rw [decide_eq_false (by omega)] at q2
          have hres : Hid (decide (Mid (rg b)) = false) := decide_eq_false (by unfold Mid; omega)
          generalize rg b = r at *
          clear hz hk hr hn hl hI hb p1 p2
          go_enter Try.func26, Try.ntmps26
          go_wp2_with (go_at_call 15; ((with_reducible refine (HA.out _).mono ?_)); rintro e w' ⟨rfl, rfl⟩)
          go_ret
          exact ⟨by rw [hres.out]; rfl, rfl⟩
      · rw [decide_eq_false (by omega)] at q1
        have hres : Hid (decide (Mid (rg b)) = false) := decide_eq_false (by unfold Mid; omega)
        generalize rg b = r at *
        clear hz hk hr hn hl hI hb p1 q2
        go_enter Try.func26, Try.ntmps26
        go_wp2_with (go_at_call 15; ((with_reducible refine (HA.out _).mono ?_)); rintro e w' ⟨rfl, rfl⟩)
        go_ret
        exact ⟨by rw [hres.out]; rfl, rfl⟩
  · have hr := nan_true.1 hn
    have HA := Lib.hid (fun W : World => specAbs_nan b W hn)
    have h0 : (FloatKind.f64.format.order b 0 == some .eq) = false := by rw [c_nan (Or.inl hr)]; rfl
    have q1 : (FloatKind.f64.format.order b 2805742567851819008 == some .gt || FloatKind.f64.format.order b 2805742567851819008 == some .eq) = false := by rw [c_nan (Or.inl hr)]; rfl
    have hres : Hid (decide (Mid (rg b)) = false) := decide_eq_false (by unfold Mid; omega)
    clear hr hn hl hI hb
    go_enter Try.func26, Try.ntmps26
    go_wp2_with (go_at_call 15; ((with_reducible refine (HA.out _).mono ?_)); rintro e w' ⟨rfl, rfl⟩)
    go_ret
    exact ⟨by rw [hres.out]; rfl, rfl⟩
end Go.Proofs.Ytmhdjhfkndfhmaa

/-
  Contract of math.Frexp.
-/
import Derived.Test.YtelhgahbhbinoaaLibC
import Derived.Test.YtelhgahbhbinoaaFrp
namespace Go.Proofs.Ytelhgahbhbinoaa
open Go.RowKit Flt

theorem ret_fi {a b : Nat} {i j : Int} (h : a = b) (h' : i = j) : Ending.returned (.tuple #[.float .f64 a, .int .i64 i]) = .returned (.tuple #[.float .f64 b, .int .i64 j]) := by rw [h, h']
theorem field_u64 {x : Nat} (hx : x < 2 ^ 64) : bits .and .u64 ((x : Int) / 4503599627370496) 2047 = ((rg x / 2 ^ 52 : Nat) : Int) := by
  have e : (x : Int) / 4503599627370496 = ((x / 2 ^ 52 : Nat) : Int) := by omega
  have e2 : ((2047 : Nat) : Int) = 2047 := rfl
  rw [e, ← e2, u64_and_nat _ _ (by omega) (by omega)]
  congr 1
  have := Nat.and_two_pow_sub_one_eq_mod (x / 2 ^ 52) 11
  rw [show (2047 : Nat) = 2 ^ 11 - 1 by decide, this]
  unfold rg
  omega

section
variable {x x' c E m : Nat} {e p : Int} (h : LdIn x x' c E m e p) (hE : E ≤ 2045) (hc : c ≤ 52)
  (hz : ∀ W : World, Calls Try.prog 59 #[.float .f64 x] W fun e w' => e = .returned (.tuple #[.float .f64 x', .int .i64 (-(c : Int))]) ∧ W = w') (w : World)
include h hE hc hz

theorem frx_field : ∀ z : Nat, z = x' → bits .and .u64 ((z : Int) / 4503599627370496) 2047 = (E : Int) + 1 := by
  have _u := And.intro hE (And.intro hc hz)
  clear _u
  rintro z rfl
  rw [field_u64 h.x'_lt]
  have := h.rung; have := h.m_ge; have := h.m_lt
  omega
theorem frx_res : mk (sg x) (1022 * 2 ^ 52 + (m - 2 ^ 52)) = mk (sg x) (frw (rv (rg x))) ∧ (-(c : Int) + ((E : Int) + 1 - 1023 + 1)) = ((rv (rg x)).log2 : Int) - 1073 := by
  have _u := And.intro hE (And.intro hc hz)
  clear _u
  obtain ⟨p1, p2⟩ := nrm_of h.eq h.m_ge h.m_lt
  have := h.m_ge
  have e : 1022 * 2 ^ 52 + (m - 2 ^ 52) = frw (rv (rg x)) := by unfold frw; omega
  exact ⟨congrArg (mk (sg x)) e, by omega⟩

set_option maxHeartbeats 400000 in
theorem frexp_all : Calls Try.prog 56 #[.float .f64 x] w fun e' w' => e' = .returned (.tuple #[.float .f64 (mk (sg x) (frw (rv (rg x)))), .int .i64 (((rv (rg x)).log2 : Int) - 1073)]) ∧ w = w' := by
  obtain ⟨R1, R2⟩ := frx_res h hE hc hz
  have g1 := call_frombits
  have g2 := call_bits
  have b0 := ldIn_ne h
  have hf := frx_field h hE hc hz
  have hb := ldIn_bits_ h 1022 (by omega) 4602678819172646912 (by decide)
  rw [R1] at hb
  have H := Lib.hid h
  have Z := Lib.hid hz
  have hr2 := Lib.hid R2
  clear h hz R1 R2
  generalize mk (sg x) (frw (rv (rg x))) = y at *
  generalize (rv (rg x)).log2 = L at *
  go_enter Try.func56, Try.ntmps56
  go_wp2_with (first | (go_at_call 45; ((with_reducible refine (ldIn_isInf H.out _).mono ?_)); rintro e w' ⟨rfl, rfl⟩) | (go_at_call 46; ((with_reducible refine (ldIn_isNaN H.out _).mono ?_)); rintro e w' ⟨rfl, rfl⟩) | (go_at_call 59; ((with_reducible refine (Z.out _).mono ?_)); rintro e w' ⟨rfl, rfl⟩))
  go_ret2
  exact ⟨ret_fi rfl hr2.out, rfl⟩
end

set_option maxHeartbeats 400000 in
theorem frexp_inf {x : Nat} (hx : x < 2 ^ 64) (h0 : rg x = INF) (w : World) : Calls Try.prog 56 #[.float .f64 x] w fun e' w' => e' = .returned (.tuple #[.float .f64 x, .int .i64 0]) ∧ w = w' := by
  have hI := INF_val
  have b0 : (FloatKind.f64.format.order x 0 == some .eq) = false := by
    rw [c_eq (by omega) rg_zero_le, key_zero, decide_eq_false]
    have := key_natAbs x; omega
  have H1 := Lib.hid (fun W : World => isInf_any x W hx)
  rw [decide_eq_true h0] at H1
  clear h0 hx hI
  go_enter Try.func56, Try.ntmps56
  go_wp2_with (go_at_call 45; ((with_reducible refine (H1.out _).mono ?_)); rintro e w' ⟨rfl, rfl⟩)
  go_ret2
  exact ⟨rfl, rfl⟩

theorem frexp_inner {x : Nat} (hx : x < 2 ^ 64) (h0 : rg x ≠ 0) (hf : rg x < INF) (w : World) : Calls Try.prog 56 #[.float .f64 x] w fun e' w' => e' = .returned (.tuple #[.float .f64 (mk (sg x) (frw (rv (rg x)))), .int .i64 (((rv (rg x)).log2 : Int) - 1073)]) ∧ w = w' := by
  rcases Nat.lt_or_ge (rg x) (2 ^ 52) with hl | hl
  · obtain ⟨u1, u2, E, m, u3, u4, u5, u6, u7⟩ := up_form (x := x) (by omega) hl
    exact frexp_all (c := 52) (e := 0) ⟨hx, u1, by omega, hf, u2, u3, u4, u5, u6, u7, rfl⟩ u6 (by omega) (fun W => normalize_low x W hx hl) w
  · obtain ⟨E, m, e1, u4, u5⟩ := rung_split hl
    have hE : E ≤ 2045 := by have := INF_val; omega
    exact frexp_all (c := 0) (e := 0) ⟨hx, hx, by omega, hf, rfl, e1, u4, u5, hE, by rw [e1, rv_mk u4 (Nat.le_of_lt u5)]; simp, rfl⟩ hE (by omega) (fun W => normalize_high x W hx hl hf) w

set_option maxHeartbeats 400000 in
theorem frexp_any (x : Nat) (w : World) (hx : x < 2 ^ 64) (h0 : rg x ≠ 0) (hf : rg x < INF) : Calls Try.prog 49 #[.float .f64 x] w fun e' w' => e' = .returned (.tuple #[.float .f64 (mk (sg x) (frw (rv (rg x)))), .int .i64 (((rv (rg x)).log2 : Int) - 1073)]) ∧ w = w' := by
  have H := Lib.hid (fun W : World => frexp_inner hx h0 hf W)
  clear hx h0 hf
  generalize mk (sg x) (frw (rv (rg x))) = y at *
  generalize ((rv (rg x)).log2 : Int) - 1073 = L at *
  go_enter Try.func49, Try.ntmps49
  go_wp2_with (go_at_call 56; ((with_reducible refine (H.out _).mono ?_)); rintro e w' ⟨rfl, rfl⟩)
  go_ret2
  exact ⟨rfl, rfl⟩
set_option maxHeartbeats 400000 in
theorem frexp_any_inf (x : Nat) (w : World) (hx : x < 2 ^ 64) (h0 : rg x = INF) : Calls Try.prog 49 #[.float .f64 x] w fun e' w' => e' = .returned (.tuple #[.float .f64 x, .int .i64 0]) ∧ w = w' := by
  have H := Lib.hid (fun W : World => frexp_inf hx h0 W)
  clear hx h0
  go_enter Try.func49, Try.ntmps49
  go_wp2_with (go_at_call 56; ((with_reducible refine (H.out _).mono ?_)); rintro e w' ⟨rfl, rfl⟩)
  go_ret2
  exact ⟨rfl, rfl⟩
end Go.Proofs.Ytelhgahbhbinoaa

/-
  Contracts of package math: Abs, IsInf, Inf, normalize.
-/
import Derived.Test.YtelhgahbhbinoaaLibA
import Derived.Test.YtelhgahbhbinoaaMem
import Derived.Test.YtelhgahbhbinoaaFll
namespace Go.Proofs.Ytelhgahbhbinoaa
open Go.RowKit Flt

theorem run_g {op : BinOp} {x y r : Nat} (h : floatBits op .f64 x y = some r) (w : World) : (binOp op 23 (.float .f64 x) (.float .f64 y)).run Try.prog w = .ok (.float .f64 r) w := run_float_arith w op _ .f64 x y r h

theorem abs_bits (x : Nat) (hx : x < 2 ^ 64) : (bits .andNot .u64 (x : Int) 9223372036854775808).toNat = rg x := by
  have hc : ((9223372036854775808 : Nat) : Int) = 9223372036854775808 := rfl
  rw [← hc, u64_andNot_nat x _ (by omega) (by omega), Int.toNat_natCast]
  exact Nat.and_two_pow_sub_one_eq_mod x 63

set_option maxHeartbeats 400000 in
theorem mathAbs_any (x : Nat) (w : World) (hx : x < 2 ^ 64) :
    Calls Try.prog 48 #[.float .f64 x] w fun e w' => e = .returned (.float .f64 (rg x)) ∧ w = w' := by
  have h1 := call_frombits
  have h2 := call_bits
  have h3 := Lib.hid (abs_bits x hx)
  clear hx
  go_enter Try.func48, Try.ntmps48
  go_wp2
  go_ret
  exact ⟨ret_float h3.out, rfl⟩

theorem rg_rg (x : Nat) : rg (rg x) = rg x := by unfold rg; omega
theorem key_rg (x : Nat) : key (rg x) = (rg x : Int) := by
  have h := key_mk false (rg_lt x)
  rw [mk_false] at h
  rw [h]; simp

theorem isInf_bool (x : Nat) : (FloatKind.f64.format.order (rg x) 9218868437227405311 == some .gt) = decide (rg x = INF) := by
  have hI := INF_val
  have e : rg 9218868437227405311 = 9218868437227405311 := rfl
  have ek : key 9218868437227405311 = 9218868437227405311 := rfl
  rcases Nat.lt_or_ge INF (rg x) with h | h
  · rw [c_nan (Or.inl (by rw [rg_rg]; exact h)), decide_eq_false (by omega)]; rfl
  · rw [c_gt (by rw [rg_rg]; exact h) (by rw [e, hI]; decide), ek, key_rg]
    have : ((9218868437227405311 : Int) < (rg x : Int)) ↔ rg x = INF := by omega
    simp only [this]

set_option maxHeartbeats 400000 in
theorem isInf_any (x : Nat) (w : World) (hx : x < 2 ^ 64) :
    Calls Try.prog 45 #[.float .f64 x, .int .i64 0] w fun e w' => e = .returned (.bool (decide (rg x = INF))) ∧ w = w' := by
  have hA := Lib.hid (fun W : World => mathAbs_any x W hx)
  have hB := Lib.hid (isInf_bool x)
  clear hx
  go_enter Try.func45, Try.ntmps45
  go_wp2_with (go_at_call 48; ((with_reducible refine (hA.out _).mono ?_)); rintro e w' ⟨rfl, rfl⟩)
  go_ret
  exact ⟨by rw [← hB.out]; rfl, rfl⟩

set_option maxHeartbeats 400000 in
theorem normalize_high (x : Nat) (w : World) (hx : x < 2 ^ 64) (h : 2 ^ 52 ≤ rg x) (hf : rg x < INF) :
    Calls Try.prog 59 #[.float .f64 x] w fun e w' => e = .returned (.tuple #[.float .f64 x, .int .i64 0]) ∧ w = w' := by
  have hA := Lib.hid (fun W : World => mathAbs_any x W hx)
  have hB : (FloatKind.f64.format.order (rg x) 4503599627370496 == some .lt) = false := by
    have ek : key 4503599627370496 = 4503599627370496 := rfl
    rw [c_lt (by rw [rg_rg]; omega) (by decide), key_rg, ek, decide_eq_false (by omega)]
  clear hx h hf
  go_enter Try.func59, Try.ntmps59
  go_wp2_with (go_at_call 48; ((with_reducible refine (hA.out _).mono ?_)); rintro e w' ⟨rfl, rfl⟩)
  go_ret2
  exact ⟨rfl, rfl⟩

/-- a small number times 2^52 -/
def upW (x : Nat) : Nat := mk (sg x) (wd (rv (rg x) * 2 ^ 52))

theorem up_mul {x : Nat} (h : rg x < 2 ^ 52) : floatBits .mul .f64 x 4841369599423283200 = some (upW x) := by
  show Ieee.double.mul _ _ = _
  have hI := INF_val
  have he := e0_eq
  have e : 4841369599423283200 = 1075 * 2 ^ 52 := rfl
  have hF : Fits (rv (rg x) * 2 ^ 52) := by
    rw [rv_low h]
    refine ⟨rep_of _ (by omega), ?_⟩
    have : rg x * 2 ^ 52 < 2 ^ 52 * 2 ^ 52 := Nat.mul_lt_mul_of_pos_right h (by decide)
    rw [← Nat.pow_add] at this
    exact Nat.lt_trans this (pow_TOP (by omega))
  rw [e, mul_pow (by omega) (by decide) (by decide)]
  have := rs_rep hF.rep hF.lt (sg x) e0
  unfold upW
  rw [← this]
  congr 2
  obtain ⟨c, hc⟩ : ∃ c, c = 51 + 1075 := ⟨_, rfl⟩
  rw [← hc, Nat.mul_assoc, ← Nat.pow_add, show 52 + e0 = c by omega]
  unfold fv
  cases sg x
  · simp only [Bool.false_eq_true, if_false, Int.natCast_mul]
  · simp only [if_true, Int.natCast_mul, Int.neg_mul]

set_option maxHeartbeats 400000 in
theorem normalize_low (x : Nat) (w : World) (hx : x < 2 ^ 64) (h : rg x < 2 ^ 52) :
    Calls Try.prog 59 #[.float .f64 x] w fun e w' => e = .returned (.tuple #[.float .f64 (upW x), .int .i64 (-52)]) ∧ w = w' := by
  have hA := Lib.hid (fun W : World => mathAbs_any x W hx)
  have hI := INF_val
  have hB : (FloatKind.f64.format.order (rg x) 4503599627370496 == some .lt) = true := by
    have ek : key 4503599627370496 = 4503599627370496 := rfl
    rw [c_lt (by rw [rg_rg]; omega) (by decide), key_rg, ek, decide_eq_true (by omega)]
  have hm := run_g (up_mul h)
  clear hx h hI
  go_enter Try.func59, Try.ntmps59
  go_wp2_with (go_at_call 48; ((with_reducible refine (hA.out _).mono ?_)); rintro e w' ⟨rfl, rfl⟩)
  go_ret2
  exact ⟨rfl, rfl⟩

/-- what normalize gives of a finite number that is not 0: a normal one, and by how much it has been raised -/
theorem up_form {x : Nat} (h0 : 0 < rg x) (h : rg x < 2 ^ 52) : upW x < 2 ^ 64 ∧ sg (upW x) = sg x ∧ ∃ E m, rg (upW x) = E * 2 ^ 52 + m ∧ 2 ^ 52 ≤ m ∧ m < 2 ^ 53 ∧ E ≤ 2045 ∧ rv (rg x) * 2 ^ 52 = m * 2 ^ E := by
  have he := e0_eq
  have hF : Fits (rv (rg x) * 2 ^ 52) := by
    rw [rv_low h]
    refine ⟨rep_of _ (by omega), ?_⟩
    have : rg x * 2 ^ 52 < 2 ^ 52 * 2 ^ 52 := Nat.mul_lt_mul_of_pos_right h (by decide)
    rw [← Nat.pow_add] at this
    exact Nat.lt_trans this (pow_TOP (by omega))
  unfold upW
  refine ⟨mkwd_lt _ hF.rep hF.lt, sg_mkwd _ hF.rep hF.lt, ?_⟩
  rw [rg_mkwd _ hF.rep hF.lt]
  have hw := wd_fin hF.rep hF.lt
  have hv := rv_wd hF.rep
  have h52 : 2 ^ 52 ≤ wd (rv (rg x) * 2 ^ 52) := by
    rcases Nat.lt_or_ge (wd (rv (rg x) * 2 ^ 52)) (2 ^ 52) with hl | hl
    · exfalso
      rw [rv_low hl] at hv
      have := rv_pos h0
      have : 1 * 2 ^ 52 ≤ rv (rg x) * 2 ^ 52 := Nat.mul_le_mul_right _ this
      omega
    · exact hl
  obtain ⟨t, m, e, h1, h2⟩ := rung_split h52
  refine ⟨t, m, e, h1, h2, ?_, ?_⟩
  · have := INF_val; omega
  · rw [← hv, e, rv_mk h1 (Nat.le_of_lt h2)]

end Go.Proofs.Ytelhgahbhbinoaa

/-
  Contract of math.Remainder: the remainder of the absolute values that is nearest to 0, with the sign of the first number.
-/
import Derived.Test.YtelhgahbhbinoaaLibE
import Derived.Test.YtelhgahbhbinoaaFsw
namespace Go.Proofs.Ytelhgahbhbinoaa
open Go.RowKit Flt

set_option maxHeartbeats 800000 in
theorem rem_nan (x y : Nat) (w : World) (hx : x < 2 ^ 64) (h : INF ≤ rg x ∨ rg y = 0 ∨ INF < rg y) :
    Calls Try.prog 44 #[.float .f64 x, .float .f64 y] w fun e w' => e = .returned (.float .f64 qNaN) ∧ w = w' := by
  have HI := Lib.hid (fun W : World => isInf_any x W hx)
  have HX := Lib.hid (fun W : World => isNaN_any x W)
  have HY := Lib.hid (fun W : World => isNaN_any y W)
  have HN := Lib.hid (fun W : World => naN_any W)
  by_cases h2 : INF < rg x
  · rw [nan_true.2 h2] at HX
    clear h h2 hx
    go_enter Try.func44, Try.ntmps44
    go_wp2_with (first | (go_at_call 47; ((with_reducible refine (HN.out _).mono ?_)); rintro e w' ⟨rfl, rfl⟩) | (go_at_call 46; ((with_reducible refine (HX.out _).mono ?_)); rintro e w' ⟨rfl, rfl⟩))
    go_ret
    exact ⟨rfl, rfl⟩
  rw [nan_false.2 (show rg x ≤ INF by omega)] at HX
  by_cases h3 : INF < rg y
  · rw [nan_true.2 h3] at HY
    clear h h2 h3 hx
    go_enter Try.func44, Try.ntmps44
    go_wp2_with (first | (go_at_call 47; ((with_reducible refine (HN.out _).mono ?_)); rintro e w' ⟨rfl, rfl⟩) | (go_at_call 46; first | (((with_reducible refine (HX.out _).mono ?_)); rintro e w' ⟨rfl, rfl⟩) | (((with_reducible refine (HY.out _).mono ?_)); rintro e w' ⟨rfl, rfl⟩)))
    go_ret
    exact ⟨rfl, rfl⟩
  rw [nan_false.2 (show rg y ≤ INF by omega)] at HY
  by_cases h1 : rg x = INF
  · rw [decide_eq_true h1] at HI
    clear h h1 h2 h3 hx
    go_enter Try.func44, Try.ntmps44
    go_wp2_with (first | (go_at_call 47; ((with_reducible refine (HN.out _).mono ?_)); rintro e w' ⟨rfl, rfl⟩) | (go_at_call 45; ((with_reducible refine (HI.out _).mono ?_)); rintro e w' ⟨rfl, rfl⟩) | (go_at_call 46; first | (((with_reducible refine (HX.out _).mono ?_)); rintro e w' ⟨rfl, rfl⟩) | (((with_reducible refine (HY.out _).mono ?_)); rintro e w' ⟨rfl, rfl⟩)))
    go_ret
    exact ⟨rfl, rfl⟩
  rw [decide_eq_false h1] at HI
  have b0 := eq_zero_of (y := y) (by omega)
  clear h h1 h2 h3 hx
  go_enter Try.func44, Try.ntmps44
  go_wp2_with (first | (go_at_call 47; ((with_reducible refine (HN.out _).mono ?_)); rintro e w' ⟨rfl, rfl⟩) | (go_at_call 45; ((with_reducible refine (HI.out _).mono ?_)); rintro e w' ⟨rfl, rfl⟩) | (go_at_call 46; first | (((with_reducible refine (HX.out _).mono ?_)); rintro e w' ⟨rfl, rfl⟩) | (((with_reducible refine (HY.out _).mono ?_)); rintro e w' ⟨rfl, rfl⟩)))
  go_ret
  exact ⟨rfl, rfl⟩

set_option maxHeartbeats 800000 in
theorem rem_inf (x y : Nat) (w : World) (hx : x < 2 ^ 64) (hy : y < 2 ^ 64) (h1 : rg x < INF) (h : rg y = INF) :
    Calls Try.prog 44 #[.float .f64 x, .float .f64 y] w fun e w' => e = .returned (.float .f64 x) ∧ w = w' := by
  have HI := Lib.hid (fun W : World => isInf_any x W hx)
  have HJ := Lib.hid (fun W : World => isInf_any y W hy)
  have HX := Lib.hid (fun W : World => isNaN_any x W)
  have HY := Lib.hid (fun W : World => isNaN_any y W)
  have hI := INF_val
  rw [decide_eq_false (show ¬ rg x = INF by omega)] at HI
  rw [decide_eq_true h] at HJ
  rw [nan_false.2 (show rg x ≤ INF by omega)] at HX
  rw [nan_false.2 (show rg y ≤ INF by omega)] at HY
  have b0 := ne_zero_of (y := y) (by omega)
  clear h1 h hx hy hI
  go_enter Try.func44, Try.ntmps44
  go_wp2_with (first | (go_at_call 45; first | (((with_reducible refine (HI.out _).mono ?_)); rintro e w' ⟨rfl, rfl⟩) | (((with_reducible refine (HJ.out _).mono ?_)); rintro e w' ⟨rfl, rfl⟩)) | (go_at_call 46; first | (((with_reducible refine (HX.out _).mono ?_)); rintro e w' ⟨rfl, rfl⟩) | (((with_reducible refine (HY.out _).mono ?_)); rintro e w' ⟨rfl, rfl⟩)))
  go_ret
  exact ⟨rfl, rfl⟩

/-- what the walk is told of the middle part: r is what is left of x by twice y -/
structure RmIn (Y r : Nat) : Prop where
  fitY : Fits Y
  fitr : Fits r
  pos : 0 < Y
  lt : r < 2 * Y

section
variable {Y r : Nat} (h : RmIn Y r)
include h
theorem rm_sub1 (hb : Y < 2 * r) : floatBits .sub .f64 (wd r) (wd Y) = some (sw ((r : Int) - Y)) ∧ Fits ((r : Int) - Y).natAbs := by
  have h1 := h.lt
  have hF : Fits ((r : Int) - Y).natAbs := by
    refine h.fitr.le (rep_common h.fitr.rep h.fitY.rep (by omega) (by omega) fun d d1 d2 => ?_) (by omega)
    exact Int.ofNat_dvd_left.1 (Int.dvd_sub (Int.ofNat_dvd.2 d1) (Int.ofNat_dvd.2 d2))
  have := sub_sw (a := (r : Int)) (b := (Y : Int)) (by rw [Int.natAbs_natCast]; exact h.fitr) (by rw [Int.natAbs_natCast]; exact h.fitY) hF
  rw [sw_nat, sw_nat] at this
  exact ⟨this, hF⟩
theorem rm_sub2 (hb : Y < 2 * r) (hc : 3 * Y ≤ 2 * r) : floatBits .sub .f64 (sw ((r : Int) - Y)) (wd Y) = some (sw ((r : Int) - 2 * Y)) := by
  have h1 := h.lt
  obtain ⟨_, h2⟩ := rm_sub1 h hb
  have hF : Fits ((r : Int) - Y - Y).natAbs := by
    refine h.fitr.le (rep_common h.fitr.rep h.fitY.rep (by omega) (by omega) fun d d1 d2 => ?_) (by omega)
    exact Int.ofNat_dvd_left.1 (Int.dvd_sub (Int.dvd_sub (Int.ofNat_dvd.2 d1) (Int.ofNat_dvd.2 d2)) (Int.ofNat_dvd.2 d2))
  have := sub_sw (a := (r : Int) - Y) (b := (Y : Int)) h2 (by rw [Int.natAbs_natCast]; exact h.fitY) hF
  rw [sw_nat, show (r : Int) - Y - Y = (r : Int) - 2 * Y by omega] at this
  exact this
theorem fits_twice {n : Nat} (hn : n ≤ 2 ^ 54) (hF : Fits n) : Fits (n + n) := by
  have _u := h
  clear _u
  have he := e0_eq
  refine ⟨by have := hF.rep.mul_pow 1; rw [show n * 2 ^ 1 = n + n by omega] at this; exact this, ?_⟩
  have h1 : n + n ≤ 2 ^ 55 := by omega
  exact Nat.lt_of_le_of_lt h1 (pow_TOP (by omega))
/-- small divisors: twice the rest is held against the divisor -/
theorem rm_tiny (ht : Y < 2 ^ 53) : floatBits .add .f64 (wd r) (wd r) = some (wd (r + r)) ∧ (FloatKind.f64.format.order (wd (r + r)) (wd Y) == some .gt) = decide (Y < 2 * r) := by
  have h1 := h.lt
  have hF := fits_twice h (n := r) (by omega) h.fitr
  refine ⟨add_wd h.fitr h.fitr hF, ?_⟩
  have := gt_sw (a := ((r + r : Nat) : Int)) (b := (Y : Int)) (by rw [Int.natAbs_natCast]; exact hF) (by rw [Int.natAbs_natCast]; exact h.fitY)
  rw [sw_nat, sw_nat] at this
  rw [this, decide_eq_decide]; omega
theorem rm_tiny2 (ht : Y < 2 ^ 53) (hb : Y < 2 * r) : ∃ z, floatBits .add .f64 (sw ((r : Int) - Y)) (sw ((r : Int) - Y)) = some z ∧ (FloatKind.f64.format.order z (wd Y) == some .gt || FloatKind.f64.format.order z (wd Y) == some .eq) = decide (3 * Y ≤ 2 * r) := by
  have h1 := h.lt
  obtain ⟨_, h2⟩ := rm_sub1 h hb
  have hF := fits_twice h (n := ((r : Int) - Y).natAbs) (by omega) h2
  have hF' : Fits ((r : Int) - Y + ((r : Int) - Y)).natAbs := by
    have e : ((r : Int) - Y + ((r : Int) - Y)).natAbs = ((r : Int) - Y).natAbs + ((r : Int) - Y).natAbs := by omega
    rw [e]; exact hF
  refine ⟨_, add_sw h2 h2 hF', ?_⟩
  have := ge_sw (a := (r : Int) - Y + ((r : Int) - Y)) (b := (Y : Int)) hF' (by rw [Int.natAbs_natCast]; exact h.fitY)
  rw [sw_nat] at this
  rw [this, decide_eq_decide]; omega
/-- other divisors: the rest is held against half of the divisor -/
theorem rm_half (ht : ¬ Y < 2 ^ 53) : ∃ z, floatBits .mul .f64 4602678819172646912 (wd Y) = some z ∧ (FloatKind.f64.format.order (wd r) z == some .gt) = decide (Y < 2 * r) ∧
    (Y < 2 * r → (FloatKind.f64.format.order (sw ((r : Int) - Y)) z == some .gt || FloatKind.f64.format.order (sw ((r : Int) - Y)) z == some .eq) = decide (3 * Y ≤ 2 * r)) := by
  have h1 := h.lt
  have hev : Y % 2 = 0 := by
    obtain ⟨m, t, e, hm, _⟩ := h.fitY.rep.form
    have ht1 : t ≠ 0 := by
      rintro rfl
      rw [Nat.pow_zero, Nat.mul_one] at e; omega
    obtain ⟨k, rfl⟩ : ∃ k, t = k + 1 := ⟨t - 1, by omega⟩
    rw [e, Nat.pow_succ, ← Nat.mul_assoc]
    exact Nat.mul_mod_left _ _
  obtain ⟨n, hn⟩ : ∃ n, Y = n * 2 := ⟨Y / 2, by omega⟩
  have hF2 : Fits (n * 2) := by rw [← hn]; exact h.fitY
  have hF : Fits n := by have := hF2; rw [show n * 2 = n * 2 ^ 1 by omega] at this; exact this.of_mul
  refine ⟨wd n, by rw [hn]; exact half_wd hF2, ?_, fun hb => ?_⟩
  · have := gt_sw (a := (r : Int)) (b := (n : Int)) (by rw [Int.natAbs_natCast]; exact h.fitr) (by rw [Int.natAbs_natCast]; exact hF)
    rw [sw_nat, sw_nat] at this
    rw [this, decide_eq_decide]; omega
  · have := ge_sw (a := (r : Int) - Y) (b := (n : Int)) (rm_sub1 h hb).2 (by rw [Int.natAbs_natCast]; exact hF)
    rw [sw_nat] at this
    rw [this, decide_eq_decide]; omega
end

theorem le_half_max {Y : Nat} (hY : Fits Y) : (FloatKind.f64.format.order (wd Y) 9214364837600034815 == some .lt || FloatKind.f64.format.order (wd Y) 9214364837600034815 == some .eq) = decide (wd Y ≤ 9214364837600034815) := by
  have hI := INF_val
  have e : rg 9214364837600034815 = 9214364837600034815 := rfl
  have ek : key 9214364837600034815 = 9214364837600034815 := rfl
  rw [c_le (Nat.le_of_lt hY.fin) (by omega), hY.key, ek, decide_eq_decide]
  omega
theorem lt_tiny {Y : Nat} (hY : Fits Y) : (FloatKind.f64.format.order (wd Y) 9007199254740992 == some .lt) = decide (Y < 2 ^ 53) := by
  have hI := INF_val
  have e : rg 9007199254740992 = 9007199254740992 := rfl
  have ek : key 9007199254740992 = 9007199254740992 := rfl
  have h1 := wd_lt_iff hY.rep (rep_small (n := 2 ^ 53) (by decide))
  rw [wd_small (show 2 ^ 53 ≤ 2 ^ 53 by decide)] at h1
  rw [c_lt (Nat.le_of_lt hY.fin) (by omega), hY.key, ek, decide_eq_decide]
  omega

/-- twice a divisor that is not too great -/
theorem fits_double {Y : Nat} (hY : Fits Y) (h : wd Y ≤ 9214364837600034815) : Fits (Y + Y) := by
  have hR : Rep (Y + Y) := by have := hY.rep.mul_pow 1; rw [show Y * 2 ^ 1 = Y + Y by omega] at this; exact this
  refine ⟨hR, ?_⟩
  have hI := INF_val
  rcases Nat.lt_or_ge (wd Y) (2 ^ 52) with hl | hl
  · have h1 := rv_wd hY.rep
    rw [rv_low hl] at h1
    have he := e0_eq
    exact Nat.lt_of_le_of_lt (show Y + Y ≤ 2 ^ 53 by omega) (pow_TOP (by omega))
  · have h1 := rv_shift hl 1
    rw [rv_wd hY.rep] at h1
    rw [show Y + Y = Y * 2 ^ 1 by omega, ← h1]
    exact rv_lt_TOP (by omega)
/-- a divisor that is too great to be doubled is more than half of every number -/
theorem great_half {X Y : Nat} (hX : Fits X) (hY : Fits Y) (h : ¬ wd Y ≤ 9214364837600034815) : X < 2 * Y := by
  have hI := INF_val
  have h0 := hX.lt
  have h1 := rv_shift (r := wd Y) (by omega) 1
  rw [rv_wd hY.rep] at h1
  have h2 : INF ≤ wd Y + 1 * 2 ^ 52 := by omega
  have h3 := rv_le h2
  unfold TOP at h0
  omega

/-- what the parts give together -/
theorem remN_cases {X Y r : Nat} (hr : X % (2 * Y) = r) : (2 * r ≤ Y → remN X Y = (r : Int)) ∧ (Y < 2 * r → 2 * r < 3 * Y → remN X Y = (r : Int) - Y) ∧ (Y < 2 * r → 3 * Y ≤ 2 * r → remN X Y = (r : Int) - 2 * Y) := by
  unfold remN
  rw [hr]
  refine ⟨fun h => by rw [if_pos h], fun h h' => by rw [if_neg (by omega), if_pos h'], fun h h' => by rw [if_neg (by omega), if_neg (by omega)]⟩
theorem rem_word {R : Int} (h : Fits R.natAbs) (s : Bool) : (if s then Op.negFloat .f64 (sw R) else sw R) = mk (s ^^ decide (R < 0)) (wd R.natAbs) := by
  cases s
  · rw [if_neg (by decide), Bool.false_xor]; rfl
  · rw [if_pos rfl]
    unfold sw
    rw [neg_mkwd _ h, Bool.true_xor]

/-- the tests and sums of the middle part, decided -/
inductive RmWay (Y r : Nat) (z : Nat) : Prop where
  | t0 (a1 : (FloatKind.f64.format.order (wd Y) 9007199254740992 == some .lt) = true) (a2 : ∀ W : World, (binOp .add 23 (.float .f64 (wd r)) (.float .f64 (wd r))).run Try.prog W = .ok (.float .f64 (wd (r + r))) W) (a3 : (FloatKind.f64.format.order (wd (r + r)) (wd Y) == some .gt) = false) (a4 : z = wd r)
  | t1 (z2 : Nat) (a1 : (FloatKind.f64.format.order (wd Y) 9007199254740992 == some .lt) = true) (a2 : ∀ W : World, (binOp .add 23 (.float .f64 (wd r)) (.float .f64 (wd r))).run Try.prog W = .ok (.float .f64 (wd (r + r))) W) (a3 : (FloatKind.f64.format.order (wd (r + r)) (wd Y) == some .gt) = true) (a5 : ∀ W : World, (binOp .sub 23 (.float .f64 (wd r)) (.float .f64 (wd Y))).run Try.prog W = .ok (.float .f64 z) W) (a6 : ∀ W : World, (binOp .add 23 (.float .f64 z) (.float .f64 z)).run Try.prog W = .ok (.float .f64 z2) W) (a7 : (FloatKind.f64.format.order z2 (wd Y) == some .gt || FloatKind.f64.format.order z2 (wd Y) == some .eq) = false)
  | t2 (z1 z2 : Nat) (a1 : (FloatKind.f64.format.order (wd Y) 9007199254740992 == some .lt) = true) (a2 : ∀ W : World, (binOp .add 23 (.float .f64 (wd r)) (.float .f64 (wd r))).run Try.prog W = .ok (.float .f64 (wd (r + r))) W) (a3 : (FloatKind.f64.format.order (wd (r + r)) (wd Y) == some .gt) = true) (a5 : ∀ W : World, (binOp .sub 23 (.float .f64 (wd r)) (.float .f64 (wd Y))).run Try.prog W = .ok (.float .f64 z1) W) (a6 : ∀ W : World, (binOp .add 23 (.float .f64 z1) (.float .f64 z1)).run Try.prog W = .ok (.float .f64 z2) W) (a7 : (FloatKind.f64.format.order z2 (wd Y) == some .gt || FloatKind.f64.format.order z2 (wd Y) == some .eq) = true) (a8 : ∀ W : World, (binOp .sub 23 (.float .f64 z1) (.float .f64 (wd Y))).run Try.prog W = .ok (.float .f64 z) W)
  | h0 (hf : Nat) (a1 : (FloatKind.f64.format.order (wd Y) 9007199254740992 == some .lt) = false) (a2 : ∀ W : World, (binOp .mul 23 (.float .f64 4602678819172646912) (.float .f64 (wd Y))).run Try.prog W = .ok (.float .f64 hf) W) (a3 : (FloatKind.f64.format.order (wd r) hf == some .gt) = false) (a4 : z = wd r)
  | h1 (hf : Nat) (a1 : (FloatKind.f64.format.order (wd Y) 9007199254740992 == some .lt) = false) (a2 : ∀ W : World, (binOp .mul 23 (.float .f64 4602678819172646912) (.float .f64 (wd Y))).run Try.prog W = .ok (.float .f64 hf) W) (a3 : (FloatKind.f64.format.order (wd r) hf == some .gt) = true) (a5 : ∀ W : World, (binOp .sub 23 (.float .f64 (wd r)) (.float .f64 (wd Y))).run Try.prog W = .ok (.float .f64 z) W) (a7 : (FloatKind.f64.format.order z hf == some .gt || FloatKind.f64.format.order z hf == some .eq) = false)
  | h2 (hf z1 : Nat) (a1 : (FloatKind.f64.format.order (wd Y) 9007199254740992 == some .lt) = false) (a2 : ∀ W : World, (binOp .mul 23 (.float .f64 4602678819172646912) (.float .f64 (wd Y))).run Try.prog W = .ok (.float .f64 hf) W) (a3 : (FloatKind.f64.format.order (wd r) hf == some .gt) = true) (a5 : ∀ W : World, (binOp .sub 23 (.float .f64 (wd r)) (.float .f64 (wd Y))).run Try.prog W = .ok (.float .f64 z1) W) (a7 : (FloatKind.f64.format.order z1 hf == some .gt || FloatKind.f64.format.order z1 hf == some .eq) = true) (a8 : ∀ W : World, (binOp .sub 23 (.float .f64 z1) (.float .f64 (wd Y))).run Try.prog W = .ok (.float .f64 z) W)

theorem rm_way {X Y r : Nat} (h : RmIn Y r) (hr : X % (2 * Y) = r) : RmWay Y r (sw (remN X Y)) := by
  obtain ⟨c1, c2, c3⟩ := remN_cases hr
  have hT := lt_tiny h.fitY
  by_cases ht : Y < 2 ^ 53
  · rw [decide_eq_true ht] at hT
    obtain ⟨p1, p2⟩ := rm_tiny h ht
    by_cases hb : Y < 2 * r
    · rw [decide_eq_true hb] at p2
      obtain ⟨z, q1, q2⟩ := rm_tiny2 h ht hb
      by_cases hc : 3 * Y ≤ 2 * r
      · rw [decide_eq_true hc] at q2
        rw [c3 hb hc]
        exact .t2 _ z hT (run_g p1) p2 (run_g (rm_sub1 h hb).1) (run_g q1) q2 (run_g (rm_sub2 h hb hc))
      · rw [decide_eq_false hc] at q2
        rw [c2 hb (by omega)]
        exact .t1 z hT (run_g p1) p2 (run_g (rm_sub1 h hb).1) (run_g q1) q2
    · rw [decide_eq_false hb] at p2
      rw [c1 (by omega)]
      exact .t0 hT (run_g p1) p2 (sw_nat r)
  · rw [decide_eq_false ht] at hT
    obtain ⟨z, p1, p2, p3⟩ := rm_half h ht
    by_cases hb : Y < 2 * r
    · rw [decide_eq_true hb] at p2
      have q2 := p3 hb
      by_cases hc : 3 * Y ≤ 2 * r
      · rw [decide_eq_true hc] at q2
        rw [c3 hb hc]
        exact .h2 z _ hT (run_g p1) p2 (run_g (rm_sub1 h hb).1) q2 (run_g (rm_sub2 h hb hc))
      · rw [decide_eq_false hc] at q2
        rw [c2 hb (by omega)]
        exact .h1 z hT (run_g p1) p2 (run_g (rm_sub1 h hb).1) q2
    · rw [decide_eq_false hb] at p2
      rw [c1 (by omega)]
      exact .h0 z hT (run_g p1) p2 (sw_nat r)

/-- how x comes to what is left by twice y -/
theorem rm_mod {X Y : Nat} (hX : Fits X) (hY : Fits Y) (h0 : 0 < Y) : ∃ r, RmIn Y r ∧ X % (2 * Y) = r ∧
    (((FloatKind.f64.format.order (wd Y) 9214364837600034815 == some .lt || FloatKind.f64.format.order (wd Y) 9214364837600034815 == some .eq) = true ∧ floatBits .add .f64 (wd Y) (wd Y) = some (wd (Y + Y)) ∧
      ∀ W : World, Calls Try.prog 32 #[.float .f64 (wd X), .float .f64 (wd (Y + Y))] W fun e w' => e = .returned (.float .f64 (wd r)) ∧ W = w') ∨
    ((FloatKind.f64.format.order (wd Y) 9214364837600034815 == some .lt || FloatKind.f64.format.order (wd Y) 9214364837600034815 == some .eq) = false ∧ r = X)) := by
  have hH := le_half_max hY
  have hlt := Nat.mod_lt X (show 0 < 2 * Y by omega)
  by_cases h : wd Y ≤ 9214364837600034815
  · rw [decide_eq_true h] at hH
    have hF := fits_double hY h
    have hM : Fits (X % (2 * Y)) := by rw [show 2 * Y = Y + Y by omega]; exact fits_rem hX hF.rep (by omega)
    refine ⟨X % (2 * Y), ⟨hY, hM, h0, hlt⟩, rfl, Or.inl ⟨hH, add_wd hY hY hF, fun W => ?_⟩⟩
    have := mod_any (wd X) (wd (Y + Y)) W hX.wd_lt hF.wd_lt
    rw [modW_num hX.fin (by rw [hF.rg]; have := wd_pos hF.rep (by omega); omega) (Nat.le_of_lt hF.fin), hX.sg, hX.rv, hF.rv, mk_false, show Y + Y = 2 * Y by omega] at this
    rw [show Y + Y = 2 * Y by omega]
    exact this
  · rw [decide_eq_false h] at hH
    have hl := great_half hX hY h
    have e : X % (2 * Y) = X := Nat.mod_eq_of_lt hl
    exact ⟨X, ⟨hY, hX, h0, hl⟩, e, Or.inr ⟨hH, rfl⟩⟩

set_option maxHeartbeats 3200000 in
theorem rem_main (x y X Y : Nat) (w : World) (hx : x < 2 ^ 64) (hy : y < 2 ^ 64) (hX : Fits X) (hY : Fits Y) (ex : rg x = wd X) (ey : rg y = wd Y) (hY0 : 0 < Y) (hX0 : 0 < X) :
    Calls Try.prog 44 #[.float .f64 x, .float .f64 y] w fun e w' => e = .returned (.float .f64 (mk (sg x ^^ decide (remN X Y < 0)) (wd (nr X Y)))) ∧ w = w' := by
  have HI := Lib.hid (fun W : World => isInf_any x W hx)
  have HJ := Lib.hid (fun W : World => isInf_any y W hy)
  have HX := Lib.hid (fun W : World => isNaN_any x W)
  have HY := Lib.hid (fun W : World => isNaN_any y W)
  have fx := wd_fin hX.rep hX.lt
  have fy := wd_fin hY.rep hY.lt
  rw [decide_eq_false (show ¬ rg x = INF by omega)] at HI
  rw [decide_eq_false (show ¬ rg y = INF by omega)] at HJ
  rw [nan_false.2 (show rg x ≤ INF by omega)] at HX
  rw [nan_false.2 (show rg y ≤ INF by omega)] at HY
  have px := wd_pos hX.rep hX0
  have py := wd_pos hY.rep hY0
  have b0 := ne_zero_of (y := y) (by omega)
  have b1 := lt_zero_sg (x := x) (by omega) (by omega)
  have b2 := lt_zero_sg (x := y) (by omega) (by omega)
  have hng := neg_run2
  have hfin := rem_word (show Fits (remN X Y).natAbs from fits_nr hX hY.rep hY0) (sg x)
  have heq := eq_sw (a := (X : Int)) (b := (Y : Int)) (by rw [Int.natAbs_natCast]; exact hX) (by rw [Int.natAbs_natCast]; exact hY)
  rw [sw_nat, sw_nat] at heq
  have hxn : sg x = true → Op.negFloat .f64 x = wd X := fun h => by rw [neg_bits x hx, ex, h]; rfl
  have hyn : sg y = true → Op.negFloat .f64 y = wd Y := fun h => by rw [neg_bits y hy, ey, h]; rfl
  have hxp : sg x = false → x = wd X := fun h => by rw [← mk_of hx, h, ex]; rfl
  have hyp : sg y = false → y = wd Y := fun h => by rw [← mk_of hy, h, ey]; rfl
  have hnr : nr X Y = (remN X Y).natAbs := rfl
  rw [hnr, ← hfin]
  obtain ⟨r, hIn, hr, hor⟩ := rm_mod hX hY hY0
  have hway := rm_way hIn hr
  by_cases hE : X = Y
  · rw [decide_eq_true (show (X : Int) = Y by omega)] at heq
    have hz : remN X Y = 0 := by
      have e : X % (2 * Y) = Y := by rw [hE]; exact Nat.mod_eq_of_lt (by omega)
      have := (remN_cases e).2.1 (by omega) (by omega)
      omega
    rw [hz, sw_zero]
    clear hway hor hIn hr hfin hE hz fx fy px py hnr hX hY hY0 hX0 ex ey hx hy
    cases hsx : sg x <;> cases hsy : sg y <;> rw [hsx] at b1 hxn hxp <;> rw [hsy] at b2 hyn hyp
    case false.false =>
      have e1 := hxp rfl; have e2 := hyp rfl
      clear hxp hyp hxn hyn hsx hsy
      subst e1; subst e2
      go_enter Try.func44, Try.ntmps44
      go_wp2_with (first | (go_at_call 45; first | (((with_reducible refine (HI.out _).mono ?_)); rintro e w' ⟨rfl, rfl⟩) | (((with_reducible refine (HJ.out _).mono ?_)); rintro e w' ⟨rfl, rfl⟩)) | (go_at_call 46; first | (((with_reducible refine (HX.out _).mono ?_)); rintro e w' ⟨rfl, rfl⟩) | (((with_reducible refine (HY.out _).mono ?_)); rintro e w' ⟨rfl, rfl⟩)))
      go_ret
      exact ⟨rfl, rfl⟩
    case false.true =>
      have e1 := hxp rfl; have e2 := hyn rfl
      clear hxp hyp hxn hyn hsx hsy
      subst e1
      go_enter Try.func44, Try.ntmps44
      go_wp2_with (first | (go_at_call 45; first | (((with_reducible refine (HI.out _).mono ?_)); rintro e w' ⟨rfl, rfl⟩) | (((with_reducible refine (HJ.out _).mono ?_)); rintro e w' ⟨rfl, rfl⟩)) | (go_at_call 46; first | (((with_reducible refine (HX.out _).mono ?_)); rintro e w' ⟨rfl, rfl⟩) | (((with_reducible refine (HY.out _).mono ?_)); rintro e w' ⟨rfl, rfl⟩)))
      go_ret
      exact ⟨rfl, rfl⟩
    case true.false =>
      have e1 := hxn rfl; have e2 := hyp rfl
      clear hxp hyp hxn hyn hsx hsy
      subst e2
      go_enter Try.func44, Try.ntmps44
      go_wp2_with (first | (go_at_call 45; first | (((with_reducible refine (HI.out _).mono ?_)); rintro e w' ⟨rfl, rfl⟩) | (((with_reducible refine (HJ.out _).mono ?_)); rintro e w' ⟨rfl, rfl⟩)) | (go_at_call 46; first | (((with_reducible refine (HX.out _).mono ?_)); rintro e w' ⟨rfl, rfl⟩) | (((with_reducible refine (HY.out _).mono ?_)); rintro e w' ⟨rfl, rfl⟩)))
      go_ret
      exact ⟨rfl, rfl⟩
    case true.true =>
      have e1 := hxn rfl; have e2 := hyn rfl
      clear hxp hyp hxn hyn hsx hsy
      go_enter Try.func44, Try.ntmps44
      go_wp2_with (first | (go_at_call 45; first | (((with_reducible refine (HI.out _).mono ?_)); rintro e w' ⟨rfl, rfl⟩) | (((with_reducible refine (HJ.out _).mono ?_)); rintro e w' ⟨rfl, rfl⟩)) | (go_at_call 46; first | (((with_reducible refine (HX.out _).mono ?_)); rintro e w' ⟨rfl, rfl⟩) | (((with_reducible refine (HY.out _).mono ?_)); rintro e w' ⟨rfl, rfl⟩)))
      go_ret
      exact ⟨rfl, rfl⟩
  · rw [decide_eq_false (show ¬ (X : Int) = Y by omega)] at heq
    have hor' : ((FloatKind.f64.format.order (wd Y) 9214364837600034815 == some .lt || FloatKind.f64.format.order (wd Y) 9214364837600034815 == some .eq) = true ∧ (∀ W : World, (binOp .add 23 (.float .f64 (wd Y)) (.float .f64 (wd Y))).run Try.prog W = .ok (.float .f64 (wd (Y + Y))) W) ∧
        Hid (∀ W : World, Calls Try.prog 32 #[.float .f64 (wd X), .float .f64 (wd (Y + Y))] W fun e w' => e = .returned (.float .f64 (wd r)) ∧ W = w')) ∨
        ((FloatKind.f64.format.order (wd Y) 9214364837600034815 == some .lt || FloatKind.f64.format.order (wd Y) 9214364837600034815 == some .eq) = false ∧ r = X) := by
      rcases hor with ⟨p1, p2, p3⟩ | h
      · exact Or.inl ⟨p1, run_g p2, p3⟩
      · exact Or.inr h
    clear hor hIn hr hfin hE fx fy px py hnr hX hY hY0 hX0 ex ey hx hy
    generalize sw (remN X Y) = z at *
    cases hsx : sg x <;> cases hsy : sg y <;> rw [hsx] at b1 hxn hxp <;> rw [hsy] at b2 hyn hyp <;> clear hsx hsy
    all_goals
      rcases hor' with ⟨d1, d2, HM⟩ | ⟨d1, hrX⟩
      all_goals
        rcases hway with ⟨a1, a2, a3, a4⟩ | ⟨z2, a1, a2, a3, a5, a6, a7⟩ | ⟨z1, z2, a1, a2, a3, a5, a6, a7, a8⟩ | ⟨hf, a1, a2, a3, a4⟩ | ⟨hf, a1, a2, a3, a5, a7⟩ | ⟨hf, z1, a1, a2, a3, a5, a7, a8⟩
        all_goals
          try subst a4
          try subst hrX
          first | (have e1 := hxp rfl; clear hxp hxn; subst e1) | (have e1 := hxn rfl; clear hxp hxn)
          first | (have e2 := hyp rfl; clear hyp hyn; subst e2) | (have e2 := hyn rfl; clear hyp hyn)
          go_enter Try.func44, Try.ntmps44
          go_wp2_with (first | (go_at_call 32; ((with_reducible refine (HM.out _).mono ?_)); rintro e w' ⟨rfl, rfl⟩) | (go_at_call 45; first | (((with_reducible refine (HI.out _).mono ?_)); rintro e w' ⟨rfl, rfl⟩) | (((with_reducible refine (HJ.out _).mono ?_)); rintro e w' ⟨rfl, rfl⟩)) | (go_at_call 46; first | (((with_reducible refine (HX.out _).mono ?_)); rintro e w' ⟨rfl, rfl⟩) | (((with_reducible refine (HY.out _).mono ?_)); rintro e w' ⟨rfl, rfl⟩)))
          go_ret
          exact ⟨rfl, rfl⟩

theorem add_zeros {x : Nat} (hx : x < 2 ^ 64) (h : rg x = 0) : floatBits .add .f64 x x = some x := by
  have hf : rg x < INF := by rw [h]; decide
  show Ieee.double.add _ _ = _
  rw [add_fin hf hf, (fv_zero_iff x).2 h, Bool.and_self]
  have := rs_exact0 hx hf (sg x) (fun _ => rfl)
  rw [(fv_zero_iff x).2 h] at this
  rw [show (0 : Int) + 0 = 0 from rfl, this]
theorem gt_zero_no {x z : Nat} (h : rg x = 0) (hz : z < 2 ^ 63) (hf : z ≤ INF) : (FloatKind.f64.format.order x z == some .gt) = false := by
  have e : rg z = z := by unfold rg; omega
  have k := key_rg z
  rw [e] at k
  have hk : key x = 0 := by have := key_natAbs x; omega
  rw [c_gt (by rw [h]; exact Nat.zero_le _) (by omega), k, hk, decide_eq_false (by omega)]

set_option maxHeartbeats 3200000 in
theorem rem_zero (x y Y : Nat) (w : World) (hx : x < 2 ^ 64) (hy : y < 2 ^ 64) (hY : Fits Y) (ex : rg x = 0) (ey : rg y = wd Y) (hY0 : 0 < Y) :
    Calls Try.prog 44 #[.float .f64 x, .float .f64 y] w fun e w' => e = .returned (.float .f64 x) ∧ w = w' := by
  have HI := Lib.hid (fun W : World => isInf_any x W hx)
  have HJ := Lib.hid (fun W : World => isInf_any y W hy)
  have HX := Lib.hid (fun W : World => isNaN_any x W)
  have HY := Lib.hid (fun W : World => isNaN_any y W)
  have fy := wd_fin hY.rep hY.lt
  have hI := INF_val
  rw [decide_eq_false (show ¬ rg x = INF by omega)] at HI
  rw [decide_eq_false (show ¬ rg y = INF by omega)] at HJ
  rw [nan_false.2 (show rg x ≤ INF by omega)] at HX
  rw [nan_false.2 (show rg y ≤ INF by omega)] at HY
  have py := wd_pos hY.rep hY0
  have b0 := ne_zero_of (y := y) (by omega)
  have b1 := lt_zero_no ex
  have b2 := lt_zero_sg (x := y) (by omega) (by omega)
  have hng := neg_run2
  have hyn : sg y = true → Op.negFloat .f64 y = wd Y := fun h => by rw [neg_bits y hy, ey, h]; rfl
  have hyp : sg y = false → y = wd Y := fun h => by rw [← mk_of hy, h, ey]; rfl
  have heq : (FloatKind.f64.format.order x (wd Y) == some .eq) = false := by
    have hk : key x = 0 := by have := key_natAbs x; omega
    rw [c_eq (by omega) (Nat.le_of_lt hY.fin), hY.key, hk, decide_eq_false (by omega)]
  have hxx := run_g (add_zeros hx ex)
  have hgt := gt_zero_no ex (show wd Y < 2 ^ 63 by omega) (by omega)
  have hhalf : ∃ z, (∀ W : World, (binOp .mul 23 (.float .f64 4602678819172646912) (.float .f64 (wd Y))).run Try.prog W = .ok (.float .f64 z) W) ∧ (FloatKind.f64.format.order x z == some .gt) = false := by
    refine ⟨_, run_g (mul_fin (rg_pow_lt (E := 1022) (by decide)) hY.fin), ?_⟩
    have e1 : sg (1022 * 2 ^ 52) = false := sg_pow (by decide)
    have e2 : fv (1022 * 2 ^ 52) = ((2 ^ (51 + 1022) : Nat) : Int) := fv_pow (by decide) (by decide)
    obtain ⟨F, hF⟩ : ∃ F : Nat, F = 2 ^ (51 + 1022) := ⟨_, rfl⟩
    rw [← hF] at e2
    rw [e1, e2, hY.sg, hY.fv, ← Int.natCast_mul]
    have := rs_signed false (F * Y) e0
    simp only [Bool.false_eq_true, if_false] at this
    rw [show (false ^^ false) = false from rfl, ← this, mk_false]
    have hm := Nat.min_le_right (ru (F * Y) e0) INF
    exact gt_zero_no ex (by omega) hm
  obtain ⟨hf, hmul, hgt2⟩ := hhalf
  have hor : ((FloatKind.f64.format.order (wd Y) 9214364837600034815 == some .lt || FloatKind.f64.format.order (wd Y) 9214364837600034815 == some .eq) = true ∧ (∀ W : World, (binOp .add 23 (.float .f64 (wd Y)) (.float .f64 (wd Y))).run Try.prog W = .ok (.float .f64 (wd (Y + Y))) W) ∧
        Hid (∀ W : World, Calls Try.prog 32 #[.float .f64 x, .float .f64 (wd (Y + Y))] W fun e w' => e = .returned (.float .f64 x) ∧ W = w')) ∨
        ((FloatKind.f64.format.order (wd Y) 9214364837600034815 == some .lt || FloatKind.f64.format.order (wd Y) 9214364837600034815 == some .eq) = false) := by
    have hH := le_half_max hY
    by_cases h : wd Y ≤ 9214364837600034815
    · rw [decide_eq_true h] at hH
      have hF := fits_double hY h
      refine Or.inl ⟨hH, run_g (add_wd hY hY hF), fun W => ?_⟩
      have := mod_any x (wd (Y + Y)) W hx hF.wd_lt
      rw [modW_small hx (by rw [hF.rg, ex]; exact wd_pos hF.rep (by omega)) (Nat.le_of_lt hF.fin)] at this
      exact this
    · rw [decide_eq_false h] at hH
      exact Or.inr hH
  have hT := lt_tiny hY
  generalize decide (Y < 2 ^ 53) = bT at *
  clear fy py hY hY0 ex ey hx hy hI
  cases hsy : sg y <;> rw [hsy] at b2 hyn hyp <;> clear hsy
  all_goals
    rcases hor with ⟨d1, d2, HM⟩ | d1
    all_goals
      cases bT
      all_goals
        first | (have e2 := hyp rfl; clear hyp hyn; subst e2) | (have e2 := hyn rfl; clear hyp hyn)
        go_enter Try.func44, Try.ntmps44
        go_wp2_with (first | (go_at_call 32; ((with_reducible refine (HM.out _).mono ?_)); rintro e w' ⟨rfl, rfl⟩) | (go_at_call 45; first | (((with_reducible refine (HI.out _).mono ?_)); rintro e w' ⟨rfl, rfl⟩) | (((with_reducible refine (HJ.out _).mono ?_)); rintro e w' ⟨rfl, rfl⟩)) | (go_at_call 46; first | (((with_reducible refine (HX.out _).mono ?_)); rintro e w' ⟨rfl, rfl⟩) | (((with_reducible refine (HY.out _).mono ?_)); rintro e w' ⟨rfl, rfl⟩)))
        go_ret
        exact ⟨rfl, rfl⟩

theorem rem_inner (x y : Nat) (w : World) (hx : x < 2 ^ 64) (hy : y < 2 ^ 64) :
    Calls Try.prog 44 #[.float .f64 x, .float .f64 y] w fun e w' => e = .returned (.float .f64 (remW x y)) ∧ w = w' := by
  by_cases h : INF ≤ rg x ∨ rg y = 0 ∨ INF < rg y
  · rw [remW_nan h]; exact rem_nan x y w hx h
  by_cases hi : rg y = INF
  · rw [remW_inf (by omega) hi]; exact rem_inf x y w hx hy (by omega) hi
  rw [remW_num (by omega) (by omega) (by omega)]
  by_cases h0 : rg x = 0
  · have e : mk (sg x ^^ decide (remN (rv (rg x)) (rv (rg y)) < 0)) (wd (nr (rv (rg x)) (rv (rg y)))) = x := by
      have hn : nr 0 (rv (rg y)) = 0 := by unfold nr; rw [remN_zero]; rfl
      rw [h0, rv_zero, remN_zero, hn, wd_zero, decide_eq_false (by omega), Bool.xor_false]
      have := mk_of hx
      rw [h0] at this
      exact this
    rw [e]
    exact rem_zero x y _ w hx hy (fits_rv (by omega)) h0 (wd_rv _).symm (rv_pos (by omega))
  · exact rem_main x y _ _ w hx hy (fits_rv (by omega)) (fits_rv (by omega)) (wd_rv _).symm (wd_rv _).symm (rv_pos (by omega)) (rv_pos (by omega))

set_option maxHeartbeats 400000 in
theorem remainder_any (x y : Nat) (w : World) (hx : x < 2 ^ 64) (hy : y < 2 ^ 64) :
    Calls Try.prog 35 #[.float .f64 x, .float .f64 y] w fun e w' => e = .returned (.float .f64 (remW x y)) ∧ w = w' := by
  have H := Lib.hid (fun W : World => rem_inner x y W hx hy)
  clear hx hy
  go_enter Try.func35, Try.ntmps35
  go_wp2_with (go_at_call 44; ((with_reducible refine (H.out _).mono ?_)); rintro e w' ⟨rfl, rfl⟩)
  go_ret
  exact ⟨rfl, rfl⟩
end Go.Proofs.Ytelhgahbhbinoaa

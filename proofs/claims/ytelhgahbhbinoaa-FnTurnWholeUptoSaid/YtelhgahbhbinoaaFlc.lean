/-
  Plain facts about the words of a binary64: the six comparisons as the walk spells them; the next word; the sign. No program in sight.
-/
import Derived.Test.YtelhgahbhbinoaaFlw
import Derived.Laws.Bits64
import Derived.Laws.BitsAllLaws
namespace Go.Proofs.Ytelhgahbhbinoaa.Flt
open Ieee

abbrev F64 : Ieee.Format := FloatKind.f64.format
theorem F64_eq : FloatKind.f64.format = double := rfl

section
variable {a b : Nat}
theorem c_eq (ha : rg a ≤ INF) (hb : rg b ≤ INF) : (FloatKind.f64.format.order a b == some .eq) = decide (key a = key b) := by
  rw [F64_eq, order_num ha hb]
  rcases Int.lt_trichotomy (key a) (key b) with h | h | h
  · rw [compare_lt h, decide_eq_false (by omega)]; rfl
  · rw [compare_eq h, decide_eq_true h]; rfl
  · rw [compare_gt h, decide_eq_false (by omega)]; rfl
theorem c_ne (ha : rg a ≤ INF) (hb : rg b ≤ INF) : (FloatKind.f64.format.order a b != some .eq) = decide (key a ≠ key b) := by
  have h := c_eq ha hb
  unfold bne
  rw [h]; simp
theorem c_lt (ha : rg a ≤ INF) (hb : rg b ≤ INF) : (FloatKind.f64.format.order a b == some .lt) = decide (key a < key b) := by
  rw [F64_eq, order_num ha hb]
  rcases Int.lt_trichotomy (key a) (key b) with h | h | h
  · rw [compare_lt h, decide_eq_true h]; rfl
  · rw [compare_eq h, decide_eq_false (by omega)]; rfl
  · rw [compare_gt h, decide_eq_false (by omega)]; rfl
theorem c_gt (ha : rg a ≤ INF) (hb : rg b ≤ INF) : (FloatKind.f64.format.order a b == some .gt) = decide (key b < key a) := by
  rw [F64_eq, order_num ha hb]
  rcases Int.lt_trichotomy (key a) (key b) with h | h | h
  · rw [compare_lt h, decide_eq_false (by omega)]; rfl
  · rw [compare_eq h, decide_eq_false (by omega)]; rfl
  · rw [compare_gt h, decide_eq_true h]; rfl
theorem c_le (ha : rg a ≤ INF) (hb : rg b ≤ INF) : (FloatKind.f64.format.order a b == some .lt || FloatKind.f64.format.order a b == some .eq) = decide (key a ≤ key b) := by
  rw [c_lt ha hb, c_eq ha hb]
  by_cases h : key a ≤ key b
  · rw [decide_eq_true h]
    by_cases h' : key a < key b
    · simp [h']
    · have : key a = key b := by omega
      simp [this]
  · rw [decide_eq_false h, decide_eq_false (by omega), decide_eq_false (by omega)]; rfl
theorem c_ge (ha : rg a ≤ INF) (hb : rg b ≤ INF) : (FloatKind.f64.format.order a b == some .gt || FloatKind.f64.format.order a b == some .eq) = decide (key b ≤ key a) := by
  rw [c_gt ha hb, c_eq ha hb]
  by_cases h : key b ≤ key a
  · rw [decide_eq_true h]
    by_cases h' : key b < key a
    · simp [h']
    · have : key a = key b := by omega
      simp [this]
  · rw [decide_eq_false h, decide_eq_false (by omega), decide_eq_false (by omega)]; rfl
theorem c_nan (h : INF < rg a ∨ INF < rg b) : FloatKind.f64.format.order a b = none := by
  rcases h with h | h
  · exact order_nan_left h
  · exact order_nan_right h
end

/-- a word is no NaN if and only if it equals itself -/
theorem c_self (a : Nat) : (FloatKind.f64.format.order a a != some .eq) = nan a := by
  unfold nan
  rcases Nat.lt_or_ge INF (rg a) with h | h
  · rw [c_nan (Or.inl h), decide_eq_true h]; rfl
  · rw [c_ne h h, decide_eq_false (by omega)]; simp; exact h
theorem c_self' (a : Nat) : (FloatKind.f64.format.order a a == some .eq) = !nan a := by
  have := c_self a
  unfold bne at this
  rw [← this]; simp

theorem nan_false {a : Nat} : nan a = false ↔ rg a ≤ INF := by unfold nan; simp
theorem nan_true {a : Nat} : nan a = true ↔ INF < rg a := by unfold nan; simp

/-! ### the bits of a sign -/
theorem copy_bits (x y : Nat) (hx : x < 2 ^ 64) (hy : y < 2 ^ 64) :
    (bits .or .u64 (bits .andNot .u64 (x : Int) 9223372036854775808) (bits .and .u64 (y : Int) 9223372036854775808)).toNat = mk (sg y) (rg x) := by
  have hc : ((9223372036854775808 : Nat) : Int) = 9223372036854775808 := rfl
  rw [← hc, u64_andNot_nat x _ (by omega) (by omega), u64_and_nat y _ (by omega) (by omega)]
  have e1 : x &&& (18446744073709551615 - 9223372036854775808) = rg x := by
    have := Nat.and_two_pow_sub_one_eq_mod x 63
    exact this
  have e2 : y &&& 9223372036854775808 = y / 2 ^ 63 % 2 * 2 ^ 63 := nat_bit 63 y
  have l1 : rg x < 2 ^ 63 := rg_lt x
  have l2 : y / 2 ^ 63 % 2 < 2 := Nat.mod_lt _ (by decide)
  rw [e1, e2, u64_or_nat _ _ (by omega) (by omega), Int.toNat_natCast, Nat.or_comm]
  rw [nat_join 63 (y / 2 ^ 63 % 2 * 2 ^ 63) (rg x) (by omega) l1]
  unfold mk sg
  by_cases h : y / 2 ^ 63 % 2 = 1
  · rw [h]; simp
  · have : y / 2 ^ 63 % 2 = 0 := by omega
    rw [this]; simp

theorem neg_bits (x : Nat) (hx : x < 2 ^ 64) : Op.negFloat .f64 x = mk (!sg x) (rg x) := by
  have e : Op.negFloat .f64 x = x ^^^ 2 ^ 63 := rfl
  rw [e]
  have h1 : (x ^^^ 2 ^ 63) / 2 ^ 63 = x / 2 ^ 63 ^^^ 2 ^ 63 / 2 ^ 63 := Nat.xor_div_two_pow
  have h2 : (x ^^^ 2 ^ 63) % 2 ^ 63 = x % 2 ^ 63 ^^^ 2 ^ 63 % 2 ^ 63 := Nat.xor_mod_two_pow
  have h3 : 2 ^ 63 / 2 ^ 63 = 1 := rfl
  have h4 : 2 ^ 63 % 2 ^ 63 = 0 := rfl
  rw [h3] at h1
  rw [h4, Nat.xor_zero] at h2
  generalize x ^^^ 2 ^ 63 = y at *
  unfold mk sg rg
  have hq : x / 2 ^ 63 = 0 ∨ x / 2 ^ 63 = 1 := by omega
  rcases hq with hq | hq <;> rw [hq] at h1 ⊢
  · have h5 : (0 ^^^ 1 : Nat) = 1 := rfl
    rw [h5] at h1
    rw [if_pos (by decide)]; omega
  · have h5 : (1 ^^^ 1 : Nat) = 0 := rfl
    rw [h5] at h1
    rw [if_neg (by decide)]; omega

theorem key_neg (x : Nat) (hx : x < 2 ^ 64) : key (Op.negFloat .f64 x) = -key x := by
  rw [neg_bits x hx]
  unfold key
  rw [sg_mk _ (rg_lt x), rg_mk _ (rg_lt x)]
  cases sg x <;> simp
theorem rg_neg (x : Nat) (hx : x < 2 ^ 64) : rg (Op.negFloat .f64 x) = rg x := by
  rw [neg_bits x hx, rg_mk _ (rg_lt x)]
theorem sg_neg (x : Nat) (hx : x < 2 ^ 64) : sg (Op.negFloat .f64 x) = !sg x := by
  rw [neg_bits x hx, sg_mk _ (rg_lt x)]
theorem neg_lt (x : Nat) (hx : x < 2 ^ 64) : Op.negFloat .f64 x < 2 ^ 64 := by
  rw [neg_bits x hx]; exact mk_lt _ (rg_lt x)
theorem nan_neg (x : Nat) (hx : x < 2 ^ 64) : nan (Op.negFloat .f64 x) = nan x := by
  unfold nan; rw [rg_neg x hx]
theorem fv_neg (x : Nat) (hx : x < 2 ^ 64) : fv (Op.negFloat .f64 x) = -fv x := by
  unfold fv
  rw [sg_neg x hx, rg_neg x hx]
  cases sg x <;> simp

theorem key_mk (s : Bool) {r : Nat} (h : r < 2 ^ 63) : key (mk s r) = if s then -(r : Int) else (r : Int) := by
  unfold key; rw [sg_mk s h, rg_mk s h]
theorem key_natAbs (a : Nat) : (key a).natAbs = rg a := by unfold key; split <;> simp
theorem key_zero : key 0 = 0 := rfl
theorem rg_zero : rg 0 = 0 := rfl
theorem rg_zero_le : rg 0 ≤ INF := by rw [rg_zero]; exact Nat.zero_le _

/-! ### the same number, the sign of nought and the bits of a NaN left out of sight -/
def same (a b : Nat) : Bool := (FloatKind.f64.format.order a b == some .eq) || ((FloatKind.f64.format.order a a != some .eq) && (FloatKind.f64.format.order b b != some .eq))

theorem same_iff (a b : Nat) : same a b = true ↔ (nan a = true ∧ nan b = true) ∨ (nan a = false ∧ nan b = false ∧ key a = key b) := by
  unfold same
  rw [c_self, c_self]
  cases ha : nan a
  · cases hb : nan b
    · rw [c_eq (nan_false.1 ha) (nan_false.1 hb)]; simp
    · rw [c_nan (Or.inr (nan_true.1 hb))]; simp
  · rw [c_nan (Or.inl (nan_true.1 ha))]; cases nan b <;> simp

theorem same_refl (a : Nat) : same a a = true := by
  rw [same_iff]; cases h : nan a <;> simp
theorem same_of_nan {a b : Nat} (ha : nan a = true) (hb : nan b = true) : same a b = true := (same_iff a b).2 (Or.inl ⟨ha, hb⟩)
theorem same_of_key {a b : Nat} (ha : nan a = false) (hb : nan b = false) (h : key a = key b) : same a b = true := (same_iff a b).2 (Or.inr ⟨ha, hb, h⟩)

/-! ### the next word -/
def qNaN : Nat := 9221120237041090561
theorem nan_qNaN : nan qNaN = true := by decide

/-- what math.Nextafter gives -/
def nxt (x y : Nat) : Nat :=
  if nan x || nan y then qNaN
  else if key x = key y then x
  else if key x = 0 then mk (sg y) 1
  else if (key x < key y) ↔ (0 < key x) then x + 1 else x - 1

theorem nxt_lt {x y : Nat} (hx : x < 2 ^ 64) : nxt x y < 2 ^ 64 := by
  unfold nxt
  have hq : qNaN < 2 ^ 64 := by decide
  have hI := INF_lt
  have h1 := key_natAbs x
  have h2 := key_natAbs y
  split
  · exact hq
  · rename_i hn
    have hn' : nan x = false ∧ nan y = false := by simpa using hn
    have hx' := nan_false.1 hn'.1
    split
    · exact hx
    · split
      · exact mk_lt _ (by decide)
      · split
        · have := mk_of hx
          unfold mk at this
          have hl := rg_lt x
          unfold INF at hx'
          split at this <;> omega
        · omega

theorem nan_nxt {x y : Nat} (h : nan x = true ∨ nan y = true) : nxt x y = qNaN := by
  unfold nxt; rw [if_pos (by simpa using h)]

/-- the step of a key towards another one -/
def stp (a b : Int) : Int := if a < b then a + 1 else if b < a then a - 1 else a

theorem INF_val : INF = 9218868437227405312 := rfl

theorem stp_lt {a b : Int} (h : a < b) : stp a b = a + 1 := by unfold stp; rw [if_pos h]
theorem stp_gt {a b : Int} (h : b < a) : stp a b = a - 1 := by unfold stp; rw [if_neg (by omega), if_pos h]
theorem stp_eq {a b : Int} (h : a = b) : stp a b = a := by unfold stp; rw [if_neg (by omega), if_neg (by omega)]

theorem key_le {x : Nat} (h : nan x = false) : -(INF : Int) ≤ key x ∧ key x ≤ INF := by
  have := nan_false.1 h
  have h2 := key_natAbs x
  omega

theorem nxt_key {x y : Nat} (hx : x < 2 ^ 64) (hnx : nan x = false) (hny : nan y = false) : key (nxt x y) = stp (key x) (key y) ∧ nan (nxt x y) = false := by
  have hx' := nan_false.1 hnx
  have hyb := key_le hny
  have hI := INF_val
  unfold nxt
  rw [hnx, hny, if_neg (by simp)]
  by_cases h1 : key x = key y
  · rw [if_pos h1, stp_eq h1]; exact ⟨rfl, hnx⟩
  rw [if_neg h1]
  by_cases h2 : key x = 0
  · rw [if_pos h2, key_mk _ (by decide), nan_false, rg_mk _ (by decide), h2]
    have hyk : key y = if sg y then -(rg y : Int) else (rg y : Int) := rfl
    refine ⟨?_, by omega⟩
    cases hs : sg y <;> rw [hs] at hyk <;> simp only [Bool.false_eq_true, if_false, if_true] at hyk ⊢
    · rw [stp_lt (by omega)]; rfl
    · rw [stp_gt (by omega)]; rfl
  rw [if_neg h2]
  have hm := mk_of hx
  have hxk : key x = if sg x then -(rg x : Int) else (rg x : Int) := rfl
  have hr0 : rg x ≠ 0 := by intro h; apply h2; rw [hxk, h]; split <;> rfl
  generalize rg x = r at *
  generalize key y = ky at *
  cases hs : sg x <;> rw [hs] at hxk hm <;> simp only [Bool.false_eq_true, if_false, if_true] at hxk
  · -- positive
    have hxr : x = r := by rw [← hm]; rfl
    by_cases h3 : key x < ky
    · rw [if_pos ⟨fun _ => by omega, fun _ => h3⟩, stp_lt h3, show x + 1 = mk false (r + 1) by rw [hxr]; rfl, key_mk _ (by omega), nan_false, rg_mk _ (by omega)]
      refine ⟨?_, by omega⟩
      simp only [Bool.false_eq_true, if_false]; omega
    · rw [if_neg (by omega), stp_gt (by omega), show x - 1 = mk false (r - 1) by rw [hxr]; rfl, key_mk _ (by omega), nan_false, rg_mk _ (by omega)]
      refine ⟨?_, by omega⟩
      simp only [Bool.false_eq_true, if_false]; omega
  · have hxr : x = 2 ^ 63 + r := by rw [← hm]; rfl
    by_cases h3 : key x < ky
    · rw [if_neg (by omega), stp_lt h3, show x - 1 = mk true (r - 1) by unfold mk; rw [if_pos rfl]; omega, key_mk _ (by omega), nan_false, rg_mk _ (by omega)]
      refine ⟨?_, by omega⟩
      simp only [if_true]; omega
    · rw [if_pos ⟨fun h => absurd h h3, fun h => by omega⟩, stp_gt (by omega), show x + 1 = mk true (r + 1) by unfold mk; rw [if_pos rfl]; omega, key_mk _ (by omega), nan_false, rg_mk _ (by omega)]
      refine ⟨?_, by omega⟩
      simp only [if_true]; omega

end Go.Proofs.Ytelhgahbhbinoaa.Flt

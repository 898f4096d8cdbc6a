/-
  Plain facts about the words of a binary64: what a word stands for, order, sums, products, rounding once. No program in sight.
-/
import Derived.Test.YtelhgahbhbinoaaFlt
import Derived.Laws.FloatArith
namespace Go.Proofs.Ytelhgahbhbinoaa.Flt
open Ieee

/-- the rung of infinity -/
def INF : Nat := 2047 * 2 ^ 52
/-- 1 in units of the least positive number -/
def e0 : Nat := 1074
theorem e0_eq : e0 = 1074 := rfl
def U : Nat := 2 ^ e0
theorem U_eq : U = 2 ^ e0 := rfl
theorem U_pos : 0 < U := by rw [U_eq]; exact pow_pos _

def sg (b : Nat) : Bool := b / 2 ^ 63 % 2 == 1
def rg (b : Nat) : Nat := b % 2 ^ 63
def mk (s : Bool) (r : Nat) : Nat := if s then 2 ^ 63 + r else r

theorem rg_lt (b : Nat) : rg b < 2 ^ 63 := Nat.mod_lt _ (by decide)
theorem INF_lt : INF < 2 ^ 63 := by decide
theorem sg_mk (s : Bool) {r : Nat} (h : r < 2 ^ 63) : sg (mk s r) = s := by
  unfold sg mk; cases s
  · simp only [Bool.false_eq_true, if_false, beq_eq_false_iff_ne]; omega
  · simp only [if_true, beq_iff_eq]; omega
theorem rg_mk (s : Bool) {r : Nat} (h : r < 2 ^ 63) : rg (mk s r) = r := by
  unfold rg mk; cases s
  · simp only [Bool.false_eq_true, if_false]; omega
  · simp only [if_true]; omega
theorem mk_lt (s : Bool) {r : Nat} (h : r < 2 ^ 63) : mk s r < 2 ^ 64 := by
  unfold mk; split <;> omega
theorem mk_of {b : Nat} (h : b < 2 ^ 64) : mk (sg b) (rg b) = b := by
  unfold mk sg rg
  by_cases h' : b / 2 ^ 63 % 2 = 1
  · rw [if_pos (by simpa using h')]; omega
  · rw [if_neg (by simpa using h')]; omega

/-- the value of a word that is no NaN and no infinity, in units of the least positive number -/
def fv (b : Nat) : Int := if sg b then -(rv (rg b) : Int) else (rv (rg b) : Int)
/-- the place of a word among all words that are no NaN -/
def key (b : Nat) : Int := if sg b then -(rg b : Int) else (rg b : Int)
def nan (b : Nat) : Bool := decide (INF < rg b)
def fin (b : Nat) : Prop := rg b < INF

theorem double_sign : double.signWeight = 2 ^ 63 := rfl
theorem double_binade : double.binade = 2 ^ 52 := rfl
theorem double_inf : double.infRung = INF := rfl
theorem double_least : double.leastPlace = -1074 := rfl

theorem read_eq (b : Nat) : double.read b = if rg b < 2 ^ 52 then Datum.number (sg b) (rg b) (-1074) else if rg b < INF then Datum.number (sg b) (2 ^ 52 + rg b % 2 ^ 52) (-1074 + ((rg b / 2 ^ 52 - 1 : Nat) : Int)) else if rg b = INF then Datum.infinity (sg b) else Datum.nan (sg b) (rg b - INF) := rfl

theorem INF_gt : 2 ^ 53 < INF := by decide

theorem read_inf {b : Nat} (h : rg b = INF) : double.read b = .infinity (sg b) := by
  have hI := INF_gt
  rw [read_eq, if_neg (by omega), if_neg (by omega), if_pos h]

theorem read_nan {b : Nat} (h : INF < rg b) : double.read b = .nan (sg b) (rg b - INF) := by
  have hI := INF_gt
  rw [read_eq, if_neg (by omega), if_neg (by omega), if_neg (by omega)]

theorem read_fin {b : Nat} (h : rg b < INF) : ∃ m e : Nat, double.read b = .number (sg b) m ((e : Int) - 1074) ∧ m * 2 ^ e = rv (rg b) ∧ m < 2 ^ 53 ∧ (2 ^ 52 ≤ m ∨ e = 0) := by
  rw [read_eq]
  by_cases hl : rg b < 2 ^ 52
  · rw [if_pos hl]
    exact ⟨rg b, 0, by simp, by rw [rv_low hl]; omega, by omega, Or.inr rfl⟩
  · rw [if_neg hl, if_pos h]
    refine ⟨2 ^ 52 + rg b % 2 ^ 52, rg b / 2 ^ 52 - 1, ?_, ?_, by omega, Or.inl (by omega)⟩
    · rw [Int.add_comm, Int.sub_eq_add_neg]
    · unfold rv; rw [if_neg hl]

/-! ### rounding -/
theorem log2_mul_pow (n a : Nat) (h : n ≠ 0) : (n * 2 ^ a).log2 = n.log2 + a := by
  have h1 := Nat.log2_self_le h
  have h2 : n < 2 ^ (n.log2 + 1) := Nat.lt_log2_self
  have hp := pow_pos a
  have hne : n * 2 ^ a ≠ 0 := Nat.mul_ne_zero h (by omega)
  apply Nat.le_antisymm
  · have : (n * 2 ^ a).log2 < n.log2 + a + 1 := by
      rw [Nat.log2_lt hne, show n.log2 + a + 1 = n.log2 + 1 + a by omega, Nat.pow_add]
      exact Nat.mul_lt_mul_of_pos_right h2 hp
    omega
  · rw [Nat.le_log2 hne, Nat.pow_add]
    exact Nat.mul_le_mul_right _ h1

/-- The word nearest to 'mag * 2 ^ place'. -/
theorem nearest_eq (s : Bool) (mag : Nat) (place : Int) (a k : Nat) (h : place + 1074 = (a : Int) - k) :
    double.nearest s mag place = mk s (min (ru (mag * 2 ^ a) k) INF) := by
  have word : ∀ r, double.word s r = mk s r := fun r => rfl
  unfold Format.nearest
  by_cases h0 : mag = 0
  · subst h0; rw [if_pos rfl, Nat.zero_mul, ru_zero, Nat.zero_min, word]
  rw [if_neg h0]
  simp only [double_binade, double_inf, double_least, word, cut_even, Nat.shiftLeft_eq]
  congr 2
  -- the formula, and the scale
  have main : ∀ a' k' : Nat, (a' = 0 ∨ k' = 0) → place + 1074 = (a' : Int) - k' →
      (max (place + (mag.log2 : Int) - (double.fractionBits : Int)) (-1074) - -1074).toNat * 2 ^ 52 +
        rhe (mag * 2 ^ (place - max (place + (mag.log2 : Int) - (double.fractionBits : Int)) (-1074)).toNat) (max (place + (mag.log2 : Int) - (double.fractionBits : Int)) (-1074) - place).toNat = ru (mag * 2 ^ a') k' := by
    intro a' k' hor h'
    have hfb : (double.fractionBits : Int) = 52 := rfl
    rw [hfb]
    have hne : mag * 2 ^ a' ≠ 0 := Nat.mul_ne_zero h0 (by have := pow_pos a'; omega)
    unfold ru
    rw [if_neg hne, log2_mul_pow _ _ h0]
    generalize hl : max (place + (mag.log2 : Int) - 52) (-1074) = last
    have ht : (last - -1074).toNat = mag.log2 + a' - (52 + k') := by omega
    rw [ht]
    congr 1
    generalize ht' : mag.log2 + a' - (52 + k') = t at *
    rcases hor with rfl | rfl
    · have e1 : (place - last).toNat = 0 := by omega
      have e2 : (last - place).toNat = t + k' := by omega
      rw [e1, e2]
    · rcases Nat.lt_or_ge t a' with hta | hta
      · have e1 : (place - last).toNat = a' - t := by omega
        have e2 : (last - place).toNat = 0 := by omega
        rw [e1, e2, rhe_zero, Nat.add_zero, show a' = (a' - t) + t by omega, Nat.pow_add, ← Nat.mul_assoc, rhe_exact]
        congr 2; omega
      · have e1 : (place - last).toNat = 0 := by omega
        have e2 : (last - place).toNat = t - a' := by omega
        rw [e1, e2, Nat.pow_zero, Nat.mul_one, Nat.add_zero]
        have := rhe_mul mag (t - a') a'
        rw [show t - a' + a' = t by omega] at this
        exact this.symm
  rcases Nat.lt_or_ge a k with hak | hak
  · rw [main 0 (k - a) (Or.inl rfl) (by omega)]
    have := ru_scale mag (k - a) a
    rw [show k - a + a = k by omega] at this
    rw [this, Nat.pow_zero, Nat.mul_one]
  · rw [main (a - k) 0 (Or.inr rfl) (by omega)]
    have := ru_scale (mag * 2 ^ (a - k)) 0 k
    rw [Nat.mul_assoc, ← Nat.pow_add, show a - k + k = a by omega, Nat.zero_add] at this
    rw [this]

/-- 'T / 2^k' (in units) rounded once; 's' is the sign of a nought -/
def rs (s : Bool) (T : Int) (k : Nat) : Nat := mk (if T = 0 then s else decide (T < 0)) (min (ru T.natAbs k) INF)

theorem min_INF_lt (n : Nat) : min n INF < 2 ^ 63 := Nat.lt_of_le_of_lt (Nat.min_le_right _ _) INF_lt
theorem rs_lt (s : Bool) (T : Int) (k : Nat) : rs s T k < 2 ^ 64 := mk_lt _ (min_INF_lt _)
theorem rg_rs (s : Bool) (T : Int) (k : Nat) : rg (rs s T k) = min (ru T.natAbs k) INF := rg_mk _ (min_INF_lt _)
theorem sg_rs (s : Bool) (T : Int) (k : Nat) : sg (rs s T k) = if T = 0 then s else decide (T < 0) := sg_mk _ (min_INF_lt _)
theorem rg_rs_le (s : Bool) (T : Int) (k : Nat) : rg (rs s T k) ≤ INF := by rw [rg_rs]; exact Nat.min_le_right _ _

theorem fv_natAbs (b : Nat) : (fv b).natAbs = rv (rg b) := by
  unfold fv; split <;> simp

theorem fv_zero_iff (b : Nat) : fv b = 0 ↔ rg b = 0 := by
  constructor
  · intro h
    have h1 : rv (rg b) = 0 := by rw [← fv_natAbs, h]; rfl
    have := le_rv (rg b); omega
  · intro h
    have : (fv b).natAbs = 0 := by rw [fv_natAbs, h, rv_zero]
    omega

/-- a number that the format has is not rounded -/
theorem rs_exact {b : Nat} (hb : b < 2 ^ 64) (hf : fin b) (s : Bool) (k : Nat) (hs : rg b = 0 → s = sg b) : rs s (fv b * 2 ^ k) k = b := by
  have hp := pow_pos k
  have hz : fv b * 2 ^ k = 0 ↔ rg b = 0 := by
    rw [← fv_zero_iff]
    constructor
    · intro h
      rcases Int.mul_eq_zero.1 h with h | h
      · exact h
      · exfalso; have : (2 : Int) ^ k = ((2 ^ k : Nat) : Int) := by simp
        omega
    · intro h; rw [h, Int.zero_mul]
  have hn : (fv b * 2 ^ k).natAbs = rv (rg b) * 2 ^ k := by
    have : (2 : Int) ^ k = ((2 ^ k : Nat) : Int) := by simp
    rw [Int.natAbs_mul, fv_natAbs, this, Int.natAbs_natCast]
  unfold rs
  rw [hn, ru_exact, Nat.min_eq_left (Nat.le_of_lt hf)]
  have : (if fv b * 2 ^ k = 0 then s else decide (fv b * 2 ^ k < 0)) = sg b := by
    by_cases h : rg b = 0
    · rw [if_pos (hz.2 h), hs h]
    · rw [if_neg (fun x => h (hz.1 x))]
      have h1 : 0 < rv (rg b) := rv_pos (by omega)
      have h2 : (0 : Int) < 2 ^ k := by
        have : (2 : Int) ^ k = ((2 ^ k : Nat) : Int) := by simp
        omega
      unfold fv
      cases hsg : sg b
      · simp only [Bool.false_eq_true, if_false, decide_eq_false_iff_not, Int.not_lt]
        exact Int.mul_nonneg (by omega) (by omega)
      · simp only [if_true, decide_eq_true_eq]
        exact Int.mul_neg_of_neg_of_pos (by omega) h2
  rw [this, mk_of hb]

theorem rs_exact0 {b : Nat} (hb : b < 2 ^ 64) (hf : fin b) (s : Bool) (hs : rg b = 0 → s = sg b) : rs s (fv b) 0 = b := by
  have := rs_exact hb hf s 0 hs
  simpa using this

/-! ### order -/
theorem compare_congr {a b c d : Int} (h1 : a < b ↔ c < d) (h2 : a = b ↔ c = d) : compare a b = compare c d := by
  show compareOfLessAndEq a b = compareOfLessAndEq c d
  unfold compareOfLessAndEq
  by_cases h : a < b
  · rw [if_pos h, if_pos (h1.1 h)]
  · rw [if_neg h, if_neg (fun x => h (h1.2 x))]
    by_cases h' : a = b
    · rw [if_pos h', if_pos (h2.1 h')]
    · rw [if_neg h', if_neg (fun x => h' (h2.2 x))]

theorem fv_lt_iff (a b : Nat) : fv a < fv b ↔ key a < key b := by
  unfold fv key
  have h1 := @rv_lt_iff (rg a) (rg b)
  have h2 := @rv_lt_iff (rg b) (rg a)
  have z1 := le_rv (rg a); have z2 := le_rv (rg b)
  have p1 : 0 < rg a → 0 < rv (rg a) := rv_pos
  have p2 : rg a = 0 → rv (rg a) = 0 := fun h => by rw [h, rv_zero]
  have p3 : rg b = 0 → rv (rg b) = 0 := fun h => by rw [h, rv_zero]
  cases sg a <;> cases sg b <;> simp only [Bool.false_eq_true, if_false, if_true]
  · omega
  · omega
  · by_cases ha : rg a = 0 <;> by_cases hb : rg b = 0 <;> simp_all <;> omega
  · omega

theorem fv_eq_iff (a b : Nat) : fv a = fv b ↔ key a = key b := by
  have h1 := fv_lt_iff a b
  have h2 := fv_lt_iff b a
  omega

theorem fv_le_iff (a b : Nat) : fv a ≤ fv b ↔ key a ≤ key b := by
  have h2 := fv_lt_iff b a
  omega

theorem signed_eq (s : Bool) (m u : Nat) : signed s m u = (if s then -((m * 2 ^ u : Nat) : Int) else ((m * 2 ^ u : Nat) : Int)) := by
  unfold signed; rw [Nat.shiftLeft_eq]

theorem signed_scale (s : Bool) (m e c : Nat) (r : Nat) (h : m * 2 ^ e = r) (hc : c ≤ e) : signed s m (e - c) * ((2 ^ c : Nat) : Int) = if s then -(r : Int) else (r : Int) := by
  rw [signed_eq, ← h]
  have : ((m * 2 ^ (e - c) : Nat) : Int) * ((2 ^ c : Nat) : Int) = ((m * 2 ^ e : Nat) : Int) := by
    rw [← Int.natCast_mul, Nat.mul_assoc, ← Nat.pow_add, show e - c + c = e by omega]
  cases s
  · simp only [Bool.false_eq_true, if_false]; exact this
  · simp only [if_true]; rw [Int.neg_mul, this]

theorem order_fin {a b : Nat} (ha : rg a < INF) (hb : rg b < INF) : double.order a b = some (compare (key a) (key b)) := by
  obtain ⟨m, i, hra, hma, _, _⟩ := read_fin ha
  obtain ⟨n, j, hrb, hmb, _, _⟩ := read_fin hb
  unfold Format.order
  rw [hra, hrb]
  simp only [Datum.order]
  congr 1
  have e1 : ((i : Int) - 1074 - min ((i : Int) - 1074) ((j : Int) - 1074)).toNat = i - min i j := by omega
  have e2 : ((j : Int) - 1074 - min ((i : Int) - 1074) ((j : Int) - 1074)).toNat = j - min i j := by omega
  rw [e1, e2]
  have s1 := signed_scale (sg a) m i (min i j) _ hma (Nat.min_le_left _ _)
  have s2 := signed_scale (sg b) n j (min i j) _ hmb (Nat.min_le_right _ _)
  have s1' : signed (sg a) m (i - min i j) * ((2 ^ min i j : Nat) : Int) = fv a := s1
  have s2' : signed (sg b) n (j - min i j) * ((2 ^ min i j : Nat) : Int) = fv b := s2
  have hp : (0 : Int) < ((2 ^ min i j : Nat) : Int) := by have := pow_pos (min i j); omega
  refine compare_congr ?_ ?_
  · rw [← fv_lt_iff, ← s1', ← s2']
    exact (Int.mul_lt_mul_right hp).symm
  · rw [← fv_eq_iff, ← s1', ← s2']
    constructor
    · intro h; rw [h]
    · exact Int.eq_of_mul_eq_mul_right (by omega)

theorem compare_lt {x y : Int} (h : x < y) : compare x y = .lt := by
  show compareOfLessAndEq x y = .lt
  unfold compareOfLessAndEq; rw [if_pos h]
theorem compare_gt {x y : Int} (h : y < x) : compare x y = .gt := by
  show compareOfLessAndEq x y = .gt
  unfold compareOfLessAndEq; rw [if_neg (by omega), if_neg (by omega)]
theorem compare_eq {x y : Int} (h : x = y) : compare x y = .eq := by
  show compareOfLessAndEq x y = .eq
  unfold compareOfLessAndEq; rw [if_neg (by omega), if_pos h]

theorem order_num {a b : Nat} (ha : rg a ≤ INF) (hb : rg b ≤ INF) : double.order a b = some (compare (key a) (key b)) := by
  have hI : 0 < INF := by decide
  rcases Nat.lt_or_ge (rg a) INF with h1 | h1
  · rcases Nat.lt_or_ge (rg b) INF with h2 | h2
    · exact order_fin h1 h2
    · have e2 : rg b = INF := by omega
      obtain ⟨m, i, hra, _⟩ := read_fin h1
      unfold Format.order
      rw [hra, read_inf e2]
      simp only [Datum.order]
      congr 1
      unfold key
      rw [e2]
      cases sg a <;> cases sg b <;> simp only [Bool.false_eq_true, if_false, if_true] <;> first | (rw [compare_lt]; omega) | (rw [compare_gt]; omega)
  · have e1 : rg a = INF := by omega
    rcases Nat.lt_or_ge (rg b) INF with h2 | h2
    · obtain ⟨m, i, hrb, _⟩ := read_fin h2
      unfold Format.order
      rw [hrb, read_inf e1]
      simp only [Datum.order]
      congr 1
      unfold key
      rw [e1]
      cases sg a <;> cases sg b <;> simp only [Bool.false_eq_true, if_false, if_true] <;> first | (rw [compare_lt]; omega) | (rw [compare_gt]; omega)
    · have e2 : rg b = INF := by omega
      unfold Format.order
      rw [read_inf e1, read_inf e2]
      simp only [Datum.order]
      congr 1
      unfold key
      rw [e1, e2]
      cases sg a <;> cases sg b <;> simp only [Bool.false_eq_true, if_false, if_true] <;> first | (rw [compare_eq rfl]; rfl) | (rw [compare_lt]; rfl; omega) | (rw [compare_gt]; rfl; omega)

theorem order_nan_left {a b : Nat} (h : INF < rg a) : double.order a b = none := by
  unfold Format.order
  rw [read_nan h]; rfl
theorem order_nan_right {a b : Nat} (h : INF < rg b) : double.order a b = none := by
  unfold Format.order
  rw [read_nan h]
  rcases Nat.lt_or_ge INF (rg a) with h1 | h1
  · rw [read_nan h1]; rfl
  · rcases Nat.lt_or_ge (rg a) INF with h2 | h2
    · obtain ⟨m, i, hra, _⟩ := read_fin h2
      rw [hra]; rfl
    · rw [read_inf (by omega)]; rfl

/-! ### sums, products -/
theorem rs_of_signed (s : Bool) (T : Int) (c k : Nat) (V : Int) (hV : T * ((2 ^ c : Nat) : Int) = V) (place : Int) (hp : place + 1074 = (c : Int) - k) :
    double.nearest (if T = 0 then s else T < 0) T.natAbs place = rs s V k := by
  have hpos := pow_pos c
  rw [nearest_eq _ _ _ c k hp]
  unfold rs
  have h0 : T = 0 ↔ V = 0 := by
    rw [← hV]
    constructor
    · intro h; rw [h, Int.zero_mul]
    · intro h; rcases Int.mul_eq_zero.1 h with h | h
      · exact h
      · omega
  have h1 : T < 0 ↔ V < 0 := by
    rw [← hV]
    constructor
    · intro h; exact Int.mul_neg_of_neg_of_pos h (by omega)
    · intro h
      rcases Int.lt_or_le T 0 with h' | h'
      · exact h'
      · have := Int.mul_nonneg h' (show (0 : Int) ≤ ((2 ^ c : Nat) : Int) by omega); omega
  have h2 : T.natAbs * 2 ^ c = V.natAbs := by rw [← hV, Int.natAbs_mul, Int.natAbs_natCast]
  rw [h2]
  by_cases hT : T = 0
  · rw [if_pos hT, if_pos (h0.1 hT)]
  · rw [if_neg hT, if_neg (fun x => hT (h0.2 x))]
    congr 1
    simp only [h1]

theorem add_fin {a b : Nat} (ha : rg a < INF) (hb : rg b < INF) : double.add a b = some (rs (sg a && sg b) (fv a + fv b) 0) := by
  obtain ⟨m, i, hra, hma, _, _⟩ := read_fin ha
  obtain ⟨n, j, hrb, hmb, _, _⟩ := read_fin hb
  unfold Format.add
  rw [hra, hrb]
  simp only [Datum.sum, Option.map_some, Format.write]
  congr 1
  have e1 : ((i : Int) - 1074 - min ((i : Int) - 1074) ((j : Int) - 1074)).toNat = i - min i j := by omega
  have e2 : ((j : Int) - 1074 - min ((i : Int) - 1074) ((j : Int) - 1074)).toNat = j - min i j := by omega
  rw [e1, e2]
  refine rs_of_signed _ _ (min i j) 0 _ ?_ _ (by omega)
  rw [Int.add_mul, signed_scale _ _ _ _ _ hma (Nat.min_le_left _ _), signed_scale _ _ _ _ _ hmb (Nat.min_le_right _ _)]
  rfl

theorem sub_fin {a b : Nat} (ha : rg a < INF) (hb : rg b < INF) : double.sub a b = some (rs (sg a && !sg b) (fv a - fv b) 0) := by
  obtain ⟨m, i, hra, hma, _, _⟩ := read_fin ha
  obtain ⟨n, j, hrb, hmb, _, _⟩ := read_fin hb
  unfold Format.sub
  rw [hra, hrb]
  simp only [Datum.opposite, Datum.sum, Option.map_some, Format.write]
  congr 1
  have e1 : ((i : Int) - 1074 - min ((i : Int) - 1074) ((j : Int) - 1074)).toNat = i - min i j := by omega
  have e2 : ((j : Int) - 1074 - min ((i : Int) - 1074) ((j : Int) - 1074)).toNat = j - min i j := by omega
  rw [e1, e2]
  refine rs_of_signed _ _ (min i j) 0 _ ?_ _ (by omega)
  rw [Int.add_mul, signed_scale _ _ _ _ _ hma (Nat.min_le_left _ _), signed_scale _ _ _ _ _ hmb (Nat.min_le_right _ _)]
  unfold fv
  cases sg a <;> cases sg b <;> simp only [Bool.false_eq_true, if_false, if_true, Bool.not_false, Bool.not_true] <;> omega

theorem fv_mul (a b : Nat) : fv a * fv b = if sg a ^^ sg b then -((rv (rg a) * rv (rg b) : Nat) : Int) else ((rv (rg a) * rv (rg b) : Nat) : Int) := by
  unfold fv
  cases sg a <;> cases sg b <;> simp [Int.neg_mul, Int.mul_neg, Int.natCast_mul]

theorem prod_scale {m n i j r s : Nat} (h1 : m * 2 ^ i = r) (h2 : n * 2 ^ j = s) : m * n * 2 ^ (i + j) = r * s := by
  rw [← h1, ← h2, Nat.pow_add, Nat.mul_assoc, Nat.mul_assoc, Nat.mul_left_comm n]

theorem rs_signed (s : Bool) (n k : Nat) : mk s (min (ru n k) INF) = rs s (if s then -(n : Int) else (n : Int)) k := by
  unfold rs
  cases s
  · simp only [Bool.false_eq_true, if_false, Int.natAbs_natCast]
    by_cases h : (n : Int) = 0
    · rw [if_pos h]
    · rw [if_neg h, decide_eq_false (by omega)]
  · simp only [if_true, Int.natAbs_neg, Int.natAbs_natCast]
    by_cases h : -(n : Int) = 0
    · rw [if_pos h]
    · rw [if_neg h, decide_eq_true (by omega)]

theorem mul_fin {a b : Nat} (ha : rg a < INF) (hb : rg b < INF) : double.mul a b = some (rs (sg a ^^ sg b) (fv a * fv b) e0) := by
  obtain ⟨m, i, hra, hma, _, _⟩ := read_fin ha
  obtain ⟨n, j, hrb, hmb, _, _⟩ := read_fin hb
  unfold Format.mul
  rw [hra, hrb]
  simp only [Datum.product, Option.map_some, Format.write]
  congr 1
  rw [nearest_eq _ _ _ (i + j) e0 (by have := e0_eq; omega), prod_scale hma hmb, fv_mul, rs_signed]

theorem fma_fin {a b c : Nat} (ha : rg a < INF) (hb : rg b < INF) (hc : rg c < INF) :
    double.fma a b c = some (rs ((sg a ^^ sg b) && sg c) (fv a * fv b + fv c * (U : Int)) e0) := by
  obtain ⟨m, i, hra, hma, _, _⟩ := read_fin ha
  obtain ⟨n, j, hrb, hmb, _, _⟩ := read_fin hb
  obtain ⟨l, t, hrc, hmc, _, _⟩ := read_fin hc
  unfold Format.fma
  rw [hra, hrb, hrc]
  simp only [Datum.product, Option.bind_some, Datum.sum, Option.map_some, Format.write]
  congr 1
  generalize hB : min ((i : Int) - 1074 + ((j : Int) - 1074)) ((t : Int) - 1074) = base
  have he := e0_eq
  have hU : l * 2 ^ (t + e0) = rv (rg c) * U := by rw [← hmc, U_eq, Nat.pow_add, Nat.mul_assoc]
  have e1 : ((i : Int) - 1074 + ((j : Int) - 1074) - base).toNat = (i + j) - min (i + j) (t + e0) := by omega
  have e2 : ((t : Int) - 1074 - base).toNat = (t + e0) - min (i + j) (t + e0) := by omega
  rw [e1, e2]
  refine rs_of_signed _ _ (min (i + j) (t + e0)) e0 _ ?_ _ (by omega)
  rw [Int.add_mul, signed_scale _ _ _ _ _ (prod_scale hma hmb) (Nat.min_le_left _ _), signed_scale _ _ _ _ _ hU (Nat.min_le_right _ _), fv_mul]
  have hc' : (if sg c then -((rv (rg c) * U : Nat) : Int) else ((rv (rg c) * U : Nat) : Int)) = fv c * (U : Int) := by
    unfold fv
    cases sg c
    · simp only [Bool.false_eq_true, if_false, Int.natCast_mul]
    · simp only [if_true, Int.natCast_mul, Int.neg_mul]
  rw [hc']

end Go.Proofs.Ytelhgahbhbinoaa.Flt

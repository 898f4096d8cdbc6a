/-
  Plain facts about products, what rounding loses of them, and lists of them. No program in sight.
-/
import Derived.Test.YtelhgahbhbinoaaFva
import Derived.Test.YtelhgahbhbinoaaFdt
import Derived.Test.YtelhgahbhbinoaaFsw
namespace Go.Proofs.Ytelhgahbhbinoaa.Flt
open Ieee

/-- the product over a list -/
def tlP (x : Val) (l : List Val) : Val := l.foldl mulv x
/-- what each of the products has lost -/
def tlL (x : Val) : List Val → List Val
  | [] => []
  | y :: l => fmv x y (negv (mulv x y)) :: tlL (mulv x y) l
theorem tlP_snoc (x : Val) (l : List Val) (y : Val) : tlP x (l ++ [y]) = mulv (tlP x l) y := by unfold tlP; rw [List.foldl_append]; rfl
theorem tlP_append (x : Val) (l m : List Val) : tlP x (l ++ m) = tlP (tlP x l) m := by unfold tlP; rw [List.foldl_append]
theorem tlL_append (l m : List Val) : ∀ x, tlL x (l ++ m) = tlL x l ++ tlL (tlP x l) m := by
  induction l with
  | nil => intro x; rfl
  | cons y l ih =>
    intro x
    show _ :: tlL (mulv x y) (l ++ m) = _ :: (tlL (mulv x y) l ++ tlL (tlP (mulv x y) l) m)
    rw [ih]
theorem tlL_snoc (x : Val) (l : List Val) (y : Val) : tlL x (l ++ [y]) = tlL x l ++ [fmv (tlP x l) y (negv (mulv (tlP x l) y))] := tlL_append l [y] x
theorem tlL_len (l : List Val) : ∀ x, (tlL x l).length = l.length := by
  induction l with
  | nil => intro x; rfl
  | cons y l ih => intro x; show (tlL (mulv x y) l).length + 1 = _; rw [ih]; rfl

/-- what rounding loses of a product of two significands -/
theorem prod_err {n j : Nat} (hn : n ≤ 2 ^ 106) : ∃ c : Int, ((n * 2 ^ j : Nat) : Int) - (rv (ru (n * 2 ^ j) 0) : Int) = c * ((2 ^ j : Nat) : Int) ∧ c.natAbs ≤ 2 ^ 53 ∧ 2 * (c.natAbs * 2 ^ j) ≤ rv (ru (n * 2 ^ j) 0 + 1) - rv (ru (n * 2 ^ j) 0) := by
  obtain ⟨q, hq⟩ := ru_mult n j
  have hN := near_ru (n * 2 ^ j) 0
  have hle : rv (ru (n * 2 ^ j) 0) ≤ 2 ^ (106 + j) := by
    have h1 : n * 2 ^ j ≤ 2 ^ (106 + j) := by rw [Nat.pow_add]; exact Nat.mul_le_mul_right _ hn
    have h2 := rv_le (ru_mono (k := 0) h1)
    have h3 : rv (ru (2 ^ (106 + j)) 0) = 2 ^ (106 + j) := rv_wd (rep_pow _)
    rw [h3] at h2
    exact h2
  generalize ru (n * 2 ^ j) 0 = r at *
  obtain ⟨⟨n1, _⟩, n2⟩ := hN
  have hg := rv_gap r
  rw [hq] at hg hle
  have hp := pow_pos j
  have eC : ((n * 2 ^ j : Nat) : Int) - ((2 ^ j * q : Nat) : Int) = ((n : Int) - q) * ((2 ^ j : Nat) : Int) := by
    rw [Int.natCast_mul, Int.natCast_mul, Int.sub_mul, Int.mul_comm ((2 ^ j : Nat) : Int)]
  have hA : ((n : Int) - q).natAbs * 2 ^ j = ((n * 2 ^ j : Nat) - (2 ^ j * q : Nat) : Int).natAbs := by
    rw [eC, Int.natAbs_mul, Int.natAbs_natCast]
  have hb : 2 * (((n : Int) - q).natAbs * 2 ^ j) ≤ 2 ^ (r / 2 ^ 52 - 1) := by
    rw [hA]
    rw [hg, hq, Nat.pow_zero, Nat.mul_one] at n1
    rcases Nat.eq_zero_or_pos r with h0 | h0
    · have hz : 2 ^ j * q = 0 := by rw [← hq, h0, rv_zero]
      rw [hz] at n1 ⊢
      omega
    · obtain ⟨n3, _⟩ := n2 h0
      have hg2 := rv_gap (r - 1)
      rw [show r - 1 + 1 = r by omega, hq] at hg2
      have hm : 2 ^ ((r - 1) / 2 ^ 52 - 1) ≤ 2 ^ (r / 2 ^ 52 - 1) := pow_le (by omega)
      rw [hq, Nat.pow_zero, Nat.mul_one] at n3
      omega
  refine ⟨(n : Int) - q, by rw [hq]; exact eC, ?_, ?_⟩
  · rcases Nat.lt_or_ge r (2 ^ 52) with hl | hl
    · have : r / 2 ^ 52 - 1 = 0 := by omega
      rw [this, Nat.pow_zero] at hb
      have : ((n : Int) - q).natAbs ≤ ((n : Int) - q).natAbs * 2 ^ j := Nat.le_mul_of_pos_right _ hp
      omega
    · obtain ⟨t, m, hr, hm1, hm2⟩ := rung_split hl
      have ht : r / 2 ^ 52 - 1 = t := by omega
      have hv : rv r = m * 2 ^ t := by rw [hr]; exact rv_mk hm1 (Nat.le_of_lt hm2)
      rw [ht] at hb
      have h1 : 2 ^ (52 + t) ≤ 2 ^ (106 + j) := by
        rw [Nat.pow_add]
        rw [← hq, hv] at hle
        exact Nat.le_trans (Nat.mul_le_mul_right _ hm1) hle
      have h2 : 52 + t < 106 + j + 1 := lt_of_pow_lt (Nat.lt_of_le_of_lt h1 (pow_lt (by omega)))
      have h3 : 2 ^ t ≤ 2 ^ (54 + j) := pow_le (by omega)
      rw [Nat.pow_add] at h3
      have h4 : 2 * (((n : Int) - q).natAbs * 2 ^ j) ≤ 2 ^ 54 * 2 ^ j := Nat.le_trans hb h3
      rw [← Nat.mul_assoc] at h4
      have := Nat.le_of_mul_le_mul_right h4 hp
      omega
  · rw [hg, hq]; omega

theorem fits_of {m k : Nat} (h : m ≤ 2 ^ 53) (hl : m * 2 ^ k < TOP) : Fits (m * 2 ^ k) := ⟨rep_of k h, hl⟩
/-- exact results -/
theorem rnd_num {V : Int} (h : Fits V.natAbs) (k : Nat) : rnd (V * ((2 ^ k : Nat) : Int)) k = .num V := by
  have := rnd_exact (sw_fin h) k
  rw [fv_sw h] at this
  rw [← this]
  congr 1
theorem rnd_num0 {V : Int} (h : Fits V.natAbs) : rnd V 0 = .num V := by
  have := rnd_num h 0
  rw [Nat.pow_zero] at this
  simpa using this
end Go.Proofs.Ytelhgahbhbinoaa.Flt

/-
  Plain facts behind spec.partsOf: a number is divided by powers of 2 until it is less than 2^53, then multiplied. No program in sight.
-/
import Derived.Test.YtelhgahbhbinoaaFlp
namespace Go.Proofs.Ytelhgahbhbinoaa.Flt
open Ieee

/-- 'n' (a number of the format that is not 0) times 2^E is 'M'; what partsOf keeps -/
structure St (M n E : Nat) : Prop where
  sc : n * 2 ^ E = M
  rep : Rep n
  lt : n < TOP
  pos : 0 < n

/-- n is less than 2^k -/
structure Lt2 (n k : Nat) : Prop where
  lt : n < 2 ^ k

theorem St.bound {M n E : Nat} (h : St M n E) (hM : Lt2 M (1024 + e0 + e0)) : E ≤ 3172 := by
  have h1 : 2 ^ E ≤ n * 2 ^ E := Nat.le_mul_of_pos_left _ h.pos
  have h2 : 2 ^ E < 2 ^ (1024 + e0 + e0) := Nat.lt_of_le_of_lt h1 (by rw [h.sc]; exact hM.lt)
  have := lt_of_pow_lt h2
  have := e0_eq
  omega

/-- a great number of the format is a multiple of a power of 2 -/
theorem rep_split {n k j : Nat} (h : Rep n) (hn : 2 ^ k ≤ n) (hj : j + 52 ≤ k) : ∃ n', Rep n' ∧ n = n' * 2 ^ j := by
  obtain ⟨r, rfl⟩ := h
  obtain ⟨m, t, e, hm, _⟩ := rv_form r
  have htj : j ≤ t := by
    rcases Nat.lt_or_ge t j with hlt | hge
    · exfalso
      have h1 : m * 2 ^ t < 2 ^ 53 * 2 ^ t := Nat.mul_lt_mul_of_pos_right hm (pow_pos t)
      rw [← Nat.pow_add] at h1
      have h2 : 2 ^ (53 + t) ≤ 2 ^ k := pow_le (by omega)
      omega
    · exact hge
  refine ⟨m * 2 ^ (t - j), rep_of _ (by omega), ?_⟩
  rw [e, Nat.mul_assoc, ← Nat.pow_add]; congr 2; omega

theorem St.down {M n E : Nat} (h : St M n E) (j k : Nat) (hk : 2 ^ k ≤ n) (hj : j + 52 ≤ k) (hj0 : 0 < j) : ∃ n', St M n' (E + j) ∧ n' < n ∧ n = n' * 2 ^ j := by
  obtain ⟨n', hr, e⟩ := rep_split h.rep hk hj
  have hpos : 0 < n' := by
    rcases Nat.eq_zero_or_pos n' with h0 | h0
    · have := h.pos; rw [e, h0, Nat.zero_mul] at this; omega
    · exact h0
  have h2 : 2 ≤ 2 ^ j := by have := pow_le (show 1 ≤ j from hj0); omega
  have hlt : n' < n := by
    rw [e]
    have : n' * 2 ≤ n' * 2 ^ j := Nat.mul_le_mul_left _ h2
    omega
  exact ⟨n', ⟨by rw [← h.sc, e, Nat.mul_assoc, ← Nat.pow_add, Nat.add_comm], hr, Nat.lt_trans hlt h.lt, hpos⟩, hlt, e⟩

theorem St.fits {M n E : Nat} (h : St M n E) : Fits n := ⟨h.rep, h.lt⟩

theorem St.q64 {M n E : Nat} (h : St M n E) :
    ((FloatKind.f64.format.order (wd n) 5134103575202365440 == some .gt || FloatKind.f64.format.order (wd n) 5134103575202365440 == some .eq) = true ∧ ∃ n', St M n' (E + 64) ∧ n' < n ∧ floatBits .quo .f64 (wd n) 4895412794951729152 = some (wd n')) ∨
    ((FloatKind.f64.format.order (wd n) 5134103575202365440 == some .gt || FloatKind.f64.format.order (wd n) 5134103575202365440 == some .eq) = false) := by
  have hg := ge_pow (E := 1140) h.rep h.lt (by decide) (by decide)
  have e : 1140 * 2 ^ 52 = 5134103575202365440 := rfl
  rw [e] at hg
  by_cases hk : 2 ^ (51 + 1140) ≤ n
  · left
    rw [decide_eq_true hk] at hg
    obtain ⟨n', h', hlt, en⟩ := h.down 64 _ hk (by decide) (by decide)
    refine ⟨hg, n', h', hlt, ?_⟩
    have hF := h.fits
    rw [en] at hF ⊢
    exact quo64_wd hF
  · right
    rw [decide_eq_false hk] at hg
    exact hg

theorem St.q1 {M n E : Nat} (h : St M n E) :
    ((FloatKind.f64.format.order (wd n) 4845873199050653696 == some .gt || FloatKind.f64.format.order (wd n) 4845873199050653696 == some .eq) = true ∧ ∃ n', St M n' (E + 1) ∧ n' < n ∧ floatBits .quo .f64 (wd n) 4611686018427387904 = some (wd n')) ∨
    ((FloatKind.f64.format.order (wd n) 4845873199050653696 == some .gt || FloatKind.f64.format.order (wd n) 4845873199050653696 == some .eq) = false ∧ Lt2 n (51 + 1076)) := by
  have hg := ge_pow (E := 1076) h.rep h.lt (by decide) (by decide)
  have e : 1076 * 2 ^ 52 = 4845873199050653696 := rfl
  rw [e] at hg
  by_cases hk : 2 ^ (51 + 1076) ≤ n
  · left
    rw [decide_eq_true hk] at hg
    obtain ⟨n', h', hlt, en⟩ := h.down 1 _ hk (by decide) (by decide)
    refine ⟨hg, n', h', hlt, ?_⟩
    have hF := h.fits
    rw [en] at hF ⊢
    exact quo1_wd hF
  · right
    rw [decide_eq_false hk] at hg
    exact ⟨hg, ⟨Nat.lt_of_not_le hk⟩⟩

theorem St.up {M n E j k K : Nat} (h : St M n (E + j)) (hk : n < 2 ^ k) (hK : k + j ≤ K) (hT : K < 1024 + e0) : St M (n * 2 ^ j) E ∧ Lt2 (n * 2 ^ j) K := by
  have h1 : n * 2 ^ j < 2 ^ (k + j) := by rw [Nat.pow_add]; exact Nat.mul_lt_mul_of_pos_right hk (pow_pos j)
  have h2 : n * 2 ^ j < 2 ^ K := Nat.lt_of_lt_of_le h1 (pow_le hK)
  exact ⟨⟨by rw [← h.sc, Nat.mul_assoc, ← Nat.pow_add, Nat.add_comm], h.rep.mul_pow j, Nat.lt_trans h2 (pow_TOP hT), Nat.mul_pos h.pos (pow_pos j)⟩, ⟨h2⟩⟩

/-- the test of the third loop; its step -/
theorem St.m64 {M n E : Nat} (h : St M n E) :
    ((FloatKind.f64.format.order (wd n) 4553139223271571456 == some .lt) = true ∧ ∀ j, E = j + 64 → ∃ n', St M n' j ∧ Lt2 n' (51 + 1076) ∧ floatBits .mul .f64 (wd n) 4895412794951729152 = some (wd n')) ∨
    ((FloatKind.f64.format.order (wd n) 4553139223271571456 == some .lt) = false) := by
  have hg := lt_pow (E := 1011) h.rep h.lt (by decide) (by decide)
  have e : 1011 * 2 ^ 52 = 4553139223271571456 := rfl
  rw [e] at hg
  by_cases hk : n < 2 ^ (51 + 1011)
  · left
    rw [decide_eq_true hk] at hg
    refine ⟨hg, fun j hj => ?_⟩
    rw [hj] at h
    have he := e0_eq
    obtain ⟨h', hl⟩ := h.up hk (K := 51 + 1076) (by decide) (by omega)
    exact ⟨_, h', hl, mul64_wd h'.fits⟩
  · right
    rw [decide_eq_false hk] at hg
    exact hg

/-- the test of the fourth loop; its step; what is there behind it -/
theorem St.m1 {M n E : Nat} (h : St M n E) :
    ((FloatKind.f64.format.order (wd n) 4841369599423283200 == some .lt) = true ∧ ∀ j, E = j + 1 → ∃ n', St M n' j ∧ Lt2 n' (51 + 1076) ∧ floatBits .mul .f64 (wd n) 4611686018427387904 = some (wd n')) ∨
    ((FloatKind.f64.format.order (wd n) 4841369599423283200 == some .lt) = false ∧ 2 ^ (51 + 1075) ≤ n) := by
  have hg := lt_pow (E := 1075) h.rep h.lt (by decide) (by decide)
  have e : 1075 * 2 ^ 52 = 4841369599423283200 := rfl
  rw [e] at hg
  by_cases hk : n < 2 ^ (51 + 1075)
  · left
    rw [decide_eq_true hk] at hg
    refine ⟨hg, fun j hj => ?_⟩
    rw [hj] at h
    have he := e0_eq
    obtain ⟨h', hl⟩ := h.up hk (K := 51 + 1076) (by decide) (by omega)
    exact ⟨_, h', hl, mul1_wd h'.fits⟩
  · right
    rw [decide_eq_false hk] at hg
    exact ⟨hg, Nat.le_of_not_lt hk⟩

/-- the significand and the exponent (above -1074) of a number, as small as the format allows -/
structure Parts (n0 m E : Nat) : Prop where
  eq : m * 2 ^ E = n0
  lt : m < 2 ^ 53
  low : 2 ^ 52 ≤ m ∨ E = 0

theorem St.done {n0 n E : Nat} (h : St (n0 * U) n E) (hl : Lt2 n (51 + 1076)) (ho : 2 ^ (51 + 1075) ≤ n ∨ E = 0) :
    ∃ m, Parts n0 m E ∧ floatToIntVal .f64 (wd n) .u64 = some ((m : Nat) : Int) := by
  have he := e0_eq
  have hU := U_pos
  have hd : ∃ m, n = m * U := by
    rcases ho with ho | ho
    · obtain ⟨n', _, e⟩ := rep_split h.rep (j := e0) ho (by omega)
      exact ⟨n', by rw [U_eq]; exact e⟩
    · refine ⟨n0, ?_⟩
      have := h.sc
      rw [ho] at this; simpa using this
  obtain ⟨m, e⟩ := hd
  have hm53 : m < 2 ^ 53 := by
    have h1 : m * 2 ^ e0 < 2 ^ 53 * 2 ^ e0 := by
      rw [← Nat.pow_add, ← U_eq, ← e, show 53 + e0 = 51 + 1076 by omega]; exact hl.lt
    exact Nat.lt_of_mul_lt_mul_right h1
  refine ⟨m, ⟨?_, hm53, ?_⟩, ?_⟩
  · have := h.sc
    rw [e, Nat.mul_assoc, Nat.mul_comm U, ← Nat.mul_assoc] at this
    exact Nat.eq_of_mul_eq_mul_right hU this
  · rcases ho with ho | ho
    · left
      have h1 : 2 ^ 52 * 2 ^ e0 ≤ m * 2 ^ e0 := by
        rw [← Nat.pow_add, ← U_eq, ← e, show 52 + e0 = 51 + 1075 by omega]; exact ho
      exact Nat.le_of_mul_le_mul_right h1 (pow_pos e0)
    · right; exact ho
  · have hq : n / U = m := by rw [e]; exact Nat.mul_div_cancel _ hU
    have := toU64_wd h.rep h.lt (by rw [hq]; omega)
    rw [hq] at this
    exact this

theorem St.start {r : Nat} (h : r < INF) (h0 : 0 < r) : St (rv r * U) (rv r) e0 ∧ Lt2 (rv r * U) (1024 + e0 + e0) := by
  have he := e0_eq
  refine ⟨⟨by rw [U_eq], rep_rv r, rv_lt_TOP h, rv_pos h0⟩, ⟨?_⟩⟩
  have h1 := rv_lt_TOP h
  rw [TOP_eq] at h1
  rw [U_eq]
  have : rv r * 2 ^ e0 < 2 ^ (1024 + e0) * 2 ^ e0 := Nat.mul_lt_mul_of_pos_right h1 (pow_pos e0)
  rw [← Nat.pow_add] at this
  exact this

end Go.Proofs.Ytelhgahbhbinoaa.Flt

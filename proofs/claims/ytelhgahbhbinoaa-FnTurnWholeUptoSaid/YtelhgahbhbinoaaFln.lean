/-
  Plain facts behind spec.Nextafter: the neighbours of a number by its significand and exponent. No program in sight.
-/
import Derived.Test.YtelhgahbhbinoaaFlq
namespace Go.Proofs.Ytelhgahbhbinoaa.Flt
open Ieee

theorem Parts.rv_of {m E : Nat} (h1 : m ≤ 2 ^ 53) (h2 : 2 ^ 52 ≤ m ∨ E = 0) : rv (E * 2 ^ 52 + m) = m * 2 ^ E := by
  rcases h2 with h2 | h2
  · exact rv_mk h2 h1
  · rw [h2]; simp; exact rv_small h1
theorem Parts.rung {r m E : Nat} (h : Parts (rv r) m E) : r = E * 2 ^ 52 + m := by
  have := Parts.rv_of (Nat.le_of_lt h.lt) h.low
  rw [h.eq] at this
  exact (rv_inj this).symm

/-- the next number upward -/
theorem Parts.succ {r m E : Nat} (h : Parts (rv r) m E) : wd ((m + 1) * 2 ^ E) = r + 1 := by
  have hr := h.rung
  have := Parts.rv_of (m := m + 1) (E := E) (by have := h.lt; omega) (by rcases h.low with h' | h'; left; omega; right; exact h')
  rw [← this, wd_rv, hr]; omega
/-- the next number downward, in the same binade -/
theorem Parts.pred {r m E : Nat} (h : Parts (rv r) m E) (h0 : 0 < m) (hl : 2 ^ 52 ≤ m - 1 ∨ E = 0) : wd ((m - 1) * 2 ^ E) = r - 1 := by
  have hr := h.rung
  have := Parts.rv_of (m := m - 1) (E := E) (by have := h.lt; omega) hl
  rw [← this, wd_rv, hr]; omega
/-- the next number downward, out of a binade -/
theorem Parts.pred' {r m E : Nat} (h : Parts (rv r) m (E + 1)) (hm : m = 2 ^ 52) : wd ((2 ^ 53 - 1) * 2 ^ E) = r - 1 := by
  have hr := h.rung
  have := Parts.rv_of (m := 2 ^ 53 - 1) (E := E) (by decide) (Or.inl (by decide))
  rw [← this, wd_rv, hr, hm]; omega

theorem fits_wd {n r : Nat} (h : wd n = r) (hr : Rep n) (hI : r < INF) : Fits n := by
  refine ⟨hr, ?_⟩
  have : rv (wd n) = n := rv_wd hr
  rw [← this, h]; exact rv_lt_TOP hI

theorem fits_small {m : Nat} (h : m ≤ 2 ^ 53) : Fits (m * U) := by
  have he := e0_eq
  refine ⟨by rw [U_eq]; exact rep_of _ h, ?_⟩
  rw [U_eq]
  have : m * 2 ^ e0 ≤ 2 ^ 53 * 2 ^ e0 := Nat.mul_le_mul_right _ h
  rw [← Nat.pow_add] at this
  exact Nat.lt_of_le_of_lt this (pow_TOP (by omega))

theorem Parts.E_le {r m E : Nat} (h : Parts (rv r) m E) (hr : r < INF) : E ≤ 2045 := by
  have := h.rung
  have := h.lt
  have := h.low
  unfold INF at hr
  omega

/-- x + x, of the greatest number -/
theorem add_self_max {x : Nat} (h : rg x = INF - 1) : floatBits .add .f64 x x = some (mk (sg x) INF) := by
  have hI := INF_val
  show double.add x x = _
  have hf : rg x < INF := by omega
  rw [add_fin hf hf, Bool.and_self]
  have hT : TOP ≤ rv (rg x) + rv (rg x) := by
    have hg := rv_gap (rg x)
    have h1 : rg x + 1 = INF := by omega
    rw [h1] at hg
    have h2 : 2 ^ (rg x / 2 ^ 52 - 1) ≤ rv (rg x) := by
      unfold rv
      rw [if_neg (by omega)]
      exact Nat.le_mul_of_pos_left _ (by omega)
    unfold TOP
    omega
  have hru : INF ≤ ru (rv (rg x) + rv (rg x)) 0 := by
    have := ru_mono (k := 0) hT
    unfold TOP at this
    rwa [ru_exact0] at this
  unfold rs
  have hp : 0 < rv (rg x) := rv_pos (by omega)
  have hna : (fv x + fv x).natAbs = rv (rg x) + rv (rg x) := by
    unfold fv; split <;> omega
  rw [hna, Nat.min_eq_right hru]
  have hs : (if fv x + fv x = 0 then sg x else decide (fv x + fv x < 0)) = sg x := by
    unfold fv
    cases sg x
    · simp only [Bool.false_eq_true, if_false]
      rw [if_neg (by omega)]; simp; omega
    · simp only [if_true]
      rw [if_neg (by omega)]; simp; omega
  rw [hs]

/-- the next word depends on the number alone -/
theorem nxt_same {a b y : Nat} (ha : a < 2 ^ 64) (hb : b < 2 ^ 64) (h : same a b = true) : same (nxt a y) (nxt b y) = true := by
  rcases (same_iff a b).1 h with ⟨h1, h2⟩ | ⟨h1, h2, h3⟩
  · rw [nan_nxt (Or.inl h1), nan_nxt (Or.inl h2)]; exact same_refl _
  · cases hy : nan y
    · obtain ⟨k1, n1⟩ := nxt_key (y := y) ha h1 hy
      obtain ⟨k2, n2⟩ := nxt_key (y := y) hb h2 hy
      exact same_of_key n1 n2 (by rw [k1, k2, h3])
    · rw [nan_nxt (Or.inr hy), nan_nxt (Or.inr hy)]; exact same_refl _
theorem same_trans {a b c : Nat} (h1 : same a b = true) (h2 : same b c = true) : same a c = true := by
  rcases (same_iff a b).1 h1 with ⟨p, q⟩ | ⟨p, q, r⟩ <;> rcases (same_iff b c).1 h2 with ⟨p', q'⟩ | ⟨p', q', r'⟩
  · exact same_of_nan p q'
  · rw [q] at p'; cases p'
  · rw [q] at p'; cases p'
  · exact same_of_key p q' (r.trans r')
theorem same_symm {a b : Nat} (h1 : same a b = true) : same b a = true := by
  rcases (same_iff a b).1 h1 with ⟨p, q⟩ | ⟨p, q, r⟩
  · exact same_of_nan q p
  · exact same_of_key q p r.symm

/-! ### operations that have no answer -/
/-- the bits of the NaN that the tape tells -/
def nb (w : World) (x y : Nat) : Nat := (Question.nanBits .f64 x y).cut (w.tape w.drawn (.nanBits .f64 x y))
theorem nb_eq (w : World) (x y : Nat) : ∃ t, nb w x y = (t % 2) * 2 ^ 63 + 0x7ff0000000000000 + 1 + (t / 2) % (2 ^ 52 - 1) := ⟨_, rfl⟩
theorem nan_nb (w : World) (x y : Nat) : nan (nb w x y) = true := by
  obtain ⟨t, h⟩ := nb_eq w x y
  rw [h, nan_true]
  unfold rg
  have hI := INF_val
  have h1 : t % 2 < 2 := Nat.mod_lt _ (by decide)
  have h2 : t / 2 % (2 ^ 52 - 1) < 2 ^ 52 - 1 := Nat.mod_lt _ (by decide)
  generalize t / 2 % (2 ^ 52 - 1) = c at *
  generalize t % 2 = a at *
  omega
theorem nb_lt (w : World) (x y : Nat) : nb w x y < 2 ^ 64 := by
  obtain ⟨t, h⟩ := nb_eq w x y
  have h1 : t % 2 < 2 := Nat.mod_lt _ (by decide)
  have h2 : t / 2 % (2 ^ 52 - 1) < 2 ^ 52 - 1 := Nat.mod_lt _ (by decide)
  rw [h]
  generalize t / 2 % (2 ^ 52 - 1) = c at *
  generalize t % 2 = a at *
  omega

theorem run_float_nan {P : Program} {op : BinOp} {t : TypeId} {x y : Nat} (hop : op = .add ∨ op = .sub ∨ op = .mul ∨ op = .quo) (h : floatBits op .f64 x y = none) (w : World) :
    (binOp op t (.float .f64 x) (.float .f64 y)).run P w = .ok (.float .f64 (nb w x y)) w.drew := by
  have hf : (Question.nanBits .f64 x y).forced = false := rfl
  unfold floatBits at h
  rcases hop with rfl | rfl | rfl | rfl <;> simp only at h <;> simp [binOp, Op.floatArith, h, hf] <;> rfl

theorem sub_self_nan {x : Nat} (h : INF ≤ rg x) : floatBits .sub .f64 x x = none := by
  show double.sub x x = none
  unfold Format.sub
  rcases Nat.lt_or_ge INF (rg x) with h1 | h1
  · rw [read_nan h1]; rfl
  · rw [read_inf (by omega)]
    cases sg x <;> rfl
theorem sub_self_fin {x : Nat} (h : rg x < INF) : ∃ r, floatBits .sub .f64 x x = some r ∧ rg r = 0 := by
  refine ⟨_, sub_fin h h, ?_⟩
  rw [rg_rs, Int.sub_self]
  show min (ru 0 0) INF = 0
  rw [ru_zero]; rfl
theorem quo_zero_nan : floatBits .quo .f64 0 0 = none := by decide

end Go.Proofs.Ytelhgahbhbinoaa.Flt

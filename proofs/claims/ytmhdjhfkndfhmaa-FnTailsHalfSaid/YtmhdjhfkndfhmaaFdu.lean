/-
  Plain facts behind FnDotScaled: the sums of both lists, number by number. No program in sight.
-/
import Derived.Test.YtmhdjhfkndfhmaaFdt
namespace Go.Proofs.Ytmhdjhfkndfhmaa.Flt
open Ieee

/-- the sums on the way -/
def dots (xs ys : List Nat) (z : Nat) : Nat → Nat
  | 0 => z
  | i + 1 => (double.fma (xs.getD i 0) (ys.getD i 0) (dots xs ys z i)).getD 0

/-- both lists of base words, and those that are 2^a times as great -/
structure Pairs (a : Nat) (xs xs' : List Nat) (n : Nat) : Prop where
  base : ∀ i, i < n → Bw (xs.getD i 0)
  tm : ∀ i, i < n → Tm a (xs.getD i 0) (xs'.getD i 0)

structure Both (a : Nat) (z z' : Nat) : Prop where
  dz : Dz z
  tm : Tm (2 * a) z z'
  lt : z < 2 ^ 64
  lt' : z' < 2 ^ 64

theorem both_zero (a : Nat) : Both a 0 0 := by
  have h : rg 0 = 0 := by decide
  refine ⟨⟨by rw [h]; exact Nat.zero_le _, by rw [h, rv_zero]; exact Nat.dvd_zero _⟩, ⟨rfl, by rw [h, rv_zero, Nat.zero_mul]⟩, by decide, by decide⟩

theorem dots_both {a n : Nat} {xs ys xs' ys' : List Nat} (hx : Pairs a xs xs' n) (hy : Pairs a ys ys' n) (ha : a ≤ 100) :
    ∀ i, i ≤ n → Both a (dots xs ys 0 i) (dots xs' ys' 0 i) ∧
      (i < n → double.fma (xs.getD i 0) (ys.getD i 0) (dots xs ys 0 i) = some (dots xs ys 0 (i + 1)) ∧ double.fma (xs'.getD i 0) (ys'.getD i 0) (dots xs' ys' 0 i) = some (dots xs' ys' 0 (i + 1))) := by
  have key : ∀ i, i < n → Both a (dots xs ys 0 i) (dots xs' ys' 0 i) →
      (double.fma (xs.getD i 0) (ys.getD i 0) (dots xs ys 0 i) = some (dots xs ys 0 (i + 1)) ∧ double.fma (xs'.getD i 0) (ys'.getD i 0) (dots xs' ys' 0 i) = some (dots xs' ys' 0 (i + 1))) ∧ Both a (dots xs ys 0 (i + 1)) (dots xs' ys' 0 (i + 1)) := by
    intro i hi hb
    obtain ⟨r, r', f1, f2, l1, l2, d, t⟩ := dot_step (hx.base i hi) (hy.base i hi) hb.dz (hx.tm i hi) (hy.tm i hi) hb.tm ha
    have e1 : dots xs ys 0 (i + 1) = r := by show (double.fma _ _ _).getD 0 = r; rw [f1]; rfl
    have e2 : dots xs' ys' 0 (i + 1) = r' := by show (double.fma _ _ _).getD 0 = r'; rw [f2]; rfl
    rw [e1, e2]
    exact ⟨⟨f1, f2⟩, ⟨d, t, l1, l2⟩⟩
  intro i
  induction i with
  | zero => intro _; exact ⟨both_zero a, fun h => (key 0 h (both_zero a)).1⟩
  | succ i ih =>
    intro hi
    have h1 := (key i (by omega) (ih (by omega)).1).2
    exact ⟨h1, fun h => (key (i + 1) h h1).1⟩

/-- a great rung is a multiple -/
theorem rung_mult {r t : Nat} (h : (t + 1) * 2 ^ 52 ≤ r) : 2 ^ t ∣ rv r := by
  obtain ⟨u, m, rfl, h1, h2⟩ := rung_split (show 2 ^ 52 ≤ r by omega)
  rw [rv_mk h1 (by omega)]
  exact Nat.dvd_trans (Nat.pow_dvd_pow 2 (by omega)) (Nat.dvd_mul_left _ _)

theorem tm_of {x y a : Nat} (h1 : 2 ^ 52 ≤ rg x) (hr : rg y = rg x + a * 2 ^ 52) (hs : sg y = sg x) : Tm a x y :=
  ⟨hs, by rw [hr, rv_shift h1]⟩

theorem bw_of {x : Nat} (h1 : 822 * 2 ^ 52 ≤ rg x) (h2 : rg x ≤ 1124 * 2 ^ 52) : Bw x :=
  ⟨by rw [tX_eq]; exact h2, rung_mult (by rw [eM_eq]; exact h1)⟩

/-- a middle number and it scaled -/
theorem rg_scaled {x : Nat} {k : Int} (hx : x < 2 ^ 64) (h1 : 922 * 2 ^ 52 ≤ rg x) (h2 : rg x ≤ 1124 * 2 ^ 52) (k1 : -100 ≤ k) (k2 : k ≤ 100) : ((rg (ld x k) : Nat) : Int) = rg x + k * 2 ^ 52 ∧ sg (ld x k) = sg x := by
  refine ⟨?_, sg_ld k hx⟩
  have hI := INF_val
  obtain ⟨s, hs⟩ : ∃ s : Nat, (s : Int) = rg x + k * 2 ^ 52 := ⟨(rg x + k * 2 ^ 52 : Int).toNat, by omega⟩
  rw [rg_ld k hx, sl_mid (by omega) (by omega) s (by omega) (by omega) hs, hs]

theorem Both.rung {a z z' : Nat} (h : Both a z z') : (rg z = 0 ∧ rg z' = 0) ∨ (2 ^ 52 ≤ rg z ∧ rg z' = rg z + 2 * a * 2 ^ 52) := by
  by_cases h0 : rg z = 0
  · left
    refine ⟨h0, ?_⟩
    have := h.tm.rv
    rw [h0, rv_zero, Nat.zero_mul] at this
    have := le_rv (rg z')
    omega
  · right
    have hp := rv_pos (r := rg z) (by omega)
    have hbig : 2 ^ 52 ≤ rg z := by
      rcases Nat.lt_or_ge (rg z) (2 ^ 52) with hl | hl
      · exfalso
        have h1 := Nat.le_of_dvd hp h.dz.mult
        rw [rv_low hl] at h1
        have h2 : 2 ^ 52 ≤ 2 ^ eZ := pow_le (by rw [eZ_eq]; decide)
        omega
      · exact hl
    refine ⟨hbig, rv_inj ?_⟩
    rw [h.tm.rv, rv_shift hbig]

/-- the greater sum is the lesser one scaled, and the other way -/
theorem Both.up {a z z' : Nat} (h : Both a z z') (ha : a ≤ 100) : ld z (2 * (a : Int)) = z' := by
  have hI := INF_val
  have ht := h.dz.le
  rw [tZ_eq] at ht
  have hm := mk_of h.lt'
  rw [ld_eq _ h.lt, ← hm, h.tm.sg]
  congr 1
  rcases h.rung with ⟨h1, h2⟩ | ⟨h1, h2⟩
  · rw [h1, h2, sl_zero]
  · exact sl_mid h1 (by omega) _ (by omega) (by omega) (by omega)
theorem Both.down {a z z' : Nat} (h : Both a z z') (ha : a ≤ 100) : ld z' (-2 * (a : Int)) = z := by
  have hI := INF_val
  have ht := h.dz.le
  rw [tZ_eq] at ht
  have hm := mk_of h.lt
  rw [ld_eq _ h.lt', ← hm, h.tm.sg]
  congr 1
  rcases h.rung with ⟨h1, h2⟩ | ⟨h1, h2⟩
  · rw [h1, h2, sl_zero]
  · exact sl_mid (by omega) (by omega) _ (by omega) (by omega) (by omega)

end Go.Proofs.Ytmhdjhfkndfhmaa.Flt

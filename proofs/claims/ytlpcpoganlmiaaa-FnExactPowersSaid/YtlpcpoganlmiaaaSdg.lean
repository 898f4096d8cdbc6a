/-
  Contract of spec.Digits.
-/
import Derived.Test.YtlpcpoganlmiaaaDig
import Derived.Test.YtlpcpoganlmiaaaSpcC
import Derived.Test.YtlpcpoganlmiaaaSpcB
import Derived.Test.YtlpcpoganlmiaaaNwk
import Derived.Test.YtlpcpoganlmiaaaLawA
import Derived.Maps.AppendAt
namespace Go.Proofs.Ytlpcpoganlmiaaa
open Go.RowKit Flt

/-- the digit as spec.Digits reads it -/
def pdg (m : Nat) (k : Int) : Nat := if 0 ≤ k ∧ k < 53 then m / 2 ^ k.toNat % 2 else 0
theorem pdg_lt (m : Nat) (k : Int) : pdg m k < 2 := by unfold pdg; split <;> omega
theorem pdg_parts {n m E i : Nat} (h : Parts n m E) (_hi : 0 < i) : pdg m (-(i : Int) - ((E : Int) - 1074)) = dg n i := by
  have he := e0_eq
  unfold pdg dg
  rw [← h.eq, Nat.mul_assoc, ← Nat.pow_add, U_eq]
  rcases Nat.lt_or_ge e0 (E + i) with hlt | hge
  · rw [if_neg (by omega)]
    obtain ⟨d, hd⟩ : ∃ d, E + i = e0 + (d + 1) := ⟨E + i - e0 - 1, by omega⟩
    rw [hd, Nat.pow_add, Nat.mul_left_comm, Nat.mul_div_cancel_left _ (pow_pos e0), Nat.pow_succ, ← Nat.mul_assoc, Nat.mul_mod_left]
  · obtain ⟨d, hd⟩ : ∃ d, e0 = E + i + d := ⟨e0 - (E + i), by omega⟩
    have hk : -(i : Int) - ((E : Int) - 1074) = (d : Int) := by omega
    rw [hk]
    have e : m * 2 ^ (E + i) / 2 ^ e0 = m / 2 ^ d := by
      rw [hd, Nat.pow_add 2 (E + i) d, Nat.mul_comm m, Nat.mul_div_mul_left _ _ (pow_pos _)]
    rw [e]
    by_cases h53 : d < 53
    · rw [if_pos (by omega)]; rfl
    · rw [if_neg (by omega)]
      have : m < 2 ^ d := Nat.lt_of_lt_of_le h.lt (pow_le (by omega))
      rw [Nat.div_eq_of_lt this]

/-- what partsOf says of a finite word, as far as spec.Digits asks -/
structure PD (x : Nat) (neg : Bool) (m : Nat) (e : Int) : Prop where
  lt : m < 2 ^ 53
  e1 : -1074 ≤ e
  e2 : e ≤ 3000
  dig : ∀ i : Nat, 0 < i → sdg (sg x) (rv (rg x)) i = if neg then -(pdg m (-(i : Int) - e) : Int) else (pdg m (-(i : Int) - e) : Int)

theorem partsOf_dig (x : Nat) (w : World) (hx : x < 2 ^ 64) (hf : rg x < INF) :
    Calls Try.prog 42 #[.float .f64 x] w fun e w' => ∃ (neg : Bool) (m : Nat) (ee : Int), PD x neg m ee ∧ e = .returned (.agg #[.bool neg, .int .u64 (m : Int), .int .i64 ee]) ∧ Below w.heap.size w w' := by
  rcases Nat.eq_zero_or_pos (rg x) with h0 | h0
  · refine (partsOf_zero x w hx h0).mono ?_
    rintro e w' ⟨rfl, hb⟩
    refine ⟨false, 0, 0, ⟨by decide, by decide, by decide, fun i hi => ?_⟩, rfl, hb⟩
    have e1 : pdg 0 (-(i : Int) - 0) = 0 := by unfold pdg; split <;> simp
    have e2 : dg (rv (rg x)) i = 0 := by rw [h0, rv_zero]; unfold dg; simp
    rw [e1]
    unfold sdg
    rw [e2]
    cases sg x <;> rfl
  · refine (partsOf_pos x w hx hf h0).mono ?_
    rintro e w' ⟨m, E, hP, hE, rfl, hb⟩
    exact ⟨sg x, m, _, ⟨hP.lt, by omega, by omega, fun i hi => by rw [pdg_parts hP hi]; rfl⟩, rfl, hb⟩

theorem dig_in {m : Nat} {kk : Int} (hm : m < 18446744073709551616) (h : 0 ≤ kk ∧ kk < 53) : bits .and .u64 ((m : Int) / 2 ^ kk.toNat) 1 = (pdg m kk : Int) := by
  have hs := shr_and_one m kk.toNat hm
  have e : (m : Int) / 2 ^ kk.toNat = ((m / 2 ^ kk.toNat : Nat) : Int) := by simp
  unfold pdg
  rw [if_pos h, e, hs]
theorem pdg_out {m : Nat} {kk : Int} (h : ¬ (0 ≤ kk ∧ kk < 53)) : pdg m kk = 0 := by
  unfold pdg; rw [if_neg h]
theorem wrap_small {a : Int} (h : -1 ≤ a ∧ a ≤ 1) : wrap64 a = a := by unfold wrap64; omega

/-- what a round does behind the digit -/
theorem sdg_in {s neg : Bool} {v m i : Nat} {kk : Int} (hm : m < 18446744073709551616) (h : 0 ≤ kk ∧ kk < 53) (hd : sdg s v i = if neg then -(pdg m kk : Int) else (pdg m kk : Int)) :
    sdg s v i = if neg then wrap64 (-(wrap64 (bits .and .u64 ((m : Int) / 2 ^ kk.toNat) 1))) else wrap64 (bits .and .u64 ((m : Int) / 2 ^ kk.toNat) 1) := by
  have hl := pdg_lt m kk
  rw [dig_in hm h, hd]
  generalize pdg m kk = d at *
  rw [wrap_small (a := (d : Int)) (by omega), wrap_small (a := -(d : Int)) (by omega)]
theorem sdg_out {s neg : Bool} {v m i : Nat} {kk : Int} (h : ¬ (0 ≤ kk ∧ kk < 53)) (hd : sdg s v i = if neg then -(pdg m kk : Int) else (pdg m kk : Int)) :
    sdg s v i = 0 := by
  rw [hd, pdg_out h]; cases neg <;> rfl

end Go.Proofs.Ytlpcpoganlmiaaa

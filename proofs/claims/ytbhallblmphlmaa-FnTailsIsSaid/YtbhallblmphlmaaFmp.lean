/-
  Plain facts: a product and a sum with one rounding, out of the parts of three numbers. No program in sight.
-/
import Derived.Test.YtbhallblmphlmaaFva
import Derived.Test.YtbhallblmphlmaaNrd
namespace Go.Proofs.Ytbhallblmphlmaa.Flt
open Ieee

/-- a natural with a sign -/
def sI (s : Bool) (n : Nat) : Int := if s then -(n : Int) else (n : Int)
theorem sI_mul (s t : Bool) (a b : Nat) : sI s a * sI t b = sI (s ^^ t) (a * b) := by
  unfold sI; cases s <;> cases t <;> simp [Int.neg_mul, Int.mul_neg]
theorem sI_nat (s : Bool) (a b : Nat) : sI s a * (b : Int) = sI s (a * b) := by
  unfold sI; cases s <;> simp [Int.neg_mul]
theorem vl_rdd (neg : Bool) (M : Nat) (E : Int) (a : Nat) (ha : (a : Int) = E + e0) : vl (rdd neg M E) = rnd (sI neg (M * 2 ^ a)) e0 := by
  unfold rdd
  rcases Nat.eq_zero_or_pos M with h0 | h0
  · subst h0
    rw [if_pos rfl, Nat.zero_mul]
    have e : sI neg 0 = 0 := by cases neg <;> rfl
    rw [e]
    have h1 := rnd_exact (b := 0) (by decide) e0
    have h2 : fv 0 = 0 := rfl
    rw [h2, Int.zero_mul] at h1
    rw [h1]; rfl
  · rw [if_neg (by omega), lds_of M (a := a) (k := e0) (by omega), rs_signed, vl_rs]; rfl
/-- the exact value, in the least unit -/
theorem fma_val {u v z : Int} {na nb nc : Bool} {ma mb mc Ea Eb Ec i j a : Nat} (hu : u = sI na (ma * 2 ^ Ea)) (hv : v = sI nb (mb * 2 ^ Eb)) (hz : z = sI nc (mc * 2 ^ Ec)) (h1 : i + a = Ea + Eb) (h2 : j + a = Ec + e0) :
    u * v + z * (U : Int) = sI (na ^^ nb) (ma * mb * 2 ^ i * 2 ^ a) + sI nc (mc * 2 ^ j * 2 ^ a) := by
  have e1 : ma * 2 ^ Ea * (mb * 2 ^ Eb) = ma * mb * 2 ^ i * 2 ^ a := by
    rw [Nat.mul_assoc (ma * mb), ← Nat.pow_add, h1, Nat.pow_add]
    rw [Nat.mul_assoc, Nat.mul_assoc, Nat.mul_left_comm (2 ^ Ea)]
  have e2 : mc * 2 ^ Ec * U = mc * 2 ^ j * 2 ^ a := by
    rw [U_eq, Nat.mul_assoc, Nat.mul_assoc, ← Nat.pow_add, ← Nat.pow_add, h2]
  rw [hu, hv, hz, sI_mul, sI_nat, e1, e2]
theorem sI_add (s : Bool) (P C K : Nat) : sI s (P * K) + sI s (C * K) = sI s ((P + C) * K) := by
  unfold sI; rw [Nat.add_mul]; cases s <;> simp <;> omega
theorem sI_sub {s t : Bool} (h : (s == t) = false) {P C K : Nat} (hle : P ≤ C) : sI s (P * K) + sI t (C * K) = sI t ((C - P) * K) := by
  have h1 : P * K ≤ C * K := Nat.mul_le_mul_right _ hle
  unfold sI
  rw [Nat.sub_mul]
  revert h1
  generalize P * K = x
  generalize C * K = y
  intro h1
  cases s <;> cases t <;> simp at h ⊢ <;> omega
theorem sI_sub' {s t : Bool} (h : (s == t) = false) {P C K : Nat} (hle : C ≤ P) : sI s (P * K) + sI t (C * K) = sI s ((P - C) * K) := by
  rw [Int.add_comm]
  exact sI_sub (by rw [← h]; cases s <;> cases t <;> rfl) hle
end Go.Proofs.Ytbhallblmphlmaa.Flt

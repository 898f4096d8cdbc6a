/-
  Contracts of the reference's naturals: length, word, bit, length of a natural, naturalOf; Inf.
-/
import Derived.Test.YtlpcpoganlmiaaaSpcC
import Derived.Test.YtlpcpoganlmiaaaNrd
import Derived.Deep.LoopGhost
namespace Go.Proofs.Ytlpcpoganlmiaaa
open Go.RowKit Flt

def ul (xs : List Nat) : List Value := xs.map (fun (n : Nat) => Value.int .u64 (n : Int))
theorem ul_len (xs : List Nat) : (ul xs).length = xs.length := by simp [ul]
theorem Rd.ul {w : World} {B : Nat} {A : Option Addr} {xs : List Nat} (h : Rd w B A (ul xs)) {k : Nat} (hk : k < xs.length) : ∃ ad, A = some ad ∧ ad.block < B ∧ w.cell? (ad.add k) = some (.int .u64 ((xs.getD k 0 : Nat) : Int)) := by
  obtain ⟨ad, e, hb, hc⟩ := h.at (k := k) (by rw [ul_len]; exact hk)
  refine ⟨ad, e, hb, ?_⟩
  rw [hc, List.getD_eq_getElem?_getD, List.getElem?_eq_getElem hk]; simp [Go.Proofs.Ytlpcpoganlmiaaa.ul]

theorem shr_and_one (x r : Nat) (hx : x < 18446744073709551616) : bits .and .u64 (((x / 2 ^ r : Nat)) : Int) 1 = ((x / 2 ^ r % 2 : Nat) : Int) := by
  have e : ((1 : Nat) : Int) = 1 := rfl
  have : x / 2 ^ r ≤ x := Nat.div_le_self _ _
  rw [← e, u64_and_nat _ _ (by omega) (by omega), nat_mask1]

/-- the words of an integer of 64 bits -/
def w2 (m : Nat) : List Nat := [m % 2 ^ 32, m / 2 ^ 32]
theorem nv_w2 (m : Nat) : nv (w2 m) = m := by
  show m % 2 ^ 32 + 2 ^ 32 * (m / 2 ^ 32 + 2 ^ 32 * 0) = m
  omega
theorem W32_w2 {m : Nat} (h : m < 18446744073709551616) : W32 (w2 m) := by
  intro w hw
  simp only [w2, List.mem_cons, List.not_mem_nil, or_false] at hw
  rcases hw with rfl | rfl <;> omega
theorem ul_w2 (m : Nat) : ul (w2 m) = [Value.int .u64 ((m % 2 ^ 32 : Nat) : Int), Value.int .u64 ((m / 2 ^ 32 : Nat) : Int)] := rfl

theorem and_low (m : Nat) (h : m < 18446744073709551616) : bits .and .u64 (m : Int) 4294967295 = ((m % 2 ^ 32 : Nat) : Int) := by
  have e : ((4294967295 : Nat) : Int) = 4294967295 := rfl
  rw [← e, u64_and_nat _ _ h (by omega)]
  congr 1
  exact Nat.and_two_pow_sub_one_eq_mod m 32

theorem quo_inf (s : Bool) : floatBits .quo .f64 (mk s (1023 * 2 ^ 52)) 0 = some (mk s INF) := by cases s <;> decide

end Go.Proofs.Ytlpcpoganlmiaaa

/-
  Contract of the reference's Nextafter: the same number as math.Nextafter's.
-/
import Derived.Test.YtmhdjhfkndfhmaaSpcB
import Derived.Test.YtmhdjhfkndfhmaaSpcC
namespace Go.Proofs.Ytmhdjhfkndfhmaa
open Go.RowKit Flt

/-- a number that is the same as 'b' -/
def GivesSame (b : Nat) (w : World) (e : Ending) (w' : World) : Prop := ∃ c, e = .returned (.float .f64 c) ∧ same c b = true ∧ c < 2 ^ 64 ∧ Below w.heap.size w w'

theorem build3 (neg : Bool) (m e : Int) (w : World) : (Instr.build 57 #[(0, .bool neg), (1, .int .u64 m), (2, .int .i64 e)]).run Try.prog w = .ok (.agg #[.bool neg, .int .u64 m, .int .i64 e]) w := by
  exact run_build w 57 _ _ (by kernel_rfl)

theorem sgKey {b : Nat} (h : key b ≠ 0) : decide (key b < 0) = sg b := by
  unfold key at *
  cases sg b
  · simp
  · simp at *; omega

/-- value, its numbers spelt as they come -/
theorem value_is (neg : Bool) (m E : Nat) (hU : Fits (m * U)) (hF : Fits (m * 2 ^ E)) (hE : E ≤ 4000) (a e : Int) (ha : a = (m : Int)) (he : e = (E : Int) - 1074) (W : World) :
    Calls Try.prog 59 #[.agg #[.bool neg, .int .u64 a, .int .i64 e]] W fun e w' => e = .returned (.float .f64 (mk neg (wd (m * 2 ^ E)))) ∧ Below W.heap.size W w' := by
  rw [ha, he]; exact value_any neg m E W hU hF hE

/-- value at numbers that the walk has as numerals -/
theorem value_max (neg : Bool) (W : World) :
    Calls Try.prog 59 #[.agg #[.bool neg, .int .u64 9007199254740991, .int .i64 971]] W fun e w' => e = .returned (.float .f64 (mk neg (INF - 1))) ∧ Below W.heap.size W w' := by
  obtain ⟨E, hE⟩ : ∃ E : Nat, E = 2045 := ⟨_, rfl⟩
  have hv : wd ((2 ^ 53 - 1) * 2 ^ E) = INF - 1 := by
    have := Parts.rv_of (m := 2 ^ 53 - 1) (E := E) (by decide) (Or.inl (by decide))
    rw [← this, wd_rv, hE]; rfl
  have := value_any neg (2 ^ 53 - 1) E W (fits_small (by decide)) (fits_wd hv (rep_of _ (by decide)) (by decide)) (by omega)
  rw [hv, show (E : Int) - 1074 = 971 by omega] at this
  exact this
theorem value_one (neg : Bool) (W : World) :
    Calls Try.prog 59 #[.agg #[.bool neg, .int .u64 1, .int .i64 (-1074)]] W fun e w' => e = .returned (.float .f64 (mk neg 1)) ∧ Below W.heap.size W w' := by
  have hv : wd (1 * 2 ^ 0) = 1 := wd_small (by decide)
  have := value_any neg 1 0 W (fits_small (by decide)) (fits_wd hv (rep_of _ (by decide)) (by decide)) (by decide)
  rw [hv] at this
  exact this

theorem nxt_up {x y : Nat} (hx : x < 2 ^ 64) (hnx : nan x = false) (hny : nan y = false) (k1 : ¬ key x = key y) (k2 : ¬ key x = 0) (k3 : (key x < key y) ↔ (0 < key x)) : nxt x y = mk (sg x) (rg x + 1) := by
  unfold nxt
  rw [hnx, hny, if_neg (by simp), if_neg k1, if_neg k2, if_pos k3]
  have hm := mk_of hx
  unfold mk at *
  cases hs : sg x <;> rw [hs] at hm <;> simp only [Bool.false_eq_true, if_false, if_true] at hm ⊢ <;> omega
theorem nxt_down {x y : Nat} (hx : x < 2 ^ 64) (hnx : nan x = false) (hny : nan y = false) (k1 : ¬ key x = key y) (k2 : ¬ key x = 0) (k3 : ¬ ((key x < key y) ↔ (0 < key x))) : nxt x y = mk (sg x) (rg x - 1) := by
  unfold nxt
  rw [hnx, hny, if_neg (by simp), if_neg k1, if_neg k2, if_neg k3]
  have hm := mk_of hx
  have : 0 < rg x := by have := key_natAbs x; omega
  unfold mk at *
  cases hs : sg x <;> rw [hs] at hm <;> simp only [Bool.false_eq_true, if_false, if_true] at hm ⊢ <;> omega

end Go.Proofs.Ytmhdjhfkndfhmaa

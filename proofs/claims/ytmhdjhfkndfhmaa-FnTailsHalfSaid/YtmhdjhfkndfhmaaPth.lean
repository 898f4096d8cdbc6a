/-
  Plain facts about the numbers of a path. No program in sight but the list of them.
-/
import Derived.Test.YtmhdjhfkndfhmaaImpA
namespace Go.Proofs.Ytmhdjhfkndfhmaa
open Flt

theorem it_add (y x k j : Nat) : it y (it y x k) j = it y x (k + j) := by
  induction j with
  | zero => rfl
  | succ j ih => show nxt (it y (it y x k) j) y = _; rw [ih]; rfl

theorem it_nan {y x : Nat} (h : nan x = true ∨ nan y = true) (k : Nat) : nan (it y x (k + 1)) = true := by
  induction k with
  | zero => show nan (nxt x y) = true; rw [nan_nxt h]; exact nan_qNaN
  | succ k ih => show nan (nxt (it y x (k + 1)) y) = true; rw [nan_nxt (Or.inl ih)]; exact nan_qNaN

/-- where a key comes to in k steps towards another one -/
def far (a b : Int) (k : Nat) : Int := if a ≤ b then min (a + k) b else max (a - k) b

theorem stp_far (a b : Int) (k : Nat) : stp (far a b k) b = far a b (k + 1) := by
  unfold far stp
  by_cases h : a ≤ b
  · rw [if_pos h, if_pos h]; split <;> (try split) <;> omega
  · rw [if_neg h, if_neg h]; split <;> (try split) <;> omega

theorem it_key {y x : Nat} (hx : x < 2 ^ 64) (hnx : nan x = false) (hny : nan y = false) (k : Nat) : key (it y x k) = far (key x) (key y) k ∧ nan (it y x k) = false := by
  induction k with
  | zero =>
    refine ⟨?_, hnx⟩
    show key x = _
    unfold far; split <;> omega
  | succ k ih =>
    have := nxt_key (y := y) (it_lt y hx k) ih.2 hny
    rw [ih.1, stp_far] at this
    exact this

theorem it_opposite {y x : Nat} (hx : x < 2 ^ 64) (hy : y < 2 ^ 64) (k : Nat) : same (it (Op.negFloat .f64 y) (Op.negFloat .f64 x) k) (Op.negFloat .f64 (it y x k)) = true := by
  have hk := it_lt y hx k
  by_cases h : nan x = true ∨ nan y = true
  · cases k with
    | zero => exact same_refl _
    | succ k =>
      refine same_of_nan (it_nan ?_ k) ?_
      · rw [nan_neg x hx, nan_neg y hy]; exact h
      · rw [nan_neg _ hk]; exact it_nan h k
  · have hnx : nan x = false := by cases e : nan x; rfl; exact absurd (Or.inl e) h
    have hny : nan y = false := by cases e : nan y; rfl; exact absurd (Or.inr e) h
    obtain ⟨k1, n1⟩ := it_key hx hnx hny k
    obtain ⟨k2, n2⟩ := it_key (neg_lt x hx) (by rw [nan_neg x hx]; exact hnx) (by rw [nan_neg y hy]; exact hny) k (y := Op.negFloat .f64 y)
    refine same_of_key n2 (by rw [nan_neg _ hk]; exact n1) ?_
    rw [k2, key_neg _ hk, k1, key_neg x hx, key_neg y hy]
    unfold far
    by_cases h1 : key x ≤ key y
    · rw [if_pos h1]; split <;> omega
    · rw [if_neg h1]; split <;> omega

theorem it_back {y x : Nat} (hx : x < 2 ^ 64) (m : Nat) (h : same (it y x (m + 1)) (it y x m) = false) (hn : nan (it y x (m + 1)) = false) (j : Nat) (hj : j ≤ m + 1) :
    same (it x (it y x (m + 1)) j) (it y x (m + 1 - j)) = true := by
  have hno : ¬ (nan x = true ∨ nan y = true) := fun h' => by rw [it_nan h' m] at hn; cases hn
  have hnx : nan x = false := by cases e : nan x; rfl; exact absurd (Or.inl e) hno
  have hny : nan y = false := by cases e : nan y; rfl; exact absurd (Or.inr e) hno
  obtain ⟨k1, n1⟩ := it_key hx hnx hny (m + 1)
  obtain ⟨k0, n0⟩ := it_key hx hnx hny m
  obtain ⟨k3, n3⟩ := it_key hx hnx hny (m + 1 - j)
  obtain ⟨k2, n2⟩ := it_key (it_lt y hx (m + 1)) n1 hnx j
  have hne : key (it y x (m + 1)) ≠ key (it y x m) := by
    intro e
    rw [same_of_key n1 n0 e] at h; cases h
  refine same_of_key n2 n3 ?_
  rw [k2, k3]
  rw [k1, k0] at hne
  rw [k1]
  unfold far at *
  by_cases h1 : key x ≤ key y
  · rw [if_pos h1, if_pos h1] at hne
    rw [if_pos h1, if_pos h1]
    split <;> omega
  · rw [if_neg h1, if_neg h1] at hne
    rw [if_neg h1, if_neg h1]
    split <;> omega

/-- one step of a path, as the law asks it -/
theorem nxt_towards {a y : Nat} (ha : a < 2 ^ 64) (hna : nan a = false) (hny : nan y = false) :
    (key a = key y → key (nxt a y) = key y) ∧ (key a < key y → key a < key (nxt a y) ∧ key (nxt a y) ≤ key y) ∧ (key y < key a → key (nxt a y) < key a ∧ key y ≤ key (nxt a y)) := by
  obtain ⟨k, _⟩ := nxt_key ha hna hny
  rw [k]
  unfold stp
  refine ⟨fun h => ?_, fun h => ?_, fun h => ?_⟩ <;> split <;> (try split) <;> omega

end Go.Proofs.Ytmhdjhfkndfhmaa

/-
  Plain facts about natural numbers as words of 32 bits, and about rounding them bit by bit. No program in sight.
-/
import Derived.Test.YtbhallblmphlmaaFll
namespace Go.Proofs.Ytbhallblmphlmaa.Flt
open Ieee

/-- the number of bits -/
def bl (n : Nat) : Nat := if n = 0 then 0 else n.log2 + 1
theorem bl_zero : bl 0 = 0 := rfl
theorem bl_pos {n : Nat} (h : 0 < n) : bl n = n.log2 + 1 := by unfold bl; rw [if_neg (by omega)]
theorem bl_half {n : Nat} (h : 0 < n) : bl n = bl (n / 2) + 1 := by
  rw [bl_pos h]
  by_cases h1 : n / 2 = 0
  · have : n = 1 := by omega
    rw [h1, bl_zero, this]; rfl
  · rw [bl_pos (by omega), Nat.log2_def n, if_pos (by omega)]
theorem lt_bl (n : Nat) : n < 2 ^ bl n := by
  by_cases h : n = 0
  · rw [h]; decide
  · rw [bl_pos (by omega)]; exact Nat.lt_log2_self
theorem bl_le {n k : Nat} (h : n < 2 ^ k) : bl n ≤ k := by
  by_cases h0 : n = 0
  · rw [h0, bl_zero]; omega
  · rw [bl_pos (by omega)]
    exact (Nat.log2_lt h0).2 h
theorem le_bl {n : Nat} (h : 0 < n) : 2 ^ (bl n - 1) ≤ n := by
  rw [bl_pos h, Nat.add_sub_cancel]; exact Nat.log2_self_le (by omega)
theorem bl_unique {n k : Nat} (h1 : 2 ^ k ≤ n) (h2 : n < 2 ^ (k + 1)) : bl n = k + 1 := by
  have hp := pow_pos k
  have a := bl_le h2
  have b : k < bl n := lt_of_pow_lt (Nat.lt_of_le_of_lt h1 (lt_bl n))
  omega
theorem bl_mul_pow {n : Nat} (k : Nat) (h : 0 < n) : bl (n * 2 ^ k) = bl n + k := by
  rw [bl_pos h, bl_pos (Nat.mul_pos h (pow_pos k)), log2_mul_pow n k (by omega)]; omega

/-- the value of words of 32 bits, the lowest first -/
def nv : List Nat → Nat
  | [] => 0
  | w :: ws => w + 2 ^ 32 * nv ws

/-- each word has 32 bits -/
def W32 (ws : List Nat) : Prop := ∀ w ∈ ws, w < 2 ^ 32

theorem nv_split (ws : List Nat) (h : W32 ws) (k : Nat) : nv ws = nv (ws.take k) + 2 ^ (32 * k) * nv (ws.drop k) ∧ nv (ws.take k) < 2 ^ (32 * k) := by
  induction k generalizing ws with
  | zero => simp [nv]
  | succ k ih =>
    cases ws with
    | nil => simp [nv, pow_pos]
    | cons w ws =>
      have hw : w < 2 ^ 32 := h w (by simp)
      obtain ⟨i1, i2⟩ := ih ws (fun x hx => h x (by simp [hx]))
      simp only [List.take_succ_cons, List.drop_succ_cons, nv]
      rw [show 32 * (k + 1) = 32 + 32 * k by omega, Nat.pow_add]
      refine ⟨?_, ?_⟩
      · rw [i1, Nat.mul_add, Nat.mul_assoc]; omega
      · have : 2 ^ 32 * (nv (ws.take k) + 1) ≤ 2 ^ 32 * 2 ^ (32 * k) := Nat.mul_le_mul_left _ i2
        rw [Nat.mul_add] at this
        omega

theorem nv_drop (ws : List Nat) (h : W32 ws) (k : Nat) : nv ws / 2 ^ (32 * k) = nv (ws.drop k) := by
  obtain ⟨h1, h2⟩ := nv_split ws h k
  rw [h1, Nat.add_mul_div_left _ _ (pow_pos _), Nat.div_eq_of_lt h2, Nat.zero_add]

theorem nv_head (ws : List Nat) (h : W32 ws) : nv ws % 2 ^ 32 = ws.getD 0 0 := by
  cases ws with
  | nil => rfl
  | cons w ws =>
    have hw : w < 2 ^ 32 := h w (by simp)
    show (w + 2 ^ 32 * nv ws) % 2 ^ 32 = w
    omega

theorem W32.drop {ws : List Nat} (h : W32 ws) (k : Nat) : W32 (ws.drop k) := fun w hw => h w (List.mem_of_mem_drop hw)
theorem W32.getD {ws : List Nat} (h : W32 ws) (k : Nat) : ws.getD k 0 < 2 ^ 32 := by
  rcases Nat.lt_or_ge k ws.length with hk | hk
  · rw [List.getD_eq_getElem?_getD, List.getElem?_eq_getElem hk]; exact h _ (List.getElem_mem hk)
  · rw [List.getD_eq_getElem?_getD, List.getElem?_eq_none hk]; decide

/-- a bit of the number is a bit of a word -/
theorem nv_bit (ws : List Nat) (h : W32 ws) (i : Nat) : nv ws / 2 ^ i % 2 = ws.getD (i / 32) 0 / 2 ^ (i % 32) % 2 := by
  have e : i = 32 * (i / 32) + i % 32 := by omega
  have hd := nv_drop ws h (i / 32)
  have hh := nv_head (ws.drop (i / 32)) (h.drop _)
  have hg : (ws.drop (i / 32)).getD 0 0 = ws.getD (i / 32) 0 := by
    rw [List.getD_eq_getElem?_getD, List.getElem?_drop, ← List.getD_eq_getElem?_getD]; rfl
  rw [hg] at hh
  have hm : i % 32 < 32 := Nat.mod_lt _ (by decide)
  generalize i / 32 = q at *
  generalize i % 32 = r at *
  rw [e, Nat.pow_add, ← Nat.div_div_eq_div_mul, hd, ← hh]
  -- a bit below 32 of a remainder by 2^32
  generalize nv (ws.drop q) = v
  have : v % 2 ^ 32 / 2 ^ r % 2 = v / 2 ^ r % 2 := by
    have h1 : 2 ^ 32 = 2 ^ r * 2 ^ (32 - r) := by rw [← Nat.pow_add]; congr 1; omega
    rw [h1, Nat.mod_mul_right_div_self, Nat.mod_mod_of_dvd]
    exact ⟨2 ^ (31 - r), by rw [← Nat.pow_succ']; congr 1; omega⟩
  exact this.symm

/-- the length, by the highest word that is not 0 -/
theorem nv_length (ws : List Nat) (h : W32 ws) (i : Nat) (hi : 0 < ws.getD i 0) (hz : ∀ j, i < j → ws.getD j 0 = 0) : bl (nv ws) = 32 * i + bl (ws.getD i 0) := by
  have hd := nv_drop ws h i
  have hzero : ∀ (l : List Nat), (∀ j, l.getD j 0 = 0) → nv l = 0 := by
    intro l
    induction l with
    | nil => intro _; rfl
    | cons a l ih =>
      intro hl
      have h0 := hl 0
      have : nv l = 0 := ih (fun j => hl (j + 1))
      show a + 2 ^ 32 * nv l = 0
      rw [this]
      have : a = 0 := h0
      omega
  have hv : nv (ws.drop i) = ws.getD i 0 := by
    have hg : ∀ j, (ws.drop i).getD j 0 = ws.getD (i + j) 0 := fun j => by
      rw [List.getD_eq_getElem?_getD, List.getElem?_drop, ← List.getD_eq_getElem?_getD]
    cases hc : ws.drop i with
    | nil =>
      have := hg 0
      rw [hc, Nat.add_zero] at this
      simp at this
      rw [List.getD_eq_getElem?_getD] at hi
      omega
    | cons a l =>
      have h0 := hg 0
      rw [hc, Nat.add_zero] at h0
      have : nv l = 0 := hzero l (fun j => by
        have := hg (j + 1)
        rw [hc, hz (i + (j + 1)) (by omega)] at this
        exact this)
      show a + 2 ^ 32 * nv l = _
      rw [this, ← h0]; simp
  rw [hv] at hd
  have hpos : 0 < nv ws / 2 ^ (32 * i) := by omega
  have hn : 0 < nv ws := by
    rcases Nat.eq_zero_or_pos (nv ws) with h0 | h0
    · rw [h0, Nat.zero_div] at hpos; omega
    · exact h0
  have l1 := le_bl hi
  have l2 := lt_bl (ws.getD i 0)
  rw [← hd] at l1 l2
  have hb : 0 < bl (ws.getD i 0) := by rw [bl_pos hi]; omega
  have := bl_unique (n := nv ws) (k := 32 * i + (bl (ws.getD i 0) - 1)) (by
      rw [Nat.pow_add, Nat.mul_comm]
      exact (Nat.le_div_iff_mul_le (pow_pos _)).1 (by rw [hd] at l1 ⊢; exact l1)) (by
      rw [show 32 * i + (bl (ws.getD i 0) - 1) + 1 = bl (ws.getD i 0) + 32 * i by omega, Nat.pow_add]
      exact (Nat.div_lt_iff_lt_mul (pow_pos _)).1 (by rw [hd] at l2 ⊢; exact l2))
  omega

theorem nv_zero (ws : List Nat) (hz : ∀ j, ws.getD j 0 = 0) : nv ws = 0 := by
  induction ws with
  | nil => rfl
  | cons a l ih =>
    have h0 : a = 0 := hz 0
    have : nv l = 0 := ih (fun j => hz (j + 1))
    show a + 2 ^ 32 * nv l = 0
    rw [this, h0]

end Go.Proofs.Ytbhallblmphlmaa.Flt

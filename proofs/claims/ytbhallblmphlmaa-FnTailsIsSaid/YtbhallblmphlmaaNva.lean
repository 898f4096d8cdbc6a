/-
  Plain facts about sums, differences, products, shifts and the order of natural numbers in words of 32 bits. No program in sight.
-/
import Derived.Test.YtbhallblmphlmaaNvl
namespace Go.Proofs.Ytbhallblmphlmaa.Flt

theorem nv_append (xs ys : List Nat) : nv (xs ++ ys) = nv xs + 2 ^ (32 * xs.length) * nv ys := by
  induction xs with
  | nil => simp [nv]
  | cons a xs ih =>
    show a + 2 ^ 32 * nv (xs ++ ys) = a + 2 ^ 32 * nv xs + 2 ^ (32 * (xs.length + 1)) * nv ys
    rw [ih, show 32 * (xs.length + 1) = 32 + 32 * xs.length by omega, Nat.pow_add, Nat.mul_add, Nat.mul_assoc, Nat.add_assoc]
theorem nv_snoc (xs : List Nat) (a : Nat) : nv (xs ++ [a]) = nv xs + 2 ^ (32 * xs.length) * a := by
  rw [nv_append]; rfl
theorem nv_lt {ws : List Nat} (h : W32 ws) : nv ws < 2 ^ (32 * ws.length) := by
  have := (nv_split ws h ws.length).2
  rwa [List.take_length] at this
theorem nv_next (ws : List Nat) (k : Nat) : nv (ws.drop k) = ws.getD k 0 + 2 ^ 32 * nv (ws.drop (k + 1)) := by
  rcases Nat.lt_or_ge k ws.length with h | h
  · rw [List.drop_eq_getElem_cons h, List.getD_eq_getElem?_getD, List.getElem?_eq_getElem h]; rfl
  · rw [List.drop_eq_nil_of_le h, List.drop_eq_nil_of_le (by omega), List.getD_eq_getElem?_getD, List.getElem?_eq_none h]; rfl
theorem nv_past {ws : List Nat} {k : Nat} (h : ws.length ≤ k) : nv (ws.drop k) = 0 := by
  rw [List.drop_eq_nil_of_le h]; rfl
theorem getD_past {ws : List Nat} {k : Nat} (h : ws.length ≤ k) : ws.getD k 0 = 0 := by
  rw [List.getD_eq_getElem?_getD, List.getElem?_eq_none h]; rfl
theorem W32.nil : W32 [] := fun w h => by cases h
theorem W32.snoc {xs : List Nat} {a : Nat} (h : W32 xs) (ha : a < 2 ^ 32) : W32 (xs ++ [a]) := fun w hw => by
  rcases List.mem_append.1 hw with hw | hw
  · exact h w hw
  · rw [List.mem_singleton.1 hw]; exact ha
theorem snoc_len {xs : List Nat} {a i : Nat} (h : xs.length = i) : (xs ++ [a]).length = i + 1 := by rw [List.length_append, h]; rfl
theorem p_succ (i : Nat) : 2 ^ (32 * (i + 1)) = 2 ^ (32 * i) * 2 ^ 32 := by rw [← Nat.pow_add]; congr 1

/-- a sum on the way -/
structure Pl (ws os out : List Nat) (i c : Nat) : Prop where
  len : out.length = i
  w32 : W32 out
  c1 : c ≤ 1
  top : ws.length < i → os.length < i → c = 0
  up : i ≤ max ws.length os.length + 1
  val : nv out + 2 ^ (32 * i) * (c + nv (ws.drop i) + nv (os.drop i)) = nv ws + nv os
theorem Pl.start (ws os : List Nat) : Pl ws os [] 0 0 :=
  ⟨rfl, W32.nil, Nat.zero_le _, fun h => by omega, by omega, by
    show 0 + 2 ^ 0 * (0 + nv (ws.drop 0) + nv (os.drop 0)) = _
    rw [List.drop_zero, List.drop_zero]; omega⟩
theorem Pl.step {ws os out : List Nat} {i c : Nat} (h : Pl ws os out i c) (hw : W32 ws) (ho : W32 os) (hc : i < ws.length ∨ i < os.length ∨ 0 < c) :
    Pl ws os (out ++ [(c + (ws.getD i 0 + os.getD i 0)) % 2 ^ 32]) (i + 1) ((c + (ws.getD i 0 + os.getD i 0)) / 2 ^ 32) := by
  have a1 := hw.getD i
  have a2 := ho.getD i
  have a3 := h.c1
  refine ⟨snoc_len h.len, h.w32.snoc (Nat.mod_lt _ (by decide)), by omega, fun g1 g2 => ?_, ?_, ?_⟩
  · rw [getD_past (by omega), getD_past (by omega)]; omega
  · have := h.top; have := h.up
    rcases Nat.lt_or_ge (max ws.length os.length) i with g | g
    · have : c = 0 := h.top (by omega) (by omega)
      omega
    · omega
  · have hv := h.val
    rw [nv_next ws i, nv_next os i] at hv
    rw [nv_snoc, h.len, p_succ]
    generalize ws.getD i 0 = x at *
    generalize os.getD i 0 = y at *
    generalize nv (ws.drop (i + 1)) = R at *
    generalize nv (os.drop (i + 1)) = S at *
    generalize 2 ^ (32 * i) = P at *
    have e : c + (x + y) = (c + (x + y)) % 2 ^ 32 + 2 ^ 32 * ((c + (x + y)) / 2 ^ 32) := (Nat.mod_add_div _ _).symm
    generalize (c + (x + y)) % 2 ^ 32 = r at *
    generalize (c + (x + y)) / 2 ^ 32 = q at *
    have e2 : c + (x + 2 ^ 32 * R) + (y + 2 ^ 32 * S) = r + 2 ^ 32 * (q + R + S) := by omega
    rw [e2, Nat.mul_add P] at hv
    rw [Nat.mul_assoc, ← hv]; omega
theorem Pl.done {ws os out : List Nat} {i c : Nat} (h : Pl ws os out i c) (h1 : ws.length ≤ i) (h2 : os.length ≤ i) (h3 : c = 0) : nv out = nv ws + nv os := by
  have := h.val
  rw [nv_past h1, nv_past h2, h3] at this
  omega

/-- a difference on the way -/
structure Mi (ws os out : List Nat) (i b : Nat) : Prop where
  len : out.length = i
  w32 : W32 out
  b1 : b ≤ 1
  val : nv out + 2 ^ (32 * i) * nv (ws.drop i) + nv os = nv ws + 2 ^ (32 * i) * (b + nv (os.drop i))
theorem Mi.start (ws os : List Nat) : Mi ws os [] 0 0 :=
  ⟨rfl, W32.nil, Nat.zero_le _, by
    show 0 + 2 ^ 0 * nv (ws.drop 0) + nv os = nv ws + 2 ^ 0 * (0 + nv (os.drop 0))
    rw [List.drop_zero, List.drop_zero]; omega⟩
theorem Mi.step {ws os out : List Nat} {i b : Nat} (h : Mi ws os out i b) (hw : W32 ws) (ho : W32 os) :
    Mi ws os (out ++ [(ws.getD i 0 + 2 ^ 32 - os.getD i 0 - b) % 2 ^ 32]) (i + 1) (1 - (ws.getD i 0 + 2 ^ 32 - os.getD i 0 - b) / 2 ^ 32) := by
  have a1 := hw.getD i
  have a2 := ho.getD i
  have a3 := h.b1
  refine ⟨snoc_len h.len, h.w32.snoc (Nat.mod_lt _ (by decide)), by omega, ?_⟩
  have hv := h.val
  rw [nv_next ws i, nv_next os i] at hv
  rw [nv_snoc, h.len, p_succ]
  generalize ws.getD i 0 = x at *
  generalize os.getD i 0 = y at *
  generalize nv (ws.drop (i + 1)) = R at *
  generalize nv (os.drop (i + 1)) = S at *
  generalize 2 ^ (32 * i) = P at *
  obtain ⟨d, hd⟩ : ∃ d, x + 2 ^ 32 - y - b = d := ⟨_, rfl⟩
  rw [hd]
  obtain ⟨q, hq⟩ : ∃ q, 1 - d / 2 ^ 32 = q := ⟨_, rfl⟩
  rw [hq]
  have e : x + 2 ^ 32 * q = d % 2 ^ 32 + y + b := by omega
  generalize d % 2 ^ 32 = r at *
  have e1 : P * x + P * (2 ^ 32 * q) = P * r + P * y + P * b := by rw [← Nat.mul_add, e, Nat.mul_add, Nat.mul_add]
  rw [Nat.mul_add P x, Nat.mul_add P b, Nat.mul_add P y] at hv
  rw [Nat.mul_assoc, Nat.mul_assoc, Nat.mul_add (2 ^ 32), Nat.mul_add P]
  omega
theorem Mi.done {ws os out : List Nat} {i b : Nat} (h : Mi ws os out i b) (h1 : ws.length = i) (hle : nv os ≤ nv ws) : nv out = nv ws - nv os := by
  have hv := h.val
  rw [nv_past (by omega), Nat.mul_zero, Nat.add_zero] at hv
  have hl := nv_lt h.w32
  rw [h.len] at hl
  generalize b + nv (os.drop i) = B at *
  rcases Nat.eq_zero_or_pos B with h0 | h0
  · rw [h0, Nat.mul_zero] at hv; omega
  · have : 2 ^ (32 * i) ≤ 2 ^ (32 * i) * B := Nat.le_mul_of_pos_right _ h0
    omega

/-- a row of a product on the way -/
structure Rw (ws : List Nat) (x i0 : Nat) (row : List Nat) (j c : Nat) : Prop where
  len : row.length = i0 + j
  w32 : W32 row
  c1 : c < 2 ^ 32
  val : nv row + 2 ^ (32 * (i0 + j)) * (c + nv (ws.drop j) * x) = 2 ^ (32 * i0) * (nv ws * x)
theorem nv_zeros (k : Nat) : nv (List.replicate k 0) = 0 := by
  induction k with
  | zero => rfl
  | succ k ih => show 0 + 2 ^ 32 * nv (List.replicate k 0) = 0; rw [ih]
theorem Rw.start (ws : List Nat) (x i0 : Nat) : Rw ws x i0 (List.replicate i0 0) 0 0 :=
  ⟨by rw [List.length_replicate]; rfl, fun w h => by rw [List.eq_of_mem_replicate h]; decide, by decide, by
    rw [nv_zeros, List.drop_zero, Nat.zero_add, Nat.zero_add]; rfl⟩
theorem mul_lt32 {x y c : Nat} (hx : x < 2 ^ 32) (hy : y < 2 ^ 32) (hc : c < 2 ^ 32) : c + x * y < 2 ^ 64 ∧ (c + x * y) / 2 ^ 32 < 2 ^ 32 := by
  have h1 : x * y ≤ (2 ^ 32 - 1) * (2 ^ 32 - 1) := Nat.mul_le_mul (by omega) (by omega)
  have : c + x * y < 2 ^ 64 := by omega
  exact ⟨this, by omega⟩
theorem Rw.step {ws : List Nat} {x i0 : Nat} {row : List Nat} {j c : Nat} (h : Rw ws x i0 row j c) (hw : W32 ws) (hx : x < 2 ^ 32) :
    Rw ws x i0 (row ++ [(c + ws.getD j 0 * x) % 2 ^ 32]) (j + 1) ((c + ws.getD j 0 * x) / 2 ^ 32) := by
  have a1 := hw.getD j
  refine ⟨snoc_len h.len, h.w32.snoc (Nat.mod_lt _ (by decide)), (mul_lt32 a1 hx h.c1).2, ?_⟩
  have hv := h.val
  rw [nv_next ws j, Nat.add_mul] at hv
  rw [nv_snoc, h.len, ← Nat.add_assoc, p_succ]
  generalize ws.getD j 0 * x = y at *
  generalize nv (ws.drop (j + 1)) = R at *
  generalize 2 ^ (32 * (i0 + j)) = P at *
  have e : c + y = (c + y) % 2 ^ 32 + 2 ^ 32 * ((c + y) / 2 ^ 32) := (Nat.mod_add_div _ _).symm
  generalize (c + y) % 2 ^ 32 = r at *
  generalize (c + y) / 2 ^ 32 = q at *
  rw [Nat.mul_assoc (2 ^ 32) R x] at hv
  generalize R * x = T at *
  rw [show c + (y + 2 ^ 32 * T) = r + 2 ^ 32 * (q + T) by omega, Nat.mul_add P] at hv
  rw [Nat.mul_assoc, ← hv]; omega
theorem Rw.done {ws : List Nat} {x i0 : Nat} {row : List Nat} {j c : Nat} (h : Rw ws x i0 row j c) (hj : ws.length ≤ j) : W32 (row ++ [c]) ∧ nv (row ++ [c]) = 2 ^ (32 * i0) * (nv ws * x) := by
  refine ⟨h.w32.snoc h.c1, ?_⟩
  have hv := h.val
  rw [nv_past hj, Nat.zero_mul, Nat.add_zero] at hv
  rw [nv_snoc, h.len, hv]
theorem nv_take_succ (os : List Nat) (i : Nat) (h : i < os.length) : nv (os.take (i + 1)) = nv (os.take i) + 2 ^ (32 * i) * os.getD i 0 := by
  have e : os.take (i + 1) = os.take i ++ [os.getD i 0] := by
    rw [List.take_succ_eq_append_getElem h, List.getD_eq_getElem?_getD, List.getElem?_eq_getElem h]; rfl
  rw [e, nv_snoc, List.length_take, Nat.min_eq_left (by omega)]
theorem times_step {N i : Nat} {os : List Nat} (h : i < os.length) : N * nv (os.take i) + 2 ^ (32 * i) * (N * os.getD i 0) = N * nv (os.take (i + 1)) := by
  rw [nv_take_succ os i h, Nat.mul_add, Nat.mul_left_comm]

/-- the words of a number -/
def dgs (M L : Nat) : List Nat := (List.range L).map fun i => M / 2 ^ (32 * i) % 2 ^ 32
theorem dgs_len (M L : Nat) : (dgs M L).length = L := by simp [dgs]
theorem dgs_succ (M L : Nat) : dgs M (L + 1) = dgs M L ++ [M / 2 ^ (32 * L) % 2 ^ 32] := by
  unfold dgs; rw [List.range_succ, List.map_append]; rfl
theorem dgs_w32 (M L : Nat) : W32 (dgs M L) := fun w h => by
  unfold dgs at h
  obtain ⟨i, _, rfl⟩ := List.mem_map.1 h
  exact Nat.mod_lt _ (by decide)
theorem nv_dgs (M : Nat) : ∀ L, nv (dgs M L) = M % 2 ^ (32 * L)
  | 0 => by show 0 = M % 1; omega
  | L + 1 => by rw [dgs_succ, nv_snoc, dgs_len, nv_dgs M L, p_succ, Nat.mod_mul]

/-- a word, 0 ahead of the first one -/
def hiw (ws : List Nat) (z : Int) : Nat := if z < 0 then 0 else ws.getD z.toNat 0
theorem hiw_lt {ws : List Nat} (h : W32 ws) (z : Int) : hiw ws z < 2 ^ 32 := by
  unfold hiw; split
  · decide
  · exact h.getD _
theorem nv_word (ws : List Nat) (h : W32 ws) (j : Nat) : nv ws / 2 ^ (32 * j) % 2 ^ 32 = ws.getD j 0 := by
  rw [nv_drop ws h j, nv_head _ (h.drop _), List.getD_eq_getElem?_getD, List.getElem?_drop, ← List.getD_eq_getElem?_getD]; rfl
theorem left_word {ws : List Nat} (h : W32 ws) (k i : Nat) :
    nv ws * 2 ^ k / 2 ^ (32 * i) % 2 ^ 32 = (hiw ws ((i : Int) - (k / 32 : Nat)) * 2 ^ (k % 32) + hiw ws ((i : Int) - (k / 32 : Nat) - 1) * 2 ^ (k % 32) / 2 ^ 32) % 2 ^ 32 := by
  have hb : k % 32 < 32 := Nat.mod_lt _ (by decide)
  have e : k = 32 * (k / 32) + k % 32 := by omega
  generalize k / 32 = a at *
  generalize k % 32 = b at *
  subst e
  rcases Nat.lt_or_ge i a with hlt | hge
  · have e1 : nv ws * 2 ^ (32 * a + b) = nv ws * 2 ^ (32 * (a - i - 1) + b) * 2 ^ 32 * 2 ^ (32 * i) := by
      rw [Nat.mul_assoc, Nat.mul_assoc, ← Nat.pow_add, ← Nat.pow_add]; congr 2; omega
    rw [e1, Nat.mul_div_cancel _ (pow_pos _), Nat.mul_mod_left]
    have z1 : hiw ws ((i : Int) - (a : Nat)) = 0 := by unfold hiw; rw [if_pos (by omega)]
    have z2 : hiw ws ((i : Int) - (a : Nat) - 1) = 0 := by unfold hiw; rw [if_pos (by omega)]
    rw [z1, z2, Nat.zero_mul]
  · obtain ⟨j, rfl⟩ : ∃ j, i = a + j := ⟨i - a, by omega⟩
    have e1 : nv ws * 2 ^ (32 * a + b) / 2 ^ (32 * (a + j)) = nv ws * 2 ^ b / 2 ^ (32 * j) := by
      rw [show 32 * (a + j) = 32 * j + 32 * a by omega, Nat.add_comm (32 * a) b, Nat.pow_add, Nat.pow_add, ← Nat.mul_assoc, Nat.mul_div_mul_right _ _ (pow_pos _)]
    rw [e1]
    have z1 : hiw ws (((a + j : Nat) : Int) - (a : Nat)) = ws.getD j 0 := by
      unfold hiw; rw [if_neg (by omega), show (((a + j : Nat) : Int) - (a : Nat)).toNat = j by omega]
    rw [z1]
    cases j with
    | zero =>
      have z2 : hiw ws (((a + 0 : Nat) : Int) - (a : Nat) - 1) = 0 := by unfold hiw; rw [if_pos (by omega)]
      rw [z2, Nat.zero_mul, ← nv_head ws h]
      simp
    | succ j =>
      have z2 : hiw ws (((a + (j + 1) : Nat) : Int) - (a : Nat) - 1) = ws.getD j 0 := by
        unfold hiw; rw [if_neg (by omega), show (((a + (j + 1) : Nat) : Int) - (a : Nat) - 1).toNat = j by omega]
      rw [z2]
      have h0 := nv_word ws h (j + 1)
      have e3 : nv ws / 2 ^ (32 * j) = ws.getD j 0 + 2 ^ 32 * (nv ws / 2 ^ (32 * (j + 1))) := by
        rw [nv_drop ws h, nv_drop ws h, nv_next]
      have e4 : nv ws * 2 ^ b / 2 ^ (32 * (j + 1)) = nv ws / 2 ^ (32 * j) / 2 ^ (32 - b) := by
        rw [Nat.div_div_eq_div_mul, ← Nat.pow_add, show 32 * (j + 1) = 32 * j + (32 - b) + b by omega, Nat.pow_add _ _ b, Nat.mul_div_mul_right _ _ (pow_pos _)]
      have e5 : ws.getD j 0 * 2 ^ b / 2 ^ 32 = ws.getD j 0 / 2 ^ (32 - b) := by
        rw [show (2 : Nat) ^ 32 = 2 ^ (32 - b) * 2 ^ b by rw [← Nat.pow_add]; congr 1; omega, Nat.mul_div_mul_right _ _ (pow_pos _)]
      have e6 : ∀ Q : Nat, 2 ^ 32 * Q = 2 ^ (32 - b) * (Q * 2 ^ b) := fun Q => by
        rw [Nat.mul_comm Q, ← Nat.mul_assoc, ← Nat.pow_add]; congr 2; omega
      rw [e4, e3, e5, e6, Nat.add_mul_div_left _ _ (pow_pos _), ← h0]
      generalize nv ws / 2 ^ (32 * (j + 1)) = Q
      generalize ws.getD j 0 / 2 ^ (32 - b) = y
      have em : Q * 2 ^ b % 2 ^ 32 = Q % 2 ^ 32 * 2 ^ b % 2 ^ 32 := by
        conv => lhs; rw [Nat.mul_mod]
        conv => rhs; rw [Nat.mul_mod, Nat.mod_mod]
      rw [Nat.add_comm (Q % 2 ^ 32 * 2 ^ b) y, Nat.add_mod, em, ← Nat.add_mod]
theorem left_all {ws : List Nat} (h : W32 ws) (k : Nat) : nv (dgs (nv ws * 2 ^ k) (ws.length + k / 32 + 1)) = nv ws * 2 ^ k := by
  rw [nv_dgs]
  refine Nat.mod_eq_of_lt ?_
  have h1 := nv_lt h
  have h2 : 2 ^ k ≤ 2 ^ (32 * (k / 32 + 1)) := pow_le (by omega)
  rw [show 32 * (ws.length + k / 32 + 1) = 32 * ws.length + 32 * (k / 32 + 1) by omega, Nat.pow_add]
  exact Nat.lt_of_lt_of_le (Nat.mul_lt_mul_of_pos_right h1 (pow_pos k)) (Nat.mul_le_mul_left _ h2)

/-- the order, from the highest word on -/
theorem less_at {ws os : List Nat} (hw : W32 ws) (ho : W32 os) {i : Nat} (h : nv (ws.drop (i + 1)) = nv (os.drop (i + 1))) (hne : ws.getD i 0 ≠ os.getD i 0) :
    decide (ws.getD i 0 < os.getD i 0) = decide (nv ws < nv os) := by
  obtain ⟨a1, a2⟩ := nv_split ws hw i
  obtain ⟨b1, b2⟩ := nv_split os ho i
  have key : ∀ {A B P X Y : Nat}, A < P → X < Y → A + P * X < B + P * Y := fun {A B P X Y} h1 h2 => by
    have : P * (X + 1) ≤ P * Y := Nat.mul_le_mul_left _ h2
    rw [Nat.mul_add] at this; omega
  have x1 := nv_next ws i
  have x2 := nv_next os i
  rw [h] at x1
  rcases Nat.lt_or_gt_of_ne hne with g | g
  · rw [decide_eq_true g, decide_eq_true]
    rw [a1, b1]
    exact key a2 (by omega)
  · rw [decide_eq_false (by omega), decide_eq_false]
    rw [a1, b1]
    have := key (B := nv (ws.take i)) b2 (show nv (os.drop i) < nv (ws.drop i) by omega)
    omega
theorem less_eq {ws os : List Nat} {i : Nat} (h : nv (ws.drop (i + 1)) = nv (os.drop (i + 1))) (he : ws.getD i 0 = os.getD i 0) : nv (ws.drop i) = nv (os.drop i) := by
  rw [nv_next ws i, nv_next os i, h, he]
end Go.Proofs.Ytbhallblmphlmaa.Flt

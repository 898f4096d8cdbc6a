/-
  Chains of words: what comes behind two words, by a function of the last two. No program in sight.
-/
import Derived.Test.YtmhdjhfkndfhmaaFch
namespace Go.Proofs.Ytmhdjhfkndfhmaa.Flt

/-- the chain stops behind a nought or what is no number -/
def stopw (b : Nat) : Bool := decide (rg b = 0 ∨ INF < rg b)
theorem stopw_vl (b : Nat) : stopw b = stopv (vl b) := by
  unfold stopw
  rcases vl_cases b with ⟨h, e⟩ | ⟨h, e⟩ | ⟨h, e⟩ <;> rw [e]
  · exact decide_eq_true (Or.inr h)
  · have hI := INF_val
    exact decide_eq_false (by omega)
  · show _ = decide (fv b = 0)
    rw [decide_eq_decide, fv_zero_iff]; omega

def chw (f : Nat → Nat → Nat) : Nat → Nat → Nat → List Nat
  | 0, _, _ => []
  | k + 1, a, b => if stopw b then [] else f a b :: chw f k b (f a b)
theorem chw_stop (f : Nat → Nat → Nat) (k a : Nat) {b : Nat} (h : stopw b = true) : chw f k a b = [] := by
  cases k with
  | zero => rfl
  | succ k => unfold chw; rw [h]; rfl
theorem chw_go (f : Nat → Nat → Nat) (k a : Nat) {b : Nat} (h : stopw b = false) : chw f (k + 1) a b = f a b :: chw f k b (f a b) := by
  show (if stopw b then [] else _) = _
  rw [h]; rfl
theorem chw_len (f : Nat → Nat → Nat) : ∀ k a b, (chw f k a b).length ≤ k := by
  intro k
  induction k with
  | zero => intro a b; exact Nat.le_refl _
  | succ k ih =>
    intro a b
    cases h : stopw b
    · rw [chw_go f k a h]; simpa using ih b (f a b)
    · rw [chw_stop f _ a h]; exact Nat.zero_le _
theorem chw_words {f : Nat → Nat → Nat} (hf : ∀ a b, a < 2 ^ 64 → f a b < 2 ^ 64) : ∀ k a b, a < 2 ^ 64 → b < 2 ^ 64 → ∀ z ∈ chw f k a b, z < 2 ^ 64 := by
  intro k
  induction k with
  | zero => intro a b _ _ z hz; cases hz
  | succ k ih =>
    intro a b ha hb z hz
    cases h : stopw b
    · rw [chw_go f k a h] at hz
      rcases List.mem_cons.1 hz with rfl | hz
      · exact hf a b ha
      · exact ih b (f a b) hb (hf a b ha) z hz
    · rw [chw_stop f _ a h] at hz; cases hz
theorem chw_vl {f : Nat → Nat → Nat} {g : Val → Val → Val} (hw : ∀ a b, a < 2 ^ 64 → f a b < 2 ^ 64) (hf : ∀ a b, a < 2 ^ 64 → vl (f a b) = g (vl a) (vl b)) : ∀ k a b, a < 2 ^ 64 → b < 2 ^ 64 → (chw f k a b).map vl = chn g k (vl a) (vl b) := by
  intro k
  induction k with
  | zero => intro a b _ _; rfl
  | succ k ih =>
    intro a b ha hb
    have hs := stopw_vl b
    cases h : stopw b
    · rw [h] at hs
      rw [chw_go f k a h, List.map_cons, ih b (f a b) hb (hw a b ha), hf a b ha]
      show _ = if stopv (vl b) then [] else _
      rw [← hs]; rfl
    · rw [h] at hs
      rw [chw_stop f _ a h]
      show _ = if stopv (vl b) then [] else _
      rw [← hs]; rfl

/-- where a chain has come to: 'done' is behind x, y; the last two are a, b -/
structure ChSt (f : Nat → Nat → Nat) (x y : Nat) (done : List Nat) (a b : Nat) : Prop where
  all : done ++ chw f (198 - done.length) a b = chw f 198 x y
  a_lt : a < 2 ^ 64
  b_lt : b < 2 ^ 64
  len : done.length ≤ 198

theorem ChSt.start (f : Nat → Nat → Nat) {x y : Nat} (hx : x < 2 ^ 64) (hy : y < 2 ^ 64) : ChSt f x y [] x y := ⟨rfl, hx, hy, by simp⟩
theorem ChSt.step {f : Nat → Nat → Nat} (hf : ∀ a b, a < 2 ^ 64 → f a b < 2 ^ 64) {x y : Nat} {done : List Nat} {a b : Nat} (h : ChSt f x y done a b) (hs : stopw b = false) (hl : done.length < 198) : ChSt f x y (done ++ [f a b]) b (f a b) := by
  refine ⟨?_, h.b_lt, hf a b h.a_lt, by simp; omega⟩
  have := h.all
  obtain ⟨k, hk⟩ : ∃ k, 198 - done.length = k + 1 := ⟨197 - done.length, by omega⟩
  rw [hk, chw_go f k a hs] at this
  rw [List.length_append, List.length_singleton, show 198 - (done.length + 1) = k by omega, List.append_assoc]
  exact this
theorem ChSt.done_stop {f : Nat → Nat → Nat} {x y : Nat} {done : List Nat} {a b : Nat} (h : ChSt f x y done a b) (hs : stopw b = true) : done = chw f 198 x y := by
  have := h.all
  rw [chw_stop f _ a hs, List.append_nil] at this
  exact this
theorem ChSt.done_full {f : Nat → Nat → Nat} {x y : Nat} {done : List Nat} {a b : Nat} (h : ChSt f x y done a b) (hl : done.length = 198) : done = chw f 198 x y := by
  have := h.all
  rw [hl] at this
  show _ = _
  rw [← this]
  exact (List.append_nil _).symm

/-- each number behind the second one is made of the two before it -/
theorem chw_get (f : Nat → Nat → Nat) : ∀ (k a b i : Nat), i + 2 < (a :: b :: chw f k a b).length → stopw ((a :: b :: chw f k a b).getD (i + 1) 0) = false ∧ (a :: b :: chw f k a b).getD (i + 2) 0 = f ((a :: b :: chw f k a b).getD i 0) ((a :: b :: chw f k a b).getD (i + 1) 0) := by
  intro k
  induction k with
  | zero => intro a b i h; exact absurd h (by show ¬ i + 2 < 2; omega)
  | succ k ih =>
    intro a b i h
    cases hs : stopw b
    · rw [chw_go f k a hs] at h ⊢
      cases i with
      | zero => exact ⟨hs, rfl⟩
      | succ i =>
        have := ih b (f a b) i (by simp at h ⊢; omega)
        exact this
    · rw [chw_stop f _ a hs] at h
      exact absurd h (by show ¬ i + 2 < 2; omega)
theorem chw_fin {f : Nat → Nat → Nat} (hf : ∀ a b, rg a < INF → rg b < INF → stopw b = false → rg (f a b) < INF) : ∀ (k a b : Nat), rg a < INF → rg b < INF → ∀ z ∈ a :: b :: chw f k a b, rg z < INF := by
  intro k
  induction k with
  | zero =>
    intro a b ha hb z hz
    rcases List.mem_cons.1 hz with rfl | hz
    · exact ha
    · rcases List.mem_cons.1 hz with rfl | hz
      · exact hb
      · cases hz
  | succ k ih =>
    intro a b ha hb z hz
    rcases List.mem_cons.1 hz with rfl | hz
    · exact ha
    cases hs : stopw b
    · rw [chw_go f k a hs] at hz
      exact ih b (f a b) hb (hf a b ha hb hs) z hz
    · rw [chw_stop f _ a hs] at hz
      rcases List.mem_cons.1 hz with rfl | hz
      · exact hb
      · cases hz
theorem stopw_false {b : Nat} (h : stopw b = false) : rg b ≠ 0 ∧ rg b ≤ INF := by
  have := of_decide_eq_false h
  omega
theorem modW_fin {a b : Nat} (ha : rg a < INF) (hs : stopw b = false) : rg (modW a b) < INF ∧ rg (modW a b) < rg b ∧ sg (modW a b) = sg a := by
  obtain ⟨h0, h1⟩ := stopw_false hs
  have hF := modW_fits (x := a) (y := b) ha h0
  rw [modW_num ha h0 h1]
  refine ⟨fin_mkwd _ hF.rep hF.lt, ?_, sg_mkwd _ hF.rep hF.lt⟩
  rw [rg_mkwd _ hF.rep hF.lt]
  have h3 := (wd_lt_iff hF.rep (rep_rv (rg b))).2 (Nat.mod_lt _ (rv_pos (by omega)))
  rw [wd_rv] at h3
  exact h3

/-- the tests of the loop -/
theorem stop_cases (b : Nat) : (stopw b = false ∧ (FloatKind.f64.format.order b 0 != some .eq) = true ∧ (FloatKind.f64.format.order b b == some .eq) = true) ∨
    (stopw b = true ∧ (FloatKind.f64.format.order b 0 != some .eq) = false) ∨ (stopw b = true ∧ (FloatKind.f64.format.order b 0 != some .eq) = true ∧ (FloatKind.f64.format.order b b == some .eq) = false) := by
  have hI := INF_val
  have hk := key_natAbs b
  rcases Nat.lt_or_ge INF (rg b) with h | h
  · refine Or.inr (Or.inr ⟨decide_eq_true (Or.inr h), ?_, ?_⟩)
    · rw [c_nan (Or.inl h)]; rfl
    · rw [c_self', nan_true.2 h]; rfl
  · by_cases h0 : rg b = 0
    · refine Or.inr (Or.inl ⟨decide_eq_true (Or.inl h0), ?_⟩)
      rw [c_ne h rg_zero_le, key_zero, decide_eq_false (by omega)]
    · refine Or.inl ⟨decide_eq_false (by omega), ?_, ?_⟩
      · rw [c_ne h rg_zero_le, key_zero, decide_eq_true (by omega)]
      · rw [c_self', nan_false.2 h]; rfl
end Go.Proofs.Ytmhdjhfkndfhmaa.Flt

/-
  Plain facts about chains of remainders of words: they are short. No program in sight.
-/
import Derived.Test.YtmhdjhfkndfhmaaChw
namespace Go.Proofs.Ytmhdjhfkndfhmaa.Flt

theorem modW_w' (a b : Nat) (_ : a < 2 ^ 64) : modW a b < 2 ^ 64 := modW_lt
theorem remW_w' (a b : Nat) (h : a < 2 ^ 64) : remW a b < 2 ^ 64 := remW_lt h

theorem rep_fv (x : Nat) : Rep (fv x).natAbs := by rw [fv_natAbs]; exact rep_rv _

/-- chains with what is not finite are at most two numbers long behind the first two -/
theorem chn_odd {f : Val → Val → Val} (hf : ∀ a b : Val, (∀ u v, ¬ (a = .num u ∧ b = .num v)) → (∀ u s, ¬ (a = .num u ∧ b = .inf s)) → f a b = .nan) (hi : ∀ u s, f (.num u) (.inf s) = .num u)
    (k : Nat) (a b : Val) (h : ∀ u v, ¬ (a = .num u ∧ b = .num v)) : (chn f (k + 3) a b).length ≤ 2 := by
  have stop : ∀ (k : Nat) (a b : Val), stopv b = true → chn f k a b = [] := by
    intro k a b hb
    cases k with
    | zero => rfl
    | succ k => show (if stopv b then [] else _) = _; rw [hb]; rfl
  have one : ∀ (k : Nat) (a b : Val), f a b = .nan → (chn f (k + 1) a b).length ≤ 1 := by
    intro k a b hn
    show (if stopv b then [] else f a b :: chn f k b (f a b)).length ≤ 1
    split
    · exact Nat.zero_le _
    · rw [hn, stop k b .nan rfl]; exact Nat.le_refl _
  cases a with
  | nan => exact Nat.le_trans (one _ _ _ (hf _ _ h (fun u s hh => by cases hh.1))) (by omega)
  | inf s => exact Nat.le_trans (one _ _ _ (hf _ _ h (fun u s hh => by cases hh.1))) (by omega)
  | num u =>
    cases b with
    | nan => exact Nat.le_trans (one _ _ _ (hf _ _ h (fun u s hh => by cases hh.2))) (by omega)
    | inf s =>
      show (f (.num u) (.inf s) :: chn f (k + 2) (.inf s) (f (.num u) (.inf s))).length ≤ 2
      rw [hi]
      have : (chn f (k + 2) (.inf s) (.num u)).length ≤ 1 := one (k + 1) (.inf s) (.num u) (hf _ _ (fun u v hh => by cases hh.1) (fun u s hh => by cases hh.1))
      simp only [List.length_cons]; omega
    | num v => exact absurd ⟨rfl, rfl⟩ (h u v)

theorem modv_odd (a b : Val) (h1 : ∀ u v, ¬ (a = .num u ∧ b = .num v)) (h2 : ∀ u s, ¬ (a = .num u ∧ b = .inf s)) : modv a b = .nan := by
  cases a with
  | nan => rfl
  | inf s => rfl
  | num u => cases b with
    | nan => rfl
    | inf s => exact absurd ⟨rfl, rfl⟩ (h2 u s)
    | num v => exact absurd ⟨rfl, rfl⟩ (h1 u v)
theorem remv_odd (a b : Val) (h1 : ∀ u v, ¬ (a = .num u ∧ b = .num v)) (h2 : ∀ u s, ¬ (a = .num u ∧ b = .inf s)) : remv a b = .nan := by
  cases a with
  | nan => rfl
  | inf s => rfl
  | num u => cases b with
    | nan => rfl
    | inf s => exact absurd ⟨rfl, rfl⟩ (h2 u s)
    | num v => exact absurd ⟨rfl, rfl⟩ (h1 u v)

theorem not_both {x y : Nat} (h : ¬ (rg x < INF ∧ rg y < INF)) : ∀ u v, ¬ (vl x = .num u ∧ vl y = .num v) := by
  rintro u v ⟨h1, h2⟩
  apply h
  constructor
  · rcases vl_cases x with ⟨_, e⟩ | ⟨_, e⟩ | ⟨hh, _⟩
    · rw [e] at h1; cases h1
    · rw [e] at h1; cases h1
    · exact hh
  · rcases vl_cases y with ⟨_, e⟩ | ⟨_, e⟩ | ⟨hh, _⟩
    · rw [e] at h2; cases h2
    · rw [e] at h2; cases h2
    · exact hh

theorem chw_mod_len {x y : Nat} (hx : x < 2 ^ 64) (hy : y < 2 ^ 64) : (chw modW 198 x y).length ≤ 107 := by
  have e : (chw modW 198 x y).length = (chn modv 198 (vl x) (vl y)).length := by
    rw [← chw_vl modW_w' (fun a b ha => vl_modW a b ha) 198 x y hx hy, List.length_map]
  rw [e]
  by_cases h : rg x < INF ∧ rg y < INF
  · rw [vl_fin h.1, vl_fin h.2]
    have hs := cE_short (rep_fv x) (rep_fv y)
    have := (chn_mod 198 (fv x) (fv y) (by omega)).2
    have hl : ((chn modv 198 (.num (fv x)) (.num (fv y))).map mg).length = (cE (fv x).natAbs (fv y).natAbs).length := by rw [this]
    rw [List.length_map] at hl
    omega
  · have : (chn modv 198 (vl x) (vl y)).length ≤ 2 := chn_odd (f := modv) modv_odd (fun _ _ => rfl) 195 (vl x) (vl y) (not_both h)
    omega

theorem chw_rem_len {x y : Nat} (hx : x < 2 ^ 64) (hy : y < 2 ^ 64) : (chw remW 198 x y).length ≤ 107 := by
  have e : (chw remW 198 x y).length = (chn remv 198 (vl x) (vl y)).length := by
    rw [← chw_vl remW_w' (fun a b _ => vl_remW a b) 198 x y hx hy, List.length_map]
  rw [e]
  by_cases h : rg x < INF ∧ rg y < INF
  · rw [vl_fin h.1, vl_fin h.2]
    have hs := cE_short (rep_fv x) (rep_fv y)
    have hs2 := cN_short (fv y).natAbs (fv x).natAbs
    have := (chn_rem 198 (fv x) (fv y) (by omega)).2
    have hl : ((chn remv 198 (.num (fv x)) (.num (fv y))).map mg).length = (cN (fv x).natAbs (fv y).natAbs).length := by rw [this]
    rw [List.length_map] at hl
    omega
  · have : (chn remv 198 (vl x) (vl y)).length ≤ 2 := chn_odd (f := remv) remv_odd (fun _ _ => rfl) 195 (vl x) (vl y) (not_both h)
    omega

theorem chw_more (f : Nat → Nat → Nat) : ∀ (k a b : Nat), (chw f k a b).length < k → chw f (k + 1) a b = chw f k a b := by
  intro k
  induction k with
  | zero => intro a b h; exact absurd h (Nat.not_lt_zero _)
  | succ k ih =>
    intro a b h
    cases hs : stopw b
    · rw [chw_go f _ a hs] at h ⊢
      rw [chw_go f k a hs, ih]
      simp only [List.length_cons] at h
      omega
    · rw [chw_stop f _ a hs, chw_stop f _ a hs]
end Go.Proofs.Ytmhdjhfkndfhmaa.Flt

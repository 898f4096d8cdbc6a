/-
  What a word of binary64 stands for, the sign of a nought left out; sums, products and FMA on such values. No program in sight.
-/
import Derived.Test.YtelhgahbhbinoaaFlc
namespace Go.Proofs.Ytelhgahbhbinoaa.Flt
open Ieee

/-- what a word stands for: the sign of a nought makes no difference -/
inductive Val where
  | nan
  | inf (s : Bool)
  | num (v : Int)

def vl (b : Nat) : Val := if INF < rg b then .nan else if rg b = INF then .inf (sg b) else .num (fv b)
theorem vl_nan {b : Nat} (h : INF < rg b) : vl b = .nan := by unfold vl; rw [if_pos h]
theorem vl_inf {b : Nat} (h : rg b = INF) : vl b = .inf (sg b) := by unfold vl; rw [if_neg (by omega), if_pos h]
theorem vl_fin {b : Nat} (h : rg b < INF) : vl b = .num (fv b) := by unfold vl; rw [if_neg (by omega), if_neg (by omega)]
theorem vl_cases (b : Nat) : (INF < rg b ∧ vl b = .nan) ∨ (rg b = INF ∧ vl b = .inf (sg b)) ∨ (rg b < INF ∧ vl b = .num (fv b)) := by
  rcases Nat.lt_or_ge INF (rg b) with h | h
  · exact Or.inl ⟨h, vl_nan h⟩
  · rcases Nat.lt_or_ge (rg b) INF with h' | h'
    · exact Or.inr (Or.inr ⟨h', vl_fin h'⟩)
    · exact Or.inr (Or.inl ⟨by omega, vl_inf (by omega)⟩)

theorem key_inf {a : Nat} (h : rg a = INF) : key a = if sg a then -(INF : Int) else (INF : Int) := by unfold key; rw [h]

theorem same_vl (a b : Nat) : same a b = true ↔ vl a = vl b := by
  rw [same_iff, nan_true, nan_true, nan_false, nan_false]
  have hI : (0 : Int) < (INF : Int) := by decide
  rcases vl_cases a with ⟨h1, e1⟩ | ⟨h1, e1⟩ | ⟨h1, e1⟩ <;> rcases vl_cases b with ⟨h2, e2⟩ | ⟨h2, e2⟩ | ⟨h2, e2⟩ <;> rw [e1, e2]
  · exact ⟨fun _ => rfl, fun _ => Or.inl ⟨h1, h2⟩⟩
  · exact ⟨fun h => by omega, fun h => by cases h⟩
  · exact ⟨fun h => by omega, fun h => by cases h⟩
  · exact ⟨fun h => by omega, fun h => by cases h⟩
  · rw [key_inf h1, key_inf h2]
    constructor
    · rintro (⟨h, _⟩ | ⟨_, _, h⟩)
      · omega
      · cases ha : sg a <;> cases hb : sg b <;> rw [ha, hb] at h <;> first | rfl | (exfalso; simp at h; omega)
    · intro h
      injection h with h
      rw [h]
      exact Or.inr ⟨by omega, by omega, rfl⟩
  · constructor
    · rintro (⟨h, _⟩ | ⟨_, _, h⟩)
      · omega
      · exfalso
        have k1 := key_natAbs a; have k2 := key_natAbs b; omega
    · intro h; cases h
  · exact ⟨fun h => by omega, fun h => by cases h⟩
  · constructor
    · rintro (⟨h, _⟩ | ⟨_, _, h⟩)
      · omega
      · exfalso
        have k1 := key_natAbs a; have k2 := key_natAbs b; omega
    · intro h; cases h
  · have hk := fv_eq_iff a b
    constructor
    · rintro (⟨h, _⟩ | ⟨_, _, h⟩)
      · omega
      · rw [hk.2 h]
    · intro h
      injection h with h
      exact Or.inr ⟨by omega, by omega, hk.1 h⟩

theorem vl_same {a b : Nat} (h : vl a = vl b) : same a b = true := (same_vl a b).2 h

/-- 'T / 2^k' units, rounded once -/
def rnd (T : Int) (k : Nat) : Val := if INF ≤ ru T.natAbs k then .inf (decide (T < 0)) else .num (if T < 0 then -(rv (ru T.natAbs k) : Int) else (rv (ru T.natAbs k) : Int))

theorem vl_rs (s : Bool) (T : Int) (k : Nat) : vl (rs s T k) = rnd T k := by
  have hI := INF_val
  unfold rnd
  by_cases h : INF ≤ ru T.natAbs k
  · rw [if_pos h]
    have hr : rg (rs s T k) = INF := by rw [rg_rs, Nat.min_eq_right h]
    have h0 : T ≠ 0 := by
      rintro rfl
      rw [Int.natAbs_zero, ru_zero, hI] at h
      exact absurd h (by decide)
    rw [vl_inf hr, sg_rs, if_neg h0]
  · rw [if_neg h]
    have hr : rg (rs s T k) = ru T.natAbs k := by rw [rg_rs, Nat.min_eq_left (by omega)]
    rw [vl_fin (by rw [hr]; omega)]
    unfold fv
    rw [hr, sg_rs]
    by_cases h0 : T = 0
    · subst h0
      rw [if_pos rfl, Int.natAbs_zero, ru_zero, rv_zero]
      cases s <;> rfl
    · rw [if_neg h0]
      by_cases h1 : T < 0
      · rw [decide_eq_true h1, if_pos rfl, if_pos h1]
      · rw [decide_eq_false h1, if_neg (by decide), if_neg h1]

def negv : Val → Val
  | .nan => .nan
  | .inf s => .inf (!s)
  | .num v => .num (-v)
theorem negv_negv (a : Val) : negv (negv a) = a := by
  cases a with
  | nan => rfl
  | inf s => simp [negv]
  | num v => simp [negv]
theorem vl_neg {x : Nat} (hx : x < 2 ^ 64) : vl (Op.negFloat .f64 x) = negv (vl x) := by
  rcases vl_cases x with ⟨h1, e1⟩ | ⟨h1, e1⟩ | ⟨h1, e1⟩ <;> rw [e1]
  · exact vl_nan (by rw [rg_neg x hx]; exact h1)
  · rw [vl_inf (by rw [rg_neg x hx]; exact h1), sg_neg x hx]; rfl
  · rw [vl_fin (by rw [rg_neg x hx]; exact h1), fv_neg x hx]; rfl

theorem rnd_neg (T : Int) (k : Nat) : rnd (-T) k = negv (rnd T k) := by
  have hI := INF_val
  unfold rnd
  rw [Int.natAbs_neg]
  by_cases h : INF ≤ ru T.natAbs k
  · rw [if_pos h, if_pos h]
    have h0 : T ≠ 0 := by
      rintro rfl
      rw [Int.natAbs_zero, ru_zero] at h; omega
    show Val.inf _ = Val.inf _
    congr 1
    by_cases h1 : T < 0
    · rw [decide_eq_true h1, decide_eq_false (by omega)]; rfl
    · rw [decide_eq_false h1, decide_eq_true (by omega)]; rfl
  · rw [if_neg h, if_neg h]
    show Val.num _ = Val.num _
    congr 1
    by_cases h0 : T = 0
    · subst h0
      rw [Int.natAbs_zero, ru_zero, rv_zero]; rfl
    · by_cases h1 : T < 0
      · rw [if_pos h1, if_neg (by omega)]; omega
      · rw [if_neg h1, if_pos (by omega)]

/-- a number that the format has is not rounded -/
theorem rnd_exact {b : Nat} (hf : rg b < INF) (k : Nat) : rnd (fv b * 2 ^ k) k = .num (fv b) := by
  have h1 : (fv b * 2 ^ k).natAbs = rv (rg b) * 2 ^ k := by
    have : (2 : Int) ^ k = ((2 ^ k : Nat) : Int) := by simp
    rw [Int.natAbs_mul, fv_natAbs, this, Int.natAbs_natCast]
  have hp : (0 : Int) < 2 ^ k := by
    have : (2 : Int) ^ k = ((2 ^ k : Nat) : Int) := by simp
    have := pow_pos k
    omega
  unfold rnd
  rw [h1, ru_exact, if_neg (by omega)]
  congr 1
  have hn := fv_natAbs b
  by_cases h : fv b < 0
  · rw [if_pos (Int.mul_neg_of_neg_of_pos h hp)]; omega
  · have := Int.mul_nonneg (show 0 ≤ fv b by omega) (show (0 : Int) ≤ 2 ^ k by omega)
    rw [if_neg (by omega)]; omega

def addv : Val → Val → Val
  | .nan, _ => .nan
  | .inf _, .nan => .nan
  | .inf s, .inf t => if s = t then .inf s else .nan
  | .inf s, .num _ => .inf s
  | .num _, .nan => .nan
  | .num _, .inf t => .inf t
  | .num u, .num v => rnd (u + v) 0
def mulv : Val → Val → Val
  | .nan, _ => .nan
  | .inf _, .nan => .nan
  | .inf s, .inf t => .inf (s ^^ t)
  | .inf s, .num v => if v = 0 then .nan else .inf (s ^^ decide (v < 0))
  | .num _, .nan => .nan
  | .num v, .inf s => if v = 0 then .nan else .inf (s ^^ decide (v < 0))
  | .num u, .num v => rnd (u * v) e0
/-- the exact product, for FMA -/
def fmv : Val → Val → Val → Val
  | .num u, .num v, .num z => rnd (u * v + z * (U : Int)) e0
  | .num _, .num _, .inf s => .inf s
  | .num _, .num _, .nan => .nan
  | a, b, c => addv (mulv a b) c

theorem write_inf (s : Bool) : vl (double.write (.infinity s)) = .inf s := by
  have e : double.write (.infinity s) = Flt.mk s INF := by cases s <;> rfl
  rw [e, vl_inf (rg_mk s INF_lt), sg_mk s INF_lt]

theorem fv_sign {b : Nat} : fv b ≠ 0 → sg b = decide (fv b < 0) := by
  intro h
  have hp := rv_pos (r := rg b)
  have : rg b ≠ 0 := fun x => h ((fv_zero_iff b).2 x)
  unfold fv
  cases sg b
  · rw [if_neg (by decide), decide_eq_false (by omega)]
  · rw [if_pos rfl, decide_eq_true (by have := hp (by omega); omega)]

theorem read_num {b : Nat} (h : rg b < INF) : ∃ m e, double.read b = .number (sg b) m e ∧ (m = 0 ↔ fv b = 0) := by
  obtain ⟨m, e, hr, hm, _, _⟩ := read_fin h
  refine ⟨m, _, hr, ?_⟩
  rw [fv_zero_iff]
  have hp := pow_pos e
  constructor
  · intro h0
    rw [h0, Nat.zero_mul] at hm
    have := le_rv (rg b); omega
  · intro h0
    rw [h0, rv_zero] at hm
    rcases Nat.mul_eq_zero.1 hm with h | h
    · exact h
    · omega

/-- an answer, or no answer, as a value -/
def ov (o : Option Nat) : Val := match o with | some r => vl r | none => .nan

theorem ov_add (a b : Nat) : ov (double.add a b) = addv (vl a) (vl b) := by
  rcases vl_cases a with ⟨h1, e1⟩ | ⟨h1, e1⟩ | ⟨h1, e1⟩ <;> rcases vl_cases b with ⟨h2, e2⟩ | ⟨h2, e2⟩ | ⟨h2, e2⟩ <;> rw [e1, e2]
  · unfold Format.add; rw [read_nan h1]; rfl
  · unfold Format.add; rw [read_nan h1]; rfl
  · unfold Format.add; rw [read_nan h1]; rfl
  · unfold Format.add; rw [read_inf h1, read_nan h2]; rfl
  · unfold Format.add; rw [read_inf h1, read_inf h2]
    simp only [Datum.sum, addv]
    split
    · exact write_inf _
    · rfl
  · obtain ⟨m, e, hr, _⟩ := read_num h2
    unfold Format.add; rw [read_inf h1, hr]; exact write_inf _
  · obtain ⟨m, e, hr, _⟩ := read_num h1
    unfold Format.add; rw [read_nan h2, hr]; rfl
  · obtain ⟨m, e, hr, _⟩ := read_num h1
    unfold Format.add; rw [read_inf h2, hr]; exact write_inf _
  · rw [add_fin h1 h2]; exact vl_rs _ _ _

theorem ov_mul (a b : Nat) : ov (double.mul a b) = mulv (vl a) (vl b) := by
  rcases vl_cases a with ⟨h1, e1⟩ | ⟨h1, e1⟩ | ⟨h1, e1⟩ <;> rcases vl_cases b with ⟨h2, e2⟩ | ⟨h2, e2⟩ | ⟨h2, e2⟩ <;> rw [e1, e2]
  · unfold Format.mul; rw [read_nan h1]; rfl
  · unfold Format.mul; rw [read_nan h1]; rfl
  · unfold Format.mul; rw [read_nan h1]; rfl
  · unfold Format.mul; rw [read_inf h1, read_nan h2]; rfl
  · unfold Format.mul; rw [read_inf h1, read_inf h2]; exact write_inf _
  · obtain ⟨m, e, hr, hz⟩ := read_num h2
    unfold Format.mul; rw [read_inf h1, hr]
    simp only [Datum.product, mulv, hz]
    split
    · rfl
    · rename_i h; rw [← fv_sign h]; exact write_inf _
  · obtain ⟨m, e, hr, _⟩ := read_num h1
    unfold Format.mul; rw [read_nan h2, hr]; rfl
  · obtain ⟨m, e, hr, hz⟩ := read_num h1
    unfold Format.mul; rw [read_inf h2, hr]
    simp only [Datum.product, mulv, hz]
    split
    · rfl
    · rename_i h; rw [← fv_sign h]; exact write_inf _
  · rw [mul_fin h1 h2]; exact vl_rs _ _ _

/-- an infinite product, and a sum with it -/
theorem ov_sum_inf (s : Bool) (c : Nat) : ov (((Datum.infinity s).sum (double.read c)).map double.write) = addv (.inf s) (vl c) := by
  rcases vl_cases c with ⟨h, e⟩ | ⟨h, e⟩ | ⟨h, e⟩ <;> rw [e]
  · rw [read_nan h]; rfl
  · rw [read_inf h]
    simp only [Datum.sum, addv]
    split
    · exact write_inf _
    · rfl
  · obtain ⟨m, e, hr, _⟩ := read_num h
    rw [hr]; exact write_inf _

theorem ov_fma (a b c : Nat) : ov (double.fma a b c) = fmv (vl a) (vl b) (vl c) := by
  rcases vl_cases a with ⟨h1, e1⟩ | ⟨h1, e1⟩ | ⟨h1, e1⟩ <;> rcases vl_cases b with ⟨h2, e2⟩ | ⟨h2, e2⟩ | ⟨h2, e2⟩ <;> rw [e1, e2]
  · unfold Format.fma; rw [read_nan h1]; rfl
  · unfold Format.fma; rw [read_nan h1]; rfl
  · unfold Format.fma; rw [read_nan h1]; rfl
  · unfold Format.fma; rw [read_inf h1, read_nan h2]; rfl
  · unfold Format.fma; rw [read_inf h1, read_inf h2]; exact ov_sum_inf _ c
  · obtain ⟨m, e, hr, hz⟩ := read_num h2
    unfold Format.fma; rw [read_inf h1, hr]
    simp only [Datum.product, fmv, mulv, hz]
    split
    · rfl
    · rename_i h; rw [← fv_sign h]; exact ov_sum_inf _ c
  · obtain ⟨m, e, hr, _⟩ := read_num h1
    unfold Format.fma; rw [read_nan h2, hr]; rfl
  · obtain ⟨m, e, hr, hz⟩ := read_num h1
    unfold Format.fma; rw [read_inf h2, hr]
    simp only [Datum.product, fmv, mulv, hz]
    split
    · rfl
    · rename_i h; rw [← fv_sign h]; exact ov_sum_inf _ c
  · rcases vl_cases c with ⟨h3, e3⟩ | ⟨h3, e3⟩ | ⟨h3, e3⟩ <;> rw [e3]
    · obtain ⟨m, e, hr, _⟩ := read_num h1
      obtain ⟨n, f, hs, _⟩ := read_num h2
      unfold Format.fma; rw [hr, hs, read_nan h3]; rfl
    · obtain ⟨m, e, hr, _⟩ := read_num h1
      obtain ⟨n, f, hs, _⟩ := read_num h2
      unfold Format.fma; rw [hr, hs, read_inf h3]; exact write_inf _
    · rw [fma_fin h1 h2 h3]; exact vl_rs _ _ _

/-! ### opposites -/
theorem addv_neg (a b : Val) : addv (negv a) (negv b) = negv (addv a b) := by
  cases a with
  | nan => rfl
  | inf s =>
    cases b with
    | nan => rfl
    | inf t => cases s <;> cases t <;> rfl
    | num v => rfl
  | num u =>
    cases b with
    | nan => rfl
    | inf t => rfl
    | num v =>
      show rnd (-u + -v) 0 = negv (rnd (u + v) 0)
      rw [← rnd_neg]; congr 1; omega
theorem mulv_neg_left (a b : Val) : mulv (negv a) b = negv (mulv a b) := by
  cases a with
  | nan => rfl
  | inf s =>
    cases b with
    | nan => rfl
    | inf t => cases s <;> cases t <;> rfl
    | num v =>
      show (if v = 0 then Val.nan else .inf (!s ^^ decide (v < 0))) = negv (if v = 0 then Val.nan else .inf (s ^^ decide (v < 0)))
      split
      · rfl
      · show Val.inf _ = Val.inf _
        congr 1; cases s <;> simp
  | num u =>
    cases b with
    | nan => rfl
    | inf t =>
      show (if -u = 0 then Val.nan else .inf (t ^^ decide (-u < 0))) = negv (if u = 0 then Val.nan else .inf (t ^^ decide (u < 0)))
      by_cases h : u = 0
      · rw [if_pos h, if_pos (by omega)]; rfl
      · rw [if_neg h, if_neg (by omega)]
        show Val.inf _ = Val.inf _
        congr 1
        by_cases h' : u < 0
        · rw [decide_eq_true h', decide_eq_false (by omega)]; cases t <;> rfl
        · rw [decide_eq_false h', decide_eq_true (by omega)]; cases t <;> rfl
    | num v =>
      show rnd (-u * v) e0 = negv (rnd (u * v) e0)
      rw [← rnd_neg, Int.neg_mul]
theorem mulv_comm (a b : Val) : mulv a b = mulv b a := by
  cases a with
  | nan => cases b <;> rfl
  | inf s =>
    cases b with
    | nan => rfl
    | inf t => show Val.inf _ = Val.inf _; rw [Bool.xor_comm]
    | num v => rfl
  | num u =>
    cases b with
    | nan => rfl
    | inf t => rfl
    | num v => show rnd _ _ = rnd _ _; rw [Int.mul_comm]
theorem mulv_neg_right (a b : Val) : mulv a (negv b) = negv (mulv a b) := by
  rw [mulv_comm, mulv_neg_left, mulv_comm]
theorem fmv_comm (a b c : Val) : fmv a b c = fmv b a c := by
  have h := mulv_comm a b
  cases a with
  | nan => cases b <;> (try rfl)
  | inf s => cases b with
    | nan => rfl
    | inf t => show addv (mulv _ _) c = addv (mulv _ _) c; rw [h]
    | num v => show addv (mulv _ _) c = addv (mulv _ _) c; rw [h]
  | num u => cases b with
    | nan => rfl
    | inf t => show addv (mulv _ _) c = addv (mulv _ _) c; rw [h]
    | num v =>
      cases c with
      | nan => rfl
      | inf s => rfl
      | num z => show rnd _ _ = rnd _ _; rw [Int.mul_comm u v]
theorem fmv_neg (a b c : Val) : fmv (negv a) b (negv c) = negv (fmv a b c) := by
  have h := mulv_neg_left a b
  have h2 := addv_neg (mulv a b) c
  cases a with
  | nan => rfl
  | inf s => show addv (mulv (negv (.inf s)) b) (negv c) = negv (addv (mulv (.inf s) b) c); rw [h, h2]
  | num u => cases b with
    | nan => rfl
    | inf t => show addv (mulv (negv (.num u)) _) (negv c) = negv (addv (mulv _ _) c); rw [h, h2]
    | num v =>
      cases c with
      | nan => rfl
      | inf s => rfl
      | num z =>
        show rnd (-u * v + -z * (U : Int)) e0 = negv (rnd (u * v + z * (U : Int)) e0)
        rw [← rnd_neg]
        congr 1
        rw [Int.neg_mul, Int.neg_mul]; omega

end Go.Proofs.Ytelhgahbhbinoaa.Flt

/-
  The walk of laws.FnNearestShorter: it returns true, for all numbers.
-/
import Derived.Test.YtmhdjhfkndfhmaaEuc
import Derived.Test.YtmhdjhfkndfhmaaNea
import Derived.Test.YtmhdjhfkndfhmaaEul
namespace Go.Proofs.Ytmhdjhfkndfhmaa.LNearestShorter
open Go.RowKit Flt

theorem odd_eq (a b : Val) (h : ∀ u v, ¬ (a = .num u ∧ b = .num v)) : remv a b = modv a b := by
  cases a with
  | nan => rfl
  | inf s => rfl
  | num u => cases b with
    | nan => rfl
    | inf s => rfl
    | num v => exact absurd ⟨rfl, rfl⟩ (h u v)
theorem odd_next (a b : Val) (h : ∀ u v, ¬ (a = .num u ∧ b = .num v)) : ∀ u v, ¬ (b = .num u ∧ modv a b = .num v) := by
  rintro u v ⟨rfl, h2⟩
  cases a with
  | nan => cases h2
  | inf s => cases h2
  | num t => exact absurd ⟨rfl, rfl⟩ (h t u)
theorem chn_odd_eq : ∀ (k : Nat) (a b : Val), (∀ u v, ¬ (a = .num u ∧ b = .num v)) → chn remv k a b = chn modv k a b := by
  intro k
  induction k with
  | zero => intro a b _; rfl
  | succ k ih =>
    intro a b h
    show (if stopv b then [] else remv a b :: chn remv k b (remv a b)) = (if stopv b then [] else modv a b :: chn modv k b (modv a b))
    rw [odd_eq a b h, ih b (modv a b) (odd_next a b h)]

theorem shorter {x y : Nat} (hx : x < 2 ^ 64) (hy : y < 2 ^ 64) : (neaW x y).length ≤ (eucW x y).length := by
  show (chw remW 198 x y).length + 2 ≤ (chw modW 198 x y).length + 2
  have e1 : (chw modW 198 x y).length = (chn modv 198 (vl x) (vl y)).length := by
    rw [← chw_vl modW_w' (fun a b ha => vl_modW a b ha) 198 x y hx hy, List.length_map]
  have e2 : (chw remW 198 x y).length = (chn remv 198 (vl x) (vl y)).length := by
    rw [← chw_vl remW_w' (fun a b _ => vl_remW a b) 198 x y hx hy, List.length_map]
  rw [e1, e2]
  by_cases h : rg x < INF ∧ rg y < INF
  · rw [vl_fin h.1, vl_fin h.2]
    have hs := cE_short (rep_fv x) (rep_fv y)
    have hs2 := cN_short (fv y).natAbs (fv x).natAbs
    have h1 := congrArg List.length (chn_rem 198 (fv x) (fv y) (by omega)).2
    have h2 := congrArg List.length (chn_mod 198 (fv x) (fv y) (by omega)).2
    rw [List.length_map] at h1 h2
    omega
  · rw [chn_odd_eq 198 _ _ (not_both h)]; exact Nat.le_refl _

set_option maxHeartbeats 800000 in
theorem walk (w : World) (x : Nat) (hx : x < 2 ^ 64) (y : Nat) (hy : y < 2 ^ 64) :
    Calls Try.prog 9 #[.float .f64 x, .float .f64 y] w fun e w' => e = .returned (.bool true) ∧ Below w.heap.size w w' := by
  have HE := Lib.hid (fun W : World => euclid_any x y W hx hy)
  have HN := Lib.hid (fun W : World => nearest_any x y W hx hy)
  have hsh := shorter hx hy
  have h2 : 2 ≤ (neaW x y).length := by show 2 ≤ (chw remW 198 x y).length + 2; omega
  have hlen : (eucW x y).length ≤ 200 := by
    have h := chw_len modW 198 x y
    show (chw modW 198 x y).length + 2 ≤ 200
    omega
  generalize eucW x y = L at *
  generalize neaW x y = M at *
  clear hx hy
  go_enter Try.func9, Try.ntmps9
  go_wp2_with fail
  ((with_reducible refine (HN.out _).mono ?_); rintro e w1 ⟨A, c, rfl, hc, hown, hbel⟩)
  rw [fl_len]
  clear hown hc
  generalize M.length = m at *
  go_wp2_with fail
  ((with_reducible refine (HE.out _).mono ?_); rintro e w2 ⟨A2, c2, rfl, hc2, hown2, hbel2⟩)
  rw [fl_len]
  clear hown2 hc2
  generalize L.length = n at *
  go_wp2
  go_ret
  exact ⟨by simp, hbel.trans (hbel2.mono hbel.size)⟩
end Go.Proofs.Ytmhdjhfkndfhmaa.LNearestShorter

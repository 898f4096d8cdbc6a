/-
  The walk of laws.FnEuclidScaled: it returns true, for all numbers and every power.
-/
import Derived.Test.YtmhdjhfkndfhmaaEuc
import Derived.Test.YtmhdjhfkndfhmaaNea
import Derived.Test.YtmhdjhfkndfhmaaEnd
import Derived.Test.YtmhdjhfkndfhmaaScl
import Derived.Test.YtmhdjhfkndfhmaaLawA
import Derived.Test.YtmhdjhfkndfhmaaMid
import Derived.Test.YtmhdjhfkndfhmaaRow
namespace Go.Proofs.Ytmhdjhfkndfhmaa.LEuclidScaled
open Go.RowKit Flt

/-- a value times a number -/
def mulc (c : Int) : Val → Val
  | .nan => .nan
  | .inf s => .inf s
  | .num v => .num (v * c)
theorem chn_mul {f : Val → Val → Val} {c : Int} (hc : c ≠ 0) (hf : ∀ u v : Int, v ≠ 0 → ∃ t, f (.num u) (.num v) = .num t ∧ f (.num (u * c)) (.num (v * c)) = .num (t * c)) : ∀ (k : Nat) (u v : Int), chn f k (.num (u * c)) (.num (v * c)) = (chn f k (.num u) (.num v)).map (mulc c) := by
  intro k
  induction k with
  | zero => intro u v; rfl
  | succ k ih =>
    intro u v
    show (if decide (v * c = 0) then [] else f (.num (u * c)) (.num (v * c)) :: chn f k (.num (v * c)) (f (.num (u * c)) (.num (v * c)))) = (if decide (v = 0) then [] else f (.num u) (.num v) :: chn f k (.num v) (f (.num u) (.num v))).map (mulc c)
    by_cases h : v = 0
    · rw [decide_eq_true h, decide_eq_true (by rw [h, Int.zero_mul])]; rfl
    · obtain ⟨t, e1, e2⟩ := hf u v h
      rw [decide_eq_false h, decide_eq_false (by intro g; rcases Int.mul_eq_zero.1 g with g | g; exact h g; exact hc g), e1, e2, ih]
      rfl
theorem mod_mul {c : Nat} (hc : 0 < c) (u v : Int) (h : v ≠ 0) : ∃ t, modv (.num u) (.num v) = .num t ∧ modv (.num (u * c)) (.num (v * c)) = .num (t * c) := by
  refine ⟨u.tmod v, ?_, ?_⟩
  · show (if v = 0 then Val.nan else .num (u.tmod v)) = _; rw [if_neg h]
  · show (if v * c = 0 then Val.nan else .num ((u * c).tmod (v * c))) = _
    rw [if_neg (by intro g; rcases Int.mul_eq_zero.1 g with g | g; exact h g; omega), Int.mul_comm u, Int.mul_comm v, Int.mul_tmod_mul_of_pos _ _ (by omega), Int.mul_comm]
theorem remN_mul {c : Nat} (hc : 0 < c) (X Y : Nat) : remN (X * c) (Y * c) = remN X Y * c := by
  unfold remN
  have e : X * c % (2 * (Y * c)) = X % (2 * Y) * c := by rw [← Nat.mul_assoc, Nat.mul_mod_mul_right]
  rw [e]
  generalize X % (2 * Y) = R
  have a1 : 2 * (R * c) ≤ Y * c ↔ 2 * R ≤ Y := by
    rw [← Nat.mul_assoc]; exact Nat.mul_le_mul_right_iff hc
  have a2 : 2 * (R * c) < 3 * (Y * c) ↔ 2 * R < 3 * Y := by
    rw [← Nat.mul_assoc, ← Nat.mul_assoc]; exact Nat.mul_lt_mul_right hc
  by_cases h1 : 2 * R ≤ Y
  · rw [if_pos h1, if_pos (a1.2 h1)]; simp
  · rw [if_neg h1, if_neg (fun h => h1 (a1.1 h))]
    by_cases h2 : 2 * R < 3 * Y
    · rw [if_pos h2, if_pos (a2.2 h2), Int.sub_mul]; simp
    · rw [if_neg h2, if_neg (fun h => h2 (a2.1 h)), Int.sub_mul, Int.mul_assoc]; simp
theorem rem_mul {c : Nat} (hc : 0 < c) (u v : Int) (h : v ≠ 0) : ∃ t, remv (.num u) (.num v) = .num t ∧ remv (.num (u * c)) (.num (v * c)) = .num (t * c) := by
  refine ⟨remi u v, ?_, ?_⟩
  · show (if v = 0 then Val.nan else .num (remi u v)) = _; rw [if_neg h]
  · show (if v * c = 0 then Val.nan else .num (remi (u * c) (v * c))) = _
    rw [if_neg (by intro g; rcases Int.mul_eq_zero.1 g with g | g; exact h g; omega)]
    unfold remi
    have n1 : (u * c < 0) ↔ u < 0 := by
      constructor
      · intro g
        rcases Int.lt_or_le u 0 with g2 | g2
        · exact g2
        · have := Int.mul_nonneg g2 (show (0 : Int) ≤ c by omega); omega
      · intro g; exact Int.mul_neg_of_neg_of_pos g (by omega)
    rw [Int.natAbs_mul, Int.natAbs_mul, Int.natAbs_natCast, remN_mul hc]
    by_cases g : u < 0
    · rw [if_pos g, if_pos (n1.2 g), Int.neg_mul]
    · rw [if_neg g, if_neg (fun x => g (n1.1 x))]

/-- a word, scaled to another one -/
theorem ld_up2 {z z' a : Nat} (hz : z < 2 ^ 64) (hf : rg z < INF) (hf' : rg z' < INF) (h : fv z' = fv z * ((2 ^ a : Nat) : Int)) : vl (ld z (a : Int)) = vl z' := by
  have hn : rv (rg z') = rv (rg z) * 2 ^ a := by
    rw [← fv_natAbs z', h, Int.natAbs_mul, Int.natAbs_natCast, fv_natAbs]
  rcases Nat.eq_zero_or_pos (rg z) with h0 | h0
  · rw [ld_keep (Or.inl h0), vl_fin hf, vl_fin hf', h, (fv_zero_iff z).2 h0, Int.zero_mul]
  · have hrg : rg (ld z (a : Int)) = rg z' := by
      rw [ld_fin h0 hf, rg_mk _ (min_INF_lt _), lds_of (rv (rg z)) (a := a) (k := 0) (by omega), ← hn]
      show min (wd _) INF = _
      rw [wd_rv]; omega
    rw [vl_fin (by rw [hrg]; exact hf'), vl_fin hf', h]
    unfold fv
    rw [sg_ld _ hz, hrg, hn]
    split <;> simp [Int.neg_mul]
theorem ld_down2 {z z' a : Nat} (hz : z < 2 ^ 64) (hf : rg z < INF) (hf' : rg z' < INF) (h : fv z = fv z' * ((2 ^ a : Nat) : Int)) : vl (ld z (-(a : Int))) = vl z' := by
  have hn : rv (rg z) = rv (rg z') * 2 ^ a := by
    rw [← fv_natAbs z, h, Int.natAbs_mul, Int.natAbs_natCast, fv_natAbs]
  have hp := pow_pos a
  rcases Nat.eq_zero_or_pos (rg z) with h0 | h0
  · have : fv z' = 0 := by
      rw [(fv_zero_iff z).2 h0] at h
      rcases Int.mul_eq_zero.1 h.symm with g | g
      · exact g
      · omega
    rw [ld_keep (Or.inl h0), vl_fin hf, vl_fin hf', (fv_zero_iff z).2 h0, this]
  · have hrg : rg (ld z (-(a : Int))) = rg z' := by
      rw [ld_fin h0 hf, rg_mk _ (min_INF_lt _), lds_of (rv (rg z)) (a := 0) (k := a) (by omega), hn, Nat.pow_zero, Nat.mul_one, ru_exact]
      omega
    rw [vl_fin (by rw [hrg]; exact hf'), vl_fin hf']
    have h0' : rv (rg z) ≠ 0 := by have := rv_pos h0; omega
    congr 1
    unfold fv at h ⊢
    rw [sg_ld _ hz, hrg]
    rw [hn] at h h0'
    have hx : rv (rg z') ≠ 0 := by intro g; rw [g, Nat.zero_mul] at h0'; exact h0' rfl
    have e : ((rv (rg z') * 2 ^ a : Nat) : Int) = (rv (rg z') : Int) * ((2 ^ a : Nat) : Int) := by rw [Int.natCast_mul]
    rw [e] at h
    have hpos : 0 < (rv (rg z') : Int) * ((2 ^ a : Nat) : Int) := Int.mul_pos (by omega) (by omega)
    generalize (rv (rg z') : Int) = R at *
    generalize ((2 ^ a : Nat) : Int) = P at *
    cases hs : sg z <;> cases hs' : sg z' <;> rw [hs, hs'] at h <;> simp at h ⊢
    · rw [Int.neg_mul] at h; omega
    · omega

theorem list_up {a : Nat} : ∀ L L' : List Nat, L'.map vl = (L.map vl).map (mulc ((2 ^ a : Nat) : Int)) → (∀ z ∈ L, rg z < INF) → (∀ z ∈ L', rg z < INF) → (∀ z ∈ L, z < 2 ^ 64) → L'.map vl = (L.map fun z => ld z (a : Int)).map vl := by
  intro L
  induction L with
  | nil => intro L' h _ _ _; rw [h]; rfl
  | cons z L ih =>
    intro L' h h1 h2 h3
    cases L' with
    | nil => cases h
    | cons z' L' =>
      simp only [List.map_cons, List.cons.injEq] at h
      obtain ⟨e, h⟩ := h
      have f1 := h1 z List.mem_cons_self
      have f2 := h2 z' List.mem_cons_self
      rw [vl_fin f1, vl_fin f2] at e
      show vl z' :: L'.map vl = vl (ld z (a : Int)) :: _
      have e' : fv z' = fv z * ((2 ^ a : Nat) : Int) := by injection e
      rw [ld_up2 (h3 z List.mem_cons_self) f1 f2 e', ih L' h (fun z hz => h1 z (List.mem_cons_of_mem _ hz)) (fun z hz => h2 z (List.mem_cons_of_mem _ hz)) (fun z hz => h3 z (List.mem_cons_of_mem _ hz))]
theorem list_down {a : Nat} : ∀ L L' : List Nat, L.map vl = (L'.map vl).map (mulc ((2 ^ a : Nat) : Int)) → (∀ z ∈ L, rg z < INF) → (∀ z ∈ L', rg z < INF) → (∀ z ∈ L, z < 2 ^ 64) → L'.map vl = (L.map fun z => ld z (-(a : Int))).map vl := by
  intro L
  induction L with
  | nil =>
    intro L' h _ _ _
    cases L' with
    | nil => rfl
    | cons z' L' => cases h
  | cons z L ih =>
    intro L' h h1 h2 h3
    cases L' with
    | nil => cases h
    | cons z' L' =>
      simp only [List.map_cons, List.cons.injEq] at h
      obtain ⟨e, h⟩ := h
      have f1 := h1 z List.mem_cons_self
      have f2 := h2 z' List.mem_cons_self
      rw [vl_fin f1, vl_fin f2] at e
      show vl z' :: L'.map vl = vl (ld z (-(a : Int))) :: _
      have e' : fv z = fv z' * ((2 ^ a : Nat) : Int) := by injection e
      rw [ld_down2 (h3 z List.mem_cons_self) f1 f2 e', ih L' h (fun z hz => h1 z (List.mem_cons_of_mem _ hz)) (fun z hz => h2 z (List.mem_cons_of_mem _ hz)) (fun z hz => h3 z (List.mem_cons_of_mem _ hz))]

/-- numbers in the middle, scaled -/
theorem mid_fin {x : Nat} (h : Mid (rg x)) : rg x < INF := by have := INF_val; rcases h with h | ⟨_, h⟩ <;> omega
theorem mid_up {x a : Nat} (hx : x < 2 ^ 64) (hm : Mid (rg x)) (ha : a ≤ 300) : rg (ld x (a : Int)) < INF ∧ fv (ld x (a : Int)) = fv x * ((2 ^ a : Nat) : Int) := by
  have hI := INF_val
  rcases hm with h0 | ⟨m1, m2⟩
  · rw [ld_keep (Or.inl h0), (fv_zero_iff x).2 h0, Int.zero_mul]; exact ⟨by omega, rfl⟩
  · have e : rg (ld x (a : Int)) = rg x + a * 2 ^ 52 := by
      rw [rg_ld _ hx]
      exact sl_mid (by omega) (by omega) _ (by omega) (by omega) (by omega)
    refine ⟨by omega, ?_⟩
    unfold fv
    rw [sg_ld _ hx, e, rv_shift (by omega)]
    split <;> simp [Int.neg_mul]
theorem mid_down {x a : Nat} (hx : x < 2 ^ 64) (hm : Mid (rg x)) (ha : a ≤ 300) : rg (ld x (-(a : Int))) < INF ∧ fv x = fv (ld x (-(a : Int))) * ((2 ^ a : Nat) : Int) := by
  have hI := INF_val
  rcases hm with h0 | ⟨m1, m2⟩
  · rw [ld_keep (Or.inl h0), (fv_zero_iff x).2 h0, Int.zero_mul]; exact ⟨by omega, rfl⟩
  · obtain ⟨s, hs⟩ : ∃ s, rg x = s + a * 2 ^ 52 := ⟨rg x - a * 2 ^ 52, by omega⟩
    have e : rg (ld x (-(a : Int))) = s := by
      rw [rg_ld _ hx]
      exact sl_mid (by omega) (by omega) _ (by omega) (by omega) (by omega)
    refine ⟨by omega, ?_⟩
    unfold fv
    rw [sg_ld _ hx, e, hs, rv_shift (by omega)]
    split <;> simp [Int.neg_mul]

theorem alls_vl {xs ys : List Nat} (h : xs.map vl = ys.map vl) : Alls xs ys := by
  have hl : xs.length = ys.length := by have := congrArg List.length h; rwa [List.length_map, List.length_map] at this
  refine ⟨hl, fun k hk => vl_same ?_⟩
  have h1 := congrArg (fun l : List Val => l[k]?) h
  simp only [List.getElem?_map] at h1
  rw [List.getElem?_eq_getElem hk, List.getElem?_eq_getElem (show k < ys.length by omega)] at h1
  rw [List.getD_eq_getElem?_getD, List.getD_eq_getElem?_getD, List.getElem?_eq_getElem hk, List.getElem?_eq_getElem (show k < ys.length by omega)]
  exact Option.some.inj h1

theorem euc_map {x y : Nat} (hx : x < 2 ^ 64) (hy : y < 2 ^ 64) (h1 : rg x < INF) (h2 : rg y < INF) : (eucW x y).map vl = .num (fv x) :: .num (fv y) :: chn modv 198 (.num (fv x)) (.num (fv y)) := by
  show vl _ :: vl _ :: (chw modW 198 _ _).map vl = _
  rw [chw_vl modW_w (fun a b ha => vl_modW a b ha) 198 x y hx hy, vl_fin h1, vl_fin h2]
theorem nea_map {x y : Nat} (hx : x < 2 ^ 64) (hy : y < 2 ^ 64) (h1 : rg x < INF) (h2 : rg y < INF) : (neaW x y).map vl = .num (fv x) :: .num (fv y) :: chn remv 198 (.num (fv x)) (.num (fv y)) := by
  show vl _ :: vl _ :: (chw remW 198 _ _).map vl = _
  rw [chw_vl remW_w (fun a b _ => vl_remW a b) 198 x y hx hy, vl_fin h1, vl_fin h2]

theorem both {x y : Nat} {j : Int} (hx : x < 2 ^ 64) (hy : y < 2 ^ 64) (mx : Mid (rg x)) (my : Mid (rg y)) (j1 : -300 ≤ j) (j2 : j ≤ 300) :
    Alls (eucW (ld x j) (ld y j)) (scl (j + 4000) (eucW x y)) ∧ Alls (neaW (ld x j) (ld y j)) (scl (j + 4000) (neaW x y)) := by
  have e : ∀ L : List Nat, scl (j + 4000) L = L.map fun z => ld z j := fun L => by unfold scl; rw [ex_shift (by omega) (by omega)]
  rw [e, e]
  have fx := mid_fin mx
  have fy := mid_fin my
  have lx := ld_lt j hx
  have ly := ld_lt j hy
  rcases Int.le_total 0 j with hj | hj
  · obtain ⟨a, rfl⟩ : ∃ a : Nat, j = (a : Int) := ⟨j.toNat, by omega⟩
    obtain ⟨x1, x2⟩ := mid_up hx mx (a := a) (by omega)
    obtain ⟨y1, y2⟩ := mid_up hy my (a := a) (by omega)
    have hp := pow_pos a
    refine ⟨alls_vl (list_up _ _ ?_ (euc_fin fx fy) (euc_fin x1 y1) (euc_words hx hy)), alls_vl (list_up _ _ ?_ (nea_fin fx fy) (nea_fin x1 y1) (nea_words hx hy))⟩
    · rw [euc_map hx hy fx fy, euc_map lx ly x1 y1, x2, y2, chn_mul (by omega) (mod_mul hp)]; rfl
    · rw [nea_map hx hy fx fy, nea_map lx ly x1 y1, x2, y2, chn_mul (by omega) (rem_mul hp)]; rfl
  · obtain ⟨a, rfl⟩ : ∃ a : Nat, j = -(a : Int) := ⟨(-j).toNat, by omega⟩
    obtain ⟨x1, x2⟩ := mid_down hx mx (a := a) (by omega)
    obtain ⟨y1, y2⟩ := mid_down hy my (a := a) (by omega)
    have hp := pow_pos a
    refine ⟨alls_vl (list_down _ _ ?_ (euc_fin fx fy) (euc_fin x1 y1) (euc_words hx hy)), alls_vl (list_down _ _ ?_ (nea_fin fx fy) (nea_fin x1 y1) (nea_words hx hy))⟩
    · rw [euc_map hx hy fx fy, euc_map lx ly x1 y1, x2, y2, chn_mul (by omega) (mod_mul hp)]; rfl
    · rw [nea_map hx hy fx fy, nea_map lx ly x1 y1, x2, y2, chn_mul (by omega) (rem_mul hp)]; rfl

theorem chw2_len (f : Nat → Nat → Nat) (x y : Nat) : 2 ≤ (x :: y :: chw f 198 x y).length ∧ (x :: y :: chw f 198 x y).length ≤ 200 := by
  have h := chw_len f 198 x y
  simp only [List.length_cons]
  omega

set_option maxRecDepth 100000 in
set_option maxHeartbeats 3200000 in
theorem walk_mid (w : World) (x : Nat) (hx : x < 2 ^ 64) (y : Nat) (hy : y < 2 ^ 64) (k : Int) (mx : Mid (rg x)) (my : Mid (rg y)) :
    Calls Try.prog 10 #[.float .f64 x, .float .f64 y, .int .i64 k] w fun e w' => e = .returned (.bool true) ∧ Below w.heap.size w w' := by
  have HM1 := Lib.hid (fun W : World => middle_any x W hx)
  have HM2 := Lib.hid (fun W : World => middle_any y W hy)
  rw [decide_eq_true mx] at HM1
  rw [decide_eq_true my] at HM2
  obtain ⟨j, hj⟩ : ∃ j : Int, k % 601 - 300 = j := ⟨_, rfl⟩
  have d1 := Int.emod_nonneg k (show (601 : Int) ≠ 0 by omega)
  have d2 := Int.emod_lt_of_pos k (show (0 : Int) < 601 by omega)
  have j1 : -300 ≤ j := by omega
  have j2 : j ≤ 300 := by omega
  have hJ := Lib.hid hj
  obtain ⟨ae, an⟩ := both hx hy mx my j1 j2
  have AE := Lib.hid ae
  have AN := Lib.hid an
  have HE := Lib.hid (fun W : World => euclid_any x y W hx hy)
  have HN := Lib.hid (fun W : World => nearest_any x y W hx hy)
  have HE2 := Lib.hid (fun W : World => euclid_any (ld x j) (ld y j) W (ld_lt j hx) (ld_lt j hy))
  have HN2 := Lib.hid (fun W : World => nearest_any (ld x j) (ld y j) W (ld_lt j hx) (ld_lt j hy))
  have HL1 := Lib.hid (fun W : World => impLdexp_any x (j + 4000) W hx)
  have HL2 := Lib.hid (fun W : World => impLdexp_any y (j + 4000) W hy)
  rw [ex_shift (by omega) (by omega)] at HL1 HL2
  have hwL := Lib.hid (euc_words hx hy)
  have hwM := Lib.hid (nea_words hx hy)
  obtain ⟨l1, l2⟩ : 2 ≤ (eucW x y).length ∧ (eucW x y).length ≤ 200 := chw2_len modW x y
  obtain ⟨l3, l4⟩ : 2 ≤ (neaW x y).length ∧ (neaW x y).length ≤ 200 := chw2_len remW x y
  obtain ⟨_, l5⟩ : 2 ≤ (eucW (ld x j) (ld y j)).length ∧ (eucW (ld x j) (ld y j)).length ≤ 200 := chw2_len modW _ _
  obtain ⟨_, l6⟩ : 2 ≤ (neaW (ld x j) (ld y j)).length ∧ (neaW (ld x j) (ld y j)).length ≤ 200 := chw2_len remW _ _
  generalize eucW x y = L at *
  generalize neaW x y = M at *
  generalize eucW (ld x j) (ld y j) = L' at *
  generalize neaW (ld x j) (ld y j) = M' at *
  generalize ld x j = x' at *
  generalize ld y j = y' at *
  clear hx hy hj ae an mx my
  go_enter Try.func10, Try.ntmps10
  go_wp2_with (first | (go_at_call 26; first | (((with_reducible refine (HM1.out _).mono ?_)); rintro e w' ⟨rfl, rfl⟩) | (((with_reducible refine (HM2.out _).mono ?_)); rintro e w' ⟨rfl, rfl⟩)) | (go_at_call 28; ((with_reducible refine (specAt_any _ _ _ (by decide) (by decide)).mono ?_)); rintro e w' ⟨rfl, rfl⟩))
  rw [hJ.out]
  clear d1 d2
  ((with_reducible refine (shift_any _ _ (by omega) (by omega)).mono ?_); rintro e w' ⟨rfl, rfl⟩)
  go_wp2_with fail
  ((with_reducible refine (HE.out _).mono ?_); rintro e w1 ⟨A1, c1, rfl, _, hown1, hbel1⟩)
  have hr1 := Lib.hid (Rd.of_own hown1)
  rw [fl_len]
  clear hown1
  go_wp2_with fail
  ((with_reducible refine (HN.out _).mono ?_); rintro e w2 ⟨A2, c2, rfl, _, hown2, hbel2⟩)
  have hr2 := Lib.hid (Rd.of_own hown2)
  have hr1 := Lib.hid ((hr1.out.below hbel2).more hbel2.size)
  rw [fl_len]
  clear hown2
  have HB := Lib.hid (hbel1.trans (hbel2.mono hbel1.size))
  have hs2 := hbel2.size
  clear hbel1 hbel2
  generalize hLn : L.length = ln at *
  generalize hMn : M.length = mn at *
  go_wp2_with (go_at_call 29; first | (((with_reducible refine (HL1.out _).mono ?_)); rintro e w' ⟨rfl, rfl⟩) | (((with_reducible refine (HL2.out _).mono ?_)); rintro e w' ⟨rfl, rfl⟩))
  ((with_reducible refine (HE2.out _).mono ?_); rintro e w3 ⟨A3, c3, rfl, _, hown3, hbel3⟩)
  have hr3 := Lib.hid (Rd.of_own hown3)
  have hr1 := Lib.hid ((hr1.out.below hbel3).more hbel3.size)
  have hr2 := Lib.hid ((hr2.out.below hbel3).more hbel3.size)
  have HB := Lib.hid (HB.out.trans (hbel3.mono HB.out.size))
  rw [fl_len]
  clear hown3
  go_wp2_with fail
  ((with_reducible refine (scale_any L (j + 4000) A1 c1 ln w3.heap.size w3 hLn hwL.out (by omega) (Nat.le_refl _) hr1.out).mono ?_); rintro e w4 ⟨A4, c4, rfl, _, hown4, hbel4⟩)
  have hr4 := Lib.hid (Rd.of_own hown4)
  have hr2 := Lib.hid ((hr2.out.below hbel4).more hbel4.size)
  have hr3 := Lib.hid ((hr3.out.below hbel4).more hbel4.size)
  have HB := Lib.hid (HB.out.trans (hbel4.mono HB.out.size))
  rw [fl_len]
  clear hown4
  go_wp2_with fail
  ((with_reducible refine (sameAll_any L' (scl (j + 4000) L) A3 A4 c3 c4 L'.length (scl (j + 4000) L).length w4.heap.size w4 rfl rfl (by omega) hr3.out hr4.out AE.out).mono ?_); rintro e w5 ⟨rfl, q5⟩)
  have hr2 := Lib.hid (hr2.out.qt q5)
  have HB := Lib.hid (HB.out.trans (q5.below _))
  have hs5 : w4.heap.size = w5.heap.size := q5.size.symm
  rw [hs5] at hr2
  go_wp2_with fail
  ((with_reducible refine (HN2.out _).mono ?_); rintro e w6 ⟨A6, c6, rfl, _, hown6, hbel6⟩)
  have hr6 := Lib.hid (Rd.of_own hown6)
  have hr2 := Lib.hid ((hr2.out.below hbel6).more hbel6.size)
  have HB := Lib.hid (HB.out.trans (hbel6.mono HB.out.size))
  rw [fl_len]
  clear hown6
  go_wp2_with fail
  ((with_reducible refine (scale_any M (j + 4000) A2 c2 mn w6.heap.size w6 hMn hwM.out (by omega) (Nat.le_refl _) hr2.out).mono ?_); rintro e w7 ⟨A7, c7, rfl, _, hown7, hbel7⟩)
  have hr7 := Lib.hid (Rd.of_own hown7)
  have hr6 := Lib.hid ((hr6.out.below hbel7).more hbel7.size)
  have HB := Lib.hid (HB.out.trans (hbel7.mono HB.out.size))
  rw [fl_len]
  clear hown7
  go_wp2_with fail
  ((with_reducible refine (sameAll_any M' (scl (j + 4000) M) A6 A7 c6 c7 M'.length (scl (j + 4000) M).length w7.heap.size w7 rfl rfl (by omega) hr6.out hr7.out AN.out).mono ?_); rintro e w8 ⟨rfl, q8⟩)
  have HB := Lib.hid (HB.out.trans (q8.below _))
  go_wp2
  go_ret
  exact ⟨rfl, HB.out⟩

set_option maxHeartbeats 800000 in
theorem walk (w : World) (x : Nat) (hx : x < 2 ^ 64) (y : Nat) (hy : y < 2 ^ 64) (k : Int) (_hk : -9223372036854775808 ≤ k ∧ k ≤ 9223372036854775807) :
    Calls Try.prog 10 #[.float .f64 x, .float .f64 y, .int .i64 k] w fun e w' => e = .returned (.bool true) ∧ Below w.heap.size w w' := by
  by_cases mx : Mid (rg x)
  · by_cases my : Mid (rg y)
    · exact walk_mid w x hx y hy k mx my
    · have HM1 := Lib.hid (fun W : World => middle_any x W hx)
      have HM2 := Lib.hid (fun W : World => middle_any y W hy)
      rw [decide_eq_true mx] at HM1
      rw [decide_eq_false my] at HM2
      clear mx my hx hy _hk
      go_enter Try.func10, Try.ntmps10
      go_wp2_with (go_at_call 26; first | (((with_reducible refine (HM1.out _).mono ?_)); rintro e w' ⟨rfl, rfl⟩) | (((with_reducible refine (HM2.out _).mono ?_)); rintro e w' ⟨rfl, rfl⟩))
      go_ret
      exact ⟨rfl, Below.refl _ _⟩
  · have HM1 := Lib.hid (fun W : World => middle_any x W hx)
    rw [decide_eq_false mx] at HM1
    clear mx hx hy _hk
    go_enter Try.func10, Try.ntmps10
    go_wp2_with (go_at_call 26; ((with_reducible refine (HM1.out _).mono ?_)); rintro e w' ⟨rfl, rfl⟩)
    go_ret
    exact ⟨rfl, Below.refl _ _⟩
end Go.Proofs.Ytmhdjhfkndfhmaa.LEuclidScaled

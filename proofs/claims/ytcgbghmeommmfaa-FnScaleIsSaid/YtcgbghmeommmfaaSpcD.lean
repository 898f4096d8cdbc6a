/-
  Contract of the reference's Nextafter: the same number as math.Nextafter's.
-/
import Derived.Test.YtcgbghmeommmfaaSpcB
import Derived.Test.YtcgbghmeommmfaaSpcC
namespace Go.Proofs.Ytcgbghmeommmfaa
open Go.RowKit Flt

/-- a number that is the same as 'b' -/
def GivesSame (b : Nat) (w : World) (e : Ending) (w' : World) : Prop := ∃ c, e = .returned (.float .f64 c) ∧ same c b = true ∧ c < 2 ^ 64 ∧ Below w.heap.size w w'

theorem build3 (neg : Bool) (m e : Int) (w : World) : (Instr.build 52 #[(0, .bool neg), (1, .int .u64 m), (2, .int .i64 e)]).run Try.prog w = .ok (.agg #[.bool neg, .int .u64 m, .int .i64 e]) w := by
  exact run_build w 52 _ _ (by kernel_rfl)

theorem sgKey {b : Nat} (h : key b ≠ 0) : decide (key b < 0) = sg b := by
  unfold key at *
  cases sg b
  · simp
  · simp at *; omega

/-- value, its numbers spelt as they come -/
theorem value_is (neg : Bool) (m E : Nat) (hU : Fits (m * U)) (hF : Fits (m * 2 ^ E)) (hE : E ≤ 4000) (a e : Int) (ha : a = (m : Int)) (he : e = (E : Int) - 1074) (W : World) :
    Calls Try.prog 52 #[.agg #[.bool neg, .int .u64 a, .int .i64 e]] W fun e w' => e = .returned (.float .f64 (mk neg (wd (m * 2 ^ E)))) ∧ Below W.heap.size W w' := by
  rw [ha, he]; exact value_any neg m E W hU hF hE

/-- value at numbers that the walk has as numerals -/
theorem value_max (neg : Bool) (W : World) :
    Calls Try.prog 52 #[.agg #[.bool neg, .int .u64 9007199254740991, .int .i64 971]] W fun e w' => e = .returned (.float .f64 (mk neg (INF - 1))) ∧ Below W.heap.size W w' := by
  obtain ⟨E, hE⟩ : ∃ E : Nat, E = 2045 := ⟨_, rfl⟩
  have hv : wd ((2 ^ 53 - 1) * 2 ^ E) = INF - 1 := by
    have := Parts.rv_of (m := 2 ^ 53 - 1) (E := E) (by decide) (Or.inl (by decide))
    rw [← this, wd_rv, hE]; rfl
  have := value_any neg (2 ^ 53 - 1) E W (fits_small (by decide)) (fits_wd hv (rep_of _ (by decide)) (by decide)) (by omega)
  rw [hv, show (E : Int) - 1074 = 971 by omega] at this
  exact this
theorem value_one (neg : Bool) (W : World) :
    Calls Try.prog 52 #[.agg #[.bool neg, .int .u64 1, .int .i64 (-1074)]] W fun e w' => e = .returned (.float .f64 (mk neg 1)) ∧ Below W.heap.size W w' := by
  have hv : wd (1 * 2 ^ 0) = 1 := wd_small (by decide)
  have := value_any neg 1 0 W (fits_small (by decide)) (fits_wd hv (rep_of _ (by decide)) (by decide)) (by decide)
  rw [hv] at this
  exact this

theorem nxt_up {x y : Nat} (hx : x < 2 ^ 64) (hnx : nan x = false) (hny : nan y = false) (k1 : ¬ key x = key y) (k2 : ¬ key x = 0) (k3 : (key x < key y) ↔ (0 < key x)) : nxt x y = mk (sg x) (rg x + 1) := by
  unfold nxt
  rw [hnx, hny, if_neg (by simp), if_neg k1, if_neg k2, if_pos k3]
  have hm := mk_of hx
  unfold mk at *
  cases hs : sg x <;> rw [hs] at hm <;> simp only [Bool.false_eq_true, if_false, if_true] at hm ⊢ <;> omega
theorem nxt_down {x y : Nat} (hx : x < 2 ^ 64) (hnx : nan x = false) (hny : nan y = false) (k1 : ¬ key x = key y) (k2 : ¬ key x = 0) (k3 : ¬ ((key x < key y) ↔ (0 < key x))) : nxt x y = mk (sg x) (rg x - 1) := by
  unfold nxt
  rw [hnx, hny, if_neg (by simp), if_neg k1, if_neg k2, if_neg k3]
  have hm := mk_of hx
  have : 0 < rg x := by have := key_natAbs x; omega
  unfold mk at *
  cases hs : sg x <;> rw [hs] at hm <;> simp only [Bool.false_eq_true, if_false, if_true] at hm ⊢ <;> omega

set_option maxHeartbeats 1600000 in
theorem specNext_any (x y : Nat) (w : World) (hx : x < 2 ^ 64) :
    Calls Try.prog 39 #[.float .f64 x, .float .f64 y] w (GivesSame (nxt x y) w) := by
  have s1 := c_self x
  have s2 := c_self y
  by_cases hnan : nan x = true ∨ nan y = true
  · have hfin := Lib.hid (nan_nxt hnan)
    cases hnx : nan x
    · rw [hnx] at s1
      have hny : nan y = true := by rcases hnan with h | h; rw [hnx] at h; cases h; exact h
      rw [hny] at s2
      clear hnx hny hnan hx
      go_enter Try.func39, Try.ntmps39
      go_wp2_with (go_at_call 51; refine (specNaN_any _).mono ?_; rintro e w1 ⟨c, rfl, hc, hl, hq⟩)
      go_ret
      exact ⟨c, rfl, by rw [hfin.out]; exact same_of_nan hc nan_qNaN, hl, hq.below _⟩
    · rw [hnx] at s1
      clear hnx hnan hx
      go_enter Try.func39, Try.ntmps39
      go_wp2_with (go_at_call 51; refine (specNaN_any _).mono ?_; rintro e w1 ⟨c, rfl, hc, hl, hq⟩)
      go_ret
      exact ⟨c, rfl, by rw [hfin.out]; exact same_of_nan hc nan_qNaN, hl, hq.below _⟩
  have hnx : nan x = false := by cases e : nan x; rfl; exact absurd (Or.inl e) hnan
  have hny : nan y = false := by cases e : nan y; rfl; exact absurd (Or.inr e) hnan
  rw [hnx] at s1
  rw [hny] at s2
  have hx' := nan_false.1 hnx
  have hy' := nan_false.1 hny
  have hfin : nxt x y = if key x = key y then x else if key x = 0 then mk (sg y) 1 else if (key x < key y) ↔ (0 < key x) then x + 1 else x - 1 := by
    unfold nxt; rw [hnx, hny]; rfl
  have f1 := c_eq hx' hy'
  have f2 := c_eq hx' rg_zero_le
  have f3 := c_gt hy' hx'
  have f4 := c_gt hx' rg_zero_le
  have f5 := c_lt hy' rg_zero_le
  have f6 := c_lt hx' rg_zero_le
  rw [key_zero] at f2 f4 f5 f6
  have hbd := build3
  by_cases k1 : key x = key y
  · rw [if_pos k1] at hfin
    rw [decide_eq_true k1] at f1
    have hfin' := Lib.hid hfin
    have hx2 := Lib.hid hx
    clear hnx hny hx' hy' hfin f2 f3 f4 f5 f6 k1 hnan hx
    go_enter Try.func39, Try.ntmps39
    go_wp2
    go_ret
    exact ⟨x, rfl, by rw [hfin'.out]; exact same_refl _, hx2.out, Below.refl _ _⟩
  rw [if_neg k1] at hfin
  rw [decide_eq_false k1] at f1
  by_cases k2 : key x = 0
  · rw [if_pos k2] at hfin
    rw [decide_eq_true k2] at f2
    rw [sgKey (by omega)] at f5
    have hfin' := Lib.hid hfin
    clear hnx hny hx' hy' hfin f3 f4 f6 k1 k2 hnan hx
    generalize sg y = neg at *
    go_enter Try.func39, Try.ntmps39
    go_wp2_with (go_at_call 52; ((with_reducible refine (value_one _ _).mono ?_)); rintro e w1 ⟨rfl, hq⟩)
    go_ret
    exact ⟨mk neg 1, rfl, by rw [hfin'.out]; exact same_refl _, mk_lt _ (by decide), hq⟩
  rw [if_neg k2] at hfin
  rw [decide_eq_false k2] at f2
  rw [sgKey k2] at f6
  have hrg : 0 < rg x := by have := key_natAbs x; omega
  have hI := INF_val
  have hm := mk_of hx
  have hl := rg_lt x
  rcases Nat.lt_or_ge (rg x) INF with hfi | hfi
  · have hF := Lib.hid (fun W : World => specFinite_yes x W hfi)
    have hPt := Lib.hid (fun W : World => partsOf_pos x W hx hfi hrg)
    by_cases k3 : (key x < key y) ↔ (0 < key x)
    · have hres := Lib.hid (nxt_up hx hnx hny k1 k2 k3)
      have f7 : (decide (key x < key y) == decide (0 < key x)) = true := by
        by_cases q : 0 < key x
        · simp [q, k3.2 q]
        · have : ¬ key x < key y := fun h => q (k3.1 h)
          simp [q, this]
      have hmx : rg x = INF - 1 → floatBits .add .f64 x x = some (mk (sg x) INF) := fun h => add_self_max h
      have hmx' := Lib.hid hmx
      have hfi' := Lib.hid hfi
      clear hnx hny hx' hy' hfin f5 f6 k1 k2 k3 hnan hx hrg hI hm hl hfi hmx
      generalize sg x = neg at *
      go_enter Try.func39, Try.ntmps39
      go_wp2_with (go_at_call 29; ((with_reducible refine (hF.out _).mono ?_)); rintro e w1 ⟨rfl, rfl⟩)
      refine (hPt.out _).mono ?_
      rintro e w1 ⟨m, E, hP, hE, rfl, hbel⟩
      have hmlt := hP.lt
      have hE2 := hP.E_le hfi'.out
      have hsuc := hP.succ
      have hrung := hP.rung
      by_cases hc : m + 1 = 2 ^ 53 ∧ E = 2045
      · have hrm : rg x = INF - 1 := by rw [hrung, hc.2, INF_val]; omega
        have hadd := run_f (hmx'.out hrm)
        have hres2 : Hid (nxt x y = mk neg INF) := by show _ = _; rw [hres.out, hrm]; rfl
        obtain ⟨hc1, rfl⟩ := hc
        obtain rfl : m = 9007199254740991 := by omega
        clear hrm hrung hsuc hP hmlt hE2 hE hres hmx' hfi' hPt hF
        go_wp2
        go_ret
        exact ⟨mk neg INF, rfl, by rw [hres2.out]; exact same_refl _, mk_lt _ (by decide), hbel.alloc hbel.size _⟩
      · have hlt1 : rg x + 1 < INF := by
          have := hfi'.out
          have hI := INF_val
          have := hP.low
          omega
        have hFt : Fits ((m + 1) * 2 ^ E) := fits_wd hsuc (rep_of _ (by omega)) hlt1
        have hV := Lib.hid (value_is neg (m + 1) E (fits_small (by omega)) hFt (by omega))
        rw [hsuc, ← hres.out] at hV
        have hl : nxt x y < 2 ^ 64 := by rw [hres.out]; have := INF_lt; exact mk_lt _ (by omega)
        have hl' := Lib.hid hl
        have hca : Hid (m + 1 = 2 ^ 53 → ¬ E = 2045) := fun h1 h2 => hc ⟨h1, h2⟩
        clear hsuc hrung hFt hlt1 hl hc hP hmx' hfi' hPt hF hres
        generalize nxt x y = z at *
        by_cases hm1 : m + 1 = 2 ^ 53
        · have hE3 := hca.out hm1
          obtain rfl : m = 9007199254740991 := by omega
          have t2 : (((E : Int) - 1074) == 971) = false := by simp; omega
          clear hca hm1 hE3
          go_wp2_with (go_at_call 52; ((with_reducible refine (hV.out _ _ (by omega) (by omega) _).mono ?_)); rintro e w2 ⟨rfl, hq⟩)
          go_ret
          exact ⟨z, rfl, same_refl _, hl'.out, (hbel.alloc hbel.size _).trans (hq.mono (by simp; have := hbel.size; omega))⟩
        · have t1 : ((m : Int) + 1 == 9007199254740992) = false := by simp; omega
          clear hca hm1
          go_wp2_with (go_at_call 52; ((with_reducible refine (hV.out _ _ (by omega) (by omega) _).mono ?_)); rintro e w2 ⟨rfl, hq⟩)
          go_ret
          exact ⟨z, rfl, same_refl _, hl'.out, (hbel.alloc hbel.size _).trans (hq.mono (by simp; have := hbel.size; omega))⟩
    · have hres := Lib.hid (nxt_down hx hnx hny k1 k2 k3)
      have f7 : (decide (key x < key y) == decide (0 < key x)) = false := by
        by_cases q : 0 < key x
        · have : ¬ key x < key y := fun h => k3 ⟨fun _ => q, fun _ => h⟩
          simp [q, this]
        · have : key x < key y := by
            rcases Int.lt_or_le (key x) (key y) with h | h
            · exact h
            · exact absurd ⟨fun h' => absurd h' (by omega), fun h' => absurd h' q⟩ k3
          simp [q, this]
      have hfi' := Lib.hid hfi
      have hrg' := Lib.hid hrg
      clear hnx hny hx' hy' hfin f5 f6 k1 k2 k3 hnan hx hrg hI hm hl hfi
      generalize sg x = neg at *
      go_enter Try.func39, Try.ntmps39
      go_wp2_with (go_at_call 29; ((with_reducible refine (hF.out _).mono ?_)); rintro e w1 ⟨rfl, rfl⟩)
      refine (hPt.out _).mono ?_
      rintro e w1 ⟨m, E, hP, hE, rfl, hbel⟩
      have hmlt := hP.lt
      have hE2 := hP.E_le hfi'.out
      have hm0 : 0 < m := by
        have h1 := hP.rung
        have h2 := hP.low
        have h3 := hrg'.out
        omega
      have hlI : rg x - 1 < INF := by have := hfi'.out; omega
      have hl : nxt x y < 2 ^ 64 := by rw [hres.out]; have := INF_lt; exact mk_lt _ (by omega)
      have hl' := Lib.hid hl
      by_cases hc : m - 1 < 2 ^ 52 ∧ 0 < E
      · have hm52 : m = 2 ^ 52 := by have := hP.low; omega
        obtain ⟨j, rfl⟩ : ∃ j, E = j + 1 := ⟨E - 1, by omega⟩
        have hsuc := hP.pred' hm52
        have hFt : Fits ((2 ^ 53 - 1) * 2 ^ j) := fits_wd hsuc (rep_of _ (by decide)) hlI
        have hV := Lib.hid (value_is neg (2 ^ 53 - 1) j (fits_small (by decide)) hFt (by omega))
        rw [hsuc, ← hres.out] at hV
        clear hsuc hFt hc hP hfi' hPt hF hres hlI hl hrg'
        subst hm52
        generalize nxt x y = z at *
        rw [show (((j + 1 : Nat) : Int)) - 1074 = (j : Int) - 1073 by omega]
        rw [show (((2 ^ 52 : Nat) : Int)) = 4503599627370496 from rfl]
        go_wp2_with (go_at_call 52; ((with_reducible refine (hV.out _ _ (by omega) (by omega) _).mono ?_)); rintro e w2 ⟨rfl, hq⟩)
        go_ret
        exact ⟨z, rfl, same_refl _, hl'.out, (hbel.alloc hbel.size _).trans (hq.mono (by simp; have := hbel.size; omega))⟩
      · have hsuc := hP.pred hm0 (by omega)
        have hFt : Fits ((m - 1) * 2 ^ E) := fits_wd hsuc (rep_of _ (by omega)) hlI
        have hV := Lib.hid (value_is neg (m - 1) E (fits_small (by omega)) hFt (by omega))
        rw [hsuc, ← hres.out] at hV
        have hm0' : (1 : Int) ≤ (m : Int) := by omega
        have hca : Hid (m - 1 < 2 ^ 52 → E = 0) := fun h1 => by omega
        clear hsuc hFt hlI hl hc hP hfi' hPt hF hres hrg' hm0
        generalize nxt x y = z at *
        by_cases hm1 : m - 1 < 2 ^ 52
        · obtain rfl := hca.out hm1
          have t1 : (m : Int) - 1 < 4503599627370496 := by omega
          clear hca hm1
          go_wp2_with (go_at_call 52; ((with_reducible refine (hV.out _ _ (by omega) (by omega) _).mono ?_)); rintro e w2 ⟨rfl, hq⟩)
          go_ret
          exact ⟨z, rfl, same_refl _, hl'.out, (hbel.alloc hbel.size _).trans (hq.mono (by simp; have := hbel.size; omega))⟩
        · have t1 : ¬ (m : Int) - 1 < 4503599627370496 := by omega
          clear hca hm1
          go_wp2_with (go_at_call 52; ((with_reducible refine (hV.out _ _ (by omega) (by omega) _).mono ?_)); rintro e w2 ⟨rfl, hq⟩)
          go_ret
          exact ⟨z, rfl, same_refl _, hl'.out, (hbel.alloc hbel.size _).trans (hq.mono (by simp; have := hbel.size; omega))⟩
  · have hri : rg x = INF := by omega
    have hres : mk (sg x) (INF - 1) = nxt x y := by
      rw [hfin]
      have hkx : key x = if sg x then -(INF : Int) else (INF : Int) := by unfold key; rw [hri]
      have hky := key_le hny
      have : ¬ ((key x < key y) ↔ (0 < key x)) := by
        intro hiff
        cases hs : sg x <;> rw [hs] at hkx <;> simp only [Bool.false_eq_true, if_false, if_true] at hkx
        · have := hiff.2 (by omega); omega
        · have := hiff.1 (by omega); omega
      rw [if_neg this]
      rw [hri] at hm
      clear this hkx k1 hfin
      generalize sg x = s at hm ⊢
      subst hm
      unfold mk
      cases s
      · rfl
      · simp only [if_true]; omega
    have hres' := Lib.hid hres
    have hF := Lib.hid (fun W : World => specFinite_no x W hfi)
    clear hnx hny hx' hy' hfin f3 f4 f5 k1 k2 hnan hx hrg hI hm hl hfi hri hres
    generalize sg x = neg at *
    go_enter Try.func39, Try.ntmps39
    go_wp2_with (first | (go_at_call 29; ((with_reducible refine (hF.out _).mono ?_)); rintro e w1 ⟨rfl, hq1⟩) | (go_at_call 52; ((with_reducible refine (value_max _ _).mono ?_)); rintro e w2 ⟨rfl, hq⟩))
    go_ret
    exact ⟨mk neg (INF - 1), rfl, by rw [hres'.out]; exact same_refl _, mk_lt _ (by decide), (hq1.below _).trans (hq.mono (by rw [hq1.size]; exact Nat.le_refl _))⟩
end Go.Proofs.Ytcgbghmeommmfaa

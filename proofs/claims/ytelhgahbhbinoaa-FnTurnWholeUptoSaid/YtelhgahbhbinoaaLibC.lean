/-
  Contract of math.Ldexp: the number times 2^e, rounded once.
-/
import Derived.Test.YtelhgahbhbinoaaLibB
namespace Go.Proofs.Ytelhgahbhbinoaa
open Go.RowKit Flt

theorem ret_f {a b : Nat} {w w' : World} (h : a = b) (hw : w = w') : Ending.returned (.float .f64 a) = .returned (.float .f64 b) ∧ w = w' := ⟨by rw [h], hw⟩

set_option maxHeartbeats 400000 in
theorem mathInf_pos (w : World) : Calls Try.prog 61 #[.int .i64 1] w fun e w' => e = .returned (.float .f64 (mk false INF)) ∧ w = w' := by
  have h1 := call_frombits
  go_enter Try.func61, Try.ntmps61
  go_wp2
  go_ret
  exact ⟨rfl, rfl⟩
set_option maxHeartbeats 400000 in
theorem mathInf_neg (w : World) : Calls Try.prog 61 #[.int .i64 (-1)] w fun e w' => e = .returned (.float .f64 (mk true INF)) ∧ w = w' := by
  have h1 := call_frombits
  go_enter Try.func61, Try.ntmps61
  go_wp2
  go_ret
  exact ⟨rfl, rfl⟩

theorem ldexp_res {n m E c : Nat} (h : n * 2 ^ c = m * 2 ^ E) (e : Int) : lds n e = lds m (e - c + E) := by
  have h1 := lds_shift n c (e - c)
  have h2 := lds_shift m E (e - c)
  rw [h] at h1
  rw [← h2, h1]; congr 1; omega

/-- what the walk of ldexp is told: x' is what normalize gives, raised by c binades; p is the exponent that comes out -/
structure LdIn (x x' c E m : Nat) (e p : Int) : Prop where
  x_lt : x < 2 ^ 64
  x'_lt : x' < 2 ^ 64
  pos : 0 < rg x
  fin : rg x < INF
  sign : sg x' = sg x
  rung : rg x' = E * 2 ^ 52 + m
  m_ge : 2 ^ 52 ≤ m
  m_lt : m < 2 ^ 53
  E_le : E ≤ 2045
  eq : rv (rg x) * 2 ^ c = m * 2 ^ E
  p_eq : p = e - c + ((E : Int) + 1) - 1023

section
variable {x x' c E m : Nat} {e p : Int} (h : LdIn x x' c E m e p)
include h
theorem ldIn_ne : (FloatKind.f64.format.order x 0 == some .eq) = false := by
  have hkx : key x ≠ 0 := by have := key_natAbs x; have := h.pos; omega
  rw [c_eq (Nat.le_of_lt h.fin) rg_zero_le, key_zero, decide_eq_false hkx]
theorem ldIn_isInf (W : World) : Calls Try.prog 45 #[.float .f64 x, .int .i64 0] W fun e w' => e = .returned (.bool false) ∧ W = w' := by
  have := isInf_any x W h.x_lt
  rwa [decide_eq_false (by have := h.fin; omega)] at this
theorem ldIn_isNaN (W : World) : Calls Try.prog 46 #[.float .f64 x] W fun e w' => e = .returned (.bool false) ∧ W = w' := by
  have := isNaN_any x W
  rwa [nan_false.2 (Nat.le_of_lt h.fin)] at this
theorem ldIn_copy (W : World) : Calls Try.prog 60 #[.float .f64 0, .float .f64 x'] W fun e w' => e = .returned (.float .f64 (mk (sg x) 0)) ∧ W = w' := by
  have := copysign_any 0 x' W (by decide) h.x'_lt
  rwa [h.sign, rg_zero] at this
theorem ldIn_field : ∀ z : Nat, z = x' → bits .and .i64 (wrap64 ((z : Int) / 4503599627370496)) 2047 = (E : Int) + 1 := by
  rintro z rfl
  rw [field_of h.x'_lt]
  have := h.rung; have := h.m_ge; have := h.m_lt
  omega
theorem ldIn_neg : (FloatKind.f64.format.order x' 0 == some .lt) = sg x := by
  have hI := INF_val
  have h1 := h.rung; have h2 := h.m_ge; have h3 := h.m_lt; have h4 := h.E_le
  rw [c_lt (by omega) rg_zero_le, key_zero, ← h.sign]
  unfold key
  rw [h1]
  cases sg x'
  · simp; omega
  · simp; omega
theorem ldIn_res : ld x e = mk (sg x) (min (lds m (p + 1022)) INF) := by
  rw [ld_fin h.pos h.fin, ldexp_res h.eq]
  have := h.p_eq
  rw [show e - (c : Int) + (E : Int) = p + 1022 by omega]
theorem ldIn_under (hp : p < -1075) : mk (sg x) 0 = ld x e := by
  rw [ldIn_res h, lds_under h.m_ge h.m_lt (by omega)]; rfl
theorem ldIn_over (hp : 1023 < p) : mk (sg x) INF = ld x e := by
  rw [ldIn_res h, Nat.min_eq_right (lds_over h.m_ge h.m_lt (by omega))]
/-- the bits that are put together -/
theorem ldIn_bits_ (q : Nat) (hq : q < 2048) (a : Int) (ha : a = ((q * 2 ^ 52 : Nat) : Int)) :
    (bits .or .u64 (bits .andNot .u64 (x' : Int) 9218868437227405312) a).toNat = mk (sg x) (q * 2 ^ 52 + (m - 2 ^ 52)) := by
  have h1 := h.m_ge; have h2 := h.m_lt
  rw [ha, put_exp h.x'_lt q hq, h.sign, h.rung, show (E * 2 ^ 52 + m) % 2 ^ 52 = m - 2 ^ 52 by omega]
theorem ldIn_normal (t : Nat) (ht : (t : Int) = p + 1022) (ht2 : t ≤ 2045) : floatBits .mul .f64 4607182418800017408 (mk (sg x) ((t + 1) * 2 ^ 52 + (m - 2 ^ 52))) = some (ld x e) := by
  have h1 := h.m_ge; have h2 := h.m_lt
  have hI := INF_val
  rw [ldIn_res h, ← ht, lds_normal h1 h2 t, show (t + 1) * 2 ^ 52 + (m - 2 ^ 52) = t * 2 ^ 52 + m by omega, Nat.min_eq_left (by omega)]
  exact one_mul_word (mk_lt _ (by omega)) (by rw [rg_mk _ (by omega)]; omega)
theorem ldIn_small (t : Nat) (ht : (t : Int) = p + 1075) (ht2 : t ≤ 100) : floatBits .mul .f64 4368491638549381120 (mk (sg x) ((t + 1) * 2 ^ 52 + (m - 2 ^ 52))) = some (ld x e) := by
  have h1 := h.m_ge; have h2 := h.m_lt
  have hI := INF_val
  rw [ldIn_res h, show (t + 1) * 2 ^ 52 + (m - 2 ^ 52) = t * 2 ^ 52 + m by omega, tiny_mul (by omega), rv_mk h1 (Nat.le_of_lt h2)]
  rw [lds_of m (a := t) (k := 53) (by omega)]
end

section
variable {x x' c E m : Nat} {e p : Int} (h : LdIn x x' c E m e p) (hE : E ≤ 2045) (hc : c ≤ 52) (he1 : -20000 ≤ e) (he2 : e ≤ 20000)
  (hz : ∀ W : World, Calls Try.prog 59 #[.float .f64 x] W fun e w' => e = .returned (.tuple #[.float .f64 x', .int .i64 (-(c : Int))]) ∧ W = w') (w : World)
include h hE hc he1 he2 hz

set_option maxHeartbeats 400000 in
theorem ldexp_under (hp : p < -1075) : Calls Try.prog 58 #[.float .f64 x, .int .i64 e] w fun e' w' => e' = .returned (.float .f64 (ld x e)) ∧ w = w' := by
  have g2 := call_bits
  have b0 := ldIn_ne h
  have hf := ldIn_field h
  have hres := Lib.hid (ldIn_under h hp)
  have hpx : e + -(c : Int) + ((E : Int) + 1 - 1023) < -1075 := by have := h.p_eq; omega
  have H := Lib.hid h
  have Z := Lib.hid hz
  clear h hz hp
  go_enter Try.func58, Try.ntmps58
  go_wp2_with (first | (go_at_call 45; ((with_reducible refine (ldIn_isInf H.out _).mono ?_)); rintro e w' ⟨rfl, rfl⟩) | (go_at_call 46; ((with_reducible refine (ldIn_isNaN H.out _).mono ?_)); rintro e w' ⟨rfl, rfl⟩) | (go_at_call 59; ((with_reducible refine (Z.out _).mono ?_)); rintro e w' ⟨rfl, rfl⟩) | (go_at_call 60; ((with_reducible refine (ldIn_copy H.out _).mono ?_)); rintro e w' ⟨rfl, rfl⟩))
  go_ret
  exact ret_f hres.out rfl

set_option maxHeartbeats 400000 in
theorem ldexp_over (hp : 1023 < p) : Calls Try.prog 58 #[.float .f64 x, .int .i64 e] w fun e' w' => e' = .returned (.float .f64 (ld x e)) ∧ w = w' := by
  have g2 := call_bits
  have b0 := ldIn_ne h
  have hf := ldIn_field h
  have hng := ldIn_neg h
  have hres := Lib.hid (ldIn_over h hp)
  have hpx : 1023 < e + -(c : Int) + ((E : Int) + 1 - 1023) := by have := h.p_eq; omega
  have H := Lib.hid h
  have Z := Lib.hid hz
  clear h hz hp
  cases hsg : sg x
  · rw [hsg] at hng hres
    clear hsg
    go_enter Try.func58, Try.ntmps58
    go_wp2_with (first | (go_at_call 45; ((with_reducible refine (ldIn_isInf H.out _).mono ?_)); rintro e w' ⟨rfl, rfl⟩) | (go_at_call 46; ((with_reducible refine (ldIn_isNaN H.out _).mono ?_)); rintro e w' ⟨rfl, rfl⟩) | (go_at_call 59; ((with_reducible refine (Z.out _).mono ?_)); rintro e w' ⟨rfl, rfl⟩) | (go_at_call 61; first | ((with_reducible refine (mathInf_pos _).mono ?_); rintro e w' ⟨rfl, rfl⟩) | ((with_reducible refine (mathInf_neg _).mono ?_); rintro e w' ⟨rfl, rfl⟩)))
    go_ret
    exact ret_f hres.out rfl
  · rw [hsg] at hng hres
    clear hsg
    go_enter Try.func58, Try.ntmps58
    go_wp2_with (first | (go_at_call 45; ((with_reducible refine (ldIn_isInf H.out _).mono ?_)); rintro e w' ⟨rfl, rfl⟩) | (go_at_call 46; ((with_reducible refine (ldIn_isNaN H.out _).mono ?_)); rintro e w' ⟨rfl, rfl⟩) | (go_at_call 59; ((with_reducible refine (Z.out _).mono ?_)); rintro e w' ⟨rfl, rfl⟩) | (go_at_call 61; first | ((with_reducible refine (mathInf_pos _).mono ?_); rintro e w' ⟨rfl, rfl⟩) | ((with_reducible refine (mathInf_neg _).mono ?_); rintro e w' ⟨rfl, rfl⟩)))
    go_ret
    exact ret_f hres.out rfl

set_option maxHeartbeats 400000 in
theorem ldexp_normal (hp1 : -1022 ≤ p) (hp2 : p ≤ 1023) : Calls Try.prog 58 #[.float .f64 x, .int .i64 e] w fun e' w' => e' = .returned (.float .f64 (ld x e)) ∧ w = w' := by
  have _u := And.intro hc (And.intro he1 he2)
  clear _u
  have g1 := call_frombits
  have g2 := call_bits
  have b0 := ldIn_ne h
  have hf := ldIn_field h
  obtain ⟨t, ht⟩ : ∃ t : Nat, (t : Int) = p + 1022 := ⟨(p + 1022).toNat, by omega⟩
  have hq := run_g (ldIn_normal h t ht (by omega))
  have hb := Lib.hid (ldIn_bits_ h (t + 1) (by omega))
  have hpx : -1022 ≤ e + -(c : Int) + ((E : Int) + 1 - 1023) := by have := h.p_eq; omega
  have hpy : e + -(c : Int) + ((E : Int) + 1 - 1023) ≤ 1023 := by have := h.p_eq; omega
  have hpt := Lib.hid (show e + -(c : Int) + ((E : Int) + 1 - 1023) + 1023 = (t : Int) + 1 by have := h.p_eq; omega)
  have H := Lib.hid h
  have Z := Lib.hid hz
  generalize mk (sg x) ((t + 1) * 2 ^ 52 + (m - 2 ^ 52)) = y at *
  clear h hz hp1 hp2 ht
  go_enter Try.func58, Try.ntmps58
  go_wp2_with (first | (go_at_call 45; ((with_reducible refine (ldIn_isInf H.out _).mono ?_)); rintro e w' ⟨rfl, rfl⟩) | (go_at_call 46; ((with_reducible refine (ldIn_isNaN H.out _).mono ?_)); rintro e w' ⟨rfl, rfl⟩) | (go_at_call 59; ((with_reducible refine (Z.out _).mono ?_)); rintro e w' ⟨rfl, rfl⟩) | (go_at_call 61; first | ((with_reducible refine (mathInf_pos _).mono ?_); rintro e w' ⟨rfl, rfl⟩) | ((with_reducible refine (mathInf_neg _).mono ?_); rintro e w' ⟨rfl, rfl⟩)))
  rw [hb.out ((e + -(c : Int) + ((E : Int) + 1 - 1023) + 1023) * 4503599627370496) (by rw [hpt.out]; omega)]
  go_simp
  go_wp2
  go_ret
  exact ret_f rfl rfl

set_option maxHeartbeats 400000 in
theorem ldexp_small (hp1 : -1075 ≤ p) (hp2 : p < -1022) : Calls Try.prog 58 #[.float .f64 x, .int .i64 e] w fun e' w' => e' = .returned (.float .f64 (ld x e)) ∧ w = w' := by
  have _u := And.intro hc (And.intro he1 he2)
  clear _u
  have g1 := call_frombits
  have g2 := call_bits
  have b0 := ldIn_ne h
  have hf := ldIn_field h
  obtain ⟨t, ht⟩ : ∃ t : Nat, (t : Int) = p + 1075 := ⟨(p + 1075).toNat, by omega⟩
  have hq := run_g (ldIn_small h t ht (by omega))
  have hb := Lib.hid (ldIn_bits_ h (t + 1) (by omega))
  have hpx : -1075 ≤ e + -(c : Int) + ((E : Int) + 1 - 1023) := by have := h.p_eq; omega
  have hpy : e + -(c : Int) + ((E : Int) + 1 - 1023) < -1022 := by have := h.p_eq; omega
  have hpt := Lib.hid (show e + -(c : Int) + ((E : Int) + 1 - 1023) + 53 + 1023 = (t : Int) + 1 by have := h.p_eq; omega)
  have H := Lib.hid h
  have Z := Lib.hid hz
  generalize mk (sg x) ((t + 1) * 2 ^ 52 + (m - 2 ^ 52)) = y at *
  clear h hz hp1 hp2 ht
  go_enter Try.func58, Try.ntmps58
  go_wp2_with (first | (go_at_call 45; ((with_reducible refine (ldIn_isInf H.out _).mono ?_)); rintro e w' ⟨rfl, rfl⟩) | (go_at_call 46; ((with_reducible refine (ldIn_isNaN H.out _).mono ?_)); rintro e w' ⟨rfl, rfl⟩) | (go_at_call 59; ((with_reducible refine (Z.out _).mono ?_)); rintro e w' ⟨rfl, rfl⟩) | (go_at_call 61; first | ((with_reducible refine (mathInf_pos _).mono ?_); rintro e w' ⟨rfl, rfl⟩) | ((with_reducible refine (mathInf_neg _).mono ?_); rintro e w' ⟨rfl, rfl⟩)))
  rw [hb.out ((e + -(c : Int) + ((E : Int) + 1 - 1023) + 53 + 1023) * 4503599627370496) (by rw [hpt.out]; omega)]
  go_simp
  go_wp2
  go_ret
  exact ret_f rfl rfl

theorem ldexp_all : Calls Try.prog 58 #[.float .f64 x, .int .i64 e] w fun e' w' => e' = .returned (.float .f64 (ld x e)) ∧ w = w' := by
  by_cases p1 : p < -1075
  · exact ldexp_under h hE hc he1 he2 hz w p1
  by_cases p2 : 1023 < p
  · exact ldexp_over h hE hc he1 he2 hz w p2
  by_cases p3 : p < -1022
  · exact ldexp_small h hE hc he1 he2 hz w (by omega) p3
  · exact ldexp_normal h hE hc he1 he2 hz w (by omega) (by omega)
end

set_option maxHeartbeats 400000 in
theorem ldexp_zero {x : Nat} (h0 : rg x = 0) (e : Int) (w : World) : Calls Try.prog 58 #[.float .f64 x, .int .i64 e] w fun e' w' => e' = .returned (.float .f64 (ld x e)) ∧ w = w' := by
  have hk : key x = 0 := by have := key_natAbs x; omega
  have b0 := c_eq (a := x) (b := 0) (by rw [h0]; exact Nat.zero_le _) rg_zero_le
  rw [key_zero, decide_eq_true hk] at b0
  have hres := Lib.hid (ld_keep (e := e) (Or.inl h0))
  clear h0 hk
  go_enter Try.func58, Try.ntmps58
  go_wp2
  go_ret
  exact ret_f hres.out.symm rfl

set_option maxHeartbeats 400000 in
theorem ldexp_inf {x : Nat} (hx : x < 2 ^ 64) (h0 : INF ≤ rg x) (e : Int) (w : World) : Calls Try.prog 58 #[.float .f64 x, .int .i64 e] w fun e' w' => e' = .returned (.float .f64 (ld x e)) ∧ w = w' := by
  have hI := INF_val
  have b0 : (FloatKind.f64.format.order x 0 == some .eq) = false := by
    rcases Nat.lt_or_ge INF (rg x) with h | h
    · rw [c_nan (Or.inl h)]; rfl
    · rw [c_eq h rg_zero_le, key_zero, decide_eq_false]
      have := key_natAbs x; omega
  have hres := Lib.hid (ld_keep (e := e) (Or.inr h0))
  have H1 := Lib.hid (fun W : World => isInf_any x W hx)
  have H2 := Lib.hid (fun W : World => isNaN_any x W)
  by_cases hi : rg x = INF
  · rw [decide_eq_true hi] at H1
    clear h0 hx hI hi
    go_enter Try.func58, Try.ntmps58
    go_wp2_with (first | (go_at_call 45; ((with_reducible refine (H1.out _).mono ?_)); rintro e w' ⟨rfl, rfl⟩) | (go_at_call 46; ((with_reducible refine (H2.out _).mono ?_)); rintro e w' ⟨rfl, rfl⟩))
    go_ret
    exact ret_f hres.out.symm rfl
  · rw [decide_eq_false hi] at H1
    rw [nan_true.2 (show INF < rg x by omega)] at H2
    clear h0 hx hI hi
    go_enter Try.func58, Try.ntmps58
    go_wp2_with (first | (go_at_call 45; ((with_reducible refine (H1.out _).mono ?_)); rintro e w' ⟨rfl, rfl⟩) | (go_at_call 46; ((with_reducible refine (H2.out _).mono ?_)); rintro e w' ⟨rfl, rfl⟩))
    go_ret
    exact ret_f hres.out.symm rfl

theorem ldexp_inner {x : Nat} (hx : x < 2 ^ 64) (e : Int) (w : World) (he1 : -20000 ≤ e) (he2 : e ≤ 20000) : Calls Try.prog 58 #[.float .f64 x, .int .i64 e] w fun e' w' => e' = .returned (.float .f64 (ld x e)) ∧ w = w' := by
  by_cases h0 : rg x = 0
  · exact ldexp_zero h0 e w
  rcases Nat.lt_or_ge (rg x) INF with hf | hf
  · rcases Nat.lt_or_ge (rg x) (2 ^ 52) with hl | hl
    · obtain ⟨u1, u2, E, m, u3, u4, u5, u6, u7⟩ := up_form (x := x) (by omega) hl
      exact ldexp_all (c := 52) ⟨hx, u1, by omega, hf, u2, u3, u4, u5, u6, u7, rfl⟩ u6 (by omega) he1 he2 (fun W => normalize_low x W hx hl) w
    · obtain ⟨E, m, e1, u4, u5⟩ := rung_split hl
      have hE : E ≤ 2045 := by have := INF_val; omega
      exact ldexp_all (c := 0) ⟨hx, hx, by omega, hf, rfl, e1, u4, u5, hE, by rw [e1, rv_mk u4 (Nat.le_of_lt u5)]; simp, rfl⟩ hE (by omega) he1 he2 (fun W => normalize_high x W hx hl hf) w
  · exact ldexp_inf hx hf e w

set_option maxHeartbeats 400000 in
theorem ldexp_any (x : Nat) (e : Int) (w : World) (hx : x < 2 ^ 64) (he1 : -20000 ≤ e) (he2 : e ≤ 20000) : Calls Try.prog 50 #[.float .f64 x, .int .i64 e] w fun e' w' => e' = .returned (.float .f64 (ld x e)) ∧ w = w' := by
  have H := Lib.hid (fun W : World => ldexp_inner hx e W he1 he2)
  clear hx he1 he2
  go_enter Try.func50, Try.ntmps50
  go_wp2_with (go_at_call 58; ((with_reducible refine (H.out _).mono ?_)); rintro e w' ⟨rfl, rfl⟩)
  go_ret
  exact ⟨rfl, rfl⟩
end Go.Proofs.Ytelhgahbhbinoaa

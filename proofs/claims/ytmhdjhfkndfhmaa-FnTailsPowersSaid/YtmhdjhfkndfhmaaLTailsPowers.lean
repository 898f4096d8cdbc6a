/-
  The walk of laws.FnTailsPowers: it returns true, for every number and all lists.
-/
import Derived.Test.YtmhdjhfkndfhmaaTls
import Derived.Test.YtmhdjhfkndfhmaaLdx
import Derived.Test.YtmhdjhfkndfhmaaMid
import Derived.Test.YtmhdjhfkndfhmaaLawA
import Derived.Test.YtmhdjhfkndfhmaaRow
namespace Go.Proofs.Ytmhdjhfkndfhmaa.LTailsPowers
open Go.RowKit Flt

theorem one_ld {j : Nat} (hj : 2 ^ j < TOP) : ld 4607182418800017408 ((j : Int) - 1074) = wd (2 ^ j) := by
  have hF : Fits (2 ^ j) := ⟨rep_pow j, hj⟩
  have e : 4607182418800017408 = 1023 * 2 ^ 52 := rfl
  have e1 : rg (1023 * 2 ^ 52) = 1023 * 2 ^ 52 := rfl
  have e2 : sg (1023 * 2 ^ 52) = false := rfl
  rw [e, ld_fin (by rw [e1]; decide) (by rw [e1]; decide), e1, e2]
  obtain ⟨E, hE⟩ : ∃ E, E = 1023 := ⟨_, rfl⟩
  obtain ⟨F, hFE⟩ : ∃ F, F = 51 + E := ⟨_, rfl⟩
  rw [← hE, rv_pow E (by omega), ← hFE, lds_of (2 ^ F) (a := j) (k := F) (by omega)]
  have := ru_scale (2 ^ j) 0 F
  rw [Nat.zero_add, Nat.mul_comm] at this
  rw [this, mk_false]
  exact Nat.min_eq_left (Nat.le_of_lt (wd_fin hF.rep hF.lt))
/-- the power that a number of the list tells -/
def pk (a : Int) : Int := a % 41 - 20
theorem pk_bd (a : Int) : -20 ≤ pk a ∧ pk a ≤ 20 := by unfold pk; omega
def pw (k : Int) : Nat := ld 4607182418800017408 k
theorem vl_pw {k : Int} (h1 : -20 ≤ k) (h2 : k ≤ 20) {j : Nat} (hj : (j : Int) = k + 1074) : vl (pw k) = .num ((2 ^ j : Nat) : Int) ∧ pw k < 2 ^ 64 := by
  have he := e0_eq
  have hF : Fits (2 ^ j) := ⟨rep_pow j, pow_TOP (by omega)⟩
  unfold pw
  rw [show k = (j : Int) - 1074 by omega, one_ld hF.lt, vl_fin hF.fin, hF.fv]
  exact ⟨rfl, hF.wd_lt⟩
/-- a word that can be scaled m times by at most 20 -/
def Rg (m r : Nat) : Prop := r = 0 ∨ (400 + 20 * m ≤ r / 2 ^ 52 ∧ r / 2 ^ 52 + 20 * m ≤ 1640)
theorem rg_scaled {x : Nat} {k : Int} (hx : x < 2 ^ 64) (h1 : 400 * 2 ^ 52 ≤ rg x) (h2 : rg x ≤ 1641 * 2 ^ 52) (k1 : -300 ≤ k) (k2 : k ≤ 300) : ((rg (ld x k) : Nat) : Int) = rg x + k * 2 ^ 52 := by
  have hI := INF_val
  obtain ⟨s, hs⟩ : ∃ s : Nat, (s : Int) = rg x + k * 2 ^ 52 := ⟨(rg x + k * 2 ^ 52 : Int).toNat, by omega⟩
  rw [rg_ld k hx, sl_mid (by omega) (by omega) s (by omega) (by omega) hs, hs]
/-- the exact product -/
theorem fv_scaled {x : Nat} {k : Int} {j : Nat} (hx : x < 2 ^ 64) (h1 : 400 * 2 ^ 52 ≤ rg x) (h2 : rg x ≤ 1641 * 2 ^ 52) (k1 : -20 ≤ k) (k2 : k ≤ 20) (hj : (j : Int) = k + 1074) : fv x * ((2 ^ j : Nat) : Int) = fv (ld x k) * ((2 ^ e0 : Nat) : Int) := by
  have he := e0_eq
  have hr := rg_scaled hx h1 h2 (k := k) (by omega) (by omega)
  have hs := sg_ld k hx
  unfold fv
  rw [hs]
  have hn : rv (rg x) * 2 ^ j = rv (rg (ld x k)) * 2 ^ e0 := by
    rcases Int.le_total 0 k with g | g
    · obtain ⟨a, rfl⟩ : ∃ a : Nat, k = (a : Int) := ⟨k.toNat, by omega⟩
      rw [show rg (ld x (a : Int)) = rg x + a * 2 ^ 52 by omega, rv_shift (by omega), Nat.mul_assoc, ← Nat.pow_add]
      congr 2; omega
    · obtain ⟨a, rfl⟩ : ∃ a : Nat, k = -(a : Int) := ⟨(-k).toNat, by omega⟩
      rw [show rg x = rg (ld x (-(a : Int))) + a * 2 ^ 52 by omega]
      have := rv_shift (r := rg (ld x (-(a : Int)))) (by omega) a
      rw [this, Nat.mul_assoc, ← Nat.pow_add]
      congr 2; omega
  have hn' : (rv (rg x) : Int) * ((2 ^ j : Nat) : Int) = (rv (rg (ld x k)) : Int) * ((2 ^ e0 : Nat) : Int) := by
    rw [← Int.natCast_mul, ← Int.natCast_mul, hn]
  generalize ((2 ^ j : Nat) : Int) = P at *
  generalize ((2 ^ e0 : Nat) : Int) = Q at *
  cases sg x
  · exact hn'
  · simp only [if_true]; rw [Int.neg_mul, Int.neg_mul, hn']
theorem rg_down {r s m : Nat} {k : Int} (h1 : 400 + 20 * (m + 1) ≤ r / 2 ^ 52) (h2 : r / 2 ^ 52 + 20 * (m + 1) ≤ 1640) (hs : (s : Int) = r + k * 2 ^ 52) (k1 : -20 ≤ k) (k2 : k ≤ 20) : Rg m s := by
  have e : ((s / 2 ^ 52 : Nat) : Int) = ((r / 2 ^ 52 : Nat) : Int) + k := by omega
  right
  generalize s / 2 ^ 52 = a at *
  generalize r / 2 ^ 52 = b at *
  refine ⟨?_, ?_⟩ <;> omega
theorem rnd_z (k : Nat) : rnd 0 k = .num 0 := by
  have h1 := rnd_exact (b := 0) (by decide) k
  have h2 : fv 0 = 0 := rfl
  rw [h2, Int.zero_mul] at h1
  exact h1
/-- one product: exact, and nothing is lost -/
theorem step {x : Nat} {k : Int} {m : Nat} (hx : x < 2 ^ 64) (hr : Rg (m + 1) (rg x)) (hm : m < 10) (k1 : -20 ≤ k) (k2 : k ≤ 20) :
    mulv (vl x) (vl (pw k)) = vl (ld x k) ∧ fmv (vl x) (vl (pw k)) (negv (vl (ld x k))) = .num 0 ∧ Rg m (rg (ld x k)) := by
  have he := e0_eq
  have hI := INF_val
  obtain ⟨j, hj⟩ : ∃ j : Nat, (j : Int) = k + 1074 := ⟨(k + 1074).toNat, by omega⟩
  rw [(vl_pw k1 k2 hj).1]
  rcases hr with h0 | ⟨h1, h2⟩
  · rw [ld_keep (Or.inl h0), vl_fin (by omega), (fv_zero_iff x).2 h0]
    refine ⟨?_, ?_, Or.inl h0⟩
    · show rnd (0 * _) e0 = _; rw [Int.zero_mul, rnd_z]
    · show rnd (0 * _ + -0 * (U : Int)) e0 = _; rw [Int.zero_mul, Int.neg_zero, Int.zero_mul, Int.add_zero, rnd_z]
  · have hsc := rg_scaled hx (by omega) (by omega) (k := k) (by omega) (by omega)
    have hfz : rg (ld x k) < INF := by omega
    have hfx : rg x < INF := by omega
    have hR : Rg m (rg (ld x k)) := rg_down h1 h2 hsc k1 k2
    have hfv := fv_scaled hx (by omega) (by omega) k1 k2 hj
    rw [vl_fin hfx, vl_fin hfz]
    refine ⟨?_, ?_, hR⟩
    · show rnd (fv x * ((2 ^ j : Nat) : Int)) e0 = _
      rw [hfv]
      exact rnd_num (by rw [fv_natAbs]; exact fits_rv hfz) e0
    · show rnd (fv x * ((2 ^ j : Nat) : Int) + -fv (ld x k) * (U : Int)) e0 = _
      have hU : (U : Int) = ((2 ^ e0 : Nat) : Int) := by rw [U_eq]
      rw [hfv, hU, Int.neg_mul, Int.add_right_neg, rnd_z]
def sm : List Int → Int
  | [] => 0
  | a :: l => pk a + sm l
theorem sm_bd : ∀ l : List Int, -20 * (l.length : Int) ≤ sm l ∧ sm l ≤ 20 * (l.length : Int)
  | [] => by simp [sm]
  | a :: l => by
    have := sm_bd l
    have h := pk_bd a
    simp only [sm, List.length_cons]
    omega
theorem sm_snoc (l : List Int) (a : Int) : sm (l ++ [a]) = sm l + pk a := by
  induction l with
  | nil => simp [sm]
  | cons b l ih => simp only [List.cons_append, sm, ih]; omega
def pwl (l : List Int) : List Nat := l.map fun a => pw (pk a)
theorem pwl_len (l : List Int) : (pwl l).length = l.length := by simp [pwl]
theorem pwl_snoc {l : List Int} {k : Nat} (h : k < l.length) : fl (pwl (l.take (k + 1))) = fl (pwl (l.take k)) ++ [Value.float .f64 (pw (pk (l.getD k 0)))] := by
  rw [take_snoc l k 0 h]; unfold pwl; rw [List.map_append, fl_append]; rfl
/-- all of them -/
theorem all : ∀ (l : List Int) (x : Nat), x < 2 ^ 64 → l.length ≤ 10 → Rg l.length (rg x) →
    tlP (vl x) ((pwl l).map vl) = vl (ld x (sm l)) ∧ ∀ t ∈ tlL (vl x) ((pwl l).map vl), t = .num 0 := by
  intro l
  induction l with
  | nil =>
    intro x hx _ _
    refine ⟨?_, fun t ht => by cases ht⟩
    show vl x = vl (ld x 0)
    rw [ld_zero hx]
  | cons a l ih =>
    intro x hx hl hr
    have hb := pk_bd a
    have hsb := sm_bd l
    simp only [List.length_cons] at hl hr
    obtain ⟨s1, s2, s3⟩ := step hx hr (by omega) hb.1 hb.2
    obtain ⟨i1, i2⟩ := ih (ld x (pk a)) (ld_lt _ hx) (by omega) s3
    have hcomp : ld (ld x (pk a)) (sm l) = ld x (pk a + sm l) := by
      have hI := INF_val
      rcases hr with h0 | ⟨h1, h2⟩
      · rw [ld_keep (Or.inl h0), ld_keep (Or.inl h0), ld_keep (Or.inl h0)]
      · have r1 := rg_scaled hx (by omega) (by omega) (k := pk a) (by omega) (by omega)
        have r2 := rg_scaled (ld_lt (pk a) hx) (by omega) (by omega) (k := sm l) (by omega) (by omega)
        have r3 := rg_scaled hx (by omega) (by omega) (k := pk a + sm l) (by omega) (by omega)
        rw [← mk_of (ld_lt (sm l) (ld_lt (pk a) hx)), ← mk_of (ld_lt (pk a + sm l) hx), sg_ld _ (ld_lt _ hx), sg_ld _ hx, sg_ld _ hx]
        congr 1
        omega
    refine ⟨?_, ?_⟩
    · show tlP (mulv (vl x) (vl (pw (pk a)))) ((pwl l).map vl) = _
      rw [s1, i1, hcomp]; rfl
    · intro t ht
      have ht' : t ∈ fmv (vl x) (vl (pw (pk a))) (negv (mulv (vl x) (vl (pw (pk a))))) :: tlL (mulv (vl x) (vl (pw (pk a)))) ((pwl l).map vl) := ht
      rw [s1, s2] at ht'
      rcases List.mem_cons.1 ht' with h | h
      · exact h
      · exact i2 t h
theorem mid_rg {r m : Nat} (h : Mid r) (hm : m ≤ 10) : Rg m r := by
  rcases h with h | ⟨h1, h2⟩
  · exact Or.inl h
  · exact Or.inr ⟨by omega, by omega⟩
theorem eq_of_vl {a b : Nat} (h : vl a = vl b) (hf : rg b < INF) : (FloatKind.f64.format.order a b == some .eq) = true := by
  rw [vl_fin hf] at h
  rcases vl_cases a with ⟨_, e⟩ | ⟨_, e⟩ | ⟨h1, e⟩
  · rw [e] at h; cases h
  · rw [e] at h; cases h
  · rw [e] at h
    injection h with h
    rw [c_eq (Nat.le_of_lt h1) (Nat.le_of_lt hf), decide_eq_true ((fv_eq_iff a b).1 h)]
theorem ne_zero_no {t : Nat} (h : vl t = .num 0) : (FloatKind.f64.format.order t 0 != some .eq) = false := by
  have := eq_of_vl (a := t) (b := 0) (by rw [h]; rfl) (by decide)
  show (!(FloatKind.f64.format.order t 0 == some .eq)) = false
  rw [this]; rfl
theorem ld_fin_mid {x : Nat} {s : Int} (hx : x < 2 ^ 64) (h : Mid (rg x)) (s1 : -200 ≤ s) (s2 : s ≤ 200) : rg (ld x s) < INF := by
  have hI := INF_val
  rcases h with h | ⟨h1, h2⟩
  · rw [ld_keep (Or.inl h)]; omega
  · have := rg_scaled hx (by omega) (by omega) (k := s) (by omega) (by omega)
    omega
theorem len_of {L : List Nat} {x : Val} {l : List Nat} {n : Nat} (h : L.map vl = tlL x (l.map vl)) (hl : l.length = n) : L.length = n := by
  have := congrArg List.length h
  rwa [List.length_map, tlL_len, List.length_map, hl] at this
theorem rd_len {w : World} {base : Nat} {e : TypeId} {A : Option Addr} {c N : Nat} {xs : List Value} (hl : xs.length = N) (h : w.ownsRow base e 1 (.slice A N c) N xs) : Rd w w.heap.size A xs := by
  subst hl; exact Rd.of_own h
theorem one_one : (FloatKind.f64.format.order 4607182418800017408 4607182418800017408 == some .eq) = true := by
  rw [c_self']; decide

set_option maxRecDepth 100000 in
set_option maxHeartbeats 3200000 in
theorem walk_mid (w : World) (x : Nat) (hx : x < 2 ^ 64) (A : Option Addr) (n c : Nat) (l : List Int) (h : IRow w A n c l) (hm : Mid (rg x)) (hn : n ≤ 10) :
    Calls Try.prog 12 #[.float .f64 x, .slice A n c] w fun e' w' => e' = .returned (.bool true) ∧ Below w.heap.size w w' := by
  obtain ⟨i0, hi, hz0, hz1, hz2⟩ := info_parts Try.infoF
  have HM := Lib.hid (fun W : World => middle_any x W hx)
  rw [decide_eq_true hm] at HM
  have o1 := one_one
  obtain ⟨hlen0, hcap, hroom, hrd, hwd0⟩ := h
  have hlen := Lib.hid hlen0
  obtain ⟨a1, a2⟩ := all l x hx (by omega) (by rw [hlen0]; exact mid_rg hm hn)
  have A1 := Lib.hid a1
  have A2 := Lib.hid a2
  have hsb := sm_bd l
  rw [hlen0] at hsb
  have hfin := Lib.hid (ld_fin_mid (s := sm l) hx hm (by omega) (by omega))
  have HL1 := Lib.hid (fun (k : Int) (h1 : -20 ≤ k) (h2 : k ≤ 20) (W : World) => show Calls Try.prog 29 #[.float .f64 4607182418800017408, .int .i64 (k + 4000)] W fun e' w' => e' = .returned (.float .f64 (pw k)) ∧ W = w' from by
    have := impLdexp_any 4607182418800017408 (k + 4000) W (by decide)
    rw [ex_shift (by omega) (by omega)] at this
    exact this)
  have HL2 := Lib.hid (fun W : World => impLdexp_any x (sm l + 4000) W hx)
  rw [ex_shift (by omega) (by omega)] at HL2
  have HL3 := Lib.hid (fun W : World => impLdexp_any 4607182418800017408 4000 W (by decide))
  rw [show ex 4000 = 0 by decide, ld_zero (by decide)] at HL3
  clear hlen0 hwd0 hcap hm a1 a2
  go_enter Try.func12, Try.ntmps12
  go_wp2_with (go_at_call 26; ((with_reducible refine (HM.out _).mono ?_)); rintro e w' ⟨rfl, rfl⟩)
  go_loopw [5, 6, 8, 24] (fun v s _ i wr => ∃ k : Nat, k ≤ n ∧ i = .int .i64 (k : Int) ∧ s = .int .i64 (sm (l.take k)) ∧ wr.ownsRow w.heap.size 22 1 v (fl (pwl (l.take k))).length (fl (pwl (l.take k))) ∧ Below w.heap.size w wr) (fun _ _ _ i _ => n - (intOf i).toNat)
  case atStart => exact ⟨0, Nat.zero_le _, rfl, rfl, World.ownsRow_lit w #[] 0 (Nat.le_refl _) (by decide) rfl, (Below.refl _ _).alloc (Nat.le_refl _) _⟩
  case round =>
    obtain ⟨k, hk, rfl, rfl, hown, hbel⟩ := hrel
    have hsz := hbel.size
    by_cases hlt : k < n
    · obtain ⟨ad, e1, _, c1⟩ := (hrd.below hbel).il (k := k) (by rw [hlen.out]; exact hlt)
      cases e1
      have hS := Lib.hid (pwl_snoc (l := l) (k := k) (by rw [hlen.out]; exact hlt))
      have hL : Hid ((fl (pwl (l.take k))).length = k) := by
        show _ = _
        rw [fl_len, pwl_len, List.length_take, hlen.out]; omega
      have hsn := Lib.hid (sm_snoc (l.take k) (l.getD k 0))
      rw [← take_snoc l k 0 (by rw [hlen.out]; exact hlt)] at hsn
      have hsk := sm_bd (l.take k)
      rw [List.length_take, hlen.out] at hsk
      generalize sm (l.take k) = S at *
      generalize l.getD k 0 = y at *
      obtain ⟨p1, p2⟩ := pk_bd y
      have hy1 := Int.emod_nonneg y (show (41 : Int) ≠ 0 by omega)
      have hy2 := Int.emod_lt_of_pos y (show (0 : Int) < 41 by omega)
      have hpk : Hid (y % 41 - 20 = pk y) := rfl
      have HL := Lib.hid (HL1.out (pk y) p1 p2)
      generalize pk y = q at *
      generalize pw q = pq at *
      go_wp2_with (go_at_call 28; ((with_reducible refine (specAt_any _ _ _ (by decide) (by decide)).mono ?_)); rintro e w' ⟨rfl, rfl⟩)
      rw [hpk.out]
      clear hy1 hy2 hpk
      ((with_reducible refine (shift_any _ _ (by omega) (by omega)).mono ?_); rintro e w' ⟨rfl, rfl⟩)
      go_wp2_with (first | (go_at_call 29; ((with_reducible refine (HL.out _).mono ?_)); rintro e w' ⟨rfl, rfl⟩) | (at_builtin; refine wpList_append_own _ rfl _ _ 23 rfl w.heap.size 22 i0 (.float .f64 0) 1 8 Try.underlying23 hi hz0 hz1 hz2 rfl (by decide) _ _ _ rfl (hown.alloc _) ⟨wr.heap.size, 0, none⟩ 1 1 [.float .f64 pq] rfl rfl (news_one _ _ _) ?c2 ?c3 ?c4 ?c5 ?_))
      case c2 => intro u hu; simp at hu; subst hu; rfl
      case c3 => rw [hL.out]; unfold maxLen; omega
      case c4 => rw [hL.out]; omega
      case c5 => simp; omega
      intro v' w1 hown' hgrow _
      have hown2 : Hid (w1.ownsRow w.heap.size 22 1 v' (fl (pwl (l.take (k + 1)))).length (fl (pwl (l.take (k + 1))))) := by
        show w1.ownsRow _ _ _ _ _ _
        rw [hS.out, List.length_append]; exact hown'
      have hbel2 : Below w.heap.size w w1 := (hbel.alloc hsz _).grown hgrow (by simp; omega) (fun g hg => (hown.lt g hg).1)
      clear hown' hgrow hown hbel c1
      go_wp2
      go_roundw
      case rel => exact ⟨k + 1, by omega, by go_num, by rw [hsn.out], hown2.out, hbel2⟩
      case measure => simp [intOf]; omega
    · have hkm : l.take k = l := List.take_of_length_le (by rw [hlen.out]; omega)
      rw [hkm] at hown
      rw [hkm]
      have hpl : Hid ((pwl l).length = n) := by show _ = _; rw [pwl_len, hlen.out]
      obtain ⟨A3, c3, hv3, _⟩ := own_slice hown
      rw [fl_len, hpl.out] at hv3
      subst hv3
      have r3 : Rd wr wr.heap.size A3 (fl (pwl l)) := rd_len (by rw [fl_len, hpl.out]) (by rw [fl_len, hpl.out] at hown; exact hown)
      have HT := Lib.hid (tails_any x (pwl l) A3 c3 n wr.heap.size wr hx hpl.out (by omega) (Nat.le_refl _) r3)
      have HB := Lib.hid hbel
      clear hkm hown r3 hbel HL1
      go_wp2_with fail
      ((with_reducible refine HT.out.mono ?_); rintro e w1 ⟨b1, L1, A4, c4, rfl, v1, l1, t1, d1, o4, be1⟩)
      have N1 := len_of t1 hpl.out
      rw [N1] at o4 ⊢
      have r4 := rd_len (by rw [fl_len, N1]) o4
      have heq := eq_of_vl (a := b1) (b := ld x (sm l)) (by rw [v1, A1.out]) hfin.out
      have hz : Hid (∀ k, k < n → (FloatKind.f64.format.order (L1.getD k 0) 0 != some .eq) = false) := fun k hk => by
        apply ne_zero_no
        apply A2.out
        rw [← t1]
        exact List.mem_map.2 ⟨_, getD_mem L1 k 0 (by rw [N1]; exact hk), rfl⟩
      have HB1 := Lib.hid (HB.out.trans (be1.mono HB.out.size))
      have hN1 := Lib.hid N1
      generalize ld x (sm l) = lx at *
      clear HT v1 t1 d1 o4 be1 HB N1 A1 A2
      go_wp2
      go_loopw [12, 49] (fun _ i wr => ∃ k : Nat, k ≤ n ∧ i = .int .i64 (k : Int) ∧ w1 = wr) (fun _ i _ => n - (intOf i).toNat)
      case atStart => exact ⟨0, Nat.zero_le _, rfl, rfl⟩
      case round =>
        obtain ⟨k2, hk2, rfl, rfl⟩ := hrel
        by_cases hlt2 : k2 < n
        · obtain ⟨ad, e1, _, c1⟩ := r4.fl (k := k2) (by rw [hN1.out]; exact hlt2)
          cases e1
          have hzk := hz.out k2 hlt2
          generalize L1.getD k2 0 = t at *
          go_wp2
          go_roundw
          case rel => exact ⟨k2 + 1, by omega, by go_num, by trivial⟩
          case measure => simp [intOf]; omega
        · go_wp2_with (first | (go_at_call 27; ((with_reducible refine (shift_any _ _ (by omega) (by omega)).mono ?_)); rintro e w' ⟨rfl, rfl⟩) | (go_at_call 29; first | (((with_reducible refine (HL2.out _).mono ?_)); rintro e w' ⟨rfl, rfl⟩) | (((with_reducible refine (HL3.out _).mono ?_)); rintro e w' ⟨rfl, rfl⟩)))
          go_ret
          exact ⟨rfl, HB1.out⟩

set_option maxHeartbeats 800000 in
theorem walk (w : World) (x : Nat) (hx : x < 2 ^ 64) (A : Option Addr) (n c : Nat) (l : List Int) (h : IRow w A n c l) :
    Calls Try.prog 12 #[.float .f64 x, .slice A n c] w fun e' w' => e' = .returned (.bool true) ∧ Below w.heap.size w w' := by
  have HM := Lib.hid (fun W : World => middle_any x W hx)
  by_cases hm : Mid (rg x)
  · by_cases hn : n ≤ 10
    · exact walk_mid w x hx A n c l h hm hn
    · rw [decide_eq_true hm] at HM
      clear h hm hx
      go_enter Try.func12, Try.ntmps12
      go_wp2_with (go_at_call 26; ((with_reducible refine (HM.out _).mono ?_)); rintro e w' ⟨rfl, rfl⟩)
      go_ret
      exact ⟨rfl, Below.refl _ _⟩
  · rw [decide_eq_false hm] at HM
    clear h hm hx
    go_enter Try.func12, Try.ntmps12
    go_wp2_with (go_at_call 26; ((with_reducible refine (HM.out _).mono ?_)); rintro e w' ⟨rfl, rfl⟩)
    go_ret
    exact ⟨rfl, Below.refl _ _⟩
end Go.Proofs.Ytmhdjhfkndfhmaa.LTailsPowers

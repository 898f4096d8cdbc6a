/-
  The walk of laws.FnPowersSum: it returns true, for all numbers.
-/
import Derived.Test.YtlpcpoganlmiaaaPow
import Derived.Test.YtlpcpoganlmiaaaSmi
import Derived.Test.YtlpcpoganlmiaaaLdx
import Derived.Test.YtlpcpoganlmiaaaLawA
import Derived.Test.YtlpcpoganlmiaaaMid
import Derived.Test.YtlpcpoganlmiaaaSpcB
import Derived.Test.YtlpcpoganlmiaaaSpcC
import Derived.Test.YtlpcpoganlmiaaaRow
namespace Go.Proofs.Ytlpcpoganlmiaaa.LPowersSum
open Go.RowKit Flt

theorem one_ld {j : Nat} (hj : 2 ^ j < TOP) : ld 4607182418800017408 ((j : Int) - 1074) = wd (2 ^ j) := by
  have hF : Fits (2 ^ j) := ⟨rep_pow j, hj⟩
  have e : 4607182418800017408 = 1023 * 2 ^ 52 := rfl
  have e1 : rg (1023 * 2 ^ 52) = 1023 * 2 ^ 52 := rfl
  have e2 : sg (1023 * 2 ^ 52) = false := rfl
  rw [e, ld_fin (by rw [e1]; decide) (by rw [e1]; decide), e1, e2]
  obtain ⟨E, hE⟩ : ∃ E, E = 1023 := ⟨_, rfl⟩
  obtain ⟨F, hFE⟩ : ∃ F, F = 51 + E := ⟨_, rfl⟩
  rw [← hE, rv_pow E (by omega), ← hFE, lds_of (2 ^ F) (a := j) (k := F) (by omega)]
  have := ru_scale (2 ^ j) 0 F
  rw [Nat.zero_add, Nat.mul_comm] at this
  rw [this, mk_false]
  exact Nat.min_eq_left (Nat.le_of_lt (wd_fin hF.rep hF.lt))

/-- the sum of the powers of 2 with these exponents -/
def sp (l : List Nat) : Nat := (l.map (2 ^ ·)).sum
theorem sp_nil : sp [] = 0 := rfl
theorem sp_cons (j : Nat) (l : List Nat) : sp (j :: l) = 2 ^ j + sp l := rfl
theorem sp_append (l m : List Nat) : sp (l ++ m) = sp l + sp m := by unfold sp; rw [List.map_append, List.sum_append]
theorem sp_pws : ∀ n, sp (pws n) = n := by
  intro n
  induction n using Nat.strongRecOn with
  | _ n ih =>
    by_cases h : n = 0
    · rw [h, pws_zero]; rfl
    · rw [pws_pos h, sp_cons, ih _ (sub_log2_lt h)]
      have := Nat.log2_self_le h
      omega
theorem sp_dvd (t : Nat) : ∀ l : List Nat, (∀ j ∈ l, t ≤ j) → 2 ^ t ∣ sp l := by
  intro l
  induction l with
  | nil => intro _; exact Nat.dvd_zero _
  | cons j l ih =>
    intro h
    rw [sp_cons]
    exact Nat.dvd_add (Nat.pow_dvd_pow 2 (h j (List.mem_cons_self ..))) (ih fun i hi => h i (List.mem_cons_of_mem _ hi))
theorem pws_ge {n m t : Nat} (h : n = m * 2 ^ t) : ∀ j ∈ pws n, t ≤ j := by
  intro j hj
  rw [h, pws_mul] at hj
  obtain ⟨i, _, rfl⟩ := List.mem_map.1 hj
  omega
/-- a sum of some of the powers is a number of the format -/
theorem part_fits {n : Nat} (hF : Fits n) (l : List Nat) (hl : ∀ j ∈ l, j ∈ pws n) (hle : sp l ≤ n) : Fits (sp l) := by
  obtain ⟨m, t, e, hm, _⟩ := hF.rep.form
  obtain ⟨s, hs⟩ := sp_dvd t l (fun j hj => pws_ge e j (hl j hj))
  refine hF.le ?_ hle
  rw [hs, Nat.mul_comm]
  refine rep_of t ?_
  have hp := pow_pos t
  have : s * 2 ^ t ≤ m * 2 ^ t := by rw [Nat.mul_comm s, ← hs, ← e]; exact hle
  have := Nat.le_of_mul_le_mul_right this hp
  omega
theorem take_fits {n : Nat} (hF : Fits n) (k : Nat) : Fits (sp ((pws n).take k)) := by
  refine part_fits hF _ (fun j hj => List.mem_of_mem_take hj) ?_
  have h := sp_pws n
  rw [← List.take_append_drop k (pws n), sp_append] at h
  omega
theorem drop_fits {n : Nat} (hF : Fits n) (k : Nat) : Fits (sp ((pws n).drop k)) := by
  refine part_fits hF _ (fun j hj => List.mem_of_mem_drop hj) ?_
  have h := sp_pws n
  rw [← List.take_append_drop k (pws n), sp_append] at h
  omega
theorem one_fits {n j : Nat} (hF : Fits n) (hj : j ∈ pws n) : Fits (2 ^ j) := by
  have hl : 2 ^ j ≤ n := by
    obtain ⟨a, b, e⟩ := List.append_of_mem hj
    have h := sp_pws n
    rw [e, sp_append, sp_cons] at h
    omega
  exact hF.le (rep_pow j) hl
theorem sp_take (l : List Nat) {k : Nat} (h : k < l.length) : sp (l.take (k + 1)) = sp (l.take k) + 2 ^ l.getD k 0 := by
  rw [take_snoc l k 0 h, sp_append, sp_cons, sp_nil, Nat.add_zero]
theorem sp_drop (l : List Nat) {k : Nat} (h : k < l.length) : sp (l.drop k) = sp (l.drop (k + 1)) + 2 ^ l.getD k 0 := by
  rw [List.drop_eq_getElem_cons h, sp_cons, List.getD_eq_getElem?_getD, List.getElem?_eq_getElem h, Nat.add_comm]; rfl

theorem abs_fin {x : Nat} (hx : x < 2 ^ 64) (hf : rg x < INF) : rg (absW x) < INF ∧ fv (absW x) = (rv (rg x) : Int) := by
  by_cases h0 : rg x = 0
  · have hk0 : key x = 0 := by have := key_natAbs x; omega
    rw [abs_zero hk0]
    exact ⟨hf, by rw [(fv_zero_iff x).2 h0, h0, rv_zero]; rfl⟩
  · rw [abs_rg hx h0, rg_rg]
    refine ⟨hf, ?_⟩
    unfold fv
    rw [rg_rg, show sg (rg x) = false from (by unfold sg rg; simp), if_neg (by decide)]
theorem eq_abs {x : Nat} (hx : x < 2 ^ 64) (hf : rg x < INF) : (FloatKind.f64.format.order (wd (rv (rg x))) (absW x) == some .eq) = true := by
  obtain ⟨a1, a2⟩ := abs_fin hx hf
  have hF := fits_rv hf
  have f1 := fv_wd hF.rep hF.lt
  have f2 := wd_fin hF.rep hF.lt
  have f3 := rg_wd hF.rep hF.lt
  rw [c_eq (by rw [f3]; omega) (by omega), decide_eq_true ((fv_eq_iff _ _).1 (by rw [f1, a2]))]

/-- what a round is told -/
structure Rnd (n k p : Nat) (D : List Nat) : Prop where
  up : floatBits .add .f64 (wd (sp (D.drop (p + 1)))) (wd (2 ^ D.getD p 0)) = some (wd (sp (D.drop p)))
  dn : floatBits .add .f64 (wd (sp (D.take k))) (wd (2 ^ D.getD k 0)) = some (wd (sp (D.take (k + 1))))
  l1 : ld 4607182418800017408 ((D.getD p 0 : Int) - 1074) = wd (2 ^ D.getD p 0)
  l2 : ld 4607182418800017408 ((D.getD k 0 : Int) - 1074) = wd (2 ^ D.getD k 0)
  b1 : D.getD p 0 < 3000
  b2 : D.getD k 0 < 3000
theorem pow_bd {j : Nat} (h : Fits (2 ^ j)) : j < 3000 := by
  have he := e0_eq
  have hl := h.lt
  rw [TOP_eq] at hl
  have := (Nat.pow_lt_pow_iff_right (show 1 < 2 by decide)).1 hl
  omega
theorem rnd_of {n k p : Nat} (hF : Fits n) (hk : k < (pws n).length) (hp : p < (pws n).length) : Rnd n k p (pws n) := by
  have f1 := one_fits hF (getD_mem (pws n) k 0 hk)
  have f2 := one_fits hF (getD_mem (pws n) p 0 hp)
  refine ⟨?_, ?_, one_ld f2.lt, one_ld f1.lt, pow_bd f2, pow_bd f1⟩
  · rw [sp_drop _ hp]
    have := drop_fits hF p
    rw [sp_drop _ hp] at this
    exact add_wd (drop_fits hF (p + 1)) f2 this
  · rw [sp_take _ hk]
    have := take_fits hF (k + 1)
    rw [sp_take _ hk] at this
    exact add_wd (take_fits hF k) f1 this
theorem pwI_get (D : List Nat) {i : Nat} (h : i < D.length) : (pwI D).getD i 0 = (D.getD i 0 : Int) - 1074 := by
  unfold pwI
  rw [List.getD_eq_getElem?_getD, List.getD_eq_getElem?_getD, List.getElem?_map, List.getElem?_eq_getElem h]; rfl

set_option maxRecDepth 100000 in
set_option maxHeartbeats 3200000 in
theorem walk_fin (w : World) (x : Nat) (hx : x < 2 ^ 64) (hf : rg x < INF) :
    Calls Try.prog 10 #[.float .f64 x] w fun e w' => e = .returned (.bool true) ∧ Below w.heap.size w w' := by
  have HP := Lib.hid (powers_any x w hx)
  have HF := Lib.hid (fun W : World => specFinite_yes x W hf)
  have HA := Lib.hid (fun W : World => specAbs_any x W hx (nan_false.2 (by omega)))
  have heq := eq_abs hx hf
  have hFt := Lib.hid (fits_rv hf)
  have hlen := pws_len (fits_rv hf).rep
  unfold pwW at HP
  rw [if_pos hf] at HP
  have hsp := Lib.hid (sp_pws (rv (rg x)))
  have hrn := Lib.hid (fun (k p : Nat) => rnd_of (n := rv (rg x)) (k := k) (p := p) hFt.out)
  generalize rv (rg x) = M at *
  generalize pws M = D at *
  generalize absW x = ax at *
  clear hf
  have HL := Lib.hid (fun (e : Int) (W : World) => impLdexp_any 4607182418800017408 e W (by decide))
  go_enter Try.func10, Try.ntmps10
  go_wp2_with fail
  ((with_reducible refine HP.out.mono ?_); rintro e w1 ⟨A, c, rfl, hc, hown, hbel⟩)
  have hr := Rd.of_own hown
  rw [il_len, pwI_len] at hc ⊢
  generalize hN : D.length = n at *
  have HN := Lib.hid hN
  clear hown HP hc hN
  go_wp2_with (go_at_call 30; ((with_reducible refine (HF.out _).mono ?_)); rintro e w' ⟨rfl, rfl⟩)
  go_loopw [4, 5, 6, 17] (fun a b _ i wr => ∃ k p : Nat, k ≤ n ∧ p + k = n ∧ i = .int .i64 k ∧ a = .float .f64 (wd (sp (D.drop p))) ∧ b = .float .f64 (wd (sp (D.take k))) ∧ w1 = wr) (fun _ _ _ i _ => n - (intOf i).toNat)
  case atStart => exact ⟨0, n, Nat.zero_le _, rfl, rfl, by rw [List.drop_of_length_le (by rw [HN.out]; exact Nat.le_refl _), sp_nil, wd_zero], by rw [List.take_zero, sp_nil, wd_zero], rfl⟩
  case round =>
    obtain ⟨k, p', hk, hpk, rfl, rfl, rfl, rfl⟩ := hrel
    by_cases hlt : k < n
    · obtain ⟨p, hp⟩ : ∃ p, p + 1 = p' := ⟨p' - 1, by omega⟩
      obtain ⟨q, hq⟩ : ∃ q, q + 1 = n := ⟨n - 1, by omega⟩
      have hpn : p < n := by omega
      obtain ⟨ad1, e1, _, c1⟩ := hr.il (k := k) (by rw [pwI_len, HN.out]; exact hlt)
      obtain ⟨ad2, e2, _, c2⟩ := hr.il (k := p) (by rw [pwI_len, HN.out]; exact hpn)
      cases e1; cases e2
      rw [pwI_get D (by rw [HN.out]; exact hlt)] at c1
      rw [pwI_get D (by rw [HN.out]; exact hpn)] at c2
      obtain ⟨r1, r2, r3, r4, r5, r6⟩ := hrn.out k p hlt hpn
      rw [hp] at r1
      have h1 := run_f r1
      have h2 := run_f r2
      have hw1 : IntKind.i64.wrap ((n : Int) - 1) = (q : Int) := by rw [IntWalk.i64_in _ (by omega)]; omega
      have hw2 : IntKind.i64.wrap ((q : Int) - (k : Int)) = (p : Int) := by rw [IntWalk.i64_in _ (by omega)]; omega
      have HS1 := Lib.hid (fun W : World => shift_any ((D.getD k 0 : Int) - 1074) W (by omega) (by omega))
      have HS2 := Lib.hid (fun W : World => shift_any ((D.getD p 0 : Int) - 1074) W (by omega) (by omega))
      have HL1 := Lib.hid (fun W : World => HL.out ((D.getD k 0 : Int) - 1074 + 4000) W)
      have HL2 := Lib.hid (fun W : World => HL.out ((D.getD p 0 : Int) - 1074 + 4000) W)
      rw [ex_shift (by omega) (by omega), r4] at HL1
      rw [ex_shift (by omega) (by omega), r3] at HL2
      clear r1 r2 r3 r4 r5 r6
      generalize wd (2 ^ D.getD k 0) = z1 at *
      generalize wd (2 ^ D.getD p 0) = z2 at *
      generalize (D.getD k 0 : Int) - 1074 = v1 at *
      generalize (D.getD p 0 : Int) - 1074 = v2 at *
      have hp' := Lib.hid hp
      have hpk' := Lib.hid hpk
      have hq' := Lib.hid hq
      clear hp hq hpk
      go_wp2_with (first | (go_at_call 17; first | (((with_reducible refine (HS1.out _).mono ?_)); rintro e w' ⟨rfl, rfl⟩) | (((with_reducible refine (HS2.out _).mono ?_)); rintro e w' ⟨rfl, rfl⟩)) | (go_at_call 16; first | (((with_reducible refine (HL1.out _).mono ?_)); rintro e w' ⟨rfl, rfl⟩) | (((with_reducible refine (HL2.out _).mono ?_)); rintro e w' ⟨rfl, rfl⟩)))
      go_roundw
      case rel => exact ⟨k + 1, p, by omega, by have := hp'.out; have := hpk'.out; omega, by go_num, rfl, rfl, by trivial⟩
      case measure => simp [intOf]; omega
    · have hkn : k = n := by omega
      have hp0 : p' = 0 := by omega
      have e1 : D.take k = D := List.take_of_length_le (by rw [HN.out]; omega)
      rw [e1, hp0, List.drop_zero, hsp.out]
      clear e1 hp0 hpk hsp hrn hFt
      go_wp2_with (go_at_call 33; ((with_reducible refine (HA.out _).mono ?_)); rintro e w' ⟨rfl, rfl⟩)
      go_ret
      exact ⟨rfl, hbel⟩

set_option maxHeartbeats 800000 in
theorem walk_inf (w : World) (x : Nat) (hx : x < 2 ^ 64) (hf : INF ≤ rg x) :
    Calls Try.prog 10 #[.float .f64 x] w fun e w' => e = .returned (.bool true) ∧ Below w.heap.size w w' := by
  have HP := Lib.hid (powers_any x w hx)
  have HF := Lib.hid (fun W : World => specFinite_no x W hf)
  unfold pwW at HP
  rw [if_neg (by omega)] at HP
  clear hf
  go_enter Try.func10, Try.ntmps10
  go_wp2_with fail
  ((with_reducible refine HP.out.mono ?_); rintro e w1 ⟨A, c, rfl, hc, hown, hbel⟩)
  rw [show (il []).length = 0 from rfl]
  clear hown hc HP
  go_wp2_with (go_at_call 30; ((with_reducible refine (HF.out _).mono ?_)); rintro e w' ⟨rfl, hq⟩)
  go_ret
  exact ⟨rfl, hbel.trans (hq.below _)⟩

theorem walk (w : World) (x : Nat) (hx : x < 2 ^ 64) :
    Calls Try.prog 10 #[.float .f64 x] w fun e w' => e = .returned (.bool true) ∧ Below w.heap.size w w' := by
  rcases Nat.lt_or_ge (rg x) INF with hf | hf
  · exact walk_fin w x hx hf
  · exact walk_inf w x hx hf
end Go.Proofs.Ytlpcpoganlmiaaa.LPowersSum

/-
  The walk of laws.FnReduceMultiples: it returns true, for every number, every integer and every list.
-/
import Derived.Test.YtelhgahbhbinoaaRed
import Derived.Test.YtelhgahbhbinoaaLawA
import Derived.Test.YtelhgahbhbinoaaRow
namespace Go.Proofs.Ytelhgahbhbinoaa.LReduceMultiples
open Go.RowKit Flt

theorem ofI64_run (n : Int) (w : World) : (convert 3 23 (.int .i64 n)).run Try.prog w = .ok (.float .f64 (floatOfInt .f64 n)) w :=
  run_convert_int_float w _ _ .i64 .f64 n (by rw [Try.underlying3]; rfl) Try.underlying23

/-- the word of a positive multiple -/
structure Mu (a z : Nat) : Prop where
  ex : ∃ m, 0 < m ∧ Fits (m * a * U) ∧ z = wd (m * a * U)

theorem fits_int {m : Nat} (h : m ≤ 2 ^ 53) : Fits (m * U) := fits_small h
theorem ofInt_word {m : Nat} (h : m ≤ 2 ^ 53) : floatOfInt .f64 (m : Int) = wd (m * U) := ofNat_wd (rep_small h) (fits_small h).lt

theorem mu_mod {a x z : Nat} (ha : 0 < a) (hz : Mu a z) (hf : rg x < INF) : rg (modW x z) < INF ∧ sg (modW x z) = sg x ∧ rv (rg (modW x z)) % (a * U) = rv (rg x) % (a * U) := by
  obtain ⟨m, hm, hF, ez⟩ := hz.ex
  rw [ez]
  clear ez hz
  have hU := U_pos
  have hp : 0 < m * a * U := Nat.mul_pos (Nat.mul_pos hm ha) hU
  have hw := wd_pos hF.rep hp
  have hR := modW_fits (x := x) (y := wd (m * a * U)) hf (by rw [hF.rg]; omega)
  rw [modW_num hf (by rw [hF.rg]; omega) (Nat.le_of_lt hF.fin)]
  rw [hF.rv] at hR ⊢
  refine ⟨fin_mkwd _ hR.rep hR.lt, sg_mkwd _ hR.rep hR.lt, ?_⟩
  rw [rg_mkwd _ hR.rep hR.lt, rv_wd hR.rep, Nat.mod_mod_of_dvd]
  rw [Nat.mul_assoc]
  exact Nat.dvd_mul_left _ _

theorem mu_red {a : Nat} (ha : 0 < a) : ∀ (l : List Nat) (x : Nat), (∀ z ∈ l, Mu a z) → rg x < INF → rg (redW x l) < INF ∧ sg (redW x l) = sg x ∧ rv (rg (redW x l)) % (a * U) = rv (rg x) % (a * U) := by
  intro l
  induction l with
  | nil => intro x _ hf; exact ⟨hf, rfl, rfl⟩
  | cons z l ih =>
    intro x h hf
    obtain ⟨h1, h2, h3⟩ := mu_mod ha (h z (List.mem_cons_self ..)) hf
    obtain ⟨k1, k2, k3⟩ := ih (modW x z) (fun y hy => h y (List.mem_cons_of_mem _ hy)) h1
    exact ⟨k1, by show sg (redW (modW x z) l) = _; rw [k2, h2], by show rv (rg (redW (modW x z) l)) % _ = _; rw [k3, h3]⟩

theorem law {a x : Nat} {l : List Nat} (ha : 0 < a) (h : ∀ z ∈ l, Mu a z) (hF : Fits (a * U)) : redW x (l ++ [wd (a * U)]) = modW x (wd (a * U)) := by
  rw [redW_snoc]
  have hU := U_pos
  have hw := wd_pos hF.rep (Nat.mul_pos ha hU)
  rcases Nat.lt_or_ge (rg x) INF with hf | hf
  · obtain ⟨k1, k2, k3⟩ := mu_red ha l x h hf
    rw [modW_num k1 (by rw [hF.rg]; omega) (Nat.le_of_lt hF.fin), modW_num hf (by rw [hF.rg]; omega) (Nat.le_of_lt hF.fin), hF.rv, k2, k3]
  · rw [modW_nan (Or.inl hf)]
    have : INF ≤ rg (redW x l) := by
      match l with
      | [] => exact hf
      | z :: l =>
        show INF ≤ rg (redW (modW x z) l)
        rw [modW_nan (Or.inl hf)]
        have : ∀ l : List Nat, INF ≤ rg (redW qNaN l) := by
          intro l
          induction l with
          | nil => decide
          | cons z l ih =>
            show INF ≤ rg (redW (modW qNaN z) l)
            rw [modW_nan (Or.inl (by decide))]; exact ih
        exact this l
    rw [modW_nan (Or.inl this)]

/-- the words of the multiples -/
def mul1 (a : Nat) (k : Int) : Nat := wd ((1 + (k % 1099511627776).toNat) * a * U)
def muls (a : Nat) (ks : List Int) : List Nat := ks.map (mul1 a)
theorem muls_len (a : Nat) (ks : List Int) : (muls a ks).length = ks.length := by simp [muls]
theorem muls_mu {a : Nat} (ha : a ≤ 1000) (ks : List Int) : ∀ z ∈ muls a ks, Mu a z := by
  intro z hz
  simp only [muls, List.mem_map] at hz
  obtain ⟨k, _, rfl⟩ := hz
  have h1 := Int.emod_nonneg k (show (1099511627776 : Int) ≠ 0 by omega)
  have h2 := Int.emod_lt_of_pos k (show (0 : Int) < 1099511627776 by omega)
  refine ⟨_, by omega, fits_small ?_, rfl⟩
  have : (1 + (k % 1099511627776).toNat) * a ≤ 1099511627776 * 1000 := Nat.mul_le_mul (by omega) ha
  omega
theorem muls_words {a : Nat} (ha : a ≤ 1000) (ks : List Int) : ∀ z ∈ muls a ks, z < 2 ^ 64 := by
  intro z hz
  obtain ⟨m, _, hF, ez⟩ := (muls_mu ha ks z hz).ex
  rw [ez]
  exact hF.wd_lt
theorem muls_snoc {a : Nat} {ks : List Int} {k : Nat} (h : k < ks.length) : fl (muls a (ks.take (k + 1))) = fl (muls a (ks.take k)) ++ [Value.float .f64 (mul1 a (ks.getD k 0))] := by
  rw [take_snoc ks k 0 h]; unfold muls; rw [List.map_append, fl_append]; rfl
theorem mul1_conv {a : Nat} (ha : a ≤ 1000) (k z : Int) (hz : z = (a : Int) * (1 + k % 1099511627776)) : floatOfInt .f64 z = mul1 a k := by
  have h1 := Int.emod_nonneg k (show (1099511627776 : Int) ≠ 0 by omega)
  have h2 := Int.emod_lt_of_pos k (show (0 : Int) < 1099511627776 by omega)
  have e : z = (((1 + (k % 1099511627776).toNat) * a : Nat) : Int) := by
    rw [hz, Int.natCast_mul, Int.natCast_add, Int.toNat_of_nonneg h1, Int.mul_comm]; rfl
  rw [e, ofInt_word]
  · rfl
  · have : (1 + (k % 1099511627776).toNat) * a ≤ 1099511627776 * 1000 := Nat.mul_le_mul (by omega) ha
    omega

theorem at_bd (k : Int) : 0 ≤ k % 1099511627776 ∧ k % 1099511627776 < 1099511627776 := ⟨Int.emod_nonneg k (by omega), Int.emod_lt_of_pos k (by omega)⟩

set_option maxHeartbeats 3200000 in
theorem walk (w : World) (x : Nat) (hx : x < 2 ^ 64) (b : Int) (_hb : -9223372036854775808 ≤ b ∧ b ≤ 9223372036854775807) (A : Option Addr) (n c : Nat) (ks : List Int) (h : IRow w A n c ks) :
    Calls Try.prog 8 #[.float .f64 x, .int .i64 b, .slice A n c] w fun e' w' => e' = .returned (.bool true) ∧ Below w.heap.size w w' := by
  obtain ⟨hlen0, hcap, hroom, hrd, hwd0⟩ := h
  obtain ⟨i0, hi, hz0, hz1, hz2⟩ := info_parts Try.infoF
  have hlen := Lib.hid hlen0
  have o1 := one_one
  have hcv := ofI64_run
  obtain ⟨a, ha⟩ : ∃ a : Nat, 1 + b % 1000 = (a : Int) := ⟨(1 + b % 1000).toNat, by omega⟩
  have ha0 : 0 < a := by omega
  have ha1 : a ≤ 1000 := by omega
  have b1 := Int.emod_nonneg b (show (1000 : Int) ≠ 0 by omega)
  have b2 := Int.emod_lt_of_pos b (show (0 : Int) < 1000 by omega)
  have hA := Lib.hid ha
  clear hlen0 hwd0 ha
  go_enter Try.func8, Try.ntmps8
  go_wp2_with (go_at_call 26; ((with_reducible refine (specAt_any _ _ _ (by decide) (by decide)).mono ?_)); rintro e w' ⟨rfl, rfl⟩)
  rw [hA.out]
  clear b1 b2 hA
  go_loopw [7, 9, 16] (fun v _ i wr => ∃ k : Nat, k ≤ n ∧ i = .int .i64 k ∧ wr.ownsRow w.heap.size 23 1 v (fl (muls a (ks.take k))).length (fl (muls a (ks.take k))) ∧ Below w.heap.size w wr)
    (fun _ _ i _ => n - (intOf i).toNat)
  case atStart => exact ⟨0, Nat.zero_le _, rfl, World.ownsRow_lit w #[] 0 (Nat.le_refl _) (by decide) rfl, (Below.refl _ _).alloc (Nat.le_refl _) _⟩
  case round =>
    obtain ⟨k, hk, rfl, hown, hbel⟩ := hrel
    have hsz := hbel.size
    by_cases hlt : k < n
    · obtain ⟨ad, e1, _, c1⟩ := (hrd.below hbel).il (k := k) (by rw [hlen.out]; exact hlt)
      cases e1
      have hS := Lib.hid (muls_snoc (a := a) (ks := ks) (k := k) (by rw [hlen.out]; exact hlt))
      have hL : Hid ((fl (muls a (ks.take k))).length = k) := by
        show _ = _
        rw [fl_len, muls_len, List.length_take, hlen.out]; omega
      generalize ks.getD k 0 = y at *
      have hm1 := Lib.hid (mul1_conv ha1 y)
      obtain ⟨y1, y2⟩ := at_bd y
      obtain ⟨q, hq⟩ : ∃ q : Nat, y % 1099511627776 = (q : Int) := ⟨(y % 1099511627776).toNat, by omega⟩
      have hq1 : q < 1099511627776 := by omega
      have hqq := Lib.hid hq
      have hpr : a * (1 + q) ≤ 1000 * 1099511627776 := Nat.mul_le_mul ha1 (by omega)
      have hpr2 : ((a : Int) * (1 + (q : Int))) ≤ 1099511627776000 := by
        have : ((a * (1 + q) : Nat) : Int) ≤ 1099511627776000 := by omega
        simpa using this
      have hpr3 : 0 ≤ ((a : Int) * (1 + (q : Int))) := Int.mul_nonneg (by omega) (by omega)
      clear hq y1 y2
      go_wp2_with (first | (go_at_call 26; ((with_reducible refine (specAt_any _ _ _ (by decide) (by decide)).mono ?_)); rintro e w' ⟨rfl, rfl⟩; rw [hqq.out]) | (at_builtin; refine wpList_append_own _ rfl _ _ 24 rfl w.heap.size 23 i0 (.float .f64 0) 1 8 Try.underlying24 hi hz0 hz1 hz2 rfl (by decide) _ _ _ rfl (hown.alloc _) ⟨wr.heap.size, 0, none⟩ 1 1 [.float .f64 (mul1 a y)] rfl rfl (by rw [hm1.out _ (by rw [hqq.out])]; exact news_one _ _ _) ?c2 ?c3 ?c4 ?c5 ?_))
      case c2 => intro u hu; simp at hu; subst hu; rfl
      case c3 => rw [hL.out]; unfold maxLen; omega
      case c4 => rw [hL.out]; omega
      case c5 => simp; omega
      intro v' w1 hown' hgrow _
      have hown2 : Hid (w1.ownsRow w.heap.size 23 1 v' (fl (muls a (ks.take (k + 1)))).length (fl (muls a (ks.take (k + 1))))) := by
        show w1.ownsRow _ _ _ _ _ _
        rw [hS.out, List.length_append]; exact hown'
      have hbel2 : Below w.heap.size w w1 := (hbel.alloc hsz _).grown hgrow (by simp; omega) (fun g hg => (hown.lt g hg).1)
      clear hown' hgrow hown hbel c1
      go_wp2
      go_roundw
      case rel => exact ⟨k + 1, by omega, by go_num, hown2.out, hbel2⟩
      case measure => simp [intOf]; omega
    · have hkm : ks.take k = ks := List.take_of_length_le (by rw [hlen.out]; omega)
      rw [hkm] at hown
      have hL : Hid ((fl (muls a ks)).length = n) := by
        show _ = _
        rw [fl_len, muls_len, hlen.out]
      have hFa : Fits (a * U) := fits_small (by omega)
      have hof := ofInt_word (m := a) (by omega)
      have hlaw := Lib.hid (law (x := x) ha0 (muls_mu ha1 ks) hFa)
      have hdl := hFa.wd_lt
      have HM := Lib.hid (fun W : World => impMod_any x (wd (a * U)) W hx hdl)
      have HS := Lib.hid (fun W : World => same_any (modW x (wd (a * U))) (modW x (wd (a * U))) W)
      rw [same_refl] at HS
      have HN := Lib.hid (fun W : World => reduce_nil 4607182418800017408 none 0 W)
      have hww : Hid (∀ z ∈ muls a ks ++ [wd (a * U)], z < 2 ^ 64) := fun z hz => by
        rcases List.mem_append.1 hz with hz | hz
        · exact muls_words ha1 ks z hz
        · simp at hz; rw [hz]; exact hdl
      clear hkm hFa hdl
      generalize modW x (wd (a * U)) = r at *
      generalize wd (a * U) = d at *
      go_wp2_with (at_builtin; refine wpList_append_own _ rfl _ _ 24 rfl w.heap.size 23 i0 (.float .f64 0) 1 8 Try.underlying24 hi hz0 hz1 hz2 rfl (by decide) _ _ _ rfl (hown.alloc _) ⟨wr.heap.size, 0, none⟩ 1 1 [.float .f64 d] rfl rfl (news_one _ _ _) ?c2 ?c3 ?c4 ?c5 ?_)
      case c2 => intro u hu; simp at hu; subst hu; rfl
      case c3 => rw [hL.out]; unfold maxLen; omega
      case c4 => rw [hL.out]; omega
      case c5 => simp; omega
      intro v' w1 hown' hgrow _
      have hbel2 : Below w.heap.size w w1 := (hbel.alloc hsz _).grown hgrow (by simp; omega) (fun g hg => (hown.lt g hg).1)
      have hown2 : w1.ownsRow w.heap.size 23 1 v' (fl (muls a ks ++ [d])).length (fl (muls a ks ++ [d])) := by
        rw [fl_append, List.length_append]; exact hown'
      obtain ⟨A2, c2, rfl, hc2⟩ := own_slice hown2
      have hlen2 : Hid ((muls a ks ++ [d]).length = n + 1) := by show _ = _; rw [List.length_append, muls_len, hlen.out]; rfl
      have hl2 : (fl (muls a ks ++ [d])).length = n + 1 := by rw [fl_len, hlen2.out]
      have HR := Lib.hid (reduce_any x (muls a ks ++ [d]) A2 c2 (n + 1) w1.heap.size w1 hx hlen2.out hww.out (by omega) (Rd.of_own hown2))
      rw [hlaw.out] at HR
      rw [hl2]
      clear hown' hgrow hown hbel hown2 hl2 hc2
      go_wp2_with (first | (go_at_call 20; first | (((with_reducible refine HR.out.mono ?_)); rintro e w' ⟨rfl, rfl⟩) | (((with_reducible refine (HN.out _).mono ?_)); rintro e w' ⟨rfl, rfl⟩)) | (go_at_call 18; ((with_reducible refine (HM.out _).mono ?_)); rintro e w' ⟨rfl, rfl⟩) | (go_at_call 19; ((with_reducible refine (HS.out _).mono ?_)); rintro e w' ⟨rfl, rfl⟩))
      go_ret
      exact ⟨rfl, hbel2⟩

end Go.Proofs.Ytelhgahbhbinoaa.LReduceMultiples

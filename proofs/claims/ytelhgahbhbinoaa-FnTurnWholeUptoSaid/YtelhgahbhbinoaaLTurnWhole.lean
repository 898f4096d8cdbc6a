/-
  The walk of laws.FnTurnWhole: it returns true, for all integers and all lists of at most 1048576 integers.
-/
import Derived.Test.YtelhgahbhbinoaaTrn
import Derived.Test.YtelhgahbhbinoaaFvm
import Derived.Test.YtelhgahbhbinoaaTlp
import Derived.Test.YtelhgahbhbinoaaDig
import Derived.Test.YtelhgahbhbinoaaLawA
import Derived.Test.YtelhgahbhbinoaaOfi
import Derived.Test.YtelhgahbhbinoaaRow
namespace Go.Proofs.Ytelhgahbhbinoaa.LTurnWhole
open Go.RowKit Flt

theorem vl_int {n : Int} (h : n.natAbs ≤ 2 ^ 53) : vl (floatOfInt .f64 n) = .num (n * (U : Int)) := by
  rw [ofInt_sw h, vl_sw (fits_i h)]
theorem vl_num_fin {r : Nat} {V : Int} (h : vl r = .num V) : rg r < INF ∧ fv r = V := by
  rcases vl_cases r with ⟨_, e⟩ | ⟨_, e⟩ | ⟨h1, e⟩
  · rw [e] at h; cases h
  · rw [e] at h; cases h
  · rw [e] at h; injection h with h; exact ⟨h1, h⟩
theorem to_int {m : Nat} {Q : Int} (h : vl m = .num (Q * (U : Int))) : (FloatKind.f64.decode m).toInt .zero = some Q := by
  have hU := U_pos
  obtain ⟨f1, f2⟩ := vl_num_fin h
  rw [toInt_fin f1]
  have e : rv (rg m) / U = Q.natAbs := by
    rw [← fv_natAbs, f2, Int.natAbs_mul, Int.natAbs_natCast, Nat.mul_div_cancel _ hU]
  rw [e]
  congr 1
  by_cases hQ : Q = 0
  · subst hQ; cases sg m <;> rfl
  · have hs := fv_sign (b := m) (by rw [f2]; intro g; rcases Int.mul_eq_zero.1 g with g | g; exact hQ g; omega)
    rw [hs, f2]
    by_cases hn : Q < 0
    · rw [decide_eq_true ((mulU_neg Q).2 hn)]; simp; omega
    · rw [decide_eq_false (fun g => hn ((mulU_neg Q).1 g))]; simp; omega
theorem to_i64 {m : Nat} {Q : Int} (h : vl m = .num (Q * (U : Int))) (hQ : Q.natAbs ≤ 2 ^ 53) : floatToIntVal .f64 m .i64 = some Q := by
  unfold floatToIntVal
  rw [to_int h]
  have h1 : IntKind.i64.min = -9223372036854775808 := rfl
  have h2 : IntKind.i64.max = 9223372036854775807 := rfl
  show (if _ then _ else _) = _
  rw [h1, h2, if_pos (by omega)]
theorem remN_mul {c : Nat} (hc : 0 < c) (X Y : Nat) : remN (X * c) (Y * c) = remN X Y * c := by
  unfold remN
  have e : X * c % (2 * (Y * c)) = X % (2 * Y) * c := by rw [← Nat.mul_assoc, Nat.mul_mod_mul_right]
  rw [e]
  generalize X % (2 * Y) = R
  have a1 : 2 * (R * c) ≤ Y * c ↔ 2 * R ≤ Y := by
    rw [← Nat.mul_assoc]; exact Nat.mul_le_mul_right_iff hc
  have a2 : 2 * (R * c) < 3 * (Y * c) ↔ 2 * R < 3 * Y := by
    rw [← Nat.mul_assoc, ← Nat.mul_assoc]; exact Nat.mul_lt_mul_right hc
  by_cases h1 : 2 * R ≤ Y
  · rw [if_pos h1, if_pos (a1.2 h1)]; simp
  · rw [if_neg h1, if_neg (fun h => h1 (a1.1 h))]
    by_cases h2 : 2 * R < 3 * Y
    · rw [if_pos h2, if_pos (a2.2 h2), Int.sub_mul]; simp
    · rw [if_neg h2, if_neg (fun h => h2 (a2.1 h)), Int.sub_mul, Int.mul_assoc]; simp
theorem rem_mul {c : Nat} (hc : 0 < c) (u v : Int) (h : v ≠ 0) : remv (.num (u * c)) (.num (v * c)) = .num (remi u v * c) := by
  show (if v * c = 0 then Val.nan else .num (remi (u * c) (v * c))) = _
  rw [if_neg (by intro g; rcases Int.mul_eq_zero.1 g with g | g; exact h g; omega)]
  unfold remi
  have n1 : (u * c < 0) ↔ u < 0 := by
    constructor
    · intro g
      rcases Int.lt_or_le u 0 with g2 | g2
      · exact g2
      · have := Int.mul_nonneg g2 (show (0 : Int) ≤ c by omega); omega
    · intro g; exact Int.mul_neg_of_neg_of_pos g (by omega)
  rw [Int.natAbs_mul, Int.natAbs_mul, Int.natAbs_natCast, remN_mul hc]
  by_cases g : u < 0
  · rw [if_pos g, if_pos (n1.2 g), Int.neg_mul]
  · rw [if_neg g, if_neg (fun x => g (n1.1 x))]
/-- the nearest remainder: small, and it differs by a multiple -/
theorem remN_dvd' (X Y : Nat) : (Y : Int) ∣ (X : Int) - remN X Y := by
  have h := Nat.div_add_mod X (2 * Y)
  have e : (X : Int) - ((X % (2 * Y) : Nat) : Int) = (Y : Int) * (2 * ((X / (2 * Y) : Nat) : Int)) := by
    have h' : ((2 * Y * (X / (2 * Y)) + X % (2 * Y) : Nat) : Int) = (X : Int) := by rw [h]
    rw [Int.natCast_add, Int.natCast_mul, Int.natCast_mul, show ((2 : Nat) : Int) = 2 from rfl, Int.mul_comm 2, Int.mul_assoc] at h'
    omega
  unfold remN
  split
  · exact ⟨_, e⟩
  · split
    · refine ⟨2 * ((X / (2 * Y) : Nat) : Int) + 1, ?_⟩
      rw [Int.mul_add, ← e]; omega
    · refine ⟨2 * ((X / (2 * Y) : Nat) : Int) + 2, ?_⟩
      rw [Int.mul_add, ← e]; omega
theorem remi_dvd (u : Int) (Y : Nat) : (Y : Int) ∣ u - remi u Y := by
  unfold remi
  rw [Int.natAbs_natCast]
  have h := remN_dvd' u.natAbs Y
  by_cases g : u < 0
  · rw [if_pos g]
    obtain ⟨k, hk⟩ := h
    refine ⟨-k, ?_⟩
    rw [Int.mul_neg, ← hk]; omega
  · rw [if_neg g]
    have e : ((u.natAbs : Nat) : Int) = u := by omega
    rw [e] at h
    exact h
theorem remi_le (u : Int) {Y : Nat} (hY : 0 < Y) : 2 * (remi u Y).natAbs ≤ Y := by
  have := remN_le u.natAbs Y hY
  unfold nr at this
  unfold remi
  rw [Int.natAbs_natCast]
  split
  · rw [Int.natAbs_neg]; exact this
  · exact this

theorem num_inj {a b : Int} (h : Val.num a = .num b) : a = b := by injection h
/-- the steps as remainders -/
def st (Y : Nat) (s : Int) : Int := Int.tmod s Y
theorem st_bd {Y : Nat} (hY : 0 < Y) (s : Int) : -(Y : Int) < st Y s ∧ st Y s < Y := by
  unfold st
  have h := Int.natAbs_tmod s Y
  have h2 := Nat.mod_lt s.natAbs (show 0 < (Y : Int).natAbs by omega)
  rw [Int.natAbs_natCast] at h h2
  omega
def tot (Y : Nat) (S0 : Int) (l : List Int) : Int := l.foldl (fun a s => a + st Y s) S0
theorem tot_snoc (Y : Nat) (S0 : Int) (l : List Int) (s : Int) : tot Y S0 (l ++ [s]) = tot Y S0 l + st Y s := by unfold tot; rw [List.foldl_append]; rfl
def shw (Y : Nat) (l : List Int) : List Nat := l.map fun s => floatOfInt .f64 (st Y s)
theorem shw_len (Y : Nat) (l : List Int) : (shw Y l).length = l.length := by simp [shw]
theorem shw_snoc {Y : Nat} {l : List Int} {k : Nat} (h : k < l.length) : fl (shw Y (l.take (k + 1))) = fl (shw Y (l.take k)) ++ [Value.float .f64 (floatOfInt .f64 (st Y (l.getD k 0)))] := by
  rw [take_snoc l k 0 h]; unfold shw; rw [List.map_append, fl_append]; rfl
theorem tot_bd {Y : Nat} (hY : 0 < Y) (hY2 : Y ≤ 1000000000) {S0 : Int} (h0 : 0 ≤ S0) (h1 : S0 < Y) (l : List Int) : -(1000000000 * (l.length : Int)) ≤ tot Y S0 l ∧ tot Y S0 l ≤ 1000000000 * ((l.length : Int) + 1) := by
  have : ∀ (l : List Int) (a : Int), a - 1000000000 * (l.length : Int) ≤ tot Y a l ∧ tot Y a l ≤ a + 1000000000 * (l.length : Int) := by
    intro l
    induction l with
    | nil => intro a; show _ ≤ a ∧ a ≤ _; simp
    | cons s l ih =>
      intro a
      have h := ih (a + st Y s)
      have hb := st_bd hY s
      show _ ≤ tot Y (a + st Y s) l ∧ tot Y (a + st Y s) l ≤ _
      rw [List.length_cons]
      omega
  have := this l S0
  omega
/-- where a turn by integers leads -/
theorem turn {Y : Nat} (hY : 0 < Y) (hY2 : Y ≤ 1000000000) : ∀ (l : List Int) (a T : Int), a.natAbs ≤ Y → (Y : Int) ∣ T - a →
    ∃ n : Int, turnv (.num ((Y : Int) * (U : Int))) (.num (a * (U : Int))) ((shw Y l).map vl) = .num (n * (U : Int)) ∧ (Y : Int) ∣ tot Y T l - n ∧ n.natAbs ≤ Y ∧ (l ≠ [] → 2 * n.natAbs ≤ Y) := by
  intro l
  induction l with
  | nil => intro a T ha hd; exact ⟨a, rfl, hd, ha, fun h => absurd rfl h⟩
  | cons s l ih =>
    intro a T ha hd
    have hb := st_bd hY s
    have hU := U_pos
    have hsum : addv (.num (a * (U : Int))) (.num (st Y s * (U : Int))) = .num ((a + st Y s) * (U : Int)) := by
      show rnd (a * (U : Int) + st Y s * (U : Int)) 0 = _
      rw [← Int.add_mul]
      exact rnd_num0 (fits_i (by omega))
    have hr := rem_mul hU (a + st Y s) (Y : Int) (by omega)
    have hle := remi_le (a + st Y s) hY
    have hdv := remi_dvd (a + st Y s) Y
    obtain ⟨n, n1, n2, n3, n4⟩ := ih (remi (a + st Y s) Y) (T + st Y s) (by omega) (by
      have : T + st Y s - remi (a + st Y s) Y = (T - a) + (a + st Y s - remi (a + st Y s) Y) := by omega
      rw [this]
      exact Int.dvd_add hd hdv)
    refine ⟨n, ?_, n2, n3, fun _ => ?_⟩
    · show turnv _ (remv (addv (.num (a * (U : Int))) (vl (floatOfInt .f64 (st Y s)))) (.num ((Y : Int) * (U : Int)))) ((shw Y l).map vl) = _
      rw [vl_int (by omega), hsum, hr]
      exact n1
    · cases l with
      | nil =>
        have e : n = remi (a + st Y s) Y := by
          have n1' : (Val.num (remi (a + st Y s) Y * (U : Int))) = .num (n * (U : Int)) := by
            have e2 : turnv (.num ((Y : Int) * (U : Int))) (.num (remi (a + st Y s) Y * (U : Int))) ([] : List Val) = .num (remi (a + st Y s) Y * (U : Int)) := by unfold turnv; rw [List.foldl_nil]
            rw [← e2]; exact n1
          exact (Int.eq_of_mul_eq_mul_right (show (U : Int) ≠ 0 by omega) (num_inj n1')).symm
        rw [e]; exact hle
      | cons s2 l2 => exact n4 (by simp)
theorem eq_of_vl {a b : Nat} (h : vl a = vl b) (hf : rg b < INF) : (FloatKind.f64.format.order a b == some .eq) = true := by
  rw [vl_fin hf] at h
  rcases vl_cases a with ⟨_, e⟩ | ⟨_, e⟩ | ⟨h1, e⟩
  · rw [e] at h; cases h
  · rw [e] at h; cases h
  · rw [e] at h
    injection h with h
    rw [c_eq (Nat.le_of_lt h1) (Nat.le_of_lt hf), decide_eq_true ((fv_eq_iff a b).1 h)]
theorem rd_len {w : World} {base : Nat} {e : TypeId} {A : Option Addr} {c N : Nat} {xs : List Value} (hl : xs.length = N) (h : w.ownsRow base e 1 (.slice A N c) N xs) : Rd w w.heap.size A xs := by
  subst hl; exact Rd.of_own h
theorem rem_run (a : Int) {Y : Nat} (hY : 0 < Y) (w : World) : (Op.intDiv .rem .i64 a (Y : Int)).run Try.prog w = .ok (.int .i64 (st Y a)) w := by
  unfold Op.intDiv
  rw [if_neg (by omega)]
  rfl
theorem tmod_dvd {T n : Int} {Y : Nat} (h : (Y : Int) ∣ T - n) : Int.tmod (T - n) Y = 0 := Int.tmod_eq_zero_of_dvd h

set_option maxRecDepth 100000 in
set_option maxHeartbeats 6400000 in
theorem walk (w : World) (s0 : Int) (_hs : -9223372036854775808 ≤ s0 ∧ s0 ≤ 9223372036854775807) (A : Option Addr) (n c : Nat) (l : List Int) (h : IRow w A n c l) (hb : n ≤ 1048576) (_hz : A = none → c = 0) (y0 : Int) (_hy : -9223372036854775808 ≤ y0 ∧ y0 ≤ 9223372036854775807) :
    Calls Try.prog 14 #[.int .i64 s0, .slice A n c, .int .i64 y0] w fun e' w' => e' = .returned (.bool true) ∧ Below w.heap.size w w' := by
  obtain ⟨i0, hi, hz0, hz1, hz2⟩ := info_parts Try.infoF
  obtain ⟨hlen0, hcap, hroom, hrd, hwd0⟩ := h
  have hlen := Lib.hid hlen0
  have o1 := one_two
  have b1 := Int.emod_nonneg y0 (show (1000000000 : Int) ≠ 0 by omega)
  have b2 := Int.emod_lt_of_pos y0 (show (0 : Int) < 1000000000 by omega)
  obtain ⟨Y, hY⟩ : ∃ Y : Nat, 1 + y0 % 1000000000 = (Y : Int) := ⟨(1 + y0 % 1000000000).toNat, by omega⟩
  have hY0 : 0 < Y := by omega
  have hY1 : Y ≤ 1000000000 := by omega
  have HY := Lib.hid hY
  have d1 := Int.emod_nonneg s0 (show (Y : Int) ≠ 0 by omega)
  have d2 := Int.emod_lt_of_pos s0 (show (0 : Int) < (Y : Int) by omega)
  obtain ⟨S0, hS⟩ : ∃ S0 : Int, s0 % (Y : Int) = S0 := ⟨_, rfl⟩
  rw [hS] at d1 d2
  have HS := Lib.hid hS
  have hcv := conv_run
  have hrem := fun a => rem_run a hY0
  have tY : ((Y : Int) == 0) = false := by simp; omega
  have tY2 : ¬ (Y : Int) = 0 := by omega
  have hbd := Lib.hid (fun k (hk : k ≤ n) => tot_bd hY0 hY1 d1 d2 (l.take k))
  have hxl : floatOfInt .f64 S0 < 2 ^ 64 := by rw [ofInt_sw (by omega)]; exact sw_lt64 (fits_i (by omega))
  have hyl : floatOfInt .f64 (Y : Int) < 2 ^ 64 := by rw [ofInt_sw (by omega)]; exact sw_lt64 (fits_i (by omega))
  obtain ⟨r, r1, r2, r3, r4⟩ := turn hY0 hY1 l S0 S0 (by omega) ⟨0, by omega⟩
  have R1 := Lib.hid r1
  have hvS := vl_int (n := S0) (by omega)
  have hvY := vl_int (n := (Y : Int)) (by omega)
  rw [← hvS, ← hvY] at R1
  have hrb : r.natAbs ≤ 2 ^ 53 := by omega
  have R2 := Lib.hid r2
  have R4 := Lib.hid r4
  have hvr := vl_int hrb
  have hfr : rg (floatOfInt .f64 r) < INF := (vl_num_fin hvr).1
  have hfS : rg (floatOfInt .f64 S0) < INF := (vl_num_fin hvS).1
  clear hlen0 hwd0 hcap hY hS r1 r2 r4 b1 b2 _hs _hy _hz
  go_enter Try.func14, Try.ntmps14
  go_wp2_with (go_at_call 26; first | (((with_reducible refine (specAt_any y0 1000000000 _ (by decide) (by decide)).mono ?_)); rintro e w' ⟨rfl, rfl⟩) | (((with_reducible refine (specAt_any s0 _ _ (by omega) (by omega)).mono ?_)); rintro e w' ⟨rfl, rfl⟩))
  rw [HY.out, HS.out]
  go_loopw [7, 8, 10, 22] (fun t v _ i wr => ∃ k : Nat, k ≤ n ∧ i = .int .i64 (k : Int) ∧ t = .int .i64 (tot Y S0 (l.take k)) ∧ wr.ownsRow w.heap.size 23 1 v (fl (shw Y (l.take k))).length (fl (shw Y (l.take k))) ∧ Below w.heap.size w wr) (fun _ _ _ i _ => n - (intOf i).toNat)
  case atStart => exact ⟨0, Nat.zero_le _, rfl, rfl, World.ownsRow_lit w #[] 0 (Nat.le_refl _) (by decide) rfl, (Below.refl _ _).alloc (Nat.le_refl _) _⟩
  case round =>
    obtain ⟨k, hk, rfl, rfl, hown, hbel⟩ := hrel
    have hsz := hbel.size
    by_cases hlt : k < n
    · obtain ⟨ad, e1, _, c1⟩ := (hrd.below hbel).il (k := k) (by rw [hlen.out]; exact hlt)
      cases e1
      have hSn := Lib.hid (shw_snoc (Y := Y) (l := l) (k := k) (by rw [hlen.out]; exact hlt))
      have hL : Hid ((fl (shw Y (l.take k))).length = k) := by
        show _ = _
        rw [fl_len, shw_len, List.length_take, hlen.out]; omega
      have htn := Lib.hid (tot_snoc Y S0 (l.take k) (l.getD k 0))
      rw [← take_snoc l k 0 (by rw [hlen.out]; exact hlt)] at htn
      have hbk := hbd.out k hk
      rw [List.length_take, hlen.out] at hbk
      have hsb := st_bd hY0 (l.getD k 0)
      generalize tot Y S0 (l.take k) = T at *
      have htm : Int.tmod (l.getD k 0) (Y : Int) = st Y (l.getD k 0) := rfl
      have hwq : IntKind.i64.wrap (st Y (l.getD k 0)) = st Y (l.getD k 0) := IntWalk.i64_in _ (by omega)
      generalize l.getD k 0 = y at *
      generalize st Y y = q at *
      clear hrem
      have hmin : min k n = k := Nat.min_eq_left hk
      rw [hmin] at hbk
      clear hmin
      go_wp2_with (at_builtin; refine wpList_append_own _ rfl _ _ 24 rfl w.heap.size 23 i0 (.float .f64 0) 1 8 Try.underlying24 hi hz0 hz1 hz2 rfl (by decide) _ _ _ rfl (hown.alloc _) ⟨wr.heap.size, 0, none⟩ 1 1 [.float .f64 (floatOfInt .f64 q)] rfl rfl (news_one _ _ _) ?c2 ?c3 ?c4 ?c5 ?_)
      case c2 => intro u hu; simp at hu; subst hu; rfl
      case c3 => rw [hL.out]; unfold maxLen; omega
      case c4 => rw [hL.out]; omega
      case c5 => simp; omega
      intro v' w1 hown' hgrow _
      have hown2 : Hid (w1.ownsRow w.heap.size 23 1 v' (fl (shw Y (l.take (k + 1)))).length (fl (shw Y (l.take (k + 1))))) := by
        show w1.ownsRow _ _ _ _ _ _
        rw [hSn.out, List.length_append]; exact hown'
      have hbel2 : Below w.heap.size w w1 := (hbel.alloc hsz _).grown hgrow (by simp; omega) (fun g hg => (hown.lt g hg).1)
      clear hown' hgrow hown hbel c1
      go_wp2
      go_roundw
      case rel => exact ⟨k + 1, by omega, by go_num, by rw [htn.out], hown2.out, hbel2⟩
      case measure => simp [intOf]; omega
    · have hkm : l.take k = l := List.take_of_length_le (by rw [hlen.out]; omega)
      have hbn := hbd.out k hk
      rw [hkm, hlen.out] at hbn
      rw [hkm] at hown
      rw [hkm]
      have hpl : Hid ((shw Y l).length = n) := by show _ = _; rw [shw_len, hlen.out]
      obtain ⟨A3, c3, hv3, _⟩ := own_slice hown
      rw [fl_len, hpl.out] at hv3
      subst hv3
      have r3' : Rd wr wr.heap.size A3 (fl (shw Y l)) := rd_len (by rw [fl_len, hpl.out]) (by rw [fl_len, hpl.out] at hown; exact hown)
      have HT := Lib.hid (turn_any (floatOfInt .f64 S0) (floatOfInt .f64 (Y : Int)) (shw Y l) A3 c3 n wr.heap.size wr hxl hyl hpl.out (by omega) r3')
      have HB := Lib.hid hbel
      have htd := tmod_dvd R2.out
      have hT0 : Hid (l = [] → tot Y S0 l = S0) := fun h => by rw [h]; rfl
      have hln : Hid (n = 0 → l = []) := fun h => List.eq_nil_of_length_eq_zero (by rw [hlen.out]; exact h)
      have R4' : Hid (n ≠ 0 → 2 * r.natAbs ≤ Y) := fun h => R4.out (fun g => h (by rw [← hlen.out, g]; rfl))
      clear hkm hown r3' hbel hrem R2 R4
      generalize tot Y S0 l = T at *
      go_wp2_with (go_at_call 26; ((with_reducible refine (specAt_any s0 _ _ (by omega) (by omega)).mono ?_)); rintro e w' ⟨rfl, rfl⟩; rw [HS.out])
      ((with_reducible refine HT.out.mono ?_); rintro e w1 ⟨b1, rfl, v1, l1, q1⟩)
      rw [R1.out] at v1
      by_cases hn0 : n = 0
      · have hTS := hT0.out (hln.out hn0)
        have hl0 := hln.out hn0
        have heq : (FloatKind.f64.format.order b1 (floatOfInt .f64 T) == some .eq) = true := by
          rw [hTS]
          refine eq_of_vl ?_ hfS
          rw [v1, ← R1.out, hl0]; rfl
        subst hn0
        clear hTS hl0 v1 htd
        go_wp2_with (go_at_call 27; ((with_reducible refine (turn_nil _ _ _ _ _).mono ?_)); rintro e w' ⟨rfl, rfl⟩)
        go_ret
        exact ⟨rfl, HB.out.trans (q1.below _)⟩
      · have h2r := R4'.out hn0
        have hi64 := toI64_run (to_i64 v1 hrb)
        have heq : (FloatKind.f64.format.order (floatOfInt .f64 r) b1 == some .eq) = true := by
          refine eq_of_vl ?_ (vl_num_fin v1).1
          rw [v1, hvr]
        have g1 : (2 : Int) * r ≤ (Y : Int) := by omega
        have g2 : (-2 : Int) * r ≤ (Y : Int) := by omega
        have g3 : -1000000000 ≤ r ∧ r ≤ 1000000000 := by omega
        have hwt : IntKind.i64.wrap (T - r) = T - r := IntWalk.i64_in _ (by omega)
        clear v1 h2r hvr hvS hvY
        go_wp2_with (go_at_call 27; ((with_reducible refine (turn_nil _ _ _ _ _).mono ?_)); rintro e w' ⟨rfl, rfl⟩)
        go_ret
        exact ⟨rfl, HB.out.trans (q1.below _)⟩
end Go.Proofs.Ytelhgahbhbinoaa.LTurnWhole

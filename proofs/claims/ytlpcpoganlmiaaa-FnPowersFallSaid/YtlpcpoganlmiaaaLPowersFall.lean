/-
  The walk of laws.FnPowersFall: it returns true, for every number.
-/
import Derived.Test.YtlpcpoganlmiaaaPow
import Derived.Test.YtlpcpoganlmiaaaSpcC
import Derived.Test.YtlpcpoganlmiaaaRow
import Derived.Deep.RegionWith
namespace Go.Proofs.Ytlpcpoganlmiaaa.LPowersFall
open Go.RowKit Flt

set_option maxHeartbeats 400000 in
theorem impFrexp_any (x : Nat) (w : World) (hx : x < 2 ^ 64) (h0 : rg x ≠ 0) (hf : rg x < INF) :
    Calls Try.prog 31 #[.float .f64 x] w fun e w' => e = .returned (.tuple #[.float .f64 (mk (sg x) (frw (rv (rg x)))), .int .i64 (((rv (rg x)).log2 : Int) - 1073)]) ∧ w = w' := by
  have H := Lib.hid (fun W : World => frexp_any x W hx h0 hf)
  clear hx h0 hf
  generalize mk (sg x) (frw (rv (rg x))) = y at *
  generalize ((rv (rg x)).log2 : Int) - 1073 = L at *
  go_enter Try.func31, Try.ntmps31
  go_wp2_with (go_at_call 43; ((with_reducible refine (H.out _).mono ?_)); rintro e w' ⟨rfl, rfl⟩)
  go_ret2
  exact ⟨rfl, rfl⟩

theorem ret_bool {a b : Bool} (h : a = b) : Ending.returned (.bool a) = .returned (.bool b) := by rw [h]

theorem pws_fall : ∀ (n i : Nat), i + 1 < (pws n).length → (pws n).getD (i + 1) 0 < (pws n).getD i 0 := by
  intro n
  induction n using Nat.strongRecOn with
  | _ n ih =>
    intro i hi
    by_cases h : n = 0
    · rw [h, pws_zero] at hi; cases hi
    · rw [pws_pos h] at hi ⊢
      cases i with
      | zero =>
        show (pws (n - 2 ^ n.log2)).getD 0 0 < n.log2
        have hm := getD_mem (pws (n - 2 ^ n.log2)) 0 0 (by simpa using hi)
        exact pws_lt _ _ (rest_lt h) _ hm
      | succ i => exact ih _ (sub_log2_lt h) i (by simpa using hi)

/-- what the law looks at -/
structure Falls (L : List Int) (n : Nat) : Prop where
  pos : 0 < L.length
  len : L.length ≤ 53
  first : L.getD 0 0 = (n.log2 : Int) - 1074
  fall : ∀ i, i + 1 < L.length → L.getD (i + 1) 0 < L.getD i 0
  low : (n.log2 : Int) - 1074 - 52 ≤ L.getD (L.length - 1) 0 ∧ -1074 ≤ L.getD (L.length - 1) 0
  bd : ∀ i, -1074 ≤ L.getD i 0 ∧ L.getD i 0 ≤ 3000

theorem pwI_get (D : List Nat) {i : Nat} (h : i < D.length) : (pwI D).getD i 0 = ((D.getD i 0 : Nat) : Int) - 1074 := by
  unfold pwI
  rw [List.getD_eq_getElem?_getD, List.getD_eq_getElem?_getD, List.getElem?_map, List.getElem?_eq_getElem h]; rfl

theorem falls {x : Nat} (h0 : rg x ≠ 0) (hf : rg x < INF) : Falls (pwW x) (rv (rg x)) ∧ (rv (rg x)).log2 < 3000 := by
  have hF := fits_rv hf
  have hp := rv_pos (r := rg x) (by omega)
  unfold pwW
  rw [if_pos hf]
  generalize rv (rg x) = n at *
  have hn : n ≠ 0 := by omega
  have hb : n.log2 < 3000 := by
    have he := e0_eq
    have hl := hF.lt
    rw [TOP_eq] at hl
    have := (Nat.log2_lt hn).2 hl
    omega
  have hlen : 0 < (pws n).length := by rw [pws_pos hn]; simp
  refine ⟨⟨by rw [pwI_len]; exact hlen, by rw [pwI_len]; exact pws_len hF.rep, ?_, fun i hi => ?_, ?_, fun i => ?_⟩, hb⟩
  · rw [pwI_get _ hlen, pws_pos hn]; rfl
  · rw [pwI_len] at hi
    rw [pwI_get _ (by omega), pwI_get _ (by omega)]
    have := pws_fall n i hi
    omega
  · rw [pwI_len, pwI_get _ (by omega)]
    have := pws_span hF.rep _ (getD_mem (pws n) ((pws n).length - 1) 0 (by omega))
    omega
  · rcases Nat.lt_or_ge i (pws n).length with hi | hi
    · rw [pwI_get _ hi]
      have := pws_lt n (n.log2 + 1) Nat.lt_log2_self _ (getD_mem (pws n) i 0 hi)
      omega
    · rw [List.getD_eq_getElem?_getD, List.getElem?_eq_none (by rw [pwI_len]; exact hi)]
      simp

set_option maxRecDepth 100000 in
set_option maxHeartbeats 1600000 in
theorem walk_pos (w : World) (x : Nat) (hx : x < 2 ^ 64) (h0 : rg x ≠ 0) (hf : rg x < INF) :
    Calls Try.prog 7 #[.float .f64 x] w fun e w' => e = .returned (.bool true) ∧ Below w.heap.size w w' := by
  have HP := Lib.hid (powers_any x w hx)
  have HF := Lib.hid (fun W : World => specFinite_yes x W hf)
  have HE := Lib.hid (fun W : World => impFrexp_any x W hx h0 hf)
  have b0 : (FloatKind.f64.format.order x 0 == some .eq) = false := by
    have hk : key x ≠ 0 := by have := key_natAbs x; omega
    rw [c_eq (Nat.le_of_lt hf) rg_zero_le, key_zero, decide_eq_false hk]
  obtain ⟨hfa, hlb⟩ := falls h0 hf
  have FA := Lib.hid hfa
  have hpos := hfa.pos
  have hlen := hfa.len
  have hbd := Lib.hid hfa.bd
  generalize mk (sg x) (frw (rv (rg x))) = fr at *
  generalize pwW x = L at *
  have hfi := hfa.first
  have hlo := hfa.low
  generalize (rv (rg x)).log2 = lg at *
  clear hfa h0 hf
  go_enter Try.func7, Try.ntmps7
  go_wp2_with fail
  ((with_reducible refine HP.out.mono ?_); rintro e w1 ⟨A, c, rfl, hc, hown, hbel⟩)
  have hr := Rd.of_own hown
  rw [il_len] at hc ⊢
  generalize hN : L.length = N at *
  have HN := Lib.hid hN
  clear hown HP hc hN
  obtain ⟨ad, e0, _, c0⟩ := hr.il (k := 0) (by rw [HN.out]; exact hpos)
  cases e0
  have hA0 : ad.add 0 = ad := by simp [Addr.add]
  rw [hA0, hfi] at c0
  have hn0 : ((N : Int) == 0) = false := by simp; omega
  have hn0' : ¬ N = 0 := by omega
  have hsub : (lg : Int) - 1073 - 1 = (lg : Int) - 1074 := by omega
  have HFI := Lib.hid hfi
  have HLO := Lib.hid hlo
  clear hA0 hfi hlo
  go_wp2_with (first | (go_at_call 30; ((with_reducible refine (HF.out _).mono ?_)); rintro e w' ⟨rfl, rfl⟩) | (go_at_call 31; ((with_reducible refine (HE.out _).mono ?_)); rintro e w' ⟨rfl, rfl⟩))
  go_loopw [6] (fun i wr => ∃ k : Nat, 1 ≤ k ∧ k ≤ N ∧ i = .int .i64 k ∧ Qt w1 wr) (fun i _ => N - (intOf i).toNat)
  case atStart => exact ⟨1, by omega, by omega, rfl, Qt.refl _⟩
  case round =>
    obtain ⟨k, hk1, hk, rfl, hq⟩ := hrel
    by_cases hlt : k < N
    · obtain ⟨j, hj⟩ : ∃ j, j + 1 = k := ⟨k - 1, by omega⟩
      obtain ⟨ad1, e1, _, c1⟩ := (hr.qt hq).il (k := k) (by rw [HN.out]; exact hlt)
      obtain ⟨ad2, e2, _, c2⟩ := (hr.qt hq).il (k := j) (by rw [HN.out]; omega)
      cases e1; cases e2
      have hfl := FA.out.fall j (by rw [HN.out]; omega)
      rw [hj] at hfl
      have hge : decide (L.getD j 0 ≤ L.getD k 0) = false := decide_eq_false (by omega)
      have hjN : j < N := by omega
      have hw1 : IntKind.i64.wrap ((k : Int) - 1) = (j : Int) := by rw [IntWalk.i64_in _ (by omega)]; omega
      generalize L.getD k 0 = pk at *
      generalize L.getD j 0 = pj at *
      have hj' := Lib.hid hj
      clear hj c0
      go_wp2
      go_quiet (fail)
      clear hw1
      go_wp2
      go_roundw
      case rel => exact ⟨k + 1, by omega, by omega, by go_num, hq.drewN _⟩
      case measure => simp [intOf]; omega
    · obtain ⟨j, hj⟩ : ∃ j, j + 1 = N := ⟨N - 1, by omega⟩
      obtain ⟨ad2, e2, _, c2⟩ := (hr.qt hq).il (k := j) (by rw [HN.out]; omega)
      cases e2
      have c0' : wr.cell? ad = some (.int .i64 ((lg : Int) - 1074)) := by rw [hq.cell]; exact c0
      have hlo := HLO.out
      rw [show N - 1 = j by omega] at hlo
      have hjN : j < N := by omega
      have hw1 : IntKind.i64.wrap ((N : Int) - 1) = (j : Int) := by rw [IntWalk.i64_in _ (by omega)]; omega
      have hw2 : IntKind.i64.wrap ((lg : Int) - 1074 - 52) = (lg : Int) - 1126 := by rw [IntWalk.i64_in _ (by omega)]; omega
      generalize L.getD j 0 = pj at *
      have hj' := Lib.hid hj
      have hm1 : Hid (decide (-1074 ≤ pj) = true) := decide_eq_true hlo.2
      have hm2 : Hid (decide ((lg : Int) - 1126 ≤ pj) = true) := decide_eq_true (by omega)
      clear hj c0 hlo
      go_wp2
      go_region
      go_wp2
      all_goals
        go_ret
        exact ⟨ret_bool (by first | exact hm1.out | exact hm2.out), hbel.trans (hq.drew.below _)⟩

set_option maxHeartbeats 800000 in
theorem walk_zero (w : World) (x : Nat) (hx : x < 2 ^ 64) (h0 : rg x = 0) :
    Calls Try.prog 7 #[.float .f64 x] w fun e w' => e = .returned (.bool true) ∧ Below w.heap.size w w' := by
  have HP := Lib.hid (powers_any x w hx)
  have hf : rg x < INF := by rw [h0]; decide
  have HF := Lib.hid (fun W : World => specFinite_yes x W hf)
  have b0 : (FloatKind.f64.format.order x 0 == some .eq) = true := by
    have hk : key x = 0 := by have := key_natAbs x; omega
    rw [c_eq (Nat.le_of_lt hf) rg_zero_le, key_zero, decide_eq_true hk]
  have hz : pwW x = [] := by unfold pwW; rw [if_pos hf, h0, rv_zero, pws_zero]; rfl
  rw [hz] at HP
  clear hz h0 hf
  go_enter Try.func7, Try.ntmps7
  go_wp2_with fail
  ((with_reducible refine HP.out.mono ?_); rintro e w1 ⟨A, c, rfl, hc, hown, hbel⟩)
  rw [show (il []).length = 0 from rfl]
  clear hown HP hc
  go_wp2_with (go_at_call 30; ((with_reducible refine (HF.out _).mono ?_)); rintro e w' ⟨rfl, rfl⟩)
  go_ret
  exact ⟨rfl, hbel⟩
set_option maxHeartbeats 800000 in
theorem walk_inf (w : World) (x : Nat) (hx : x < 2 ^ 64) (h0 : INF ≤ rg x) :
    Calls Try.prog 7 #[.float .f64 x] w fun e w' => e = .returned (.bool true) ∧ Below w.heap.size w w' := by
  have HP := Lib.hid (powers_any x w hx)
  have HF := Lib.hid (fun W : World => specFinite_no x W h0)
  have hz : pwW x = [] := by unfold pwW; rw [if_neg (by omega)]
  rw [hz] at HP
  clear hz h0
  go_enter Try.func7, Try.ntmps7
  go_wp2_with fail
  ((with_reducible refine HP.out.mono ?_); rintro e w1 ⟨A, c, rfl, hc, hown, hbel⟩)
  rw [show (il []).length = 0 from rfl]
  clear hown HP hc
  go_wp2_with (go_at_call 30; ((with_reducible refine (HF.out _).mono ?_)); rintro e w' ⟨rfl, hq⟩)
  go_ret
  exact ⟨rfl, hbel.trans (hq.below _)⟩

theorem walk (w : World) (x : Nat) (hx : x < 2 ^ 64) :
    Calls Try.prog 7 #[.float .f64 x] w fun e w' => e = .returned (.bool true) ∧ Below w.heap.size w w' := by
  rcases Nat.lt_or_ge (rg x) INF with hf | hf
  · by_cases h0 : rg x = 0
    · exact walk_zero w x hx h0
    · exact walk_pos w x hx h0 hf
  · exact walk_inf w x hx hf
end Go.Proofs.Ytlpcpoganlmiaaa.LPowersFall

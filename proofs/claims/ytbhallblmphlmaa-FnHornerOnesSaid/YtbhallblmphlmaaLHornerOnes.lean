/-
  The walk of laws.FnHornerOnes: it returns true, for every start and every list.
-/
import Derived.Test.YtbhallblmphlmaaHor
import Derived.Test.YtbhallblmphlmaaSpcC
import Derived.Test.YtbhallblmphlmaaLawA
import Derived.Test.YtbhallblmphlmaaRow
namespace Go.Proofs.Ytbhallblmphlmaa.LHornerOnes
open Go.RowKit Flt

set_option exponentiation.threshold 2000 in
theorem vl_one : vl 4607182418800017408 = .num (U : Int) := by
  have e1 : rg 4607182418800017408 = 1023 * 2 ^ 52 := rfl
  have e2 : sg 4607182418800017408 = false := rfl
  rw [vl_fin (by rw [e1]; decide)]
  unfold fv
  rw [e1, e2, if_neg (by decide), rv_pow 1023 (by omega)]
  rfl
theorem vl_zero : vl 0 = .num 0 := by
  rw [vl_fin (by decide), (fv_zero_iff 0).2 rfl]

theorem U_pos : 0 < U := pow_pos e0
theorem rnd_U (T : Int) : rnd (T * (U : Int)) e0 = rnd T 0 := by
  have h1 : (T * (U : Int)).natAbs = T.natAbs * 2 ^ e0 := by rw [Int.natAbs_mul, Int.natAbs_natCast]; rfl
  have h2 := ru_scale T.natAbs 0 e0
  rw [Nat.zero_add] at h2
  have hU : (0 : Int) < (U : Int) := Int.ofNat_lt.2 U_pos
  have h3 : T * (U : Int) < 0 ↔ T < 0 := by
    constructor
    · intro h
      rcases Int.lt_or_le T 0 with h' | h'
      · exact h'
      · have := Int.mul_nonneg h' (Int.le_of_lt hU); omega
    · intro h; exact Int.mul_neg_of_neg_of_pos h hU
  unfold rnd
  rw [h1, h2]
  by_cases h : T < 0
  · rw [decide_eq_true h, decide_eq_true (h3.2 h), if_pos h, if_pos (h3.2 h)]
  · rw [decide_eq_false h, decide_eq_false (fun x => h (h3.1 x)), if_neg h, if_neg (fun x => h (h3.1 x))]

theorem fmv_one (a c : Val) : fmv a (.num (U : Int)) c = addv a c := by
  have hU : (U : Int) ≠ 0 := by have := U_pos; omega
  have hU2 : ¬ (U : Int) < 0 := by omega
  cases a with
  | nan => rfl
  | inf s =>
    show addv (if (U : Int) = 0 then .nan else .inf (s ^^ decide ((U : Int) < 0))) c = _
    rw [if_neg hU, decide_eq_false hU2, Bool.xor_false]
  | num u =>
    cases c with
    | nan => rfl
    | inf s => rfl
    | num z =>
      show rnd (u * (U : Int) + z * (U : Int)) e0 = rnd (u + z) 0
      rw [← Int.add_mul, rnd_U]
theorem horv_one : ∀ (l : List Val) (s : Val), horv (.num (U : Int)) s l = l.foldl addv s := by
  intro l
  induction l with
  | nil => intro s; rfl
  | cons b l ih =>
    intro s
    show horv _ (fmv s _ b) l = l.foldl addv (addv s b)
    rw [fmv_one, ih]
theorem fmv_zero {a c : Nat} (ha : rg a < INF) (hc : rg c < INF) : fmv (vl a) (.num 0) (vl c) = vl c := by
  rw [vl_fin ha, vl_fin hc]
  show rnd (fv a * 0 + fv c * (U : Int)) e0 = _
  have : (U : Int) = 2 ^ e0 := by unfold U; simp
  rw [Int.mul_zero, Int.zero_add, this, rnd_exact hc]
theorem horv_zero : ∀ (l : List Nat) (s : Nat), (∀ z ∈ s :: l, rg z < INF) → horv (.num 0) (vl s) (l.map vl) = vl ((s :: l).getD l.length 0) := by
  intro l
  induction l with
  | nil => intro s _; rfl
  | cons b l ih =>
    intro s h
    show horv _ (fmv (vl s) (.num 0) (vl b)) (l.map vl) = vl ((b :: l).getD l.length 0)
    rw [fmv_zero (h s (List.mem_cons_self ..)) (h b (List.mem_cons_of_mem _ (List.mem_cons_self ..))), ih b (fun z hz => h z (List.mem_cons_of_mem _ hz))]
theorem ne_of_vl {a b : Nat} (h : vl a = vl b) (hf : rg b < INF) : (FloatKind.f64.format.order a b != some .eq) = false := by
  rw [vl_fin hf] at h
  rcases vl_cases a with ⟨_, e⟩ | ⟨_, e⟩ | ⟨h1, e⟩
  · rw [e] at h; cases h
  · rw [e] at h; cases h
  · rw [e] at h
    injection h with h
    rw [c_ne (Nat.le_of_lt h1) (Nat.le_of_lt hf), decide_eq_false (fun hk => hk ((fv_eq_iff a b).1 h))]

def sums (s : Nat) (l : List Nat) : Val := (l.map vl).foldl addv (vl s)
theorem sums_snoc (s : Nat) {l : List Nat} {k : Nat} (h : k < l.length) : sums s (l.take (k + 1)) = addv (sums s (l.take k)) (vl (l.getD k 0)) := by
  unfold sums
  rw [vl_take_snoc h, List.foldl_append]; rfl
theorem fin_snoc {s k : Nat} {l : List Nat} (hk : k < l.length) (h : ∀ z ∈ s :: l.take k, rg z < INF) (hc : rg (l.getD k 0) < INF) : ∀ z ∈ s :: l.take (k + 1), rg z < INF := by
  rw [take_snoc l k 0 hk]
  intro z hz
  rcases List.mem_cons.1 hz with rfl | hz
  · exact h _ (List.mem_cons_self ..)
  rcases List.mem_append.1 hz with hz | hz
  · exact h z (List.mem_cons_of_mem _ hz)
  · rw [List.mem_singleton.1 hz]; exact hc

set_option maxRecDepth 100000 in
set_option maxHeartbeats 3200000 in
theorem walk (w : World) (s : Nat) (hs : s < 2 ^ 64) (A : Option Addr) (n c : Nat) (l : List Nat) (h : FRow w A n c l) :
    Calls Try.prog 5 #[.float .f64 s, .slice A n c] w fun e' w' => e' = .returned (.bool true) ∧ Below w.heap.size w w' := by
  obtain ⟨hlen0, hcap, hroom, hrd, hwd0⟩ := h
  have hlen := Lib.hid hlen0
  have o1 := one_three
  have HO := Lib.hid (fun (W : World) (q : Qt w W) => horner_any s 4607182418800017408 l A c n w.heap.size W hs hlen0 (by omega) (hrd.qt q))
  have HZ := Lib.hid (fun (W : World) (q : Qt w W) => horner_any s 0 l A c n w.heap.size W hs hlen0 (by omega) (hrd.qt q))
  rw [vl_one, horv_one] at HO
  rw [vl_zero] at HZ
  have hzero := Lib.hid (horv_zero l s)
  have hs' := Lib.hid hs
  clear hlen0 hcap hwd0 hs
  have hfs : ∃ f0 : Bool, (f0 = true → rg s < INF) ∧ Calls Try.prog 19 #[.float .f64 s] w fun e w' => e = .returned (.bool f0) ∧ Qt w w' := by
    rcases Nat.lt_or_ge (rg s) INF with hf | hf
    · exact ⟨true, fun _ => hf, (specFinite_yes s w hf).mono fun e w' ⟨h1, h2⟩ => ⟨h1, h2 ▸ Qt.refl _⟩⟩
    · exact ⟨false, fun h => (by cases h), specFinite_no s w hf⟩
  obtain ⟨f0, hf0, HF⟩ := hfs
  have HF' := Lib.hid HF
  have hF0 := Lib.hid hf0
  clear HF hf0
  go_enter Try.func5, Try.ntmps5
  go_wp2_with fail
  ((with_reducible refine HF'.out.mono ?_); rintro e w1 ⟨rfl, q1⟩)
  go_wp2
  go_loopw [5, 6, 7, 9, 16] (fun a b f _ i wr => ∃ (k x y : Nat) (fb : Bool), k ≤ n ∧ i = .int .i64 k ∧ a = .float .f64 x ∧ b = .float .f64 y ∧ f = .bool fb ∧ Hid (vl x = sums s (l.take k)) ∧ y = (s :: l).getD k 0 ∧ Hid (fb = true → ∀ z ∈ s :: l.take k, rg z < INF) ∧ Qt w wr) (fun _ _ _ _ i _ => n - (intOf i).toNat)
  case atStart => exact ⟨0, s, s, f0, Nat.zero_le _, rfl, rfl, rfl, rfl, rfl, rfl, fun hf z hz => (by simp at hz; rw [hz]; exact hF0.out hf), q1⟩
  case round =>
    obtain ⟨k, x, y, fb, hk, rfl, rfl, rfl, rfl, hv, hy, hfb, hq⟩ := hrel
    by_cases hlt : k < n
    · obtain ⟨ad, e1, _, c1⟩ := (hrd.qt hq).fl (k := k) (by rw [hlen.out]; exact hlt)
      cases e1
      have hst := Lib.hid (sums_snoc s (l := l) (k := k) (by rw [hlen.out]; exact hlt))
      rw [← hv.out] at hst
      have hfs := Lib.hid (fin_snoc (s := s) (l := l) (k := k) (by rw [hlen.out]; exact hlt))
      have hye : Hid (l.getD k 0 = (s :: l).getD (k + 1) 0) := rfl
      clear hy hv
      generalize l.getD k 0 = z at *
      obtain ⟨g, g', hrun, hans⟩ := add_ans x z
      have hvv : Hid (∀ v : World, vl (g v) = sums s (l.take (k + 1))) := fun v => by
        rw [hans.val v, hst.out]
      have hqv := Lib.hid (fun v : World => hans.qt v)
      clear hans hst
      cases fb
      · go_wp2
        go_roundw
        case rel => exact ⟨k + 1, _, z, false, by omega, by go_num, rfl, rfl, rfl, hvv.out _, hye.out, (fun h => by cases h), hq.trans (hqv.out _)⟩
        case measure => simp [intOf]; omega
      · rcases Nat.lt_or_ge (rg z) INF with hf | hf
        · have HY := Lib.hid (fun W : World => specFinite_yes z W hf)
          have hall := Lib.hid (hfs.out (hfb.out rfl) hf)
          clear hf hfs hfb
          go_wp2_with (go_at_call 19; ((with_reducible refine (HY.out _).mono ?_)); rintro e w' ⟨rfl, rfl⟩)
          go_roundw
          case rel => exact ⟨k + 1, _, z, true, by omega, by go_num, rfl, rfl, rfl, hvv.out _, hye.out, fun _ => hall.out, hq.trans (hqv.out _)⟩
          case measure => simp [intOf]; omega
        · have HY := Lib.hid (fun W : World => specFinite_no z W hf)
          clear hf hfs hfb
          go_wp2_with (go_at_call 19; ((with_reducible refine (HY.out _).mono ?_)); rintro e w' ⟨rfl, qf⟩)
          go_roundw
          case rel => exact ⟨k + 1, _, z, false, by omega, by go_num, rfl, rfl, rfl, hvv.out _, hye.out, (fun h => by cases h), (hq.trans (hqv.out _)).trans qf⟩
          case measure => simp [intOf]; omega
    · have hkn : k = n := by omega
      have hkm : l.take k = l := List.take_of_length_le (by rw [hlen.out]; omega)
      rw [hkm] at hv hfb
      rw [hkn, ← hlen.out] at hy
      have hy' := Lib.hid hy
      clear hkm hy hkn
      have HON := Lib.hid (fun (W : World) (b : Nat) (hb : vl b = (l.map vl).foldl addv (vl s)) => same_any b x W)
      have HS : Hid (∀ (W : World) (b : Nat), vl b = (l.map vl).foldl addv (vl s) → Calls Try.prog 15 #[.float .f64 b, .float .f64 x] W fun e w' => e = .returned (.bool true) ∧ W = w') := by
        intro W b hb
        have := same_any b x W
        rw [vl_same (show vl b = vl x by rw [hb, hv.out]; rfl)] at this
        exact this
      clear HON
      cases fb
      · go_wp2_with fail
        ((with_reducible refine (HO.out _ hq).mono ?_); rintro e w2 ⟨b2, rfl, v2, l2, q2⟩; have hS := Lib.hid (fun W : World => HS.out W b2 v2); clear v2)
        go_wp2_with fail
        ((with_reducible refine (hS.out _).mono ?_); rintro e w' ⟨rfl, rfl⟩)
        go_wp2_with fail
        ((with_reducible refine (horner_nil _ _ _ _ _).mono ?_); rintro e w' ⟨rfl, rfl⟩)
        go_wp2
        go_ret
        exact ⟨rfl, (hq.trans q2).below _⟩
      · have hall := Lib.hid (hfb.out rfl)
        clear hfb
        go_wp2_with fail
        ((with_reducible refine (HZ.out _ hq).mono ?_); rintro e w3 ⟨b3, rfl, v3, l3, q3⟩)
        have hne := ne_of_vl (a := b3) (b := y) (by rw [v3, hzero.out hall.out, hy'.out]) (by rw [hy'.out]; exact hall.out _ (getD_mem _ _ 0 (by simp)))
        have hq3 := hq.trans q3
        clear v3
        go_wp2_with fail
        ((with_reducible refine (HO.out _ hq3).mono ?_); rintro e w2 ⟨b2, rfl, v2, l2, q2⟩; have hS := Lib.hid (fun W : World => HS.out W b2 v2); clear v2)
        go_wp2_with fail
        ((with_reducible refine (hS.out _).mono ?_); rintro e w' ⟨rfl, rfl⟩)
        go_wp2_with fail
        ((with_reducible refine (horner_nil _ _ _ _ _).mono ?_); rintro e w' ⟨rfl, rfl⟩)
        go_wp2
        go_ret
        exact ⟨rfl, (hq3.trans q2).below _⟩
end Go.Proofs.Ytbhallblmphlmaa.LHornerOnes

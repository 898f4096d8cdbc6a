/-
  The walk of laws.FnScaleBack: it returns true, for every list and all j, k.
-/
import Derived.Test.YtcgbghmeommmfaaScl
import Derived.Test.YtcgbghmeommmfaaMid
import Derived.Test.YtcgbghmeommmfaaLawA
import Derived.Test.YtcgbghmeommmfaaRow
namespace Go.Proofs.Ytcgbghmeommmfaa.LScaleBack
open Go.RowKit Flt

theorem impLdexp_one (W : World) : Calls Try.prog 27 #[.float .f64 4607182418800017408, .int .i64 4000] W fun e' w' => e' = .returned (.float .f64 4607182418800017408) ∧ W = w' := by
  have h := impLdexp_any 4607182418800017408 4000 W (by decide)
  have e : ex 4000 = 0 := by decide
  rw [e, ld_zero (by decide)] at h
  exact h
theorem one_eq : (FloatKind.f64.format.order 4607182418800017408 4607182418800017408 == some .eq) = true := by
  rw [c_self']; rfl

/-- all numbers are of the middle range -/
def AllMid (l : List Nat) : Prop := ∀ b ∈ l, Mid (rg b)

theorem scl_words {e : Int} {l : List Nat} (h : ∀ b ∈ l, b < 2 ^ 64) : ∀ b ∈ scl e l, b < 2 ^ 64 := by
  intro b hb
  unfold scl at hb
  simp only [List.mem_map] at hb
  obtain ⟨a, ha, rfl⟩ := hb
  exact ld_lt _ (h a ha)

theorem alls_back {l : List Nat} (hw : ∀ b ∈ l, b < 2 ^ 64) (hm : AllMid l) {j : Int} (h1 : -300 ≤ j) (h2 : j ≤ 300) : Alls (scl (-j + 4000) (scl (j + 4000) l)) l := by
  refine ⟨by rw [scl_len, scl_len], fun k hk => ?_⟩
  rw [scl_len, scl_len] at hk
  rw [scl_get (by rw [scl_len]; exact hk), scl_get hk, ex_shift (by omega) (by omega), ex_shift (by omega) (by omega)]
  have hmem := getD_mem l k 0 hk
  rw [ld_back (hw _ hmem) (hm _ hmem) h1 h2]
  exact same_refl _
theorem alls_twice {l : List Nat} (hw : ∀ b ∈ l, b < 2 ^ 64) (hm : AllMid l) {j k : Int} (h1 : -300 ≤ j) (h2 : j ≤ 300) (h3 : -300 ≤ k) (h4 : k ≤ 300) : Alls (scl (k + 4000) (scl (j + 4000) l)) (scl (j + k + 4000) l) := by
  refine ⟨by rw [scl_len, scl_len, scl_len], fun i hk => ?_⟩
  rw [scl_len, scl_len] at hk
  rw [scl_get (by rw [scl_len]; exact hk), scl_get hk, scl_get hk, ex_shift (by omega) (by omega), ex_shift (by omega) (by omega), ex_shift (by omega) (by omega)]
  have hmem := getD_mem l i 0 hk
  rw [ld_twice (hw _ hmem) (hm _ hmem) h1 h2 h3 h4]
  exact same_refl _

set_option maxHeartbeats 1600000 in
theorem rest (wr : World) (l : List Nat) (n c : Nat) (A : Option Addr) (hlen : l.length = n) (hroom : n * 8 ≤ 140737488351232) (hw : ∀ b ∈ l, b < 2 ^ 64) (hm : AllMid l) (hr : Rd wr wr.heap.size A (fl l)) (j k : Int) (h1 : -300 ≤ j) (h2 : j ≤ 300) (h3 : -300 ≤ k) (h4 : k ≤ 300) :
    Calls Try.prog 25 #[.slice A n c, .int .i64 (j + 4000)] wr fun e w1 => ∃ A1 c1, e = .returned (.slice A1 n c1) ∧ Below wr.heap.size wr w1 ∧
      Calls Try.prog 25 #[.slice A1 n c1, .int .i64 (-j + 4000)] w1 fun e w2 => ∃ A2 c2, e = .returned (.slice A2 n c2) ∧ Below w1.heap.size w1 w2 ∧
        Calls Try.prog 18 #[.slice A2 n c2, .slice A n c] w2 fun e w3 => e = .returned (.bool true) ∧ Qt w2 w3 ∧
          Calls Try.prog 25 #[.slice A1 n c1, .int .i64 (k + 4000)] w3 fun e w4 => ∃ A4 c4, e = .returned (.slice A4 n c4) ∧ Below w3.heap.size w3 w4 ∧
            Calls Try.prog 25 #[.slice A n c, .int .i64 (j + k + 4000)] w4 fun e w5 => ∃ A5 c5, e = .returned (.slice A5 n c5) ∧ Below w4.heap.size w4 w5 ∧
              Calls Try.prog 18 #[.slice A4 n c4, .slice A5 n c5] w5 fun e w6 => e = .returned (.bool true) ∧ Qt w5 w6 := by
  have len1 : (scl (j + 4000) l).length = n := by rw [scl_len, hlen]
  refine (scale_any l (j + 4000) A c n wr.heap.size wr hlen hw hroom (Nat.le_refl _) hr).mono ?_
  rintro e w1 ⟨A1, c1, rfl, _, o1, b1⟩
  have r1 := Rd.of_own o1
  have hr1 := hr.below b1
  refine ⟨A1, c1, by rw [fl_len, len1], b1, ?_⟩
  refine (scale_any _ (-j + 4000) A1 c1 n w1.heap.size w1 len1 (scl_words hw) hroom (Nat.le_refl _) r1).mono ?_
  rintro e w2 ⟨A2, c2, rfl, _, o2, b2⟩
  have r2 := Rd.of_own o2
  have r12 := r1.below b2
  have hr2 := (hr1.more b1.size).below b2
  refine ⟨A2, c2, by rw [fl_len, scl_len, len1], b2, ?_⟩
  refine (sameAll_any _ l A2 A c2 c n n w2.heap.size w2 (by rw [scl_len, len1]) hlen (by omega) r2 (hr2.more b2.size) (alls_back hw hm h1 h2)).mono ?_
  rintro e w3 ⟨rfl, q3⟩
  have r13 := (r12.qt q3).more (show w1.heap.size ≤ w3.heap.size by rw [q3.size]; exact b2.size)
  have hr3 := (hr2.qt q3).more (show w1.heap.size ≤ w3.heap.size by rw [q3.size]; exact b2.size)
  refine ⟨rfl, q3, ?_⟩
  refine (scale_any _ (k + 4000) A1 c1 n w3.heap.size w3 len1 (scl_words hw) hroom (Nat.le_refl _) r13).mono ?_
  rintro e w4 ⟨A4, c4, rfl, _, o4, b4⟩
  have r4 := Rd.of_own o4
  have hr4 := (hr3.below b4).more b4.size
  refine ⟨A4, c4, by rw [fl_len, scl_len, len1], b4, ?_⟩
  refine (scale_any l (j + k + 4000) A c n w4.heap.size w4 hlen hw hroom (Nat.le_refl _) hr4).mono ?_
  rintro e w5 ⟨A5, c5, rfl, _, o5, b5⟩
  have r5 := Rd.of_own o5
  refine ⟨A5, c5, by rw [fl_len, scl_len, hlen], b5, ?_⟩
  exact sameAll_any _ _ A4 A5 c4 c5 n n w5.heap.size w5 (by rw [scl_len, len1]) (by rw [scl_len, hlen]) (by omega) ((r4.below b5).more b5.size) r5 (alls_twice hw hm h1 h2 h3 h4)
theorem chain {w wr w1 w2 w3 w4 w5 w6 : World} (b0 : Below w.heap.size w wr) (b1 : Below wr.heap.size wr w1) (b2 : Below w1.heap.size w1 w2) (q3 : Qt w2 w3) (b4 : Below w3.heap.size w3 w4) (b5 : Below w4.heap.size w4 w5) (q6 : Qt w5 w6) : Below w.heap.size w w6 := by
  have s0 := b0.size; have s1 := b1.size; have s2 := b2.size; have s3 := q3.size; have s4 := b4.size
  exact (((((b0.trans (b1.mono s0)).trans (b2.mono (by omega))).trans (q3.below _)).trans (b4.mono (by omega))).trans (b5.mono (by omega))).trans (q6.below _)

set_option maxHeartbeats 3200000 in
theorem walk_nil (w : World) (A : Option Addr) (c : Nat) (j k : Int) :
    Calls Try.prog 12 #[.slice A 0 c, .int .i64 j, .int .i64 k] w fun e' w' => e' = .returned (.bool true) ∧ Below w.heap.size w w' := by
  have H1 := Lib.hid (fun W : World => impLdexp_one W)
  have o1 := one_eq
  obtain ⟨a, ha⟩ : ∃ a : Int, j % 601 - 300 = a := ⟨_, rfl⟩
  obtain ⟨b, hb⟩ : ∃ b : Int, k % 601 - 300 = b := ⟨_, rfl⟩
  have a1 : -300 ≤ a := by omega
  have a2 : a ≤ 300 := by omega
  have a3 : -300 ≤ b := by omega
  have a4 : b ≤ 300 := by omega
  have b1 := Int.emod_nonneg j (show (601 : Int) ≠ 0 by omega)
  have b2 := Int.emod_lt_of_pos j (show (0 : Int) < 601 by omega)
  have b3 := Int.emod_nonneg k (show (601 : Int) ≠ 0 by omega)
  have b4 := Int.emod_lt_of_pos k (show (0 : Int) < 601 by omega)
  have H := Lib.hid (rest w [] 0 c A rfl (by omega) (by simp) (fun b hb => by cases hb) Rd.nil a b a1 a2 a3 a4)
  have ha' := Lib.hid ha
  have hb' := Lib.hid hb
  clear ha hb
  go_enter Try.func12, Try.ntmps12
  go_wp2
  refine wp_loop_rounds 1 ?_
  rw [rounds_succ]
  go_wp2_with (go_at_call 16; ((with_reducible refine (specAt_any _ _ _ (by decide) (by decide)).mono ?_)); rintro e w' ⟨rfl, rfl⟩)
  rw [ha'.out, hb'.out]
  clear ha' hb' b1 b2 b3 b4
  ((with_reducible refine (shift_any _ _ (by omega) (by omega)).mono ?_); rintro e w' ⟨rfl, rfl⟩)
  go_wp2_with fail
  ((with_reducible refine H.out.mono ?_); rintro e w1 ⟨A1, c1, rfl, bl1, h2⟩; have H2 := Lib.hid h2; clear h2 H)
  go_wp2_with fail
  ((with_reducible refine (H1.out _).mono ?_); rintro e w' ⟨rfl, rfl⟩)
  go_wp2_with fail
  ((with_reducible refine (shift_any _ _ (by omega) (by omega)).mono ?_); rintro e w' ⟨rfl, rfl⟩)
  go_wp2_with fail
  ((with_reducible refine H2.out.mono ?_); rintro e w2 ⟨A2, c2, rfl, bl2, h3⟩; have H3 := Lib.hid h3; clear h3 H2)
  go_wp2_with fail
  ((with_reducible refine H3.out.mono ?_); rintro e w3 ⟨rfl, q3, h4⟩; have H4 := Lib.hid h4; clear h4 H3)
  go_wp2_with fail
  ((with_reducible refine (shift_any _ _ (by omega) (by omega)).mono ?_); rintro e w' ⟨rfl, rfl⟩)
  go_wp2_with fail
  ((with_reducible refine H4.out.mono ?_); rintro e w4 ⟨A4, c4, rfl, bl4, h5⟩; have H5 := Lib.hid h5; clear h5 H4)
  go_wp2_with fail
  ((with_reducible refine (shift_any _ _ (by omega) (by omega)).mono ?_); rintro e w' ⟨rfl, rfl⟩)
  go_wp2_with fail
  ((with_reducible refine H5.out.mono ?_); rintro e w5 ⟨A5, c5, rfl, bl5, h6⟩; have H6 := Lib.hid h6; clear h6 H5)
  go_wp2_with fail
  ((with_reducible refine H6.out.mono ?_); rintro e w6 ⟨rfl, q6⟩; clear H6)
  go_wp2
  go_ret
  exact ⟨rfl, chain (Below.refl _ _) bl1 bl2 q3 bl4 bl5 q6⟩

set_option maxHeartbeats 3200000 in
theorem walk_cons (w : World) (A : Addr) (n c : Nat) (l : List Nat) (h : FRow w (some A) n c l) (j k : Int) :
    Calls Try.prog 12 #[.slice (some A) n c, .int .i64 j, .int .i64 k] w fun e' w' => e' = .returned (.bool true) ∧ Below w.heap.size w w' := by
  obtain ⟨hlen0, hcap, hroom, hrd, hwd0⟩ := h
  have hlen := Lib.hid hlen0
  have hwd := Lib.hid hwd0
  have H1 := Lib.hid (fun W : World => impLdexp_one W)
  have o1 := one_eq
  clear hlen0 hwd0
  go_enter Try.func12, Try.ntmps12
  go_wp2
  go_loopw [8, 12] (fun _ i wr => ∃ q : Nat, q ≤ n ∧ i = .int .i64 q ∧ AllMid (l.take q) ∧ wr = w) (fun _ i _ => n - (intOf i).toNat)
  case atStart => exact ⟨0, Nat.zero_le _, rfl, (fun b hb => by simp at hb), rfl⟩
  case round =>
    obtain ⟨q, hq, rfl, hAll, rfl⟩ := hrel
    by_cases hlt : q < n
    · obtain ⟨_, e1, _, cc⟩ := hrd.fl (k := q) (by rw [hlen.out]; exact hlt)
      cases e1
      have hm := Lib.hid (fun W : World => middle_any (l.getD q 0) W (hwd.out _ (getD_mem l q 0 (by rw [hlen.out]; exact hlt))))
      have hst : Hid (Mid (rg (l.getD q 0)) → AllMid (l.take (q + 1))) := fun hmid b hb => by
        rw [take_snoc l q 0 (by rw [hlen.out]; exact hlt)] at hb
        rcases List.mem_append.1 hb with hb | hb
        · exact hAll b hb
        · simp at hb; subst hb; simpa using hmid
      generalize l.getD q 0 = x at *
      by_cases hmid : Mid (rg x)
      · have hA2 := Lib.hid (hst.out hmid)
        rw [decide_eq_true hmid] at hm
        clear hst hmid hAll
        go_wp2_with (go_at_call 35; ((with_reducible refine (hm.out _).mono ?_)); rintro e w' ⟨rfl, rfl⟩)
        go_roundw
        case rel => exact ⟨q + 1, by omega, by go_num, hA2.out, trivial⟩
        case measure => simp [intOf]; omega
      · rw [decide_eq_false hmid] at hm
        clear hst hmid hAll
        go_wp2_with (go_at_call 35; ((with_reducible refine (hm.out _).mono ?_)); rintro e w' ⟨rfl, rfl⟩)
        go_ret
        exact ⟨rfl, Below.refl _ _⟩
    · have hAll' : AllMid l := by rw [List.take_of_length_le (by rw [hlen.out]; omega)] at hAll; exact hAll
      obtain ⟨a, ha⟩ : ∃ a : Int, j % 601 - 300 = a := ⟨_, rfl⟩
      obtain ⟨b, hb⟩ : ∃ b : Int, k % 601 - 300 = b := ⟨_, rfl⟩
      have a1 : -300 ≤ a := by omega
      have a2 : a ≤ 300 := by omega
      have a3 : -300 ≤ b := by omega
      have a4 : b ≤ 300 := by omega
      have b1 := Int.emod_nonneg j (show (601 : Int) ≠ 0 by omega)
      have b2 := Int.emod_lt_of_pos j (show (0 : Int) < 601 by omega)
      have b3 := Int.emod_nonneg k (show (601 : Int) ≠ 0 by omega)
      have b4 := Int.emod_lt_of_pos k (show (0 : Int) < 601 by omega)
      have H := Lib.hid (rest wr l n c (some A) hlen.out hroom hwd.out hAll' hrd a b a1 a2 a3 a4)
      have ha' := Lib.hid ha
      have hb' := Lib.hid hb
      clear ha hb hAll hAll'
      go_wp2_with (go_at_call 16; ((with_reducible refine (specAt_any _ _ _ (by decide) (by decide)).mono ?_)); rintro e w' ⟨rfl, rfl⟩)
      rw [ha'.out, hb'.out]
      clear ha' hb' b1 b2 b3 b4
      ((with_reducible refine (shift_any _ _ (by omega) (by omega)).mono ?_); rintro e w' ⟨rfl, rfl⟩)
      go_wp2_with fail
      ((with_reducible refine H.out.mono ?_); rintro e w1 ⟨A1, c1, rfl, bl1, h2⟩; have H2 := Lib.hid h2; clear h2 H)
      go_wp2_with fail
      ((with_reducible refine (H1.out _).mono ?_); rintro e w' ⟨rfl, rfl⟩)
      go_wp2_with fail
      ((with_reducible refine (shift_any _ _ (by omega) (by omega)).mono ?_); rintro e w' ⟨rfl, rfl⟩)
      go_wp2_with fail
      ((with_reducible refine H2.out.mono ?_); rintro e w2 ⟨A2, c2, rfl, bl2, h3⟩; have H3 := Lib.hid h3; clear h3 H2)
      go_wp2_with fail
      ((with_reducible refine H3.out.mono ?_); rintro e w3 ⟨rfl, q3, h4⟩; have H4 := Lib.hid h4; clear h4 H3)
      go_wp2_with fail
      ((with_reducible refine (shift_any _ _ (by omega) (by omega)).mono ?_); rintro e w' ⟨rfl, rfl⟩)
      go_wp2_with fail
      ((with_reducible refine H4.out.mono ?_); rintro e w4 ⟨A4, c4, rfl, bl4, h5⟩; have H5 := Lib.hid h5; clear h5 H4)
      go_wp2_with fail
      ((with_reducible refine (shift_any _ _ (by omega) (by omega)).mono ?_); rintro e w' ⟨rfl, rfl⟩)
      go_wp2_with fail
      ((with_reducible refine H5.out.mono ?_); rintro e w5 ⟨A5, c5, rfl, bl5, h6⟩; have H6 := Lib.hid h6; clear h6 H5)
      go_wp2_with fail
      ((with_reducible refine H6.out.mono ?_); rintro e w6 ⟨rfl, q6⟩; clear H6)
      go_wp2
      go_ret
      exact ⟨rfl, chain (Below.refl _ _) bl1 bl2 q3 bl4 bl5 q6⟩

theorem walk (w : World) (A : Option Addr) (n c : Nat) (l : List Nat) (h : FRow w A n c l) (j : Int) (_hj : -9223372036854775808 ≤ j ∧ j ≤ 9223372036854775807) (k : Int) (_hk : -9223372036854775808 ≤ k ∧ k ≤ 9223372036854775807) :
    Calls Try.prog 12 #[.slice A n c, .int .i64 j, .int .i64 k] w fun e' w' => e' = .returned (.bool true) ∧ Below w.heap.size w w' := by
  rcases Nat.eq_zero_or_pos n with h0 | h0
  · subst h0; exact walk_nil w A c j k
  · obtain ⟨ad, rfl, _, _⟩ := h.reads.fl (k := 0) (by have := h.len; omega)
    exact walk_cons w ad n c l h j k
end Go.Proofs.Ytcgbghmeommmfaa.LScaleBack

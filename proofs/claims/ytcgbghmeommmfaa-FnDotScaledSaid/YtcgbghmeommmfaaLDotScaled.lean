/-
  The walk of laws.FnDotScaled: it returns true, for all lists and every k.
-/
import Derived.Test.YtcgbghmeommmfaaScl
import Derived.Test.YtcgbghmeommmfaaMds
import Derived.Test.YtcgbghmeommmfaaFma
import Derived.Test.YtcgbghmeommmfaaFdu
import Derived.Test.YtcgbghmeommmfaaLawA
import Derived.Test.YtcgbghmeommmfaaRow
namespace Go.Proofs.Ytcgbghmeommmfaa.LDotScaled
open Go.RowKit Flt Ieee

theorem scl_words {e : Int} {l : List Nat} (h : ∀ b ∈ l, b < 2 ^ 64) : ∀ b ∈ scl e l, b < 2 ^ 64 := by
  intro b hb
  unfold scl at hb
  simp only [List.mem_map] at hb
  obtain ⟨a, ha, rfl⟩ := hb
  exact ld_lt _ (h a ha)

/-- all numbers are of the middle range -/
structure AllM (l : List Nat) : Prop where
  words : ∀ b ∈ l, b < 2 ^ 64
  mds : ∀ b ∈ l, Mds (rg b)

theorem pairs_up {l : List Nat} (h : AllM l) {j : Int} {a n : Nat} (hj : j = (a : Int)) (ha : a ≤ 100) (hn : n ≤ l.length) : Pairs a l (scl (j + 4000) l) n := by
  refine ⟨fun i hi => ?_, fun i hi => ?_⟩
  · have hm := getD_mem l i 0 (by omega)
    have := h.mds _ hm
    exact bw_of (by have := this.1; omega) this.2
  · have hm := getD_mem l i 0 (by omega)
    have h1 := h.mds _ hm
    have hw := h.words _ hm
    rw [scl_get (by omega), ex_shift (by omega) (by omega)]
    generalize l.getD i 0 = x at *
    obtain ⟨e1, e2⟩ := rg_scaled (k := j) hw h1.1 h1.2 (by omega) (by omega)
    refine tm_of (by have := h1.1; omega) ?_ e2
    rw [hj] at e1 ⊢
    omega

theorem pairs_down {l : List Nat} (h : AllM l) {j : Int} {a n : Nat} (hj : j = -(a : Int)) (ha : a ≤ 100) (hn : n ≤ l.length) : Pairs a (scl (j + 4000) l) l n := by
  refine ⟨fun i hi => ?_, fun i hi => ?_⟩
  all_goals
    have hm := getD_mem l i 0 (by omega)
    have h1 := h.mds _ hm
    have hw := h.words _ hm
    rw [scl_get (by omega), ex_shift (by omega) (by omega)]
    generalize l.getD i 0 = x at *
    obtain ⟨e1, e2⟩ := rg_scaled (k := j) hw h1.1 h1.2 (by omega) (by omega)
    obtain ⟨p1, p2⟩ := h1
  · exact bw_of (by omega) (by omega)
  · exact tm_of (by omega) (by omega) e2.symm

theorem law {l l' : List Nat} (h : AllM l) (h' : AllM l') {j : Int} (j1 : -100 ≤ j) (j2 : j ≤ 100) {N : Nat} (hN : N ≤ l.length) (hN' : N ≤ l'.length) :
    ∃ Z Z' : Nat → Nat, Z 0 = 0 ∧ Z' 0 = 0 ∧ DotTo l l' Z N ∧ DotTo (scl (j + 4000) l) (scl (j + 4000) l') Z' N ∧ ld (Z N) (2 * j) = Z' N ∧ Z N < 2 ^ 64 := by
  rcases Int.lt_or_le j 0 with hj | hj
  · obtain ⟨a, ha⟩ : ∃ a : Nat, j = -(a : Int) := ⟨(-j).toNat, by omega⟩
    have H := dots_both (pairs_down h ha (by omega) hN) (pairs_down h' ha (by omega) hN') (by omega)
    refine ⟨_, _, rfl, rfl, ⟨fun i hi => ((H i (by omega)).2 hi).2⟩, ⟨fun i hi => ((H i (by omega)).2 hi).1⟩, ?_, (H N (Nat.le_refl _)).1.lt'⟩
    have := (H N (Nat.le_refl _)).1.down (by omega)
    rw [show 2 * j = -2 * (a : Int) by omega]; exact this
  · obtain ⟨a, ha⟩ : ∃ a : Nat, j = (a : Int) := ⟨j.toNat, by omega⟩
    have H := dots_both (pairs_up h ha (by omega) hN) (pairs_up h' ha (by omega) hN') (by omega)
    refine ⟨_, _, rfl, rfl, ⟨fun i hi => ((H i (by omega)).2 hi).1⟩, ⟨fun i hi => ((H i (by omega)).2 hi).2⟩, ?_, (H N (Nat.le_refl _)).1.lt⟩
    have := (H N (Nat.le_refl _)).1.up (by omega)
    rw [show 2 * j = 2 * (a : Int) by omega]; exact this

theorem one_eq : (FloatKind.f64.format.order 4607182418800017408 4607182418800017408 == some .eq) = true := by
  rw [c_self']; rfl

/-- the calls behind the tests, one after the other -/
theorem rest (w : World) (l l' : List Nat) (n n' c c' : Nat) (A A' : Option Addr) (hlen : l.length = n) (hlen' : l'.length = n') (hroom : n * 8 ≤ 140737488351232) (hroom' : n' * 8 ≤ 140737488351232)
    (h : AllM l) (h' : AllM l') (hr : Rd w w.heap.size A (fl l)) (hr' : Rd w w.heap.size A' (fl l')) (j : Int) (j1 : -100 ≤ j) (j2 : j ≤ 100) :
    ∃ z z' : Nat, z < 2 ^ 64 ∧ ld z (2 * j) = z' ∧
      Calls Try.prog 24 #[.float .f64 0, .slice A n c, .slice A' n' c'] w fun e w1 => e = .returned (.float .f64 z) ∧ Qt w w1 ∧
        Calls Try.prog 25 #[.slice A n c, .int .i64 (j + 4000)] w1 fun e w2 => ∃ A1 c1, e = .returned (.slice A1 n c1) ∧ Below w1.heap.size w1 w2 ∧
          Calls Try.prog 25 #[.slice A' n' c', .int .i64 (j + 4000)] w2 fun e w3 => ∃ A2 c2, e = .returned (.slice A2 n' c2) ∧ Below w2.heap.size w2 w3 ∧
            Calls Try.prog 24 #[.float .f64 0, .slice A1 n c1, .slice A2 n' c2] w3 fun e w4 => e = .returned (.float .f64 z') ∧ Qt w3 w4 := by
  have hm1 : min n n' ≤ l.length := by omega
  have hm2 : min n n' ≤ l'.length := by omega
  obtain ⟨Z, Z', z0, z0', D, D', hld, hlt⟩ := law h h' j1 j2 hm1 hm2
  refine ⟨Z (min n n'), Z' (min n n'), hlt, hld, ?_⟩
  have d1 := dot_any l l' Z A A' c c' n n' w.heap.size w hlen hlen' (by omega) (by omega) hr hr' D
  rw [z0] at d1
  refine d1.mono ?_
  rintro e w1 ⟨rfl, q1⟩
  have s1 := q1.size
  have r1 := (hr.qt q1).more (Nat.le_of_eq s1.symm)
  have r1' := (hr'.qt q1).more (Nat.le_of_eq s1.symm)
  refine ⟨rfl, q1, ?_⟩
  refine (scale_any l (j + 4000) A c n w1.heap.size w1 hlen h.words hroom (Nat.le_refl _) r1).mono ?_
  rintro e w2 ⟨A1, c1, rfl, _, o2, b2⟩
  have len1 : (scl (j + 4000) l).length = n := by rw [scl_len, hlen]
  refine ⟨A1, c1, by rw [fl_len, len1], b2, ?_⟩
  have r2 := Rd.of_own o2
  have r2' := (r1'.below b2).more b2.size
  refine (scale_any l' (j + 4000) A' c' n' w2.heap.size w2 hlen' h'.words hroom' (Nat.le_refl _) r2').mono ?_
  rintro e w3 ⟨A2, c2, rfl, _, o3, b3⟩
  have len2 : (scl (j + 4000) l').length = n' := by rw [scl_len, hlen']
  refine ⟨A2, c2, by rw [fl_len, len2], b3, ?_⟩
  have r3 := Rd.of_own o3
  have r3' := (r2.below b3).more b3.size
  have d2 := dot_any _ _ Z' A1 A2 c1 c2 n n' w3.heap.size w3 len1 len2 (by omega) (by omega) r3' r3 D'
  rw [z0'] at d2
  exact d2

theorem chain {w w1 w2 w3 w4 w5 w6 w7 : World} (q1 : Qt w w1) (q2 : Qt w1 w2) (q3 : Qt w2 w3) (b4 : Below w3.heap.size w3 w4) (b5 : Below w4.heap.size w4 w5) (q6 : Qt w5 w6) (q7 : Qt w6 w7) : Below w.heap.size w w7 := by
  have s1 := q1.size; have s2 := q2.size; have s3 := q3.size; have s4 := b4.size
  have q := (q1.trans q2).trans q3
  have := q.size
  exact (((q.below _).trans (b4.mono (by omega))).trans (b5.mono (by omega))).trans ((q6.trans q7).below _)

set_option maxHeartbeats 3200000 in
theorem walk (w : World) (A : Option Addr) (n c : Nat) (l : List Nat) (h : FRow w A n c l) (A' : Option Addr) (n' c' : Nat) (l' : List Nat) (h' : FRow w A' n' c' l') (k : Int) (_hk : -9223372036854775808 ≤ k ∧ k ≤ 9223372036854775807) :
    Calls Try.prog 9 #[.slice A n c, .slice A' n' c', .int .i64 k] w fun e' w' => e' = .returned (.bool true) ∧ Below w.heap.size w w' := by
  have hroom := h.room
  have hroom' := h'.room
  have R := Lib.hid h
  have R' := Lib.hid h'
  have HM := Lib.hid (middles_any l A c n w.heap.size w h.len h.words (by omega) h.reads)
  have HM' := Lib.hid (fun (w1 : World) (q : Qt w w1) => middles_any l' A' c' n' w.heap.size w1 h'.len h'.words (by omega) (h'.reads.qt q))
  have o1 := one_eq
  clear h h'
  go_enter Try.func9, Try.ntmps9
  go_wp2_with fail
  ((with_reducible refine HM.out.mono ?_); rintro e w1 ⟨⟨p, rfl, hp⟩, q1⟩; have HP := Lib.hid hp; clear hp HM)
  cases p
  · clear HM' HP
    go_wp2
    go_ret
    exact ⟨rfl, q1.below _⟩
  have HM2 := Lib.hid (HM'.out w1 q1)
  clear HM'
  go_wp2_with fail
  ((with_reducible refine HM2.out.mono ?_); rintro e w2 ⟨⟨p, rfl, hp⟩, q2⟩; have HP' := Lib.hid hp; clear hp HM2)
  cases p
  · clear HP HP'
    go_wp2
    go_ret
    exact ⟨rfl, (q1.trans q2).below _⟩
  obtain ⟨j, hj⟩ : ∃ j : Int, k % 201 - 100 = j := ⟨_, rfl⟩
  have b1 := Int.emod_nonneg k (show (201 : Int) ≠ 0 by omega)
  have b2 := Int.emod_lt_of_pos k (show (0 : Int) < 201 by omega)
  have j1 : -100 ≤ j := by omega
  have j2 : j ≤ 100 := by omega
  have q12 := q1.trans q2
  have sz := q12.size
  obtain ⟨z, z', hz, hzz, C⟩ := rest w2 l l' n n' c c' A A' R.out.len R'.out.len hroom hroom' ⟨R.out.words, HP.out (by first | exact rfl | exact trivial)⟩ ⟨R'.out.words, HP'.out (by first | exact rfl | exact trivial)⟩ ((R.out.reads.qt q12).more (Nat.le_of_eq sz.symm)) ((R'.out.reads.qt q12).more (Nat.le_of_eq sz.symm)) j j1 j2
  have H := Lib.hid C
  have hj' := Lib.hid hj
  have hex := ex_shift (k := 2 * j) (by omega) (by omega)
  have HL := Lib.hid (fun W : World => impLdexp_any z (2 * j + 4000) W hz)
  rw [hex, hzz] at HL
  have HS := Lib.hid (fun W : World => same_any z' z' W)
  rw [same_refl] at HS
  clear hj C hex hzz hz HP HP' sz q12 R R'
  go_wp2_with (go_at_call 16; ((with_reducible refine (specAt_any _ _ _ (by decide) (by decide)).mono ?_)); rintro e w' ⟨rfl, rfl⟩)
  rw [hj'.out]
  clear hj' b1 b2
  ((with_reducible refine H.out.mono ?_); rintro e w3 ⟨rfl, q3, h2⟩; have H2 := Lib.hid h2; clear h2 H)
  go_wp2_with fail
  ((with_reducible refine (shift_any _ _ (by omega) (by omega)).mono ?_); rintro e w' ⟨rfl, rfl⟩)
  go_wp2_with fail
  ((with_reducible refine H2.out.mono ?_); rintro e w4 ⟨A4, c4, rfl, bl4, h3⟩; have H3 := Lib.hid h3; clear h3 H2)
  go_wp2_with fail
  ((with_reducible refine (shift_any _ _ (by omega) (by omega)).mono ?_); rintro e w' ⟨rfl, rfl⟩)
  go_wp2_with fail
  ((with_reducible refine H3.out.mono ?_); rintro e w5 ⟨A5, c5, rfl, bl5, h4⟩; have H4 := Lib.hid h4; clear h4 H3)
  go_wp2_with fail
  ((with_reducible refine H4.out.mono ?_); rintro e w6 ⟨rfl, q6⟩; clear H4)
  go_wp2_with fail
  ((with_reducible refine (shift_any _ _ (by omega) (by omega)).mono ?_); rintro e w' ⟨rfl, rfl⟩)
  go_wp2_with fail
  ((with_reducible refine (HL.out _).mono ?_); rintro e w' ⟨rfl, rfl⟩)
  go_wp2_with fail
  ((with_reducible refine (HS.out _).mono ?_); rintro e w' ⟨rfl, rfl⟩)
  go_wp2_with fail
  ((with_reducible refine (dot_nil _ _ _ _ _ _ _).mono ?_); rintro e w7 ⟨rfl, q7⟩)
  go_wp2
  go_ret
  exact ⟨rfl, chain q1 q2 q3 bl4 bl5 q6 q7⟩
end Go.Proofs.Ytcgbghmeommmfaa.LDotScaled

/-
  The walk of laws.FnReduceOrder: it returns true, for every number and every list.
-/
import Derived.Test.YtelhgahbhbinoaaRed
import Derived.Test.YtelhgahbhbinoaaSpcC
import Derived.Test.YtelhgahbhbinoaaLawA
import Derived.Test.YtelhgahbhbinoaaRow
namespace Go.Proofs.Ytelhgahbhbinoaa.LReduceOrder
open Go.RowKit Flt

/-- the first places hold positive finite numbers that do not fall -/
def Up (l : List Nat) (k : Nat) : Prop := ∀ j, j < k → rg (l.getD j 0) < INF ∧ (0 < rg (l.getD j 0) ∧ key (l.getD j 0) = rg (l.getD j 0)) ∧ (0 < j → rg (l.getD (j - 1) 0) ≤ rg (l.getD j 0))

theorem red_keep {r : Nat} (hr : r < 2 ^ 64) : ∀ l : List Nat, (r = qNaN ∨ ∀ z ∈ l, rg r < rg z ∧ rg z ≤ INF) → redW r l = r := by
  intro l
  induction l with
  | nil => intro _; rfl
  | cons z l ih =>
    intro h
    have e : modW r z = r := by
      rcases h with h | h
      · rw [h, modW_nan (Or.inl (by decide))]
      · have := h z (List.mem_cons_self ..)
        exact modW_small hr this.1 this.2
    show redW (modW r z) l = r
    rw [e]
    refine ih ?_
    rcases h with h | h
    · exact Or.inl h
    · exact Or.inr fun z hz => h z (List.mem_cons_of_mem _ hz)

theorem up_le {l : List Nat} {n : Nat} (h : Up l n) : ∀ j, j < n → rg (l.getD 0 0) ≤ rg (l.getD j 0) := by
  intro j
  induction j with
  | zero => intro _; exact Nat.le_refl _
  | succ j ih =>
    intro hj
    have := (h (j + 1) hj).2.2 (by omega)
    rw [Nat.add_sub_cancel] at this
    exact Nat.le_trans (ih (by omega)) this

theorem law {x : Nat} {l : List Nat} (h0 : 0 < l.length) (h : Up l l.length) : redW x l = modW x (l.getD 0 0) := by
  match l, h0, h with
  | y :: ys, _, h =>
    show redW (modW x y) ys = modW x y
    have hy := h 0 (by simp)
    have e0 : (y :: ys).getD 0 0 = y := rfl
    rw [e0] at hy
    refine red_keep modW_lt ys ?_
    by_cases hn : INF ≤ rg x
    · exact Or.inl (modW_nan (Or.inl hn))
    · right
      intro z hz
      obtain ⟨j, hj, rfl⟩ := List.getElem_of_mem hz
      have h1 := up_le h (j + 1) (by simp; omega)
      have h2 := h (j + 1) (by simp; omega)
      have e : (y :: ys).getD (j + 1) 0 = ys[j] := by
        rw [List.getD_eq_getElem?_getD, List.getElem?_cons_succ, List.getElem?_eq_getElem hj]; rfl
      rw [e0, e] at h1
      rw [e] at h2
      refine ⟨?_, by omega⟩
      have hF := modW_fits (x := x) (y := y) (by omega) (by omega)
      rw [modW_num (by omega) (by omega) (by omega), rg_mkwd _ hF.rep hF.lt]
      have h3 := (wd_lt_iff hF.rep (rep_rv (rg y))).2 (Nat.mod_lt _ (rv_pos (by omega)))
      rw [wd_rv] at h3
      omega

theorem gt_zero_iff {y : Nat} (h : (FloatKind.f64.format.order y 0 == some .gt) = true) : rg y ≤ INF ∧ 0 < rg y ∧ key y = rg y := by
  rcases Nat.lt_or_ge INF (rg y) with hn | hn
  · rw [c_nan (Or.inl hn)] at h; cases h
  · rw [c_gt hn rg_zero_le, key_zero] at h
    have h1 := of_decide_eq_true h
    have := key_natAbs y
    omega

theorem up_step {l : List Nat} {k : Nat} (h : Up l k) (h1 : rg (l.getD k 0) < INF) (h2 : 0 < rg (l.getD k 0) ∧ key (l.getD k 0) = rg (l.getD k 0)) (h3 : 0 < k → rg (l.getD (k - 1) 0) ≤ rg (l.getD k 0)) : Up l (k + 1) := by
  intro j hj
  rcases Nat.lt_or_ge j k with hj' | hj'
  · exact h j hj'
  · obtain rfl : j = k := by omega
    exact ⟨h1, h2, h3⟩

theorem mod_1_2 (W : World) : Calls Try.prog 18 #[.float .f64 4607182418800017408, .float .f64 4611686018427387904] W fun e w' => e = .returned (.float .f64 4607182418800017408) ∧ W = w' := by
  have := impMod_any 4607182418800017408 4611686018427387904 W (by decide) (by decide)
  rw [modW_small (by decide) (by decide) (by decide)] at this
  exact this

set_option maxHeartbeats 1600000 in
theorem walk_cons (w : World) (x : Nat) (hx : x < 2 ^ 64) (A : Addr) (n c : Nat) (l : List Nat) (h : FRow w (some A) n c l) (hn : 0 < n) :
    Calls Try.prog 9 #[.float .f64 x, .slice (some A) n c] w fun e' w' => e' = .returned (.bool true) ∧ Below w.heap.size w w' := by
  obtain ⟨hlen0, hcap, hroom, hrd, hwd0⟩ := h
  have hlen := Lib.hid hlen0
  have hwd := Lib.hid hwd0
  have o1 := one_one
  clear hlen0 hwd0
  go_enter Try.func9, Try.ntmps9
  go_wp2
  go_loopw [5, 6, 9] (fun _ _ i wr => ∃ q : Nat, q ≤ n ∧ i = .int .i64 q ∧ Up l q ∧ wr = w) (fun _ _ i _ => n - (intOf i).toNat)
  case atStart => exact ⟨0, Nat.zero_le _, rfl, (fun j hj => by omega), rfl⟩
  case round =>
    obtain ⟨q, hq, rfl, hUp, rfl⟩ := hrel
    by_cases hlt : q < n
    · obtain ⟨_, e1, _, cc⟩ := hrd.fl (k := q) (by rw [hlen.out]; exact hlt)
      cases e1
      have hg := gt_zero_iff (y := l.getD q 0)
      have hst := up_step hUp
      cases hb : (FloatKind.f64.format.order (l.getD q 0) 0 == some .gt)
      · generalize l.getD q 0 = y at *
        clear hUp hg hst
        go_wp2
        go_ret
        exact ⟨rfl, Below.refl _ _⟩
      · obtain ⟨g1, g2, g3⟩ := hg hb
        clear hg
        rcases Nat.lt_or_ge (rg (l.getD q 0)) INF with hf | hf
        · have HF := Lib.hid (fun W : World => specFinite_yes (l.getD q 0) W hf)
          rcases Nat.eq_zero_or_pos q with h0 | h0
          · have hU2 := Lib.hid (hst hf ⟨g2, g3⟩ (fun h => absurd h (by omega)))
            have hz : decide (0 < q) = false := decide_eq_false (by omega)
            clear hst hUp hf g1 g2 g3 h0
            generalize l.getD q 0 = y at *
            go_wp2_with (go_at_call 23; ((with_reducible refine (HF.out _).mono ?_)); rintro e w' ⟨rfl, rfl⟩)
            go_roundw
            case rel => exact ⟨q + 1, by omega, by go_num, hU2.out, trivial⟩
            case measure => simp [intOf]; omega
          · obtain ⟨p, hp⟩ : ∃ p, p + 1 = q := ⟨q - 1, by omega⟩
            obtain ⟨_, e2, _, cp⟩ := hrd.fl (k := p) (by rw [hlen.out]; omega)
            cases e2
            have hprev := hUp p (by omega)
            have hcmp := c_lt (a := l.getD q 0) (b := l.getD p 0) g1 (by omega)
            have hz : decide ((0 : Int) < (q : Int)) = true := decide_eq_true (by omega)
            have hpq : (q : Int) - 1 = (p : Int) := by omega
            have hpn : p < n := by omega
            by_cases hlt2 : key (l.getD q 0) < key (l.getD p 0)
            · rw [decide_eq_true hlt2] at hcmp
              have hp' := Lib.hid hp
              clear hst hUp hf g1 g2 g3 hprev hlt2 hp
              generalize l.getD q 0 = y at *
              generalize l.getD p 0 = z at *
              go_wp2_with (go_at_call 23; ((with_reducible refine (HF.out _).mono ?_)); rintro e w' ⟨rfl, rfl⟩)
              go_ret
              exact ⟨rfl, Below.refl _ _⟩
            · rw [decide_eq_false hlt2] at hcmp
              have hU2 : Hid (Up l (q + 1)) := hst hf ⟨g2, g3⟩ (fun _ => by
                have e : q - 1 = p := by omega
                rw [e]
                have hk := (gt_zero_iff (y := l.getD q 0) hb).2.2
                have hk2 := hprev.2.1.2
                omega)
              have hp' := Lib.hid hp
              clear hst hUp hf g1 g2 g3 hprev hlt2 hp
              generalize l.getD q 0 = y at *
              generalize l.getD p 0 = z at *
              go_wp2_with (go_at_call 23; ((with_reducible refine (HF.out _).mono ?_)); rintro e w' ⟨rfl, rfl⟩)
              go_roundw
              case rel => exact ⟨q + 1, by omega, by go_num, hU2.out, trivial⟩
              case measure => simp [intOf]; omega
        · have HF := Lib.hid (fun W : World => specFinite_no (l.getD q 0) W hf)
          generalize l.getD q 0 = y at *
          clear hUp hst g1 g2 g3
          go_wp2_with (go_at_call 23; ((with_reducible refine (HF.out _).mono ?_)); rintro e w' ⟨rfl, hq'⟩)
          go_ret
          exact ⟨rfl, hq'.below _⟩
    · have e : q = n := by omega
      have hUp' : Up l l.length := by rw [hlen.out, ← e]; exact hUp
      have hfin : Hid (redW x l = modW x (l.getD 0 0)) := law (by rw [hlen.out]; exact hn) hUp'
      clear e hUp'
      obtain ⟨_, e1, _, cc⟩ := hrd.fl (k := 0) (by rw [hlen.out]; exact hn)
      cases e1
      have hA0 : A.add 0 = A := by simp [Addr.add]
      rw [hA0] at cc
      have hm := hwd.out _ (getD_mem l 0 0 (by rw [hlen.out]; exact hn))
      have HR := Lib.hid (fun (k : Nat) => reduce_any x l (some A) c n wr.heap.size (wr.drewN k) hx hlen.out hwd.out (by omega) (hrd.drewN k))
      rw [hfin.out] at HR
      have HM := Lib.hid (fun W : World => impMod_any x (l.getD 0 0) W hx hm)
      have HS := Lib.hid (fun W : World => same_any (modW x (l.getD 0 0)) (modW x (l.getD 0 0)) W)
      rw [same_refl] at HS
      generalize modW x (l.getD 0 0) = r at *
      generalize l.getD 0 0 = y at *
      have hn0 : decide ((n : Int) = 0) = false := decide_eq_false (by omega)
      clear hUp hfin hm hA0
      go_wp2
      go_quiet (first | (go_at_call 20; exact quiet_w (HR.out _)) | (go_at_call 19; exact quiet_w (HS.out _)) | (go_at_call 18; first | exact quiet_w (HM.out _) | exact quiet_w (mod_1_2 _)))
      go_wp2
      go_ret
      exact ⟨rfl, (Qt.drewN (Qt.refl _) _).below _⟩

set_option maxHeartbeats 800000 in
theorem walk_nil (w : World) (x : Nat) (A : Option Addr) (c : Nat) :
    Calls Try.prog 9 #[.float .f64 x, .slice A 0 c] w fun e' w' => e' = .returned (.bool true) ∧ Below w.heap.size w w' := by
  have o1 := one_one
  have HS := Lib.hid (fun W : World => same_any x x W)
  rw [same_refl] at HS
  go_enter Try.func9, Try.ntmps9
  go_wp2
  refine wp_loop_rounds 1 ?_
  rw [rounds_succ]
  go_wp2_with (first | (go_at_call 20; ((with_reducible refine (reduce_nil _ _ _ _).mono ?_)); rintro e w' ⟨rfl, rfl⟩) | (go_at_call 19; ((with_reducible refine (HS.out _).mono ?_)); rintro e w' ⟨rfl, rfl⟩))
  go_ret
  exact ⟨rfl, Below.refl _ _⟩

theorem walk (w : World) (x : Nat) (hx : x < 2 ^ 64) (A : Option Addr) (n c : Nat) (l : List Nat) (h : FRow w A n c l) :
    Calls Try.prog 9 #[.float .f64 x, .slice A n c] w fun e' w' => e' = .returned (.bool true) ∧ Below w.heap.size w w' := by
  rcases Nat.eq_zero_or_pos n with h0 | h0
  · subst h0; exact walk_nil w x A c
  · obtain ⟨ad, rfl, _, _⟩ := h.reads.fl (k := 0) (by have := h.len; omega)
    exact walk_cons w x hx ad n c l h h0
end Go.Proofs.Ytelhgahbhbinoaa.LReduceOrder

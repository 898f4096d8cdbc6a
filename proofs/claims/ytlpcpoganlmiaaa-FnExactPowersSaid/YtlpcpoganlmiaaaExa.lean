/-
  Contracts of the exact laws' helpers: eqIntS, markIntS, heldIntS.
-/
import Derived.Test.YtlpcpoganlmiaaaMem
import Derived.Test.YtlpcpoganlmiaaaRows
namespace Go.Proofs.Ytlpcpoganlmiaaa
open Go.RowKit

theorem ret_i {k : IntKind} {a b : Int} (h : a = b) : Ending.returned (.int k a) = .returned (.int k b) := by rw [h]

set_option maxHeartbeats 800000 in
theorem eqIntS_cons (xs : List Int) (A A' : Addr) (c c' n B : Nat) (w : World) (hx : xs.length = n) (hn : n ≤ 9223372036854775807)
    (h1 : Rd w B (some A) (il xs)) (h2 : Rd w B (some A') (il xs)) :
    Calls Try.prog 27 #[.slice (some A) n c, .slice (some A') n c'] w fun e w' => e = .returned (.bool true) ∧ Qt w w' := by
  have hx' := Lib.hid hx
  clear hx
  go_enter Try.func27, Try.ntmps27
  go_wp2
  go_loopw [5] (fun i wr => ∃ k : Nat, k ≤ n ∧ i = .int .i64 k ∧ Qt w wr) (fun i _ => n - (intOf i).toNat)
  case atStart => exact ⟨0, Nat.zero_le _, rfl, Qt.refl _⟩
  case round =>
    obtain ⟨k, hk, rfl, hq⟩ := hrel
    by_cases hlt : k < n
    · obtain ⟨ad, e1, _, c1⟩ := (h1.qt hq).il (k := k) (by rw [hx'.out]; exact hlt)
      obtain ⟨ad', e2, _, c2⟩ := (h2.qt hq).il (k := k) (by rw [hx'.out]; exact hlt)
      cases e1; cases e2
      generalize xs.getD k 0 = x at *
      go_wp2
      go_quiet (fail)
      go_wp2
      go_roundw
      case rel => exact ⟨k + 1, by omega, by go_num, hq.drewN _⟩
      case measure => simp [intOf]; omega
    · go_wp2
      go_ret
      exact ⟨rfl, hq⟩

set_option maxHeartbeats 400000 in
theorem eqIntS_nil (A A' : Option Addr) (c c' : Nat) (w : World) :
    Calls Try.prog 27 #[.slice A 0 c, .slice A' 0 c'] w fun e w' => e = .returned (.bool true) ∧ Qt w w' := by
  go_enter Try.func27, Try.ntmps27
  go_wp2
  refine wp_loop_rounds 1 ?_
  rw [rounds_succ]
  go_wp2
  go_ret
  exact ⟨rfl, Qt.refl _⟩

theorem eqIntS_any (xs : List Int) (A A' : Option Addr) (c c' n B : Nat) (w : World) (hx : xs.length = n) (hn : n ≤ 9223372036854775807)
    (h1 : Rd w B A (il xs)) (h2 : Rd w B A' (il xs)) :
    Calls Try.prog 27 #[.slice A n c, .slice A' n c'] w fun e w' => e = .returned (.bool true) ∧ Qt w w' := by
  rcases Nat.eq_zero_or_pos n with h0 | h0
  · rw [h0]; exact eqIntS_nil A A' c c' w
  · obtain ⟨ad, rfl, _, _⟩ := h1.il (k := 0) (by omega)
    obtain ⟨ad', rfl, _, _⟩ := h2.il (k := 0) (by omega)
    exact eqIntS_cons xs _ _ c c' n B w hx hn h1 h2

/-- what markIntS writes -/
def marks (n : Nat) : List Int := (List.range n).map fun (i : Nat) => (i : Int) + 1
theorem marks_len (n : Nat) : (marks n).length = n := by simp [marks]
theorem marks_get {n k : Nat} (h : k < n) : (marks n).getD k 0 = (k : Int) + 1 := by
  unfold marks
  rw [List.getD_eq_getElem?_getD, List.getElem?_map, List.getElem?_range h]; rfl
/-- the first k numbers marked -/
def markTo (l : List Int) (k : Nat) : List Int := marks k ++ l.drop k
theorem markTo_zero (l : List Int) : markTo l 0 = l := by simp [markTo, marks]
theorem markTo_succ {l : List Int} {k : Nat} (h : k < l.length) : (markTo l k).set k ((k : Int) + 1) = markTo l (k + 1) := by
  unfold markTo
  have e : marks (k + 1) = marks k ++ [(k : Int) + 1] := by unfold marks; rw [List.range_succ, List.map_append]; rfl
  rw [List.set_append_right _ _ (by rw [marks_len]; omega), marks_len, Nat.sub_self, List.drop_eq_getElem_cons h, e, List.set_cons_zero, List.append_assoc]
  rfl
theorem markTo_all (l : List Int) : markTo l l.length = marks l.length := by simp [markTo]
theorem markTo_len {l : List Int} {k : Nat} (h : k ≤ l.length) : (markTo l k).length = l.length := by
  unfold markTo; rw [List.length_append, marks_len, List.length_drop]; omega
theorem il_set' (l : List Int) (k : Nat) (a : Int) : (il l).set k (.int .i64 a) = il (l.set k a) := by
  unfold il; rw [List.map_set]

/-- what markIntS gives -/
def Marked (base n c : Nat) (A : Option Addr) (w : World) (e : Ending) (w' : World) : Prop :=
  e = .returned (.int .i64 ((n : Int) + 1)) ∧ w'.ownsRow base 3 1 (.slice A n c) n (il (marks n)) ∧ Below base w w' ∧ w'.heap.size = w.heap.size

set_option maxHeartbeats 800000 in
theorem mark_cons (l : List Int) (g c n base : Nat) (w : World) (hl : l.length = n) (hn : n ≤ 100000) (hg : base ≤ g)
    (h1 : w.ownsRow base 3 1 (.slice (some ⟨g, 0, none⟩) n c) n (il l)) :
    Calls Try.prog 28 #[.slice (some ⟨g, 0, none⟩) n c, .int .i64 1] w (Marked base n c (some ⟨g, 0, none⟩) w) := by
  have hl' := Lib.hid hl
  clear hl
  go_enter Try.func28, Try.ntmps28
  go_wp2
  go_loopw [1, 5] (fun m i wr => ∃ k : Nat, k ≤ n ∧ i = .int .i64 k ∧ m = .int .i64 ((k : Int) + 1) ∧ wr.ownsRow base 3 1 (.slice (some ⟨g, 0, none⟩) n c) n (il (markTo l k)) ∧ Below base w wr ∧ Hid (wr.heap.size = w.heap.size)) (fun _ i _ => n - (intOf i).toNat)
  case atStart => exact ⟨0, Nat.zero_le _, rfl, rfl, by rw [markTo_zero]; exact h1, Below.refl _ _, rfl⟩
  case round =>
    clear h1
    obtain ⟨k, hk, rfl, rfl, hown, hbel, hsz⟩ := hrel
    by_cases hlt : k < n
    · have hcell := hown.cellAt k (by omega)
      have hfz := hown.frozenAt k
      obtain ⟨old, hcell2⟩ : ∃ v, wr.cell? ⟨g, k, none⟩ = some v := by
        rw [hcell]
        exact ⟨_, List.getElem?_eq_getElem (by rw [il_len, markTo_len (by rw [hl'.out]; omega), hl'.out]; exact hlt)⟩
      have hst := hown.stored k (.int .i64 ((k : Int) + 1))
      rw [il_set', markTo_succ (by rw [hl'.out]; exact hlt)] at hst
      have hst' := Lib.hid hst.1
      have hb2' := Lib.hid (hbel.setCell (p := ⟨g, k, none⟩) hg (.int .i64 ((k : Int) + 1)))
      have hsz2 : Hid ((wr.setCell ⟨g, k, none⟩ (.int .i64 ((k : Int) + 1))).heap.size = w.heap.size) := by
        show _ = _
        rw [← hsz.out]; simp [World.setCell]
      clear hst hcell hown hbel hsz
      go_wp2
      go_roundw
      case rel => exact ⟨k + 1, by omega, by go_num, by go_num, hst'.out, hb2'.out, hsz2.out⟩
      case measure => simp [intOf]; omega
    · have hkn : k = l.length := by rw [hl'.out]; omega
      have hfin : Hid (wr.ownsRow base 3 1 (.slice (some ⟨g, 0, none⟩) n c) n (il (marks n)) ∧ k = n) := by
        rw [hkn, markTo_all, hl'.out] at hown
        exact ⟨hown, by rw [hkn, hl'.out]⟩
      clear hown hkn
      go_wp2
      go_ret
      exact ⟨ret_i (by rw [hfin.out.2]), hfin.out.1, hbel, hsz.out⟩

set_option maxHeartbeats 400000 in
theorem mark_nil (A : Option Addr) (c base : Nat) (w : World)
    (h1 : w.ownsRow base 3 1 (.slice A 0 c) 0 []) :
    Calls Try.prog 28 #[.slice A 0 c, .int .i64 1] w (Marked base 0 c A w) := by
  have h1' := Lib.hid h1
  clear h1
  go_enter Try.func28, Try.ntmps28
  go_wp2
  refine wp_loop_rounds 1 ?_
  rw [rounds_succ]
  go_wp2
  go_ret
  exact ⟨rfl, h1'.out, Below.refl _ _, rfl⟩

theorem mark_any (l : List Int) (A : Option Addr) (c n base : Nat) (w : World) (hl : l.length = n) (hn : n ≤ 100000)
    (h1 : w.ownsRow base 3 1 (.slice A n c) n (il l)) :
    Calls Try.prog 28 #[.slice A n c, .int .i64 1] w (Marked base n c A w) := by
  rcases Nat.eq_zero_or_pos n with h0 | h0
  · obtain rfl := h0
    obtain rfl : l = [] := List.eq_nil_of_length_eq_zero hl
    exact mark_nil A c base w h1
  · obtain ⟨g, hg, hA⟩ : ∃ g : Nat, base ≤ g ∧ A = some ⟨g, 0, none⟩ := by
      rcases h1.2 with ⟨_, hz⟩ | ⟨g, cap, cur, hv, hg, _⟩
      · omega
      · exact ⟨g, hg, by injection hv⟩
    subst hA
    exact mark_cons l g c n base w hl hn hg h1

set_option maxHeartbeats 800000 in
theorem held_cons (A : Addr) (c n B : Nat) (w : World) (hn : n ≤ 100000)
    (h1 : Rd w B (some A) (il (marks n))) :
    Calls Try.prog 29 #[.slice (some A) n c, .int .i64 1] w fun e w' => e = .returned (.int .i64 ((n : Int) + 1)) ∧ Qt w w' := by
  go_enter Try.func29, Try.ntmps29
  go_wp2
  go_loopw [1, 5] (fun m i wr => ∃ k : Nat, k ≤ n ∧ i = .int .i64 k ∧ m = .int .i64 ((k : Int) + 1) ∧ Qt w wr) (fun _ i _ => n - (intOf i).toNat)
  case atStart => exact ⟨0, Nat.zero_le _, rfl, rfl, Qt.refl _⟩
  case round =>
    obtain ⟨k, hk, rfl, rfl, hq⟩ := hrel
    by_cases hlt : k < n
    · obtain ⟨ad, e1, _, c1⟩ := (h1.qt hq).il (k := k) (by rw [marks_len]; exact hlt)
      cases e1
      rw [marks_get hlt] at c1
      go_wp2
      go_roundw
      case rel => exact ⟨k + 1, by omega, by go_num, by go_num, hq⟩
      case measure => simp [intOf]; omega
    · have hkn : k = n := by omega
      go_wp2
      go_ret
      exact ⟨ret_i (by rw [hkn]), hq⟩

set_option maxHeartbeats 400000 in
theorem held_nil (A : Option Addr) (c : Nat) (w : World) :
    Calls Try.prog 29 #[.slice A 0 c, .int .i64 1] w fun e w' => e = .returned (.int .i64 (((0 : Nat) : Int) + 1)) ∧ Qt w w' := by
  go_enter Try.func29, Try.ntmps29
  go_wp2
  refine wp_loop_rounds 1 ?_
  rw [rounds_succ]
  go_wp2
  go_ret
  exact ⟨rfl, Qt.refl _⟩

theorem held_any (A : Option Addr) (c n B : Nat) (w : World) (hn : n ≤ 100000)
    (h1 : Rd w B A (il (marks n))) :
    Calls Try.prog 29 #[.slice A n c, .int .i64 1] w fun e w' => e = .returned (.int .i64 ((n : Int) + 1)) ∧ Qt w w' := by
  rcases Nat.eq_zero_or_pos n with h0 | h0
  · rw [h0]; exact held_nil A c w
  · obtain ⟨ad, rfl, _, _⟩ := h1.il (k := 0) (by rw [marks_len]; omega)
    exact held_cons _ c n B w hn h1

end Go.Proofs.Ytlpcpoganlmiaaa

/-
  Contract of laws.joined: both lists, one behind the other, in a new row.
-/
import Derived.Test.YtbhallblmphlmaaImpA
import Derived.Laws.AppendOwnNone
namespace Go.Proofs.Ytbhallblmphlmaa
open Go.RowKit Flt

theorem Rd.news {w : World} {B : Nat} {ad : Addr} {xs : List Value} (h : Rd w B (some ad) xs) : ∀ j u, xs[j]? = some u → w.cell? (ad.add j) = some u := by
  intro j u hu
  obtain ⟨ad', e, _, hc⟩ := h j u hu
  cases e
  exact hc
theorem fl_one (xs : List Nat) : ∀ u ∈ fl xs, u.oneCell' = true := by
  intro u hu
  unfold fl at hu
  obtain ⟨b, _, rfl⟩ := List.mem_map.1 hu
  rfl

/-- a slice that is nil has no room -/
def NilCap (A : Option Addr) (c : Nat) : Prop := A = none → c = 0

set_option maxHeartbeats 1600000 in
theorem joined_any (xs ys : List Nat) (A A' : Option Addr) (c c' n m B : Nat) (w : World) (hx : xs.length = n) (hy : ys.length = m) (hr : (n + m) * 8 ≤ 140737488355328) (hB : B ≤ w.heap.size)
    (h1 : Rd w B A (fl xs)) (h2 : Rd w B A' (fl ys)) (hz : NilCap A c) (hz' : NilCap A' c') :
    Calls Try.prog 17 #[.slice A n c, .slice A' m c'] w (NewRow 22 w.heap.size w (fl (xs ++ ys))) := by
  obtain ⟨i0, hi, hz0, hz1, hz2⟩ := info_parts Try.infoF
  have hx' := Lib.hid hx
  have hy' := Lib.hid hy
  have HR := Lib.hid h1
  have HR2 := Lib.hid h2
  have hlx : Hid ((fl xs).length = n) := by show _ = _; rw [fl_len, hx'.out]
  have hly : Hid ((fl ys).length = m) := by show _ = _; rw [fl_len, hy'.out]
  have hown0 : ((w.alloc (.cells #[] 22))).ownsRow w.heap.size 22 1 (.slice (some ⟨w.heap.size, 0, none⟩) 0 0) 0 [] := World.ownsRow_lit w #[] 0 (Nat.le_refl _) (by decide) rfl
  have hbel0 : Below w.heap.size w (w.alloc (.cells #[] 22)) := (Below.refl _ _).alloc (Nat.le_refl _) _
  clear hx hy
  have hA : (∃ ad, A = some ad) ∨ (A = none ∧ n = 0 ∧ c = 0 ∧ xs = []) := by
    cases A with
    | some ad => exact Or.inl ⟨ad, rfl⟩
    | none =>
      have e0 : n = 0 := by
        rcases Nat.eq_zero_or_pos n with h | h
        · exact h
        · obtain ⟨ad, e, _⟩ := h1.fl (k := 0) (by rw [hx'.out]; exact h)
          cases e
      exact Or.inr ⟨rfl, e0, hz rfl, List.eq_nil_of_length_eq_zero (by rw [hx'.out]; exact e0)⟩
  have hA' : (∃ ad, A' = some ad) ∨ (A' = none ∧ m = 0 ∧ c' = 0 ∧ ys = []) := by
    cases A' with
    | some ad => exact Or.inl ⟨ad, rfl⟩
    | none =>
      have e0 : m = 0 := by
        rcases Nat.eq_zero_or_pos m with h | h
        · exact h
        · obtain ⟨ad, e, _⟩ := h2.fl (k := 0) (by rw [hy'.out]; exact h)
          cases e
      exact Or.inr ⟨rfl, e0, hz' rfl, List.eq_nil_of_length_eq_zero (by rw [hy'.out]; exact e0)⟩
  clear h1 h2 hz hz'
  rcases hA with ⟨ad, rfl⟩ | ⟨rfl, rfl, rfl, rfl⟩
  · rcases hA' with ⟨ad', rfl⟩ | ⟨rfl, rfl, rfl, rfl⟩
    · go_enter Try.func17, Try.ntmps17
      go_wp2_with (at_builtin; refine wpList_append_own _ rfl _ _ 23 rfl w.heap.size 22 i0 (.float .f64 0) 1 8 Try.underlying23 hi hz0 hz1 hz2 rfl (by decide) _ _ _ rfl hown0 ad n c (fl xs) rfl (by rw [hlx.out]; omega) ((HR.out.alloc hB _).news) (fl_one xs) (by unfold maxLen; omega) (by omega) hbel0.size ?_)
      intro v1 w1 hown1 hgrow1 _
      have hbel1 := hbel0.grown hgrow1 hbel0.size (fun g hg => (hown0.lt g hg).1)
      clear hgrow1
      go_wp2_with (at_builtin; refine wpList_append_own _ rfl _ _ 23 rfl w.heap.size 22 i0 (.float .f64 0) 1 8 Try.underlying23 hi hz0 hz1 hz2 rfl (by decide) _ _ _ rfl hown1 ad' m c' (fl ys) rfl (by rw [hly.out]; omega) ((HR2.out.below' hbel1 hB).news) (fl_one ys) (by unfold maxLen; omega) (by omega) hbel1.size ?_)
      intro v2 w2 hown2 hgrow2 _
      have hbel2 := hbel1.grown hgrow2 hbel1.size (fun g hg => (hown1.lt g hg).1)
      have hN : Hid (NewRow 22 w.heap.size w (fl (xs ++ ys)) (.returned v2) w2) := by
        refine NewRow.mk ?_ hbel2
        rw [fl_append, List.length_append, hlx.out, hly.out]; exact hown2
      clear hgrow2 hown1 hown2 hbel2 hbel1
      go_wp2
      go_ret
      exact hN.out
    · go_enter Try.func17, Try.ntmps17
      go_wp2_with (at_builtin; refine wpList_append_own _ rfl _ _ 23 rfl w.heap.size 22 i0 (.float .f64 0) 1 8 Try.underlying23 hi hz0 hz1 hz2 rfl (by decide) _ _ _ rfl hown0 ad n c (fl xs) rfl (by rw [hlx.out]; omega) ((HR.out.alloc hB _).news) (fl_one xs) (by unfold maxLen; omega) (by omega) hbel0.size ?_)
      intro v1 w1 hown1 hgrow1 _
      have hbel1 := hbel0.grown hgrow1 hbel0.size (fun g hg => (hown0.lt g hg).1)
      have hN : Hid (NewRow 22 w.heap.size w (fl (xs ++ [])) (.returned v1) w1) := by
        refine NewRow.mk ?_ hbel1
        rw [List.append_nil, hlx.out]; exact hown1
      clear hgrow1
      go_wp2_with (at_builtin; refine wpList_append_own_none rfl _ _ 23 rfl w.heap.size 22 i0 1 Try.underlying23 hi _ _ _ rfl hown1 rfl ?_)
      go_wp2
      go_ret
      exact hN.out
  · rcases hA' with ⟨ad', rfl⟩ | ⟨rfl, rfl, rfl, rfl⟩
    · go_enter Try.func17, Try.ntmps17
      go_wp2_with (first | (at_builtin; refine wpList_append_own_none rfl _ _ 23 rfl w.heap.size 22 i0 1 Try.underlying23 hi _ _ _ rfl hown0 rfl ?_) | (at_builtin; refine wpList_append_own _ rfl _ _ 23 rfl w.heap.size 22 i0 (.float .f64 0) 1 8 Try.underlying23 hi hz0 hz1 hz2 rfl (by decide) _ _ _ rfl hown0 ad' m c' (fl ys) rfl (by rw [hly.out]; omega) ((HR2.out.below' hbel0 hB).news) (fl_one ys) (by unfold maxLen; omega) (by omega) hbel0.size ?_))
      intro v2 w2 hown2 hgrow2 _
      have hbel2 := hbel0.grown hgrow2 hbel0.size (fun g hg => (hown0.lt g hg).1)
      have hN : Hid (NewRow 22 w.heap.size w (fl ([] ++ ys)) (.returned v2) w2) := by
        refine NewRow.mk ?_ hbel2
        rw [List.nil_append, hly.out]
        simpa using hown2
      clear hgrow2 hown2 hbel2
      go_wp2
      go_ret
      exact hN.out
    · have hN : Hid (NewRow 22 w.heap.size w (fl ([] ++ [])) (.returned (.slice (some ⟨w.heap.size, 0, none⟩) 0 0)) (w.alloc (.cells #[] 22))) := NewRow.mk hown0 hbel0
      go_enter Try.func17, Try.ntmps17
      go_wp2_with (at_builtin; refine wpList_append_own_none rfl _ _ 23 rfl w.heap.size 22 i0 1 Try.underlying23 hi _ _ _ rfl hown0 rfl ?_)
      go_wp2_with (at_builtin; refine wpList_append_own_none rfl _ _ 23 rfl w.heap.size 22 i0 1 Try.underlying23 hi _ _ _ rfl hown0 rfl ?_)
      go_wp2
      go_ret
      exact hN.out
end Go.Proofs.Ytbhallblmphlmaa

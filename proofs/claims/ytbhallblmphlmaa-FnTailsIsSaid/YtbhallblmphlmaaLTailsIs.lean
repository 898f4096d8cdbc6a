/-
  The walk of laws.FnTailsIs: it returns true, for every number and all lists.
-/
import Derived.Test.YtbhallblmphlmaaSpH
import Derived.Test.YtbhallblmphlmaaLawA
import Derived.Test.YtbhallblmphlmaaRow
namespace Go.Proofs.Ytbhallblmphlmaa.LTailsIs
open Go.RowKit Flt

theorem same_yes {a b : Nat} (h : vl a = vl b) (w : World) : Calls Try.prog 15 #[.float .f64 a, .float .f64 b] w fun e w' => e = .returned (.bool true) ∧ w = w' := by
  have := same_any a b w
  rw [vl_same h] at this
  exact this
theorem alls_vl {xs ys : List Nat} (h : xs.map vl = ys.map vl) : Alls xs ys := by
  have hl : xs.length = ys.length := by have := congrArg List.length h; rwa [List.length_map, List.length_map] at this
  refine ⟨hl, fun k hk => vl_same ?_⟩
  have h1 := congrArg (fun l : List Val => l[k]?) h
  simp only [List.getElem?_map] at h1
  rw [List.getElem?_eq_getElem hk, List.getElem?_eq_getElem (show k < ys.length by omega)] at h1
  rw [List.getD_eq_getElem?_getD, List.getD_eq_getElem?_getD, List.getElem?_eq_getElem hk, List.getElem?_eq_getElem (show k < ys.length by omega)]
  exact Option.some.inj h1
theorem len_of {L : List Nat} {x : Val} {l : List Nat} {n : Nat} (h : L.map vl = tlL x (l.map vl)) (hl : l.length = n) : L.length = n := by
  have := congrArg List.length h
  rwa [List.length_map, tlL_len, List.length_map, hl] at this
theorem rd_len {w : World} {base : Nat} {e : TypeId} {A : Option Addr} {c N : Nat} {xs : List Value} (hl : xs.length = N) (h : w.ownsRow base e 1 (.slice A N c) N xs) : Rd w w.heap.size A xs := by
  subst hl; exact Rd.of_own h

set_option maxRecDepth 100000 in
set_option maxHeartbeats 3200000 in
theorem walk (w : World) (x : Nat) (hx : x < 2 ^ 64) (A : Option Addr) (n c : Nat) (l : List Nat) (h : FRow w A n c l) :
    Calls Try.prog 13 #[.float .f64 x, .slice A n c] w fun e' w' => e' = .returned (.bool true) ∧ Below w.heap.size w w' := by
  have hroom := h.room
  have R := Lib.hid h
  have o1 := one_three
  have HT := Lib.hid (tails_any x l A c n w.heap.size w hx h.len h.room (Nat.le_refl _) h.reads)
  clear h
  go_enter Try.func13, Try.ntmps13
  go_wp2_with fail
  ((with_reducible refine HT.out.mono ?_); rintro e w1 ⟨b1, L1, A1, c1, rfl, v1, l1, t1, d1, o1', be1⟩)
  have V1 := Lib.hid v1
  have T1 := Lib.hid t1
  have N1 := len_of t1 R.out.len
  rw [N1] at o1' ⊢
  have r1 := rd_len (by rw [fl_len, N1]) o1'
  clear v1 t1 d1 o1' HT
  have HT2 := Lib.hid (specTails_any x l A c n w.heap.size w1 hx R.out.words R.out.len R.out.room be1.size (R.out.reads.below be1))
  go_wp2_with fail
  ((with_reducible refine HT2.out.mono ?_); rintro e w2 ⟨b2, L2, A2, c2, rfl, v2, l2, t2, d2, o2', be2⟩)
  have N2 := len_of t2 R.out.len
  rw [N2] at o2' ⊢
  have r2 := rd_len (by rw [fl_len, N2]) o2'
  have r1 := (r1.below be2).more be2.size
  have be2 := be1.trans (be2.mono be1.size)
  have HS := Lib.hid (fun W : World => same_yes (a := b1) (b := b2) (by rw [V1.out, v2]) W)
  have HA := Lib.hid (alls_vl (xs := L1) (ys := L2) (by rw [T1.out, t2]))
  clear v2 t2 d2 o2' HT2 V1 T1
  go_wp2_with fail
  ((with_reducible refine (tails_nil _ _ _ _).mono ?_); rintro e w5 ⟨⟨v5, rfl⟩, be5⟩)
  have r1 := (r1.below be5).more be5.size
  have r2 := (r2.below be5).more be5.size
  have be5 := be2.trans (be5.mono be2.size)
  have HSA := Lib.hid (sameAll_any L1 L2 A1 A2 c1 c2 n n w5.heap.size w5 N1 N2 (by omega) r1 r2 HA.out)
  clear r1 r2 HA
  go_wp2_with fail
  ((with_reducible refine (HS.out _).mono ?_); rintro e w' ⟨rfl, rfl⟩)
  go_wp2_with fail
  ((with_reducible refine HSA.out.mono ?_); rintro e w7 ⟨rfl, q7⟩)
  go_wp2
  go_ret
  exact ⟨rfl, be5.trans (q7.below _)⟩
end Go.Proofs.Ytbhallblmphlmaa.LTailsIs

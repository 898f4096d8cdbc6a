/-
  The walk of laws.FnTailsCut: it returns true, for every number and all lists of at most 1048576 numbers.
-/
import Derived.Test.YtbhallblmphlmaaTls
import Derived.Test.YtbhallblmphlmaaJoi
import Derived.Test.YtbhallblmphlmaaLawA
import Derived.Test.YtbhallblmphlmaaRow
namespace Go.Proofs.Ytbhallblmphlmaa.LTailsCut
open Go.RowKit Flt

theorem own_nil {w : World} {base n c m : Nat} {e : TypeId} {A : Option Addr} {xs : List Value} (h : w.ownsRow base e 1 (.slice A n c) m xs) : A = none → c = 0 := fun ea => by
  rcases h.2 with ⟨hv, _⟩ | ⟨g, cap, cur, hv, _⟩
  · injection hv with _ _ h3
  · injection hv with h1; rw [ea] at h1; cases h1
theorem alls_vl {xs ys : List Nat} (h : xs.map vl = ys.map vl) : Alls xs ys := by
  have hl : xs.length = ys.length := by have := congrArg List.length h; rwa [List.length_map, List.length_map] at this
  refine ⟨hl, fun k hk => vl_same ?_⟩
  have h1 := congrArg (fun l : List Val => l[k]?) h
  simp only [List.getElem?_map] at h1
  rw [List.getElem?_eq_getElem hk, List.getElem?_eq_getElem (show k < ys.length by omega)] at h1
  rw [List.getD_eq_getElem?_getD, List.getD_eq_getElem?_getD, List.getElem?_eq_getElem hk, List.getElem?_eq_getElem (show k < ys.length by omega)]
  exact Option.some.inj h1
theorem same_yes {a b : Nat} (h : vl a = vl b) (w : World) : Calls Try.prog 15 #[.float .f64 a, .float .f64 b] w fun e w' => e = .returned (.bool true) ∧ w = w' := by
  have := same_any a b w
  rw [vl_same h] at this
  exact this
theorem len_of {L : List Nat} {x : Val} {l : List Nat} {n : Nat} (h : L.map vl = tlL x (l.map vl)) (hl : l.length = n) : L.length = n := by
  have := congrArg List.length h
  rwa [List.length_map, tlL_len, List.length_map, hl] at this
theorem rd_len {w : World} {base : Nat} {e : TypeId} {A : Option Addr} {c N : Nat} {xs : List Value} (hl : xs.length = N) (h : w.ownsRow base e 1 (.slice A N c) N xs) : Rd w w.heap.size A xs := by
  subst hl; exact Rd.of_own h

set_option maxRecDepth 100000 in
set_option maxHeartbeats 3200000 in
theorem walk (w : World) (x : Nat) (hx : x < 2 ^ 64) (A : Option Addr) (n c : Nat) (l : List Nat) (h : FRow w A n c l) (hb : n ≤ 1048576) (hz : A = none → c = 0)
    (A' : Option Addr) (n' c' : Nat) (l' : List Nat) (h' : FRow w A' n' c' l') (hb' : n' ≤ 1048576) (hz' : A' = none → c' = 0) :
    Calls Try.prog 12 #[.float .f64 x, .slice A n c, .slice A' n' c'] w fun e' w' => e' = .returned (.bool true) ∧ Below w.heap.size w w' := by
  have R := Lib.hid h
  have R' := Lib.hid h'
  have HZ := Lib.hid hz
  have HZ' := Lib.hid hz'
  have o1 := one_three
  have HT := Lib.hid (tails_any x l A c n w.heap.size w hx h.len h.room (Nat.le_refl _) h.reads)
  clear h h' hz hz'
  go_enter Try.func12, Try.ntmps12
  go_wp2_with fail
  ((with_reducible refine HT.out.mono ?_); rintro e w1 ⟨b1, L1, A1, c1, rfl, v1, l1, t1, d1, o1', be1⟩)
  have V1 := Lib.hid v1
  have T1 := Lib.hid t1
  have N1 := len_of t1 R.out.len
  rw [N1] at o1' ⊢
  have Z1 := Lib.hid (own_nil o1')
  have r1 := rd_len (by rw [fl_len, N1]) o1'
  clear v1 t1 d1 o1' HT
  have HT2 := Lib.hid (tails_any b1 l' A' c' n' w.heap.size w1 l1 R'.out.len R'.out.room be1.size (R'.out.reads.below be1))
  go_wp2_with fail
  ((with_reducible refine HT2.out.mono ?_); rintro e w2 ⟨b2, L2, A2, c2, rfl, v2, l2, t2, d2, o2', be2⟩)
  have V2 := Lib.hid v2
  have T2 := Lib.hid t2
  have N2 := len_of t2 R'.out.len
  rw [N2] at o2' ⊢
  have Z2 := Lib.hid (own_nil o2')
  have r2 := rd_len (by rw [fl_len, N2]) o2'
  have r1 := (r1.below be2).more be2.size
  have be2 := be1.trans (be2.mono be1.size)
  clear v2 t2 d2 o2' HT2
  have HJ := Lib.hid (joined_any l l' A A' c c' n n' w.heap.size w2 R.out.len R'.out.len (by omega) be2.size (R.out.reads.below be2) (R'.out.reads.below be2) HZ.out HZ'.out)
  go_wp2_with fail
  ((with_reducible refine HJ.out.mono ?_); rintro e w3 ⟨A3, c3, rfl, _, o3', be3⟩)
  have hl3 : (l ++ l').length = n + n' := by rw [List.length_append, R.out.len, R'.out.len]
  have r3 := Rd.of_own o3'
  rw [fl_len, hl3]
  have r1 := (r1.below be3).more be3.size
  have r2 := (r2.below be3).more be3.size
  have be3 := be2.trans (be3.mono be2.size)
  have HT3 := Lib.hid (tails_any x (l ++ l') A3 c3 (n + n') w3.heap.size w3 hx hl3 (by omega) (Nat.le_refl _) r3)
  clear HJ o3' r3
  go_wp2_with fail
  ((with_reducible refine HT3.out.mono ?_); rintro e w4 ⟨b4, L4, A4, c4, rfl, v4, l4, t4, d4, o4', be4⟩)
  have N4 := len_of t4 hl3
  rw [N4] at o4' ⊢
  have r4 := rd_len (by rw [fl_len, N4]) o4'
  have r1 := (r1.below be4).more be4.size
  have r2 := (r2.below be4).more be4.size
  have be4 := be3.trans (be4.mono be3.size)
  have HS := Lib.hid (fun W : World => same_yes (a := b2) (b := b4) (by rw [V2.out, v4, V1.out, List.map_append, tlP_append]) W)
  have HA := Lib.hid (alls_vl (xs := L1 ++ L2) (ys := L4) (by rw [List.map_append, T1.out, T2.out, t4, V1.out, List.map_append, tlL_append]))
  clear v4 t4 d4 o4' HT3 V1 V2 T1 T2 hl3
  go_wp2_with fail
  ((with_reducible refine (tails_nil _ _ _ _).mono ?_); rintro e w5 ⟨⟨v5, rfl⟩, be5⟩)
  have r1 := (r1.below be5).more be5.size
  have r2 := (r2.below be5).more be5.size
  have r4 := (r4.below be5).more be5.size
  have be5 := be4.trans (be5.mono be4.size)
  have HJ2 := Lib.hid (joined_any L1 L2 A1 A2 c1 c2 n n' w5.heap.size w5 N1 N2 (by omega) (Nat.le_refl _) r1 r2 Z1.out Z2.out)
  go_wp2_with fail
  ((with_reducible refine (HS.out _).mono ?_); rintro e w' ⟨rfl, rfl⟩)
  go_wp2_with fail
  ((with_reducible refine HJ2.out.mono ?_); rintro e w6 ⟨A6, c6, rfl, _, o6', be6⟩)
  have hl6 : (L1 ++ L2).length = n + n' := by rw [List.length_append, N1, N2]
  have r6 := Rd.of_own o6'
  rw [fl_len, hl6]
  have r4 := (r4.below be6).more be6.size
  have be6 := be5.trans (be6.mono be5.size)
  have HSA := Lib.hid (sameAll_any (L1 ++ L2) L4 A6 A4 c6 c4 (n + n') (n + n') w6.heap.size w6 hl6 N4 (by omega) r6 r4 HA.out)
  clear o6' r6 r4 HJ2 r1 r2 HA
  go_wp2_with fail
  ((with_reducible refine HSA.out.mono ?_); rintro e w7 ⟨rfl, q7⟩)
  go_wp2
  go_ret
  exact ⟨rfl, be6.trans (q7.below _)⟩
end Go.Proofs.Ytbhallblmphlmaa.LTailsCut

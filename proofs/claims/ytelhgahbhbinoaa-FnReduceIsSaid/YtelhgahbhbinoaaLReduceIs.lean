/-
  The walk of laws.FnReduceIs: it returns true, for every number and every list.
-/
import Derived.Test.YtelhgahbhbinoaaSpS
import Derived.Test.YtelhgahbhbinoaaRed
import Derived.Test.YtelhgahbhbinoaaLawA
import Derived.Test.YtelhgahbhbinoaaRow
namespace Go.Proofs.Ytelhgahbhbinoaa.LReduceIs
open Go.RowKit Flt

theorem vl_red {l : List Nat} : ∀ {x : Nat}, x < 2 ^ 64 → vl (redW x l) = redv (vl x) (l.map vl) := by
  induction l with
  | nil => intro x _; rfl
  | cons y l ih =>
    intro x hx
    show vl (redW (modW x y) l) = redv (modv (vl x) (vl y)) (l.map vl)
    rw [ih modW_lt, vl_modW x y hx]

set_option maxHeartbeats 800000 in
theorem walk (w : World) (x : Nat) (hx : x < 2 ^ 64) (A : Option Addr) (n c : Nat) (l : List Nat) (h : FRow w A n c l) :
    Calls Try.prog 4 #[.float .f64 x, .slice A n c] w fun e' w' => e' = .returned (.bool true) ∧ Below w.heap.size w w' := by
  obtain ⟨hlen, hcap, hroom, hrd, hwd⟩ := h
  have H1 := Lib.hid (reduce_any x l A c n w.heap.size w hx hlen hwd (by omega) hrd)
  have H2 := Lib.hid (specReduce_any x l A c n w.heap.size w hx hlen hwd (by omega) (Nat.le_refl _) hrd)
  have HN := Lib.hid (fun W : World => reduce_nil 4607182418800017408 none 0 W)
  have hv := Lib.hid (vl_red (l := l) hx)
  have o1 := one_one
  generalize redW x l = r at *
  clear hlen hwd hrd
  go_enter Try.func4, Try.ntmps4
  go_wp2_with fail
  ((with_reducible refine H1.out.mono ?_); rintro e w' ⟨rfl, rfl⟩)
  go_wp2_with fail
  ((with_reducible refine H2.out.mono ?_); rintro e w2 ⟨b2, rfl, v2, l2, bel2⟩; have V2 := Lib.hid v2; clear v2)
  have HS := Lib.hid (fun W : World => same_any r b2 W)
  rw [vl_same (show vl r = vl b2 by rw [hv.out, V2.out])] at HS
  clear V2 hv
  go_wp2_with fail
  ((with_reducible refine (HS.out _).mono ?_); rintro e w' ⟨rfl, rfl⟩)
  go_wp2_with fail
  ((with_reducible refine (HN.out _).mono ?_); rintro e w' ⟨rfl, rfl⟩)
  go_wp2
  go_ret
  exact ⟨rfl, bel2⟩
end Go.Proofs.Ytelhgahbhbinoaa.LReduceIs

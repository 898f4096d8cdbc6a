/-
  Contracts: impl.at, impl.Path.
-/
import Derived.Test.YtelhgahbhbinoaaLibA
import Derived.Test.YtelhgahbhbinoaaMem
namespace Go.Proofs.Ytelhgahbhbinoaa
open Go.RowKit Flt

theorem at_mod (i n : Int) (hn : 0 < n) (hn' : n ≤ 4611686018427387904) : (wrap64 (i.tmod n + n)).tmod n = i % n := by
  have e := Int.tmod_eq_emod (a := i) (b := n)
  have b1 := Int.emod_nonneg i (show n ≠ 0 by omega)
  have b2 := Int.emod_lt_of_pos i hn
  have hb : -n < i.tmod n ∧ i.tmod n < n := by
    rw [e]; split <;> omega
  have hw : wrap64 (i.tmod n + n) = i.tmod n + n := IntWalk.wrap64_in _ (by omega)
  rw [hw, Int.tmod_eq_emod_of_nonneg (by omega), Int.add_emod_right, e]
  split
  · rw [show ((0 : Nat) : Int) = 0 from rfl, Int.sub_zero, Int.emod_emod]
  · rw [show (n.natAbs : Int) = n by omega, Int.sub_emod_right, Int.emod_emod]

/-- the numbers of a path -/
def it (y x : Nat) : Nat → Nat
  | 0 => x
  | k + 1 => nxt (it y x k) y

theorem it_lt {x : Nat} (y : Nat) (hx : x < 2 ^ 64) (k : Nat) : it y x k < 2 ^ 64 := by
  induction k with
  | zero => exact hx
  | succ k ih => exact nxt_lt ih

def pathW (y x m : Nat) : List Nat := (List.range (m + 1)).map (it y x)
def pathV (y x m : Nat) : List Value := fl (pathW y x m)
theorem pathW_len (y x m : Nat) : (pathW y x m).length = m + 1 := by simp [pathW]
theorem pathV_len (y x m : Nat) : (pathV y x m).length = m + 1 := by unfold pathV; rw [fl_len, pathW_len]
theorem pathW_get {y x m k : Nat} (h : k ≤ m) : (pathW y x m).getD k 0 = it y x k := by
  unfold pathW
  rw [List.getD_eq_getElem?_getD, List.getElem?_map, List.getElem?_range (by omega)]; rfl
theorem pathV_succ (y x m : Nat) : pathV y x (m + 1) = pathV y x m ++ [Value.float .f64 (it y x (m + 1))] := by
  unfold pathV pathW; rw [List.range_succ, List.map_append, fl_append]; rfl

theorem Try.infoF : (Try.prog.info? 23).map (fun i => (i.zero, i.size, i.bytes)) = some (some (.float .f64 0), 1, 8) := by kernel_rfl

end Go.Proofs.Ytelhgahbhbinoaa

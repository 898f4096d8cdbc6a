/-
  Contracts: impl.at, impl.Path.
-/
import Derived.Test.YtmhdjhfkndfhmaaLibA
import Derived.Test.YtmhdjhfkndfhmaaMem
namespace Go.Proofs.Ytmhdjhfkndfhmaa
open Go.RowKit Flt

theorem at_mod (i n : Int) (hn : 0 < n) (hn' : n ≤ 4611686018427387904) : (wrap64 (i.tmod n + n)).tmod n = i % n := by
  have e := Int.tmod_eq_emod (a := i) (b := n)
  have b1 := Int.emod_nonneg i (show n ≠ 0 by omega)
  have b2 := Int.emod_lt_of_pos i hn
  have hb : -n < i.tmod n ∧ i.tmod n < n := by
    rw [e]; split <;> omega
  have hw : wrap64 (i.tmod n + n) = i.tmod n + n := IntWalk.wrap64_in _ (by omega)
  rw [hw, Int.tmod_eq_emod_of_nonneg (by omega), Int.add_emod_right, e]
  split
  · rw [show ((0 : Nat) : Int) = 0 from rfl, Int.sub_zero, Int.emod_emod]
  · rw [show (n.natAbs : Int) = n by omega, Int.sub_emod_right, Int.emod_emod]

set_option maxHeartbeats 400000 in
theorem at_any (i n : Int) (w : World) (hn : 0 < n) (hn' : n ≤ 4611686018427387904) :
    Calls Try.prog 39 #[.int .i64 i, .int .i64 n] w fun e w' => e = .returned (.int .i64 (i % n)) ∧ w = w' := by
  have h := Lib.hid (at_mod i n hn hn')
  go_enter Try.func39, Try.ntmps39
  go_wp2
  go_ret
  exact ⟨ret_int h.out, rfl⟩

/-- the numbers of a path -/
def it (y x : Nat) : Nat → Nat
  | 0 => x
  | k + 1 => nxt (it y x k) y

theorem it_lt {x : Nat} (y : Nat) (hx : x < 2 ^ 64) (k : Nat) : it y x k < 2 ^ 64 := by
  induction k with
  | zero => exact hx
  | succ k ih => exact nxt_lt ih

def pathW (y x m : Nat) : List Nat := (List.range (m + 1)).map (it y x)
def pathV (y x m : Nat) : List Value := fl (pathW y x m)
theorem pathW_len (y x m : Nat) : (pathW y x m).length = m + 1 := by simp [pathW]
theorem pathV_len (y x m : Nat) : (pathV y x m).length = m + 1 := by unfold pathV; rw [fl_len, pathW_len]
theorem pathW_get {y x m k : Nat} (h : k ≤ m) : (pathW y x m).getD k 0 = it y x k := by
  unfold pathW
  rw [List.getD_eq_getElem?_getD, List.getElem?_map, List.getElem?_range (by omega)]; rfl
theorem pathV_succ (y x m : Nat) : pathV y x (m + 1) = pathV y x m ++ [Value.float .f64 (it y x (m + 1))] := by
  unfold pathV pathW; rw [List.range_succ, List.map_append, fl_append]; rfl

theorem Try.infoF : (Try.prog.info? 22).map (fun i => (i.zero, i.size, i.bytes)) = some (some (.float .f64 0), 1, 8) := by kernel_rfl

set_option maxHeartbeats 800000 in
theorem path_any (x y : Nat) (n : Int) (w : World) (hx : x < 2 ^ 64) (hy : y < 2 ^ 64) :
    Calls Try.prog 33 #[.float .f64 x, .float .f64 y, .int .i64 n] w (NewRow 22 w.heap.size w (pathV y x (n % 200).toNat)) := by
  obtain ⟨i0, hi, hz0, hz1, hz2⟩ := info_parts Try.infoF
  have b1 := Int.emod_nonneg n (show (200 : Int) ≠ 0 by omega)
  have b2 := Int.emod_lt_of_pos n (show (0 : Int) < 200 by omega)
  obtain ⟨m, hm⟩ := Int.eq_ofNat_of_zero_le b1
  have hM := Lib.hid hm
  have hmt : (n % 200).toNat = m := by omega
  rw [hmt]
  have hm2 : m < 200 := by omega
  clear b1 b2 hm hmt
  go_enter Try.func33, Try.ntmps33
  go_wp2_with (go_at_call 39; refine (at_any _ _ _ (by decide) (by decide)).mono ?_; rintro e w' ⟨rfl, rfl⟩; rw [hM.out])
  go_loopw [0, 7, 8] (fun cx v i wr => ∃ k : Nat, k ≤ m ∧ i = .int .i64 ((m - k : Nat) : Int) ∧ cx = .float .f64 (it y x k) ∧ wr.ownsRow w.heap.size 22 1 v (pathV y x k).length (pathV y x k) ∧ Below w.heap.size w wr)
    (fun _ _ i _ => (intOf i).toNat)
  case atStart => exact ⟨0, Nat.zero_le _, rfl, rfl, World.ownsRow_lit w #[.float .f64 x] 1 (Nat.le_refl _) (by decide) rfl, (Below.refl _ _).alloc (Nat.le_refl _) _⟩
  case round =>
    obtain ⟨k, hk, rfl, rfl, hown, hbel⟩ := hrel
    have hsz := hbel.size
    have hlen := pathV_len y x k
    have hxk := it_lt y hx k
    by_cases hlt : k < m
    · have hpos : (0 : Int) < ((m - k : Nat) : Int) := by omega
      have hS := Lib.hid hlen
      clear hlen
      go_wp2_with (first | (go_at_call 41; refine (nextafter_any _ _ _ hxk hy).mono ?_; rintro e w' ⟨rfl, rfl⟩) | (at_builtin; refine wpList_append_own _ rfl _ _ 23 rfl w.heap.size 22 i0 (.float .f64 0) 1 8 Try.underlying23 hi hz0 hz1 hz2 rfl (by decide) _ _ _ rfl (hown.alloc _) ⟨wr.heap.size, 0, none⟩ 1 1 [.float .f64 (nxt (it y x k) y)] rfl rfl (news_one _ _ _) ?c2 ?c3 ?c4 ?c5 ?_))
      case c2 => intro u hu; simp at hu; subst hu; rfl
      case c3 => rw [hS.out]; unfold maxLen; omega
      case c4 => rw [hS.out]; omega
      case c5 => simp; omega
      intro v' w1 hown' hgrow _
      have hown2 : Hid (w1.ownsRow w.heap.size 22 1 v' (pathV y x (k + 1)).length (pathV y x (k + 1))) := by
        show w1.ownsRow _ _ _ _ _ _
        rw [pathV_succ, List.length_append]; exact hown'
      have hbel2 : Below w.heap.size w w1 := (hbel.alloc hsz _).grown hgrow (by simp; omega) (fun g hg => (hown.lt g hg).1)
      clear hown' hgrow hown hbel
      go_wp2
      go_roundw
      case rel => exact ⟨k + 1, by omega, by congr 1; omega, rfl, hown2.out, hbel2⟩
      case measure => simp [intOf]; omega
    · have hkm : k = m := by omega
      have e : m - k = 0 := by omega
      have hN := Lib.hid (NewRow.mk hown hbel)
      rw [hkm] at hN
      rw [e]
      clear e hkm hlen hown hbel
      go_wp2
      go_ret
      exact hN.out

end Go.Proofs.Ytmhdjhfkndfhmaa

/-
  Contracts of small functions of package math: Float64bits, Float64frombits, IsNaN, NaN, Copysign, Nextafter.
-/
import Derived.Test.YtmhdjhfkndfhmaaRows
import Derived.Test.YtmhdjhfkndfhmaaFlc
import Derived.WalkKit
import Derived.WalkSpells
import Derived.WalkLawsBesides
import Derived.Laws.Externs
import Derived.Lib.Hide
namespace Go.Proofs.Ytmhdjhfkndfhmaa
open Go.RowKit Flt

theorem ret_float {a b : Nat} (h : a = b) : Ending.returned (.float .f64 a) = .returned (.float .f64 b) := by rw [h]
theorem ret_int {k : IntKind} {a b : Int} (h : a = b) : Ending.returned (.int k a) = .returned (.int k b) := by rw [h]

theorem ext_frombits : Extern.find Try.f53 = some Extern.MathFloatBits.float64frombits := by kernel_rfl
theorem call_frombits (n : Int) (w : World) : (callFunc 53 #[.int .u64 n]).run Try.prog w = .ok (.value (.float .f64 n.toNat)) w := by
  rw [run_callFunc_extern Try.func53 (by kernel_rfl) (by kernel_rfl) (by kernel_rfl) ext_frombits]; rfl
theorem ext_bits : Extern.find Try.f54 = some Extern.MathFloatBits.float64bits := by kernel_rfl
theorem call_bits (b : Nat) (w : World) : (callFunc 54 #[.float .f64 b]).run Try.prog w = .ok (.value (.int .u64 (b : Int))) w := by
  rw [run_callFunc_extern Try.func54 (by kernel_rfl) (by kernel_rfl) (by kernel_rfl) ext_bits]; rfl

set_option maxHeartbeats 400000 in
theorem isNaN_any (x : Nat) (w : World) :
    Calls Try.prog 50 #[.float .f64 x] w fun e w' => e = .returned (.bool (nan x)) ∧ w = w' := by
  have h := Lib.hid (c_self x)
  go_enter Try.func50, Try.ntmps50
  go_wp2
  go_ret
  exact ⟨by rw [← h.out]; rfl, rfl⟩

set_option maxHeartbeats 400000 in
theorem naN_any (w : World) :
    Calls Try.prog 51 #[] w fun e w' => e = .returned (.float .f64 qNaN) ∧ w = w' := by
  have h1 := call_frombits
  go_enter Try.func51, Try.ntmps51
  go_wp2
  go_ret
  exact ⟨rfl, rfl⟩

set_option maxHeartbeats 400000 in
theorem copysign_any (x y : Nat) (w : World) (hx : x < 2 ^ 64) (hy : y < 2 ^ 64) :
    Calls Try.prog 52 #[.float .f64 x, .float .f64 y] w fun e w' => e = .returned (.float .f64 (mk (sg y) (rg x))) ∧ w = w' := by
  have h := Lib.hid (copy_bits x y hx hy)
  clear hx hy
  have h1 := call_frombits
  have h2 := call_bits
  go_enter Try.func52, Try.ntmps52
  go_wp2
  go_ret
  exact ⟨ret_float h.out, rfl⟩

theorem add_one_u64 (x : Nat) (h : x + 1 < 2 ^ 64) : (IntKind.u64.wrap ((x : Int) + 1)).toNat = x + 1 := by
  rw [IntKind.wrap_u64]; omega
theorem sub_one_u64 (x : Nat) (h : x < 2 ^ 64) (h0 : 0 < x) : (IntKind.u64.wrap ((x : Int) - 1)).toNat = x - 1 := by
  rw [IntKind.wrap_u64]; omega

theorem nxt_nan_l {x y : Nat} (h : nan x = true) : nxt x y = qNaN := nan_nxt (Or.inl h)
theorem nxt_nan_r {x y : Nat} (h : nan y = true) : nxt x y = qNaN := nan_nxt (Or.inr h)

set_option maxHeartbeats 400000 in
theorem nextafter_any (x y : Nat) (w : World) (hx : x < 2 ^ 64) (hy : y < 2 ^ 64) :
    Calls Try.prog 41 #[.float .f64 x, .float .f64 y] w fun e w' => e = .returned (.float .f64 (nxt x y)) ∧ w = w' := by
  have h1 := call_frombits
  have h2 := call_bits
  have s1 := c_self x
  have s2 := c_self y
  cases hnx : nan x
  · rw [hnx] at s1
    cases hny : nan y
    · rw [hny] at s2
      have hx' := nan_false.1 hnx
      have hy' := nan_false.1 hny
      have hfin : nxt x y = if key x = key y then x else if key x = 0 then mk (sg y) 1 else if (key x < key y) ↔ (0 < key x) then x + 1 else x - 1 := by
        unfold nxt; rw [hnx, hny]; rfl
      have hm := mk_of hx
      have hm2 := key_natAbs x
      have hI := INF_val
      have f1 := c_eq hx' hy'
      have f2 := c_eq hx' rg_zero_le
      have f3 := c_gt hy' hx'
      have f4 := c_gt hx' rg_zero_le
      rw [key_zero] at f2 f4
      by_cases k1 : key x = key y
      · rw [if_pos k1] at hfin
        rw [decide_eq_true k1] at f1
        have hfin' := Lib.hid hfin
        clear hnx hny hx' hy' hfin f2 f3 f4 k1 hm hm2 hI
        go_enter Try.func41, Try.ntmps41
        go_wp2
        go_ret
        exact ⟨ret_float hfin'.out.symm, rfl⟩
      rw [if_neg k1] at hfin
      rw [decide_eq_false k1] at f1
      by_cases k2 : key x = 0
      · rw [if_pos k2] at hfin
        rw [decide_eq_true k2] at f2
        have hfin' := Lib.hid hfin
        clear hnx hny hx' hy' hfin f3 f4 k1 k2 hm hm2 hI
        go_enter Try.func41, Try.ntmps41
        go_wp2_with (first | (go_at_call 52; refine (copysign_any _ _ _ (by decide) hy).mono ?_; rintro e w' ⟨rfl, rfl⟩) | go_in)
        go_ret
        exact ⟨ret_float hfin'.out.symm, rfl⟩
      rw [if_neg k2] at hfin
      rw [decide_eq_false k2] at f2
      have hpos : 0 < x := by
        rcases Nat.eq_zero_or_pos x with h | h
        · subst h; exact absurd key_zero k2
        · exact h
      by_cases k3 : (key x < key y) ↔ (0 < key x)
      · rw [if_pos k3] at hfin
        have hxl : x + 1 < 2 ^ 64 := by rw [← hfin]; exact nxt_lt hx
        have hb := add_one_u64 x hxl
        have hfin' := Lib.hid (hb.trans hfin.symm)
        have f5 : (decide (key x < key y) == decide (0 < key x)) = true := by
          by_cases q : 0 < key x
          · simp [q, k3.2 q]
          · have : ¬ key x < key y := fun h => q (k3.1 h)
            simp [q, this]
        clear hnx hny hx' hy' hfin k1 k2 k3 hm hm2 hI hb hx hy hxl hpos
        go_enter Try.func41, Try.ntmps41
        go_wp2
        go_ret
        exact ⟨ret_float hfin'.out, rfl⟩
      · rw [if_neg k3] at hfin
        have hb := sub_one_u64 x hx hpos
        have hfin' := Lib.hid (hb.trans hfin.symm)
        have f5 : (decide (key x < key y) == decide (0 < key x)) = false := by
          by_cases q : 0 < key x
          · have : ¬ key x < key y := fun h => k3 ⟨fun _ => q, fun _ => h⟩
            simp [q, this]
          · have : key x < key y := by
              rcases Int.lt_or_le (key x) (key y) with h | h
              · exact h
              · exact absurd ⟨fun h' => absurd h' (by omega), fun h' => absurd h' q⟩ k3
            simp [q, this]
        clear hnx hny hx' hy' hfin k1 k2 k3 hm hm2 hI hb hx hy hpos
        go_enter Try.func41, Try.ntmps41
        go_wp2
        go_ret
        exact ⟨ret_float hfin'.out, rfl⟩
    · rw [hny] at s2
      have hfin := Lib.hid (nxt_nan_r (x := x) hny)
      clear hnx hny
      go_enter Try.func41, Try.ntmps41
      go_wp2
      go_ret
      exact ⟨by rw [hfin.out]; rfl, rfl⟩
  · rw [hnx] at s1
    have hfin := Lib.hid (nxt_nan_l (y := y) hnx)
    clear hnx
    go_enter Try.func41, Try.ntmps41
    go_wp2
    go_ret
    exact ⟨by rw [hfin.out]; rfl, rfl⟩
end Go.Proofs.Ytmhdjhfkndfhmaa

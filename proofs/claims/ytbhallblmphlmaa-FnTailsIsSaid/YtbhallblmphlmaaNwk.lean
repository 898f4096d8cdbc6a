/-
  Contracts of the reference's naturals: length, word, bit, length of a natural, naturalOf; Inf.
-/
import Derived.Test.YtbhallblmphlmaaSpcC
import Derived.Test.YtbhallblmphlmaaNrd
import Derived.Deep.LoopGhost
namespace Go.Proofs.Ytbhallblmphlmaa
open Go.RowKit Flt

def ul (xs : List Nat) : List Value := xs.map (fun (n : Nat) => Value.int .u64 (n : Int))
theorem ul_len (xs : List Nat) : (ul xs).length = xs.length := by simp [ul]
theorem Rd.ul {w : World} {B : Nat} {A : Option Addr} {xs : List Nat} (h : Rd w B A (ul xs)) {k : Nat} (hk : k < xs.length) : ∃ ad, A = some ad ∧ ad.block < B ∧ w.cell? (ad.add k) = some (.int .u64 ((xs.getD k 0 : Nat) : Int)) := by
  obtain ⟨ad, e, hb, hc⟩ := h.at (k := k) (by rw [ul_len]; exact hk)
  refine ⟨ad, e, hb, ?_⟩
  rw [hc, List.getD_eq_getElem?_getD, List.getElem?_eq_getElem hk]; simp [Go.Proofs.Ytbhallblmphlmaa.ul]

set_option maxHeartbeats 400000 in
theorem specLength_any (m : Nat) (w : World) (hm : m < 18446744073709551616) :
    Calls Try.prog 44 #[.int .u64 (m : Int)] w fun e w' => e = .returned (.int .i64 (bl m : Int)) ∧ w = w' := by
  have hbl : Hid (bl m ≤ 64) := bl_le (k := 64) (by omega)
  go_enter Try.func44, Try.ntmps44
  go_wp2
  go_loopg [0, 3] m (fun g x n wr => ∃ c : Nat, x = .int .u64 (g : Int) ∧ n = .int .i64 (c : Int) ∧ Hid (c + bl g = bl m) ∧ c ≤ 64 ∧ g < 18446744073709551616 ∧ wr = w)
  case atStart => exact ⟨0, rfl, rfl, by show 0 + bl m = bl m; omega, by omega, hm, rfl⟩
  case round =>
    obtain ⟨c, rfl, rfl, hc, hc64, hg, rfl⟩ := hrel
    rcases Nat.eq_zero_or_pos gk with h0 | h0
    · subst h0
      have hfin : Hid (c = bl m) := by have := hc.out; rw [bl_zero] at this; exact this
      clear hc
      go_wp2
      go_ret
      exact ⟨ret_int (by rw [hfin.out]), rfl⟩
    · have hst : Hid (c + 1 + bl (gk / 2) = bl m) := by
        have h1 := hc.out
        rw [bl_half h0] at h1
        show _ = _
        omega
      have hc63 : c < 64 := by
        have h1 := hc.out
        have h2 := hbl.out
        rw [bl_half h0] at h1
        omega
      clear hc
      go_wp2
      go_roundg (gk / 2)
      case measure => omega
      case rel => exact ⟨c + 1, by simp, by go_num, hst.out, by omega, by omega, rfl⟩

set_option maxHeartbeats 400000 in
theorem word_in (ws : List Nat) (A : Option Addr) (n c i B : Nat) (w : World) (hl : ws.length = n) (hr : Rd w B A (ul ws)) (hi : i < n) (_hn : n ≤ 1000000) :
    Calls Try.prog 47 #[.slice A n c, .int .i64 (i : Int)] w fun e w' => e = .returned (.int .u64 ((ws.getD i 0 : Nat) : Int)) ∧ w = w' := by
  obtain ⟨ad, rfl, _, c1⟩ := hr.ul (k := i) (by omega)
  generalize ws.getD i 0 = x at *
  clear hl hr
  go_enter Try.func47, Try.ntmps47
  go_wp2
  go_ret
  exact ⟨rfl, rfl⟩

set_option maxHeartbeats 400000 in
theorem word_out (A : Option Addr) (n c i : Nat) (w : World) (hi : n ≤ i) (_hn : n ≤ 1000000) (_hi2 : i ≤ 1000000) :
    Calls Try.prog 47 #[.slice A n c, .int .i64 (i : Int)] w fun e w' => e = .returned (.int .u64 ((0 : Nat) : Int)) ∧ w = w' := by
  go_enter Try.func47, Try.ntmps47
  go_wp2
  go_ret
  exact ⟨rfl, rfl⟩

theorem word_any (ws : List Nat) (A : Option Addr) (n c i B : Nat) (w : World) (hl : ws.length = n) (hr : Rd w B A (ul ws)) (hn : n ≤ 1000000) (hi2 : i ≤ 1000000) :
    Calls Try.prog 47 #[.slice A n c, .int .i64 (i : Int)] w fun e w' => e = .returned (.int .u64 ((ws.getD i 0 : Nat) : Int)) ∧ w = w' := by
  rcases Nat.lt_or_ge i n with h | h
  · exact word_in ws A n c i B w hl hr h hn
  · have := word_out A n c i w h hn hi2
    rw [List.getD_eq_getElem?_getD, List.getElem?_eq_none (by omega)]
    exact this

theorem shr_and_one (x r : Nat) (hx : x < 18446744073709551616) : bits .and .u64 (((x / 2 ^ r : Nat)) : Int) 1 = ((x / 2 ^ r % 2 : Nat) : Int) := by
  have e : ((1 : Nat) : Int) = 1 := rfl
  have : x / 2 ^ r ≤ x := Nat.div_le_self _ _
  rw [← e, u64_and_nat _ _ (by omega) (by omega), nat_mask1]

set_option maxHeartbeats 400000 in
theorem bit_neg (A : Option Addr) (n c : Nat) (i : Int) (w : World) (hi : i < 0) :
    Calls Try.prog 43 #[.slice A n c, .int .i64 i] w fun e w' => e = .returned (.int .u64 ((0 : Nat) : Int)) ∧ w = w' := by
  go_enter Try.func43, Try.ntmps43
  go_wp2
  go_ret
  exact ⟨rfl, rfl⟩

set_option maxHeartbeats 400000 in
theorem bit_pos (ws : List Nat) (A : Option Addr) (n c i B : Nat) (w : World) (hl : ws.length = n) (hr : Rd w B A (ul ws)) (hW : W32 ws) (hn : n ≤ 1000000) (hi2 : i ≤ 1000000) :
    Calls Try.prog 43 #[.slice A n c, .int .i64 (i : Int)] w fun e w' => e = .returned (.int .u64 ((nv ws / 2 ^ i % 2 : Nat) : Int)) ∧ w = w' := by
  have hb := Lib.hid (nv_bit ws hW i)
  have H := Lib.hid (word_any ws A n c (i / 32) B w hl hr hn (by omega))
  rw [show (((i / 32 : Nat)) : Int) = (i : Int) / 32 by omega] at H
  have hx := hW.getD (i / 32)
  generalize ws.getD (i / 32) 0 = x at *
  have hs := Lib.hid (shr_and_one x (i % 32) (by omega))
  clear hr hl hW hx
  go_enter Try.func43, Try.ntmps43
  go_wp2_with fail
  ((with_reducible refine H.out.mono ?_); rintro e w' ⟨rfl, rfl⟩)
  go_wp2
  go_ret
  refine ⟨ret_int ?_, rfl⟩
  have e : (x : Int) / 2 ^ (i % 32) = ((x / 2 ^ (i % 32) : Nat) : Int) := by simp
  rw [hb.out, ← hs.out, e]

/-- a bit of a natural, at any place -/
theorem bit_any (ws : List Nat) (A : Option Addr) (n c B : Nat) (i : Int) (w : World) (hl : ws.length = n) (hr : Rd w B A (ul ws)) (hW : W32 ws) (hn : n ≤ 1000000) (hi2 : i ≤ 1000000) :
    Calls Try.prog 43 #[.slice A n c, .int .i64 i] w fun e w' => e = .returned (.int .u64 ((bq (nv ws) i : Nat) : Int)) ∧ w = w' := by
  rcases Int.lt_or_le i 0 with h | h
  · have := bit_neg A n c i w h
    have e : bq (nv ws) i = 0 := by unfold bq; rw [if_pos h]
    rw [e]; exact this
  · obtain ⟨k, rfl⟩ : ∃ k : Nat, i = (k : Int) := ⟨i.toNat, by omega⟩
    have := bit_pos ws A n c k B w hl hr hW hn (by omega)
    have e : bq (nv ws) (k : Int) = nv ws / 2 ^ k % 2 := by unfold bq; rw [if_neg (by omega)]; rfl
    rw [e]; exact this

set_option maxHeartbeats 800000 in
theorem natLength_cons (ws : List Nat) (A : Addr) (n c B : Nat) (w : World) (hl : ws.length = n) (hr : Rd w B (some A) (ul ws)) (hW : W32 ws) (hn : n ≤ 1000000) :
    Calls Try.prog 42 #[.slice (some A) n c] w fun e w' => e = .returned (.int .i64 (bl (nv ws) : Int)) ∧ w = w' := by
  have hl' := Lib.hid hl
  clear hl
  go_enter Try.func42, Try.ntmps42
  go_wp2
  go_loopg [3] n (fun g i wr => i = .int .i64 ((g : Int) - 1) ∧ g ≤ n ∧ Hid (∀ j, g ≤ j → ws.getD j 0 = 0) ∧ wr = w)
  case atStart => exact ⟨rfl, Nat.le_refl _, fun j hj => by rw [List.getD_eq_getElem?_getD, List.getElem?_eq_none (by rw [hl'.out]; exact hj)]; rfl, rfl⟩
  case round =>
    obtain ⟨rfl, hg, hz, rfl⟩ := hrel
    rcases gk with _ | k
    · have hfin : Hid ((bl (nv ws) : Int) = 0) := by
        show _ = _
        rw [nv_zero ws (fun j => hz.out j (Nat.zero_le _))]; rfl
      clear hz
      rw [show (((0 : Nat) : Int)) - 1 = -1 from rfl]
      go_wp2
      go_ret
      exact ⟨ret_int hfin.out.symm, rfl⟩
    · obtain ⟨_, e1, _, c1⟩ := hr.ul (k := k) (by rw [hl'.out]; omega)
      cases e1
      have hlt := hW.getD k
      have hs := Lib.hid (fun (h : 0 < ws.getD k 0) => nv_length ws hW k h (fun j hj => hz.out j (by omega)))
      have hzz : Hid (ws.getD k 0 = 0 → ∀ j, k ≤ j → ws.getD j 0 = 0) := fun h0 j hj => by
        rcases Nat.eq_or_lt_of_le hj with h | h
        · rw [← h]; exact h0
        · exact hz.out j h
      generalize ws.getD k 0 = x at *
      rw [show (((k + 1 : Nat) : Int)) - 1 = (k : Int) by omega]
      clear hz
      rcases Nat.eq_zero_or_pos x with h0 | h0
      · have hz2 := Lib.hid (hzz.out h0)
        subst h0
        clear hzz hs hlt
        go_wp2
        go_roundg k
        case measure => omega
        case rel => exact ⟨rfl, by omega, hz2.out, rfl⟩
      · have hfin := Lib.hid (hs.out h0)
        have hb : bl x ≤ 32 := bl_le hlt
        have H := Lib.hid (fun W : World => specLength_any x W (by omega))
        have hx0 : (0 : Int) < (x : Int) := by omega
        clear hzz hs hlt
        generalize bl x = y at *
        go_wp2_with (go_at_call 44; ((with_reducible refine (H.out _).mono ?_)); rintro e w' ⟨rfl, rfl⟩)
        go_ret
        exact ⟨ret_int (by rw [hfin.out]; omega), rfl⟩

set_option maxHeartbeats 400000 in
theorem natLength_nil (A : Option Addr) (c : Nat) (w : World) :
    Calls Try.prog 42 #[.slice A 0 c] w fun e w' => e = .returned (.int .i64 0) ∧ w = w' := by
  go_enter Try.func42, Try.ntmps42
  go_wp2
  refine wp_loop_rounds 1 ?_
  rw [rounds_succ]
  go_wp2
  go_ret
  exact ⟨rfl, rfl⟩

theorem natLength_any (ws : List Nat) (A : Option Addr) (n c B : Nat) (w : World) (hl : ws.length = n) (hr : Rd w B A (ul ws)) (hW : W32 ws) (hn : n ≤ 1000000) :
    Calls Try.prog 42 #[.slice A n c] w fun e w' => e = .returned (.int .i64 (bl (nv ws) : Int)) ∧ w = w' := by
  rcases Nat.eq_zero_or_pos n with h0 | h0
  · subst h0
    obtain rfl : ws = [] := List.eq_nil_of_length_eq_zero hl
    exact natLength_nil A c w
  · obtain ⟨ad, rfl, _, _⟩ := hr.ul (k := 0) (by omega)
    exact natLength_cons ws ad n c B w hl hr hW hn

/-- the words of an integer of 64 bits -/
def w2 (m : Nat) : List Nat := [m % 2 ^ 32, m / 2 ^ 32]
theorem nv_w2 (m : Nat) : nv (w2 m) = m := by
  show m % 2 ^ 32 + 2 ^ 32 * (m / 2 ^ 32 + 2 ^ 32 * 0) = m
  omega
theorem W32_w2 {m : Nat} (h : m < 18446744073709551616) : W32 (w2 m) := by
  intro w hw
  simp only [w2, List.mem_cons, List.not_mem_nil, or_false] at hw
  rcases hw with rfl | rfl <;> omega
theorem ul_w2 (m : Nat) : ul (w2 m) = [Value.int .u64 ((m % 2 ^ 32 : Nat) : Int), Value.int .u64 ((m / 2 ^ 32 : Nat) : Int)] := rfl

theorem and_low (m : Nat) (h : m < 18446744073709551616) : bits .and .u64 (m : Int) 4294967295 = ((m % 2 ^ 32 : Nat) : Int) := by
  have e : ((4294967295 : Nat) : Int) = 4294967295 := rfl
  rw [← e, u64_and_nat _ _ h (by omega)]
  congr 1
  exact Nat.and_two_pow_sub_one_eq_mod m 32

set_option maxHeartbeats 400000 in
theorem naturalOf_any (m : Nat) (w : World) (hm : m < 18446744073709551616) :
    Calls Try.prog 33 #[.int .u64 (m : Int)] w (NewRow 45 w.heap.size w (ul (w2 m))) := by
  have h1 := and_low m hm
  have h2 : (m : Int) / 4294967296 = ((m / 2 ^ 32 : Nat) : Int) := by omega
  have hN := Lib.hid (NewRow.mk (World.ownsRow_lit (base := w.heap.size) (e := 45) (size := 1) w #[Value.int .u64 ((m % 2 ^ 32 : Nat) : Int), Value.int .u64 ((m / 2 ^ 32 : Nat) : Int)] 2 (Nat.le_refl _) (by decide) rfl) ((Below.refl w.heap.size w).alloc (Nat.le_refl _) _))
  rw [ul_w2]
  generalize m / 2 ^ 32 = hi at *
  generalize m % 2 ^ 32 = lo at *
  go_enter Try.func33, Try.ntmps33
  go_wp2
  go_ret
  exact hN.out

theorem quo_inf (s : Bool) : floatBits .quo .f64 (mk s (1023 * 2 ^ 52)) 0 = some (mk s INF) := by cases s <;> decide

set_option maxHeartbeats 400000 in
theorem specInf_pos (w : World) : Calls Try.prog 45 #[.int .i64 1] w fun e w' => e = .returned (.float .f64 (mk false INF)) ∧ w = w' := by
  have h := run_f (quo_inf false)
  have e : mk false (1023 * 2 ^ 52) = 4607182418800017408 := rfl
  rw [e] at h
  go_enter Try.func45, Try.ntmps45
  go_wp2
  go_ret
  exact ⟨rfl, rfl⟩
set_option maxHeartbeats 400000 in
theorem specInf_neg (w : World) : Calls Try.prog 45 #[.int .i64 (-1)] w fun e w' => e = .returned (.float .f64 (mk true INF)) ∧ w = w' := by
  have h := run_f (quo_inf true)
  have e : mk true (1023 * 2 ^ 52) = 13830554455654793216 := rfl
  rw [e] at h
  go_enter Try.func45, Try.ntmps45
  go_wp2
  go_ret
  exact ⟨rfl, rfl⟩
end Go.Proofs.Ytbhallblmphlmaa

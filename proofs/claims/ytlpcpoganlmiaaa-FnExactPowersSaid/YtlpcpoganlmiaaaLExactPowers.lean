/-
  The walk of laws.FnExactPowers: it returns true, for every word x.
-/
import Derived.Test.YtlpcpoganlmiaaaExa
import Derived.Test.YtlpcpoganlmiaaaSpw
namespace Go.Proofs.Ytlpcpoganlmiaaa.LExactPowers
open Go.RowKit Flt

theorem rd_len {w : World} {base : Nat} {e : TypeId} {A : Option Addr} {c N : Nat} {xs : List Value} (hl : xs.length = N) (h : w.ownsRow base e 1 (.slice A N c) N xs) : Rd w w.heap.size A xs := by
  subst hl; exact Rd.of_own h

set_option maxHeartbeats 1600000 in
theorem walk (w : World) (x : Nat) (hx : x < 2 ^ 64) :
    Calls Try.prog 6 #[.float .f64 x] w fun e' w' => e' = .returned (.bool true) ∧ Below w.heap.size w w' := by
  have HS := Lib.hid (fun W : World => specPowers_any x W hx)
  have HD := Lib.hid (fun W : World => powers_any x W hx)
  have hlen := pwW_len (x := x)
  obtain ⟨l, hl⟩ : ∃ l, pwW x = l := ⟨_, rfl⟩
  rw [hl] at HS HD hlen
  obtain ⟨N, hN⟩ : ∃ N, l.length = N := ⟨_, rfl⟩
  rw [hN] at hlen
  have HN := Lib.hid hN
  have HL : Hid ((il l).length = N) := by show _ = _; rw [il_len, hN]
  clear hN hl
  go_enter Try.func6, Try.ntmps6
  go_wp2_with fail
  ((with_reducible refine (HS.out _).mono ?_); rintro e' w1 ⟨A1, c1, rfl, hc1, hown1, hb1⟩)
  have r1 := Rd.of_own hown1
  rw [HL.out]
  clear hown1 HS hc1
  go_wp2_with fail
  ((with_reducible refine (HD.out _).mono ?_); rintro e' w2 ⟨A2, c2, rfl, hc2, hown2, hb2⟩)
  rw [HL.out] at hown2 ⊢
  have r2 : Rd w2 w2.heap.size A2 (il l) := by rw [← HL.out] at hown2; exact Rd.of_own hown2
  have r1' : Rd w2 w2.heap.size A1 (il l) := (r1.below hb2).more hb2.size
  have q1 := Lib.hid (eqIntS_any l A2 A1 c2 c1 N w2.heap.size w2 HN.out (by omega) r2 r1')
  clear r2 r1' hc2
  go_wp2_with fail
  ((with_reducible refine (q1.out).mono ?_); rintro e' w3 ⟨rfl, hq3⟩)
  have hown3 := hq3.own hown2
  have hM := Lib.hid (mark_any l A2 c2 N w1.heap.size w3 HN.out (by omega) hown3)
  clear hown2 hown3 q1
  go_wp2_with fail
  ((with_reducible refine (hM.out).mono ?_); rintro e' w4 ⟨rfl, hown4, hb4, hs4⟩)
  have hlm : (il (marks N)).length = N := by rw [il_len, marks_len]
  have r4 : Rd w4 w4.heap.size A2 (il (marks N)) := by
    exact rd_len hlm hown4
  have q4 := Lib.hid (held_any A2 c2 N w4.heap.size w4 (by omega) r4)
  have r1' : Rd w4 w1.heap.size A1 (il l) := ((r1.below hb2).qt hq3).below hb4
  have hb24 : Below w.heap.size w w4 := ((hb1.trans (hb2.mono hb1.size)).trans (hq3.below _)).trans (hb4.mono hb1.size)
  have hsz4 : w1.heap.size ≤ w4.heap.size := by rw [hs4, hq3.size]; exact hb2.size
  clear hM hown4 hb4 hs4 hb2 hq3 r1 hb1 hlm
  go_wp2_with fail
  ((with_reducible refine (q4.out).mono ?_); rintro e' w5 ⟨rfl, hq5⟩)
  have r5 := r4.qt hq5
  have r1' := r1'.qt hq5
  have hb5 : Below w.heap.size w w5 := hb24.trans (hq5.below _)
  rw [← hq5.size] at r5 hsz4
  clear q4 r4 hb24 hq5
  go_wp2_with fail
  ((with_reducible refine (HD.out _).mono ?_); rintro e' w6 ⟨A6, c6, rfl, hc6, hown6, hb6⟩)
  rw [HL.out]
  have r6 := Rd.of_own hown6
  have r16 := (r1'.below' hb6 hsz4).more (Nat.le_trans hsz4 hb6.size)
  have q6 := Lib.hid (eqIntS_any l A6 A1 c6 c1 N w6.heap.size w6 HN.out (by omega) r6 r16)
  have r56 := r5.below hb6
  clear hown6 r6 r16 r5 hc6 HD r1'
  go_wp2_with fail
  ((with_reducible refine (q6.out).mono ?_); rintro e' w7 ⟨rfl, hq7⟩)
  have q7 := Lib.hid (held_any A2 c2 N _ w7 (by omega) (r56.qt hq7))
  clear r56 q6
  go_wp2_with fail
  ((with_reducible refine (q7.out).mono ?_); rintro e' w8 ⟨rfl, hq8⟩)
  go_wp2
  go_ret
  exact ⟨rfl, ((hb5.trans (hb6.mono hb5.size)).trans (hq7.below _)).trans (hq8.below _)⟩
end Go.Proofs.Ytlpcpoganlmiaaa.LExactPowers

/-
  Contracts of the reference's naturals: left.
-/
import Derived.Test.YtbhallblmphlmaaNau
import Derived.StillTailTactics
namespace Go.Proofs.Ytbhallblmphlmaa
open Go.RowKit Flt

theorem or_add {a c b : Nat} (hc : c < 2 ^ b) : (a * 2 ^ b) ||| c = a * 2 ^ b + c := by
  rw [Nat.mul_comm a]; exact (Nat.two_pow_add_eq_or_of_lt hc a).symm
theorem shl_lt {x b : Nat} (hx : x < 2 ^ 32) (hb : b < 32) : x * 2 ^ b < 2 ^ 63 ∧ x * 2 ^ b / 2 ^ 32 < 2 ^ b := by
  have h1 : 2 ^ b ≤ 2 ^ 31 := pow_le (by omega)
  have h2 : x * 2 ^ b < 2 ^ 32 * 2 ^ b := Nat.mul_lt_mul_of_pos_right hx (pow_pos b)
  refine ⟨by omega, ?_⟩
  rw [Nat.div_lt_iff_lt_mul (by decide), Nat.mul_comm (2 ^ b)]
  exact h2
theorem shl_wrap {x b : Nat} (hx : x < 2 ^ 32) (hb : b < 32) : IntKind.u64.wrap ((x : Int) * 2 ^ b) = ((x * 2 ^ b : Nat) : Int) := by
  have h := (shl_lt hx hb).1
  have e : (x : Int) * 2 ^ b = ((x * 2 ^ b : Nat) : Int) := by simp
  rw [e]
  exact IntWalk.u64_in _ (by omega)
/-- a word of a shifted number, as left reckons it -/
theorem left_val {x y b : Nat} (hx : x < 2 ^ 32) (hy : y < 2 ^ 32) (hb : b < 32) (p q : Int) (hp : p = ((x * 2 ^ b : Nat) : Int)) (hq : q = ((y * 2 ^ b / 2 ^ 32 : Nat) : Int)) :
    bits .and .u64 (bits .or .u64 p q) 4294967295 = (((x * 2 ^ b + y * 2 ^ b / 2 ^ 32) % 2 ^ 32 : Nat) : Int) := by
  obtain ⟨h1, _⟩ := shl_lt hx hb
  obtain ⟨_, h2⟩ := shl_lt hy hb
  have h3 : 2 ^ b ≤ 2 ^ 31 := pow_le (by omega)
  have e : bits .or .u64 ((x * 2 ^ b : Nat) : Int) ((y * 2 ^ b / 2 ^ 32 : Nat) : Int) = (((x * 2 ^ b) ||| (y * 2 ^ b / 2 ^ 32) : Nat) : Int) := u64_or_nat _ _ (by omega) (by omega)
  rw [hp, hq, e, or_add h2, and_low _ (by omega)]
/-- the first i words are done -/
def lfTo (M L i : Nat) : List Nat := dgs M i ++ List.replicate (L - i) 0
theorem lfTo_zero (M L : Nat) : lfTo M L 0 = List.replicate L 0 := rfl
theorem lfTo_all (M L : Nat) : lfTo M L L = dgs M L := by unfold lfTo; rw [Nat.sub_self]; exact List.append_nil _
theorem lfTo_len {M L i : Nat} (h : i ≤ L) : (lfTo M L i).length = L := by unfold lfTo; rw [List.length_append, dgs_len, List.length_replicate]; omega
theorem lfTo_succ {M L i : Nat} (h : i < L) : (lfTo M L i).set i (M / 2 ^ (32 * i) % 2 ^ 32) = lfTo M L (i + 1) := by
  unfold lfTo
  rw [List.set_append_right _ _ (by rw [dgs_len]; exact Nat.le_refl _), dgs_len, Nat.sub_self, dgs_succ, List.append_assoc]
  congr 1
  obtain ⟨d, hd⟩ : ∃ d, L - i = d + 1 := ⟨L - i - 1, by omega⟩
  rw [hd, show L - (i + 1) = d by omega]
  rfl
theorem ul_set (l : List Nat) (k a : Nat) : (ul l).set k (.int .u64 (a : Int)) = ul (l.set k a) := by unfold ul; rw [List.map_set]

set_option maxRecDepth 100000 in
set_option maxHeartbeats 3200000 in
theorem left_any (w : World) (A : Option Addr) (n c N k : Nat) (ws : List Nat) (h : NatIn w A n ws N) (hn : n ≤ 1000) (hk : k ≤ 20000) :
    Calls Try.prog 35 #[.slice A n c, .int .i64 (k : Int)] w (NatNew (N * 2 ^ k) (n + k / 32 + 1) w) := by
  obtain ⟨i0, hi, hz0, hz1, hz2⟩ := info_parts Try.infoU
  have R := Lib.hid h
  obtain ⟨L, hL⟩ : ∃ L, n + k / 32 + 1 = L := ⟨_, rfl⟩
  have hLb : L ≤ 2000 := by omega
  have hall := Lib.hid (left_all h.words k)
  have hw := Lib.hid (fun i => left_word h.words k i)
  rw [h.value, h.len, hL] at hall
  rw [h.value] at hw
  clear h
  go_enter Try.func35, Try.ntmps35
  go_wp2_with (at_make; refine wpList_make_full _ rfl _ _ 50 rfl w.heap.size 45 i0 (.int .u64 0) 1 Try.underNat hi hz0 hz1 .i64 .i64 _ _ L rfl rfl (by omega) (by omega) (by rw [hz2]; omega) (by unfold maxLen; omega) (Nat.le_refl _) ?_; intro w2 hown2 hgrow2)
  rw [made_ul, ← lfTo_zero (N * 2 ^ k)] at hown2
  have hbel2 : Below w.heap.size w w2 := (Below.refl _ _).grown hgrow2 (Nat.le_refl _) (fun g hg => by cases hg)
  clear hgrow2
  go_loopw [16] (fun i wr => ∃ j : Nat, j ≤ L ∧ i = .int .i64 (j : Int) ∧ wr.ownsRow w.heap.size 45 1 (.slice (some ⟨w.heap.size, 0, none⟩) L L) L (ul (lfTo (N * 2 ^ k) L j)) ∧ Below w.heap.size w wr) (fun i _ => L - (intOf i).toNat)
  case atStart => exact ⟨0, Nat.zero_le _, rfl, hown2, hbel2⟩
  case round =>
    clear hown2 hbel2
    obtain ⟨j, hj, rfl, hown, hbel⟩ := hrel
    by_cases hlt : j < L
    · have R2 := R.out.below hbel
      have hq : Qt wr wr.drew := (Qt.refl wr).drew
      have R3 := R2.qt hq
      have hownW := hq.own hown
      have hbelW := hbel.trans (hq.below _)
      clear R2 hown hbel
      obtain ⟨x, hx⟩ : ∃ x, hiw ws ((j : Int) - (k / 32 : Nat)) = x := ⟨_, rfl⟩
      obtain ⟨y, hy⟩ : ∃ y, hiw ws ((j : Int) - (k / 32 : Nat) - 1) = y := ⟨_, rfl⟩
      have H1 := Lib.hid (high_any wr.drew A n c N ws R3 ((j : Int) - (k / 32 : Nat)) (by omega))
      have H2 := Lib.hid (high_any wr.drew A n c N ws R3 ((j : Int) - (k / 32 : Nat) - 1) (by omega))
      have hval := hw.out j
      rw [hx, hy] at hval
      rw [hx] at H1
      rw [hy] at H2
      have hx1 : x < 2 ^ 32 := by rw [← hx]; exact hiw_lt R.out.words _
      have hy1 : y < 2 ^ 32 := by rw [← hy]; exact hiw_lt R.out.words _
      clear hx hy
      obtain ⟨a, ha⟩ : ∃ a, k / 32 = a := ⟨_, rfl⟩
      obtain ⟨b, hb⟩ : ∃ b, k % 32 = b := ⟨_, rfl⟩
      rw [ha] at H1 H2
      rw [hb] at hval
      have hb1 : b < 32 := by omega
      have ha1 : a ≤ 1000 := by omega
      go_wp2_with fail
      have f1 : IntKind.i64.wrap ((k : Int) / 32) = (a : Int) := by rw [IntWalk.i64_in _ (by omega)]; omega
      have f2 : IntKind.i64.wrap ((j : Int) - (a : Int)) = (j : Int) - (a : Int) := IntWalk.i64_in _ (by omega)
      have f3 : IntKind.i64.wrap ((j : Int) - (a : Int) - 1) = (j : Int) - (a : Int) - 1 := IntWalk.i64_in _ (by omega)
      have f4 : (k : Int) % 32 = (b : Int) := by omega
      have f5 : (k : Int).tmod 32 = (b : Int) := by rw [Int.tmod_eq_emod_of_nonneg (by omega)]; exact f4
      refine wp_region_still_tail 25 (by kernel_rfl) (by kernel_rfl) ?_
      simp only [List.take_succ_cons, List.take_zero, List.drop_succ_cons, List.drop_zero]
      change wpStill _ _ wr.drew _ _ _
      repeat still_step
      still_call (H1.out.mono (fun e w'' h => ⟨h.1, h.2.symm⟩))
      repeat still_step
      still_call (H2.out.mono (fun e w'' h => ⟨h.1, h.2.symm⟩))
      repeat still_step
      refine wpStill_nil ?_
      change wpList _ _ _ _ _ wr.drew
      generalize wr.drew = W at *
      have hex : bits .and .u64 (bits .or .u64 (IntKind.u64.wrap ((x : Int) * 2 ^ b)) (IntKind.u64.wrap ((y : Int) * 2 ^ b) / 4294967296)) 4294967295 = ((N * 2 ^ k / 2 ^ (32 * j) % 2 ^ 32 : Nat) : Int) := by
        rw [hval]
        exact left_val hx1 hy1 hb1 _ _ (shl_wrap hx1 hb1) (by rw [shl_wrap hy1 hb1]; simp)
      rw [hex]
      have hsu := Lib.hid (lfTo_succ (M := N * 2 ^ k) hlt)
      generalize (N * 2 ^ k / 2 ^ (32 * j) % 2 ^ 32) = r at *
      clear f1 f2 f3 f4 f5 hex hval H1 H2 R3 hx1 hy1
      have hcell := hownW.cellAt j (by omega)
      have hfz := hownW.frozenAt j
      have hst := hownW.stored j (.int .u64 (r : Int))
      rw [ul_set, hsu.out] at hst
      have hbel2 : Hid (Below w.heap.size w (W.setCell ⟨w.heap.size, j, none⟩ (.int .u64 (r : Int)))) := hbelW.setCell (Nat.le_refl _) _
      have hst' := Lib.hid hst.1
      have hcell2 : W.cell? ⟨w.heap.size, j, none⟩ = some (.int .u64 (((lfTo (N * 2 ^ k) L j).getD j 0 : Nat) : Int)) := by
        rw [hcell, List.getD_eq_getElem?_getD]
        unfold ul
        rw [List.getElem?_map, List.getElem?_eq_getElem (by rw [lfTo_len hj]; exact hlt)]; rfl
      generalize (lfTo (N * 2 ^ k) L j).getD j 0 = old at *
      clear hcell hst hownW hbelW
      go_wp2
      go_roundw
      case rel => exact ⟨j + 1, by omega, by go_num, hst'.out, hbel2.out⟩
      case measure => simp [intOf]; omega
    · have hjL : j = L := by omega
      rw [hjL, lfTo_all] at hown
      have hN := Lib.hid (NatNew.mk (K := L) (dgs_w32 _ _) hall.out (by rw [dgs_len]; exact Nat.le_refl _) (show wr.ownsRow w.heap.size 45 1 (.slice (some ⟨w.heap.size, 0, none⟩) L L) (ul (dgs (N * 2 ^ k) L)).length (ul (dgs (N * 2 ^ k) L)) by rw [ul_len, dgs_len]; exact hown) hbel)
      clear hown hbel hjL
      go_wp2
      go_ret
      have := hN.out
      rw [hL]
      exact this
end Go.Proofs.Ytbhallblmphlmaa

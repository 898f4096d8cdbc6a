/-
  Contracts of the reference's naturals: times.
-/
import Derived.Test.YtbhallblmphlmaaNat
namespace Go.Proofs.Ytbhallblmphlmaa
open Go.RowKit Flt

theorem made_ul (k : Nat) : (madeCells (Value.int .u64 0).cells (k * 1)).toList = ul (List.replicate k 0) := by
  rw [Nat.mul_one]
  show (madeCells #[Value.int .u64 0] k).toList = _
  rw [toList_madeCells_one]
  unfold ul
  rw [List.map_replicate]; rfl
theorem own_base {w : World} {base base' n : Nat} {e : TypeId} {v : Value} {xs : List Value} (h : w.ownsRow base e 1 v n xs) (hb : base' ≤ base) : w.ownsRow base' e 1 v n xs := by
  refine ⟨h.1, ?_⟩
  rcases h.2 with h | ⟨g, cap, cur, h1, h2, h3⟩
  · exact Or.inl h
  · exact Or.inr ⟨g, cap, cur, h1, Nat.le_trans hb h2, h3⟩
theorem mul_u64 {v x : Nat} (hv : v < 2 ^ 32) (hx : x < 2 ^ 32) : v * x ≤ 18446744065119617025 := by
  have : v * x ≤ (2 ^ 32 - 1) * (2 ^ 32 - 1) := Nat.mul_le_mul (by omega) (by omega)
  omega

set_option maxRecDepth 100000 in
set_option maxHeartbeats 3200000 in
theorem times_any (w : World) (A A' : Option Addr) (n c n' c' N M : Nat) (ws os : List Nat) (h : NatIn w A n ws N) (h' : NatIn w A' n' os M) (hsn : n ≤ 1000) (hsn' : n' ≤ 1000) :
    Calls Try.prog 34 #[.slice A n c, .slice A' n' c'] w (NatNew (N * M) (n + 2 * n' + 2) w) := by
  obtain ⟨i0, hi, hz0, hz1, hz2⟩ := info_parts Try.infoU
  have R := Lib.hid h
  have R' := Lib.hid h'
  have HM := Lib.hid h'.value
  clear h h'
  go_enter Try.func34, Try.ntmps34
  go_wp2
  go_loopw [5, 15] (fun v i wr => ∃ (k : Nat) (out : List Nat), k ≤ n' ∧ i = .int .i64 (k : Int) ∧ W32 out ∧ Hid (nv out = N * nv (os.take k)) ∧ out.length ≤ n + 2 * k + 2 ∧ wr.ownsRow w.heap.size 45 1 v (ul out).length (ul out) ∧ Below w.heap.size w wr) (fun _ i _ => n' - (intOf i).toNat)
  case atStart => exact ⟨0, [], Nat.zero_le _, rfl, W32.nil, by show 0 = N * 0; rfl, by simp, World.ownsRow_lit w #[] 0 (Nat.le_refl _) (by decide) rfl, (Below.refl _ _).alloc (Nat.le_refl _) _⟩
  case round =>
    obtain ⟨k, out, hk, rfl, hW, hv, hlo, hown, hbel⟩ := hrel
    have hsz := hbel.size
    obtain ⟨Ao, co, hvo, _⟩ := own_slice hown
    rw [ul_len] at hvo
    subst hvo
    have HO := Lib.hid (own_rdU (by rw [ul_len] at hown; exact hown))
    by_cases hlt : k < n'
    · obtain ⟨ad, e1, _, c1⟩ := (R'.out.below hbel).reads.ul (k := k) (by rw [R'.out.len]; exact hlt)
      cases e1
      have x1 := R'.out.words.getD k
      have hts := Lib.hid (times_step (N := N) (i := k) (os := os) (by rw [R'.out.len]; exact hlt))
      rw [← hv.out] at hts
      generalize os.getD k 0 = x at *
      clear hown hv
      go_wp2_with (at_make; refine wpList_make_full _ rfl _ _ 50 rfl wr.heap.size 45 i0 (.int .u64 0) 1 Try.underNat hi hz0 hz1 .i64 .i64 _ _ k rfl rfl rfl rfl (by rw [hz2]; omega) (by unfold maxLen; omega) (Nat.le_refl _) ?_; intro w2 hown2 hgrow2)
      rw [made_ul] at hown2
      have hbel2 : Below wr.heap.size wr w2 := (Below.refl _ _).grown hgrow2 (Nat.le_refl _) (fun g hg => by cases hg)
      have hown2' : w2.ownsRow wr.heap.size 45 1 (.slice (some ⟨wr.heap.size, 0, none⟩) k k) (ul (List.replicate k 0)).length (ul (List.replicate k 0)) := by
        have e : (ul (List.replicate k 0)).length = k := by rw [ul_len, List.length_replicate]
        rw [e]; exact hown2
      obtain ⟨W, rfl⟩ : ∃ W, W = wr := ⟨_, rfl⟩
      clear hown2 hgrow2 c1
      go_loopw [8, 9, 24] (fun v cc i wr => ∃ (j cy : Nat) (row : List Nat), j ≤ n ∧ i = .int .i64 (j : Int) ∧ cc = .int .u64 (cy : Int) ∧ Hid (Rw ws x k row j cy) ∧ wr.ownsRow W.heap.size 45 1 v (ul row).length (ul row) ∧ Below W.heap.size W wr) (fun _ _ i _ => n - (intOf i).toNat)
      case atStart => exact ⟨0, 0, List.replicate k 0, Nat.zero_le _, rfl, rfl, Rw.start ws x k, hown2', hbel2⟩
      case round =>
        clear hown2' hbel2
        obtain ⟨j, cy, row, hj, rfl, rfl, hP, hown, hbelr⟩ := hrel
        have hszr := hbelr.size
        have hol := hP.out.len
        have hcy := hP.out.c1
        by_cases hjn : j < n
        · have hst := Lib.hid (hP.out.step R.out.words x1)
          obtain ⟨ad2, e2, _, c2⟩ := ((R.out.below hbel).below hbelr).reads.ul (k := j) (by rw [R.out.len]; exact hjn)
          cases e2
          have v1 := R.out.words.getD j
          generalize ws.getD j 0 = v at *
          have hmu := mul_u64 v1 x1
          obtain ⟨p, hp⟩ : ∃ p, v * x = p := ⟨_, rfl⟩
          rw [hp] at hmu hst
          have hwm : IntKind.u64.wrap ((v : Int) * (x : Int)) = (p : Int) := by
            rw [← Int.natCast_mul, hp]; exact IntWalk.u64_in _ (by omega)
          have hL : Hid ((ul row).length = k + j) := by show _ = _; rw [ul_len, hol]
          have hand := and_lowI (t := cy + p) (z := (cy : Int) + (p : Int)) (by omega) (by omega)
          have hsn : Hid (ul (row ++ [(cy + p) % 2 ^ 32]) = ul row ++ [.int .u64 (((cy + p) % 2 ^ 32 : Nat) : Int)]) := by show _ = _; rw [ul_append]; rfl
          have hdv : Hid (((cy : Int) + (p : Int)) / 4294967296 = (((cy + p) / 2 ^ 32 : Nat) : Int)) := by show _ = _; omega
          generalize hr : ((cy + p) % 2 ^ 32 : Nat) = r at *
          clear hP hr hol v1 hp
          go_wp2_with (at_builtin; refine wpList_append_own _ rfl _ _ 50 rfl W.heap.size 45 i0 (.int .u64 0) 1 8 Try.underNat hi hz0 hz1 hz2 rfl (by decide) _ _ _ rfl (hown.alloc _) ⟨wr.heap.size, 0, none⟩ 1 1 [.int .u64 (r : Int)] rfl rfl (news_one _ _ _) ?c2 ?c3 ?c4 ?c5 ?_)
          case c2 => intro u hu; simp at hu; subst hu; rfl
          case c3 => rw [hL.out]; unfold maxLen; omega
          case c4 => rw [hL.out]; omega
          case c5 => simp; omega
          intro v' w3 hown' hgrow _
          have hown2 : Hid (w3.ownsRow W.heap.size 45 1 v' (ul (row ++ [r])).length (ul (row ++ [r]))) := by
            show w3.ownsRow _ _ _ _ _ _
            rw [hsn.out, List.length_append]; exact hown'
          have hbel3 : Below W.heap.size W w3 := (hbelr.alloc hszr _).grown hgrow (by simp; omega) (fun g hg => (hown.lt g hg).1)
          clear hown' hgrow hown hbelr hand hwm c2
          go_wp2
          go_roundw
          case rel => exact ⟨j + 1, _, row ++ [r], by omega, by go_num, by rw [hdv.out], hst.out, hown2.out, hbel3⟩
          case measure => simp [intOf]; omega
        · obtain ⟨d1, d2⟩ := hP.out.done (by rw [R.out.len]; omega)
          have hL : Hid ((ul row).length = k + j) := by show _ = _; rw [ul_len, hol]
          have hsn : Hid (ul (row ++ [cy]) = ul row ++ [.int .u64 (cy : Int)]) := by show _ = _; rw [ul_append]; rfl
          clear hP
          go_wp2_with (at_builtin; refine wpList_append_own _ rfl _ _ 50 rfl W.heap.size 45 i0 (.int .u64 0) 1 8 Try.underNat hi hz0 hz1 hz2 rfl (by decide) _ _ _ rfl (hown.alloc _) ⟨wr.heap.size, 0, none⟩ 1 1 [.int .u64 (cy : Int)] rfl rfl (news_one _ _ _) ?c2 ?c3 ?c4 ?c5 ?_)
          case c2 => intro u hu; simp at hu; subst hu; rfl
          case c3 => rw [hL.out]; unfold maxLen; omega
          case c4 => rw [hL.out]; omega
          case c5 => simp; omega
          intro v' w3 hown' hgrow _
          have hown2 : w3.ownsRow W.heap.size 45 1 v' (ul (row ++ [cy])).length (ul (row ++ [cy])) := by
            rw [hsn.out, List.length_append]; exact hown'
          have hbel3 : Below W.heap.size W w3 := (hbelr.alloc hszr _).grown hgrow (by simp; omega) (fun g hg => (hown.lt g hg).1)
          obtain ⟨A4, c4, rfl, _⟩ := own_slice hown2
          have hrl : (row ++ [cy]).length = k + j + 1 := by rw [List.length_append, hol]; rfl
          rw [ul_len] at hown2 ⊢
          rw [hrl]
          have HRL := Lib.hid hrl
          have N1 : NatIn w3 Ao out.length out (nv out) := ⟨rfl, (HO.out.below hbel3).more hbel3.size, hW, by omega, rfl⟩
          have N2 : NatIn w3 A4 (k + j + 1) (row ++ [cy]) (2 ^ (32 * k) * (nv ws * x)) := ⟨hrl, own_rdU hown2, d1, by omega, d2⟩
          have HPl := Lib.hid (plus_any w3 Ao A4 out.length co (k + j + 1) c4 _ _ out (row ++ [cy]) N1 N2)
          rw [R.out.value, hts.out] at HPl
          have hbelw := hbel.trans (hbel3.mono hbel.size)
          clear hown' hgrow hown hbelr hown2 N1 N2 d1 d2 hts hrl
          go_wp2_with fail
          ((with_reducible refine HPl.out.mono ?_); rintro e w5 ⟨ws5, A5, c5, rfl, h51, h52, h53, h54, h55⟩)
          have hbel5 : Below w.heap.size w w5 := hbelw.trans (h55.mono hbelw.size)
          have ho5 : Hid (w5.ownsRow w.heap.size 45 1 (.slice A5 ws5.length c5) (ul ws5).length (ul ws5)) := by
            show w5.ownsRow _ _ _ _ _ _
            rw [ul_len]; exact own_base h54 hbelw.size
          have H52 := Lib.hid h52
          clear h54 h55 h52 HPl HO
          go_wp2
          go_roundw
          case rel => exact ⟨k + 1, ws5, by omega, by go_num, h51, H52, by omega, ho5.out, hbel5⟩
          case measure => simp [intOf]; omega
    · have hkm : os.take k = os := List.take_of_length_le (by rw [R'.out.len]; omega)
      have hd : nv out = N * M := by rw [hv.out, hkm, HM.out]
      have hN := Lib.hid (NatNew.mk (K := n + 2 * n' + 2) hW hd (by omega) hown hbel)
      clear hd hkm hown hbel hv
      go_wp2
      go_ret
      exact hN.out
end Go.Proofs.Ytbhallblmphlmaa

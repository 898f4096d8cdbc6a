/-
  Contract of impl.Digits.
-/
import Derived.Test.YtlpcpoganlmiaaaMdf
import Derived.Test.YtlpcpoganlmiaaaImpA
namespace Go.Proofs.Ytlpcpoganlmiaaa
open Go.RowKit Flt

theorem run_m {op : BinOp} {x y : Nat} (hop : op = .add ∨ op = .sub ∨ op = .mul ∨ op = .quo) (h : floatBits op .f64 x y = none) (w : World) : (binOp op 24 (.float .f64 x) (.float .f64 y)).run Try.prog w = .ok (.float .f64 (nb w x y)) w.drew := run_float_nan hop h w
theorem toI64_run {b : Nat} {n : Int} (h : floatToIntVal .f64 b .i64 = some n) (w : World) : (convert 24 3 (.float .f64 b)).run Try.prog w = .ok (.int .i64 n) w :=
  run_convert_float_int w _ _ .f64 .i64 b n (by rw [Try.underlying24]; rfl) Try.underlying3 h

theorem Try.infoI : (Try.prog.info? 3).map (fun i => (i.zero, i.size, i.bytes)) = some (some (.int .i64 0), 1, 8) := by kernel_rfl

/-- the digits of a number by its sign and magnitude -/
def digL (s : Bool) (n N : Nat) : List Int := (List.range N).map fun i => sdg s n (i + 1)
theorem digL_len (s : Bool) (n N : Nat) : (digL s n N).length = N := by simp [digL]
theorem digL_succ (s : Bool) (n N : Nat) : digL s n (N + 1) = digL s n N ++ [sdg s n (N + 1)] := by
  unfold digL; rw [List.range_succ, List.map_append]; rfl
theorem digL_get {s : Bool} {n N k : Nat} (h : k < N) : (digL s n N).getD k 0 = sdg s n (k + 1) := by
  unfold digL
  rw [List.getD_eq_getElem?_getD, List.getElem?_map, List.getElem?_range h]; rfl

/-- where impl.Digits has come to: the word holds the fraction behind k digits -/
structure DigSt (s : Bool) (n k x : Nat) : Prop where
  lt : x < 2 ^ 64
  fin : rg x < INF
  sign : sg x = s
  val : rv (rg x) = n * 2 ^ k % U

theorem DigSt.start {x : Nat} (hf : rg x < INF) : DigSt (sg x) (rv (rg x)) 0 (fpart x) :=
  ⟨fpart_lt hf, fin_fpart hf, sg_fpart hf, by rw [rv_fpart hf]; simp⟩

theorem DigSt.step {s : Bool} {n k x : Nat} (h : DigSt s n k x) : ∃ y, floatBits .add .f64 x x = some y ∧ y < 2 ^ 64 ∧ rg y < INF ∧ DigSt s n (k + 1) (fpart y) ∧ floatToIntVal .f64 (ipart y) .i64 = some (sdg s n (k + 1)) := by
  have hU := U_pos
  have hlt : rv (rg x) < U := by rw [h.val]; exact Nat.mod_lt _ hU
  obtain ⟨y, h1, h2, h3, h4, h5⟩ := add_self_frac hlt h.fin
  refine ⟨y, h1, h2, h4, ⟨fpart_lt h4, fin_fpart h4, by rw [sg_fpart h4, h3, h.sign], by rw [rv_fpart h4, h5, h.val, frac_step]⟩, ?_⟩
  have hq : rv (rg y) / U = dg n (k + 1) := by rw [h5, h.val, dg_step]
  have := toI64_ipart h4 (by rw [hq]; exact dg_lt _ _)
  rw [hq, h3, h.sign] at this
  exact this

theorem sdg_bd (s : Bool) (n i : Nat) : -1 ≤ sdg s n i ∧ sdg s n i ≤ 1 := by
  have := dg_lt n i
  unfold sdg; split <;> omega

set_option maxHeartbeats 800000 in
theorem digits_fin (x : Nat) (n : Int) (w : World) (hx : x < 2 ^ 64) (hf : rg x < INF) :
    Calls Try.prog 22 #[.float .f64 x, .int .i64 n] w (NewRow 3 w.heap.size w (il (digL (sg x) (rv (rg x)) (n % 1200).toNat))) := by
  obtain ⟨i0, hi, hz0, hz1, hz2⟩ := info_parts Try.infoI
  obtain ⟨N, hN⟩ : ∃ N : Nat, n % 1200 = (N : Int) := ⟨(n % 1200).toNat, by omega⟩
  have hN2 : N < 1200 := by omega
  rw [show (n % 1200).toNat = N by omega]
  have HN := Lib.hid hN
  obtain ⟨r, r1, r2⟩ := sub_self_fin hf
  have hs := run_h r1
  have hne : (FloatKind.f64.format.order r 0 != some .eq) = false := by
    rw [c_ne (by rw [r2]; exact Nat.zero_le _) rg_zero_le, key_zero, decide_eq_false]
    have := key_natAbs r; omega
  have HM := Lib.hid (fun W : World => modf_any x W hx hf)
  have hS0 := DigSt.start hf
  generalize sg x = s at *
  generalize rv (rg x) = v at *
  generalize fpart x = f at *
  generalize ipart x = q at *
  clear r1 r2 hN hx hf
  go_enter Try.func22, Try.ntmps22
  go_wp2_with (first | (go_at_call 40; ((with_reducible refine (HM.out _).mono ?_)); rintro e w' ⟨rfl, rfl⟩) | (go_at_call 36; ((with_reducible refine (at_any _ _ _ (by decide) (by decide)).mono ?_)); rintro e w' ⟨rfl, rfl⟩; rw [HN.out]))
  go_loopw [0, 5, 6, 7] (fun cx o i _ wr => ∃ (k z : Nat), k ≤ N ∧ i = .int .i64 ((N - k : Nat) : Int) ∧ cx = .float .f64 z ∧ DigSt s v k z ∧ wr.ownsRow w.heap.size 3 1 o (il (digL s v k)).length (il (digL s v k)) ∧ Below w.heap.size w wr)
    (fun _ _ i _ _ => (intOf i).toNat)
  case atStart => exact ⟨0, f, Nat.zero_le _, rfl, rfl, hS0, World.ownsRow_lit w #[] 0 (Nat.le_refl _) (by decide) rfl, (Below.refl _ _).alloc (Nat.le_refl _) _⟩
  case round =>
    clear hS0 HM hs hne
    obtain ⟨k, z, hk, rfl, rfl, hS, hown, hbel⟩ := hrel
    have hsz := hbel.size
    by_cases hlt : k < N
    · obtain ⟨y, a1, a2, a3, a4, a5⟩ := hS.step
      have hadd := run_h a1
      have hcv := toI64_run a5
      have HM := Lib.hid (fun W : World => modf_any y W a2 a3)
      have hL : Hid ((il (digL s v k)).length = k) := by show _ = _; rw [il_len, digL_len]
      have hsu := Lib.hid (digL_succ s v k)
      generalize sdg s v (k + 1) = dv at *
      generalize fpart y = f' at *
      generalize ipart y = q' at *
      clear a1 a2 a3 a5 hS
      have hpos : (0 : Int) < ((N - k : Nat) : Int) := by omega
      go_wp2_with (first | (go_at_call 40; ((with_reducible refine (HM.out _).mono ?_)); rintro e w' ⟨rfl, rfl⟩) | (at_builtin; refine wpList_append_own _ rfl _ _ 33 rfl w.heap.size 3 i0 (.int .i64 0) 1 8 Try.underlying33 hi hz0 hz1 hz2 rfl (by decide) _ _ _ rfl (hown.alloc _) ⟨wr.heap.size, 0, none⟩ 1 1 [.int .i64 dv] rfl rfl (news_one _ _ _) ?c2 ?c3 ?c4 ?c5 ?_))
      case c2 => intro u hu; simp at hu; subst hu; rfl
      case c3 => rw [hL.out]; unfold maxLen; omega
      case c4 => rw [hL.out]; omega
      case c5 => simp; omega
      intro v' w1 hown' hgrow _
      have hown2 : Hid (w1.ownsRow w.heap.size 3 1 v' (il (digL s v (k + 1))).length (il (digL s v (k + 1)))) := by
        show w1.ownsRow _ _ _ _ _ _
        rw [hsu.out, il_append, List.length_append]; exact hown'
      have hbel2 : Below w.heap.size w w1 := (hbel.alloc hsz _).grown hgrow (by simp; omega) (fun g hg => (hown.lt g hg).1)
      clear hown' hgrow hown hbel
      go_wp2
      go_roundw
      case rel => exact ⟨k + 1, f', by omega, by congr 1; omega, rfl, a4, hown2.out, hbel2⟩
      case measure => simp [intOf]; omega
    · have hkm : k = N := by omega
      have e : N - k = 0 := by omega
      have hN' := Lib.hid (NewRow.mk hown hbel)
      rw [hkm] at hN'
      rw [e]
      clear e hkm hown hbel hS
      go_wp2
      go_ret
      exact hN'.out

set_option maxHeartbeats 400000 in
theorem digits_inf (x : Nat) (n : Int) (w : World) (hf : INF ≤ rg x) :
    Calls Try.prog 22 #[.float .f64 x, .int .i64 n] w (NewRow 3 w.heap.size w []) := by
  have h3 := run_m (op := .sub) (Or.inr (Or.inl rfl)) (sub_self_nan hf)
  have h4 : ∀ W : World, (FloatKind.f64.format.order (nb W x x) 0 != some .eq) = true := fun W => by
    rw [c_nan (Or.inl (nan_true.1 (nan_nb W x x)))]; rfl
  clear hf
  go_enter Try.func22, Try.ntmps22
  go_wp2
  go_ret
  exact NewRow.mk (World.ownsRow_lit w #[] 0 (Nat.le_refl _) (by decide) rfl).drew ((Below.refl _ _).alloc (Nat.le_refl _) _).drew

/-- the digits of a word -/
def digW (x : Nat) (n : Int) : List Int := if rg x < INF then digL (sg x) (rv (rg x)) (n % 1200).toNat else []
theorem digits_any (x : Nat) (n : Int) (w : World) (hx : x < 2 ^ 64) :
    Calls Try.prog 22 #[.float .f64 x, .int .i64 n] w (NewRow 3 w.heap.size w (il (digW x n))) := by
  unfold digW
  by_cases h : rg x < INF
  · rw [if_pos h]; exact digits_fin x n w hx h
  · rw [if_neg h]; exact digits_inf x n w (by omega)
end Go.Proofs.Ytlpcpoganlmiaaa

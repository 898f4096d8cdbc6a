/-
  Contracts of impl.Horner, impl.Dot and impl.FMA, on values.
-/
import Derived.Test.YtbhallblmphlmaaAns
namespace Go.Proofs.Ytbhallblmphlmaa
open Go.RowKit Flt

/-- a word of this value comes back, and nothing but draws has been made -/
def FmGives (V : Val) (w : World) (e : Ending) (w' : World) : Prop := ∃ b, e = .returned (.float .f64 b) ∧ vl b = V ∧ b < 2 ^ 64 ∧ Qt w w'
theorem vl_take_snoc {xs : List Nat} {k : Nat} (h : k < xs.length) : (xs.take (k + 1)).map vl = (xs.take k).map vl ++ [vl (xs.getD k 0)] := by
  rw [take_snoc xs k 0 h, List.map_append]; rfl

/-- the value of a polynomial, with one rounding at each step -/
def horv (x s : Val) (l : List Val) : Val := l.foldl (fun a c => fmv a x c) s
theorem horv_snoc (x s : Val) (l : List Val) (c : Val) : horv x s (l ++ [c]) = fmv (horv x s l) x c := by
  unfold horv; rw [List.foldl_append]; rfl
theorem horv_append (x s : Val) (l m : List Val) : horv x s (l ++ m) = horv x (horv x s l) m := by
  unfold horv; rw [List.foldl_append]

set_option maxHeartbeats 800000 in
theorem horner_any (s x : Nat) (xs : List Nat) (A : Option Addr) (c n B : Nat) (w : World) (hs : s < 2 ^ 64) (hx : xs.length = n) (hn : n ≤ 9223372036854775807) (h1 : Rd w B A (fl xs)) :
    Calls Try.prog 16 #[.float .f64 s, .slice A n c, .float .f64 x] w (FmGives (horv (vl x) (vl s) (xs.map vl)) w) := by
  have hx' := Lib.hid hx
  clear hx
  go_enter Try.func16, Try.ntmps16
  go_wp2
  go_loopw [0, 8, 11] (fun z _ i wr => ∃ k b : Nat, k ≤ n ∧ i = .int .i64 k ∧ z = .float .f64 b ∧ b < 2 ^ 64 ∧ Hid (vl b = horv (vl x) (vl s) ((xs.take k).map vl)) ∧ Qt w wr) (fun _ _ i _ => n - (intOf i).toNat)
  case atStart => exact ⟨0, s, Nat.zero_le _, rfl, rfl, hs, rfl, Qt.refl _⟩
  case round =>
    obtain ⟨k, b, hk, rfl, rfl, hb, hv, hq⟩ := hrel
    by_cases hlt : k < n
    · obtain ⟨ad, e1, _, c1⟩ := (h1.qt hq).fl (k := k) (by rw [hx'.out]; exact hlt)
      cases e1
      have hst := Lib.hid (horv_snoc (vl x) (vl s) ((xs.take k).map vl) (vl (xs.getD k 0)))
      rw [← vl_take_snoc (by rw [hx'.out]; exact hlt), ← hv.out] at hst
      generalize xs.getD k 0 = y at *
      obtain ⟨g, g', hrun, hans⟩ := fma_ans b x y
      have hvv : Hid (∀ v : World, vl (g v) = horv (vl x) (vl s) ((xs.take (k + 1)).map vl)) := fun v => by
        rw [hans.val v, hst.out]
      have hlv := Lib.hid (fun v : World => hans.lt v)
      have hqv := Lib.hid (fun v : World => hans.qt v)
      clear hans hst hv
      go_wp2
      go_roundw
      case rel => exact ⟨k + 1, _, by omega, by go_num, rfl, hlv.out _, hvv.out _, hq.trans (hqv.out _)⟩
      case measure => simp [intOf]; omega
    · have hkm : Hid (vl b = horv (vl x) (vl s) (xs.map vl)) := by
        have := hv.out
        rw [List.take_of_length_le (by rw [hx'.out]; omega)] at this
        exact this
      go_wp2
      go_ret
      exact ⟨b, rfl, hkm.out, hb, hq⟩

set_option maxHeartbeats 400000 in
theorem horner_nil (s x : Nat) (A : Option Addr) (c : Nat) (w : World) :
    Calls Try.prog 16 #[.float .f64 s, .slice A 0 c, .float .f64 x] w fun e w' => e = .returned (.float .f64 s) ∧ w = w' := by
  go_enter Try.func16, Try.ntmps16
  go_wp2
  refine wp_loop_rounds 1 ?_
  rw [rounds_succ]
  go_wp2
  go_ret
  exact ⟨rfl, rfl⟩

/-- a sum of products, with one rounding at each step -/
def dotv (s : Val) (l : List (Val × Val)) : Val := l.foldl (fun a p => fmv p.1 p.2 a) s
theorem dotv_snoc (s : Val) (l : List (Val × Val)) (p : Val × Val) : dotv s (l ++ [p]) = fmv p.1 p.2 (dotv s l) := by
  unfold dotv; rw [List.foldl_append]; rfl
theorem dotv_append (s : Val) (l m : List (Val × Val)) : dotv s (l ++ m) = dotv (dotv s l) m := by
  unfold dotv; rw [List.foldl_append]
/-- the pairs of values at the same places -/
def prs (xs ys : List Nat) : List (Val × Val) := (xs.map vl).zip (ys.map vl)
theorem prs_len (xs ys : List Nat) : (prs xs ys).length = min xs.length ys.length := by unfold prs; rw [List.length_zip, List.length_map, List.length_map]
theorem prs_get {xs ys : List Nat} {k : Nat} (h1 : k < xs.length) (h2 : k < ys.length) : (prs xs ys)[k]? = some (vl (xs.getD k 0), vl (ys.getD k 0)) := by
  unfold prs
  rw [List.getElem?_eq_getElem (by rw [List.length_zip, List.length_map, List.length_map]; omega), List.getElem_zip, List.getElem_map, List.getElem_map, List.getD_eq_getElem?_getD, List.getD_eq_getElem?_getD, List.getElem?_eq_getElem h1, List.getElem?_eq_getElem h2]
  rfl
theorem prs_snoc {xs ys : List Nat} {k : Nat} (h1 : k < xs.length) (h2 : k < ys.length) : (prs xs ys).take (k + 1) = (prs xs ys).take k ++ [(vl (xs.getD k 0), vl (ys.getD k 0))] := by
  have hl : k < (prs xs ys).length := by rw [prs_len]; omega
  have h := prs_get h1 h2
  rw [List.getElem?_eq_getElem hl] at h
  rw [List.take_succ_eq_append_getElem hl, Option.some.inj h]

set_option maxHeartbeats 800000 in
theorem dotVal_any (s : Nat) (xs ys : List Nat) (A A' : Option Addr) (c c' n m B : Nat) (w : World) (hs : s < 2 ^ 64) (hx : xs.length = n) (hy : ys.length = m) (hn : n ≤ 9223372036854775807) (_hm : m ≤ 9223372036854775807)
    (h1 : Rd w B A (fl xs)) (h2 : Rd w B A' (fl ys)) :
    Calls Try.prog 24 #[.float .f64 s, .slice A n c, .slice A' m c'] w (FmGives (dotv (vl s) (prs xs ys)) w) := by
  have hx' := Lib.hid hx
  have hy' := Lib.hid hy
  clear hx hy
  go_enter Try.func24, Try.ntmps24
  go_wp2
  go_loopw [0, 7, 8, 11] (fun z _ _ i wr => ∃ k b : Nat, k ≤ n ∧ i = .int .i64 k ∧ z = .float .f64 b ∧ b < 2 ^ 64 ∧ Hid (vl b = dotv (vl s) ((prs xs ys).take k)) ∧ Qt w wr) (fun _ _ _ i _ => n - (intOf i).toNat)
  case atStart => exact ⟨0, s, Nat.zero_le _, rfl, rfl, hs, rfl, Qt.refl _⟩
  case round =>
    obtain ⟨k, b, hk, rfl, rfl, hb, hv, hq⟩ := hrel
    by_cases hlt : k < n
    · obtain ⟨ad, e1, _, c1⟩ := (h1.qt hq).fl (k := k) (by rw [hx'.out]; exact hlt)
      cases e1
      by_cases hlm : k < m
      · obtain ⟨ad', e2, _, c2⟩ := (h2.qt hq).fl (k := k) (by rw [hy'.out]; exact hlm)
        cases e2
        have hst := Lib.hid (dotv_snoc (vl s) ((prs xs ys).take k) (vl (xs.getD k 0), vl (ys.getD k 0)))
        rw [← prs_snoc (by rw [hx'.out]; exact hlt) (by rw [hy'.out]; exact hlm), ← hv.out] at hst
        generalize xs.getD k 0 = x at *
        generalize ys.getD k 0 = y at *
        obtain ⟨g, g', hrun, hans⟩ := fma_ans x y b
        have hvv : Hid (∀ v : World, vl (g v) = dotv (vl s) ((prs xs ys).take (k + 1))) := fun v => by
          rw [hans.val v, hst.out]
        have hlv := Lib.hid (fun v : World => hans.lt v)
        have hqv := Lib.hid (fun v : World => hans.qt v)
        clear hans hst hv
        go_wp2
        go_roundw
        case rel => exact ⟨k + 1, _, by omega, by go_num, rfl, hlv.out _, hvv.out _, hq.trans (hqv.out _)⟩
        case measure => simp [intOf]; omega
      · have hkm : Hid (vl b = dotv (vl s) ((prs xs ys).take (k + 1))) := by
          have := hv.out
          rw [List.take_of_length_le (by rw [prs_len, hx'.out, hy'.out]; omega)] at this
          show _ = _
          rw [List.take_of_length_le (by rw [prs_len, hx'.out, hy'.out]; omega)]
          exact this
        clear hv
        generalize xs.getD k 0 = x at *
        go_wp2
        go_roundw
        case rel => exact ⟨k + 1, b, by omega, by go_num, rfl, hb, hkm.out, hq⟩
        case measure => simp [intOf]; omega
    · have hkm : Hid (vl b = dotv (vl s) (prs xs ys)) := by
        have := hv.out
        rw [List.take_of_length_le (by rw [prs_len, hx'.out]; omega)] at this
        exact this
      go_wp2
      go_ret
      exact ⟨b, rfl, hkm.out, hb, hq⟩

set_option maxHeartbeats 400000 in
theorem dotVal_nil (s : Nat) (A A' : Option Addr) (c c' m : Nat) (w : World) :
    Calls Try.prog 24 #[.float .f64 s, .slice A 0 c, .slice A' m c'] w fun e w' => e = .returned (.float .f64 s) ∧ w = w' := by
  go_enter Try.func24, Try.ntmps24
  go_wp2
  refine wp_loop_rounds 1 ?_
  rw [rounds_succ]
  go_wp2
  go_ret
  exact ⟨rfl, rfl⟩

set_option maxHeartbeats 400000 in
theorem impFMA_any (x y z : Nat) (w : World) :
    Calls Try.prog 29 #[.float .f64 x, .float .f64 y, .float .f64 z] w (FmGives (fmv (vl x) (vl y) (vl z)) w) := by
  obtain ⟨g, g', hrun, hans⟩ := fma_ans x y z
  have H := Lib.hid hans
  clear hans
  go_enter Try.func29, Try.ntmps29
  go_wp2
  go_ret
  exact ⟨_, rfl, H.out.val _, H.out.lt _, H.out.qt _⟩
theorem one_three : (FloatKind.f64.format.order 4607182418800017408 4607182418800017408 == some .eq) = true := by
  rw [c_self']; rfl
end Go.Proofs.Ytbhallblmphlmaa

/-
  The contract of spec.FMA, on values.
-/
import Derived.Test.YtbhallblmphlmaaNal
import Derived.Test.YtbhallblmphlmaaFmp
import Derived.Test.YtbhallblmphlmaaAns
import Derived.Test.YtbhallblmphlmaaSpcB
import Derived.Deep.RegionHeld3
namespace Go.Proofs.Ytbhallblmphlmaa
open Go.RowKit Flt

/-- a word of this value comes back; memory of its own has been made -/
def FsGives (V : Val) (w : World) (e : Ending) (w' : World) : Prop := ∃ b, e = .returned (.float .f64 b) ∧ vl b = V ∧ b < 2 ^ 64 ∧ Below w.heap.size w w'
theorem partsOf_sI (x : Nat) (w : World) (hx : x < 2 ^ 64) (hf : rg x < INF) :
    Calls Try.prog 32 #[.float .f64 x] w fun e w' => ∃ (neg : Bool) (m E : Nat), fv x = sI neg (m * 2 ^ E) ∧ m < 2 ^ 53 ∧ E ≤ 3172 ∧ e = .returned (.agg #[.bool neg, .int .u64 (m : Int), .int .i64 ((E : Int) - 1074)]) ∧ Below w.heap.size w w' := by
  rcases Nat.eq_zero_or_pos (rg x) with h0 | h0
  · refine (partsOf_zero x w hx h0).mono ?_
    rintro e w' ⟨rfl, hb⟩
    obtain ⟨E, hE⟩ : ∃ E, E = 1074 := ⟨_, rfl⟩
    refine ⟨false, 0, E, ?_, by decide, by omega, by rw [hE]; rfl, hb⟩
    rw [(fv_zero_iff x).2 h0, Nat.zero_mul]; rfl
  · refine (partsOf_pos x w hx hf h0).mono ?_
    rintro e w' ⟨m, E, hP, hE, rfl, hb⟩
    refine ⟨sg x, m, E, ?_, hP.lt, hE, rfl, hb⟩
    rw [hP.eq]; rfl
theorem rdd_lt (neg : Bool) (M : Nat) (E : Int) : rdd neg M E < 2 ^ 64 := by
  unfold rdd
  split
  · decide
  · exact mk_lt _ (min_INF_lt _)

/-- the parts of three numbers in memory -/
structure Cells (W : World) (g7 g8 g9 : Nat) (na nb nc : Bool) (ma mb mc : Nat) (ea eb ec : Int) : Prop where
  a0 : W.cell? ⟨g7, 0, none⟩ = some (.bool na)
  a1 : W.cell? ⟨g7, 1, none⟩ = some (.int .u64 (ma : Int))
  a2 : W.cell? ⟨g7, 2, none⟩ = some (.int .i64 ea)
  b0 : W.cell? ⟨g8, 0, none⟩ = some (.bool nb)
  b1 : W.cell? ⟨g8, 1, none⟩ = some (.int .u64 (mb : Int))
  b2 : W.cell? ⟨g8, 2, none⟩ = some (.int .i64 eb)
  c0 : W.cell? ⟨g9, 0, none⟩ = some (.bool nc)
  c1 : W.cell? ⟨g9, 1, none⟩ = some (.int .u64 (mc : Int))
  c2 : W.cell? ⟨g9, 2, none⟩ = some (.int .i64 ec)
  l7 : g7 < W.heap.size
  l8 : g8 < W.heap.size
  l9 : g9 < W.heap.size
theorem Cells.below {W W' : World} {g7 g8 g9 : Nat} {na nb nc : Bool} {ma mb mc : Nat} {ea eb ec : Int} (h : Cells W g7 g8 g9 na nb nc ma mb mc ea eb ec) (hb : Below W.heap.size W W') : Cells W' g7 g8 g9 na nb nc ma mb mc ea eb ec :=
  ⟨(hb.cell (p := ⟨g7, 0, none⟩) h.l7).trans h.a0, (hb.cell (p := ⟨g7, 1, none⟩) h.l7).trans h.a1, (hb.cell (p := ⟨g7, 2, none⟩) h.l7).trans h.a2,
   (hb.cell (p := ⟨g8, 0, none⟩) h.l8).trans h.b0, (hb.cell (p := ⟨g8, 1, none⟩) h.l8).trans h.b1, (hb.cell (p := ⟨g8, 2, none⟩) h.l8).trans h.b2,
   (hb.cell (p := ⟨g9, 0, none⟩) h.l9).trans h.c0, (hb.cell (p := ⟨g9, 1, none⟩) h.l9).trans h.c1, (hb.cell (p := ⟨g9, 2, none⟩) h.l9).trans h.c2,
   Nat.lt_of_lt_of_le h.l7 hb.size, Nat.lt_of_lt_of_le h.l8 hb.size, Nat.lt_of_lt_of_le h.l9 hb.size⟩
theorem cells3 (w : World) (na nb nc : Bool) (ma mb mc : Nat) (ea eb ec : Int) (t : TypeId) : Cells (((w.alloc (.cells #[.bool na, .int .u64 (ma : Int), .int .i64 ea] t)).alloc (.cells #[.bool nb, .int .u64 (mb : Int), .int .i64 eb] t)).alloc (.cells #[.bool nc, .int .u64 (mc : Int), .int .i64 ec] t)) w.heap.size (w.heap.size + 1) (w.heap.size + 1 + 1) na nb nc ma mb mc ea eb ec := by
  have a : ∀ i, (((w.alloc (.cells #[.bool na, .int .u64 (ma : Int), .int .i64 ea] t)).alloc (.cells #[.bool nb, .int .u64 (mb : Int), .int .i64 eb] t)).alloc (.cells #[.bool nc, .int .u64 (mc : Int), .int .i64 ec] t)).cell? ⟨w.heap.size, i, none⟩ = #[Value.bool na, .int .u64 (ma : Int), .int .i64 ea][i]? := fun i => by
    rw [World.cell?_alloc_past _ _ _ (by simp; omega), World.cell?_alloc_past _ _ _ (by simp), World.cell?_alloc_at _ _ _ _ rfl]
  have b : ∀ i, (((w.alloc (.cells #[.bool na, .int .u64 (ma : Int), .int .i64 ea] t)).alloc (.cells #[.bool nb, .int .u64 (mb : Int), .int .i64 eb] t)).alloc (.cells #[.bool nc, .int .u64 (mc : Int), .int .i64 ec] t)).cell? ⟨w.heap.size + 1, i, none⟩ = #[Value.bool nb, .int .u64 (mb : Int), .int .i64 eb][i]? := fun i => by
    rw [World.cell?_alloc_past _ _ _ (by simp), World.cell?_alloc_at _ _ _ _ (by simp)]
  have c : ∀ i, (((w.alloc (.cells #[.bool na, .int .u64 (ma : Int), .int .i64 ea] t)).alloc (.cells #[.bool nb, .int .u64 (mb : Int), .int .i64 eb] t)).alloc (.cells #[.bool nc, .int .u64 (mc : Int), .int .i64 ec] t)).cell? ⟨w.heap.size + 1 + 1, i, none⟩ = #[Value.bool nc, .int .u64 (mc : Int), .int .i64 ec][i]? := fun i => by
    rw [World.cell?_alloc_at _ _ _ _ (by simp)]
  exact ⟨a 0, a 1, a 2, b 0, b 1, b 2, c 0, c 1, c 2, by simp <;> omega, by simp <;> omega, by simp⟩
theorem natTwo (m : Nat) (w : World) (hm : m < 18446744073709551616) :
    Calls Try.prog 33 #[.int .u64 (m : Int)] w fun e w' => ∃ A c, e = .returned (.slice A 2 c) ∧ NatIn w' A 2 (w2 m) m ∧ Below w.heap.size w w' := by
  refine (naturalOf_any m w hm).mono ?_
  rintro e w' ⟨A, c, rfl, _, o, b⟩
  exact ⟨A, c, rfl, ⟨rfl, Rd.of_own o, W32_w2 hm, by decide, nv_w2 m⟩, b⟩
theorem NatIn.of_row {w0 w : World} {A : Option Addr} {c m : Nat} {t : TypeId} (hm : m < 18446744073709551616) (h : w.ownsRow w0.heap.size t 1 (.slice A (ul (w2 m)).length c) (ul (w2 m)).length (ul (w2 m))) : NatIn w A 2 (w2 m) m :=
  ⟨rfl, Rd.of_own h, W32_w2 hm, by decide, nv_w2 m⟩
theorem NatIn.of_nat {w0 w : World} {A : Option Addr} {c N : Nat} {t : TypeId} {ws : List Nat} (h1 : W32 ws) (h2 : nv ws = N) (h3 : ws.length ≤ 10000) (h : w.ownsRow w0.heap.size t 1 (.slice A ws.length c) ws.length (ul ws)) : NatIn w A ws.length ws N :=
  ⟨rfl, own_rdU h, h1, h3, h2⟩
theorem NatIn.bl {w : World} {A : Option Addr} {n : Nat} {ws : List Nat} {N : Nat} (h : NatIn w A n ws N) : bl N ≤ 32 * n := by
  have := nv_lt h.words
  rw [h.value, h.len] at this
  exact bl_le this
theorem alloc3 (w : World) (o1 o2 o3 : Obj) : Below w.heap.size w (((w.alloc o1).alloc o2).alloc o3) := by
  have h1 : Below w.heap.size w (w.alloc o1) := (Below.refl _ _).alloc (Nat.le_refl _) _
  have h2 := h1.alloc h1.size o2
  exact h2.alloc h2.size o3

set_option maxRecDepth 100000 in
set_option maxHeartbeats 6400000 in
theorem specFMA_fin (x y z : Nat) (w : World) (hx : x < 2 ^ 64) (hy : y < 2 ^ 64) (hz : z < 2 ^ 64) (fx : rg x < INF) (fy : rg y < INF) (fz : rg z < INF) :
    Calls Try.prog 31 #[.float .f64 x, .float .f64 y, .float .f64 z] w (FsGives (fmv (vl x) (vl y) (vl z)) w) := by
  have F1 := Lib.hid (fun W : World => specFinite_yes x W fx)
  have F2 := Lib.hid (fun W : World => specFinite_yes y W fy)
  have F3 := Lib.hid (fun W : World => specFinite_yes z W fz)
  have P1 := Lib.hid (fun W : World => partsOf_sI x W hx fx)
  have P2 := Lib.hid (fun W : World => partsOf_sI y W hy fy)
  have P3 := Lib.hid (fun W : World => partsOf_sI z W hz fz)
  have hres : Hid (fmv (vl x) (vl y) (vl z) = rnd (fv x * fv y + fv z * (U : Int)) e0) := by
    show _ = _
    rw [vl_fin fx, vl_fin fy, vl_fin fz]; rfl
  clear hx hy hz fx fy fz
  go_enter Try.func31, Try.ntmps31
  go_wp2_with (go_at_call 19; first | (((with_reducible refine (F1.out _).mono ?_)); rintro e' w' ⟨rfl, rfl⟩) | (((with_reducible refine (F2.out _).mono ?_)); rintro e' w' ⟨rfl, rfl⟩) | (((with_reducible refine (F3.out _).mono ?_)); rintro e' w' ⟨rfl, rfl⟩))
  ((with_reducible refine (P1.out _).mono ?_); rintro e' w1 ⟨na, ma, Ea, u1, m1, E1, rfl, b1⟩)
  go_wp2_with fail
  ((with_reducible refine (P2.out _).mono ?_); rintro e' w2 ⟨nb, mb, Eb, u2, m2, E2, rfl, b2⟩)
  go_wp2_with fail
  ((with_reducible refine (P3.out _).mono ?_); rintro e' w3 ⟨nc, mc, Ec, u3, m3, E3, rfl, b3⟩)
  have hb3 : Below w.heap.size w w3 := (b1.trans (b2.mono b1.size)).trans (b3.mono (Nat.le_trans b1.size b2.size))
  have U1 := Lib.hid u1
  have U2 := Lib.hid u2
  have U3 := Lib.hid u3
  clear b1 b2 b3 u1 u2 u3 P1 P2 P3 F1 F2 F3
  go_wp2_with fail
  obtain ⟨W, hW⟩ : ∃ W, W = (((w3.alloc (.cells #[.bool na, .int .u64 (ma : Int), .int .i64 ((Ea : Int) - 1074)] 47)).alloc (.cells #[.bool nb, .int .u64 (mb : Int), .int .i64 ((Eb : Int) - 1074)] 47)).alloc (.cells #[.bool nc, .int .u64 (mc : Int), .int .i64 ((Ec : Int) - 1074)] 47)) := ⟨_, rfl⟩
  have hC : Cells W w3.heap.size (w3.heap.size + 1) (w3.heap.size + 1 + 1) na nb nc ma mb mc ((Ea : Int) - 1074) ((Eb : Int) - 1074) ((Ec : Int) - 1074) := by
    rw [hW]; exact cells3 w3 _ _ _ _ _ _ _ _ _ _
  have hbW : Below w.heap.size w W := by
    rw [hW]; exact hb3.trans ((alloc3 w3 _ _ _).mono hb3.size)
  rw [← hW]
  clear hW hb3
  generalize w3.heap.size = g at *
  obtain ⟨g8, hg8⟩ : ∃ g8, g + 1 = g8 := ⟨_, rfl⟩
  obtain ⟨g9, hg9⟩ : ∃ g9, g8 + 1 = g9 := ⟨_, rfl⟩
  rw [hg8, hg9] at hC
  rw [hg8, hg9]
  clear hg8 hg9
  have hma : ma < 18446744073709551616 := by omega
  have hmb : mb < 18446744073709551616 := by omega
  have hmc : mc < 18446744073709551616 := by omega
  have q0 : Below W.heap.size W W.drew := (Qt.refl W).drew.below _
  have C0 := hC.below q0
  clear hC
  go_region_held3 (fun w' => w'.cell? ⟨g, 1, none⟩ = some (.int .u64 (ma : Int)) ∧ w'.cell? ⟨g8, 1, none⟩ = some (.int .u64 (mb : Int)) ∧ w'.cell? ⟨g9, 1, none⟩ = some (.int .u64 (mc : Int))) (first | exact ⟨C0.a1, C0.b1, C0.c1⟩ | exact ⟨C1.a1, C1.b1, C1.c1⟩ | exact ⟨C2.a1, C2.b1, C2.c1⟩ | exact ⟨C3.a1, C3.b1, C3.c1⟩ | exact ⟨C4.a1, C4.b1, C4.c1⟩)
    (first | (go_at_call 33; first | ((with_reducible refine (natTwo ma _ hma).mono ?_); rintro e' w4 ⟨A4, c4, rfl, N4, b4⟩; have C1 := C0.below b4) | ((with_reducible refine (natTwo mb _ hmb).mono ?_); rintro e' w5 ⟨A5, c5, rfl, N5, b5⟩; have N4 := N4.below b5; have C2 := C1.below b5) | ((with_reducible refine (natTwo mc _ hmc).mono ?_); rintro e' w7 ⟨A7, c7, rfl, N7, b7⟩; have N6 := N6.below b7; have C4 := C3.below b7)) | (go_at_call 34; (with_reducible refine (times_any _ _ _ _ _ _ _ _ _ _ _ N4 N5 (by decide) (by decide)).mono ?_); rintro e' w6 ⟨ws6, A6, c6, rfl, h61, h62, h63, o6, b6⟩; have N6 := NatIn.of_nat h61 h62 (by omega) o6; have C3 := C2.below b6; clear o6))
  have hb7 : Below w.heap.size w w7 := ((((hbW.trans (q0.mono hbW.size)).trans (b4.mono hbW.size)).trans (b5.mono (Nat.le_trans hbW.size b4.size))).trans (b6.mono (Nat.le_trans (Nat.le_trans hbW.size b4.size) b5.size))).trans (b7.mono (Nat.le_trans (Nat.le_trans (Nat.le_trans hbW.size b4.size) b5.size) b6.size))
  obtain ⟨n6, hn6⟩ : ∃ n6, ws6.length = n6 := ⟨_, rfl⟩
  rw [hn6] at N6 h63 ⊢
  clear C0 C1 C2 C3 N4 N5 hbW q0 b4 b5 b6 b7 h61 h62 hn6 hma hmb hmc
  obtain ⟨ea, hea⟩ : ∃ ea, (Ea : Int) - 1074 = ea := ⟨_, rfl⟩
  obtain ⟨eb, heb⟩ : ∃ eb, (Eb : Int) - 1074 = eb := ⟨_, rfl⟩
  obtain ⟨ec, hec⟩ : ∃ ec, (Ec : Int) - 1074 = ec := ⟨_, rfl⟩
  rw [hea, heb, hec] at C4
  obtain ⟨pe, hpe⟩ : ∃ pe, ea + eb = pe := ⟨_, rfl⟩
  have q1 : Below w7.heap.size w7 w7.drew := (Qt.refl w7).drew.below _
  have C5 := C4.below q1
  have N6 := N6.below q1
  have N7 := N7.below q1
  have hb8 : Below w.heap.size w w7.drew := hb7.trans (q1.mono hb7.size)
  clear C4 q1 hb7
  have v1 : -1074 ≤ ea ∧ ea ≤ 2098 := by omega
  have v2 : -1074 ≤ eb ∧ eb ≤ 2098 := by omega
  have v3 : -1074 ≤ ec ∧ ec ≤ 2098 := by omega
  have k1 := C5.a0
  have k2 := C5.a2
  have k3 := C5.b0
  have k4 := C5.b2
  have k5 := C5.c2
  have hwp : IntKind.i64.wrap pe = pe := IntWalk.i64_in _ (by omega)
  have PE := Lib.hid hpe
  go_wp2_with fail
  go_region_held3 (fun w' => w'.cell? ⟨g, 0, none⟩ = some (.bool na) ∧ w'.cell? ⟨g, 2, none⟩ = some (.int .i64 ea) ∧ w'.cell? ⟨g8, 0, none⟩ = some (.bool nb) ∧ w'.cell? ⟨g8, 2, none⟩ = some (.int .i64 eb) ∧ w'.cell? ⟨g9, 2, none⟩ = some (.int .i64 ec)) (exact ⟨k1, k2, k3, k4, k5⟩) (fail)
  try rw [hwp]
  obtain ⟨e, he⟩ : ∃ e, (if ec < pe then ec else pe) = e := ⟨_, rfl⟩
  rw [he]
  have he1 : e ≤ ec ∧ e ≤ pe ∧ (e = ec ∨ e = pe) := by rw [← he]; split <;> omega
  obtain ⟨ng, hng⟩ : ∃ ng, (!(na == nb)) = ng := ⟨_, rfl⟩
  rw [hng]
  have hxor : (na ^^ nb) = ng := by rw [← hng]; cases na <;> cases nb <;> rfl
  clear he hng hwp k1 k3 k2 k4 k5
  obtain ⟨i, hi⟩ : ∃ i : Nat, pe - e = (i : Int) := ⟨(pe - e).toNat, by omega⟩
  obtain ⟨j, hj⟩ : ∃ j : Nat, ec - e = (j : Int) := ⟨(ec - e).toNat, by omega⟩
  obtain ⟨a, ha⟩ : ∃ a : Nat, e + 2148 = (a : Int) := ⟨(e + 2148).toNat, by omega⟩
  have he0 := e0_eq
  have HV := Lib.hid (fma_val (i := i) (j := j) (a := a) U1.out U2.out U3.out (by omega) (by omega))
  rw [hxor] at HV
  have hil : i ≤ 20000 := by omega
  have hjl : j ≤ 20000 := by omega
  have hel : -2148 ≤ e ∧ e ≤ 2098 := by omega
  have hea2 : Hid ((a : Int) = e + 1074 + e0) := by show _ = _; omega
  clear hxor U1 U2 U3 ha he0 hea heb hec he1 m1 m2 m3 E1 E2 E3
  generalize w7.drew = W8 at *
  have q1 : Below W8.heap.size W8 W8.drew := (Qt.refl W8).drew.below _
  have C6 := C5.below q1
  have N6 := N6.below q1
  have N7 := N7.below q1
  have hb9 : Below w.heap.size w W8.drew := hb8.trans (q1.mono hb8.size)
  clear C5 q1 hb8
  have hpe2 : ea + eb = pe := PE.out
  have hwp : IntKind.i64.wrap pe = pe := IntWalk.i64_in _ (by omega)
  have hwi : IntKind.i64.wrap (i : Int) = (i : Int) := IntWalk.i64_in _ (by omega)
  have hwj : IntKind.i64.wrap (j : Int) = (j : Int) := IntWalk.i64_in _ (by omega)
  have i20 : i / 32 ≤ 625 := by omega
  have j20 : j / 32 ≤ 625 := by omega
  go_wp2_with fail
  go_region_held3 (fun w' => w'.cell? ⟨g, 2, none⟩ = some (.int .i64 ea) ∧ w'.cell? ⟨g8, 2, none⟩ = some (.int .i64 eb) ∧ w'.cell? ⟨g9, 2, none⟩ = some (.int .i64 ec)) (first | exact ⟨C6.a2, C6.b2, C6.c2⟩ | exact ⟨C7.a2, C7.b2, C7.c2⟩ | exact ⟨C8.a2, C8.b2, C8.c2⟩)
    (first | (go_at_call 35; first | ((with_reducible refine (left_any _ _ _ _ _ i _ N6 (by omega) hil).mono ?_); rintro e' w10 ⟨ws10, A10, c10, rfl, h1, h2, h3, o10, b10⟩; have N10 := NatIn.of_nat h1 h2 (by omega) o10; have N7 := N7.below b10; have C7 := C6.below b10; clear o10 h1 h2) | ((with_reducible refine (left_any _ _ _ _ _ j _ N7 (by omega) hjl).mono ?_); rintro e' w11 ⟨ws11, A11, c11, rfl, h4, h5, h6, o11, b11⟩; have N11 := NatIn.of_nat h4 h5 (by omega) o11; have N10 := N10.below b11; have C8 := C7.below b11; clear o11 h4 h5)))
  have hb11 : Below w.heap.size w w11 := (hb9.trans (b10.mono hb9.size)).trans (b11.mono (Nat.le_trans hb9.size b10.size))
  obtain ⟨n10, hn10⟩ : ∃ n, ws10.length = n := ⟨_, rfl⟩
  obtain ⟨n11, hn11⟩ : ∃ n, ws11.length = n := ⟨_, rfl⟩
  rw [hn10] at N10 h3 ⊢
  rw [hn11] at N11 h6 ⊢
  clear hwp hwi hwj hpe2 hn10 hn11 C6 C7 hb9 b10 b11 N6 N7 hi hj
  generalize ma * mb * 2 ^ i = P at *
  generalize mc * 2 ^ j = C at *
  have k0 := C8.c0
  have B10 := N10.bl
  have B11 := N11.bl
  obtain ⟨bq, hbq⟩ : ∃ b, (ng == nc) = b := ⟨_, rfl⟩
  cases bq
  · obtain ⟨bl', hbl⟩ : ∃ b, decide (P < C) = b := ⟨_, rfl⟩
    have HLs := Lib.hid (less_any w11 A10 A11 n10 c10 n11 c11 P C ws10 ws11 N10 N11)
    rw [hbl] at HLs
    cases bl'
    · have hle : C ≤ P := by have := of_decide_eq_false hbl; omega
      have HM := Lib.hid (minus_any w11 A10 A11 n10 c10 n11 c11 P C ws10 ws11 N10 N11 hle)
      have hfin : Hid (vl (rdd ng (P - C) (e + 1074)) = fmv (vl x) (vl y) (vl z)) := by
        show _ = _
        rw [hres.out, HV.out, sI_sub' hbq hle, vl_rdd _ _ _ a hea2.out]
      clear hbl HV hres
      go_wp2_with (go_at_call 38; (with_reducible refine HLs.out.mono ?_); rintro e' w' ⟨rfl, rfl⟩)
      ((with_reducible refine HM.out.mono ?_); rintro e' w12 ⟨ws12, A12, c12, rfl, h1, h2, h7, o12, b12⟩)
      have N12 := NatIn.of_nat h1 h2 (by omega) o12
      have B12 := N12.bl
      have HR := Lib.hid (rounded_any ng ws12 A12 ws12.length c12 (P - C) e w12 N12 (by omega) (by omega) (by omega))
      clear o12 h1 h2 HM HLs N12
      go_wp2_with fail
      ((with_reducible refine HR.out.mono ?_); rintro e' w13 ⟨rfl, b13⟩)
      go_wp2
      go_ret
      exact ⟨_, rfl, hfin.out, rdd_lt _ _ _, (hb11.trans (b12.mono hb11.size)).trans (b13.mono (Nat.le_trans hb11.size b12.size))⟩
    · have hle : P ≤ C := by have := of_decide_eq_true hbl; omega
      have hfin : Hid (vl (rdd nc (C - P) (e + 1074)) = fmv (vl x) (vl y) (vl z)) := by
        show _ = _
        rw [hres.out, HV.out, sI_sub hbq hle, vl_rdd _ _ _ a hea2.out]
      have q1 : Below w11.heap.size w11 w11.drew := (Qt.refl w11).drew.below _
      have C9 := C8.below q1
      have N10' := N10.below q1
      have N11' := N11.below q1
      have hb12 := hb11.trans (q1.mono hb11.size)
      clear hbl HV hres
      go_wp2_with (go_at_call 38; (with_reducible refine HLs.out.mono ?_); rintro e' w' ⟨rfl, rfl⟩)
      clear HLs N10 N11 C8 k0 hb11 q1
      go_region_held3 (fun w' => w'.cell? ⟨g9, 0, none⟩ = some (.bool nc)) (first | exact C9.c0 | exact C10.c0 | exact C11.c0)
        (first | (go_at_call 39; (with_reducible refine (minus_any _ _ _ _ _ _ _ _ _ _ _ N11' N10' hle).mono ?_); rintro e' w12 ⟨ws12, A12, c12, rfl, h1, h2, h7, o12, b12⟩; have N12 := NatIn.of_nat h1 h2 (by omega) o12; have B12 := N12.bl; have C10 := C9.below b12; clear o12 h1 h2) | (go_at_call 36; (with_reducible refine (rounded_any _ _ _ _ _ _ _ _ N12 (by omega) (by omega) (by omega)).mono ?_); rintro e' w13 ⟨rfl, b13⟩; have C11 := C10.below b13))
      go_wp2
      go_ret
      exact ⟨_, rfl, hfin.out, rdd_lt _ _ _, (hb12.trans (b12.mono hb12.size)).trans (b13.mono (Nat.le_trans hb12.size b12.size))⟩
  · have hnn : ng = nc := by cases ng <;> cases nc <;> first | rfl | cases hbq
    subst hnn
    have HP := Lib.hid (plus_any w11 A10 A11 n10 c10 n11 c11 P C ws10 ws11 N10 N11)
    have hfin : Hid (vl (rdd ng (P + C) (e + 1074)) = fmv (vl x) (vl y) (vl z)) := by
      show _ = _
      rw [hres.out, HV.out, sI_add, vl_rdd _ _ _ a hea2.out]
    clear HV hres
    go_wp2_with fail
    ((with_reducible refine HP.out.mono ?_); rintro e' w12 ⟨ws12, A12, c12, rfl, h1, h2, h7, o12, b12⟩)
    have N12 := NatIn.of_nat h1 h2 (by omega) o12
    have B12 := N12.bl
    have HR := Lib.hid (rounded_any ng ws12 A12 ws12.length c12 (P + C) e w12 N12 (by omega) (by omega) (by omega))
    clear o12 h1 h2 HP N12
    go_wp2_with fail
    ((with_reducible refine HR.out.mono ?_); rintro e' w13 ⟨rfl, b13⟩)
    go_wp2
    go_ret
    exact ⟨_, rfl, hfin.out, rdd_lt _ _ _, (hb11.trans (b12.mono hb11.size)).trans (b13.mono (Nat.le_trans hb11.size b12.size))⟩

theorem fmv_left {x y z : Nat} (h : INF ≤ rg x ∨ INF ≤ rg y) : fmv (vl x) (vl y) (vl z) = addv (mulv (vl x) (vl y)) (vl z) := by
  rcases vl_cases x with ⟨a, e⟩ | ⟨a, e⟩ | ⟨a, e⟩ <;> rcases vl_cases y with ⟨b, e'⟩ | ⟨b, e'⟩ | ⟨b, e'⟩ <;> rw [e, e'] <;> first | rfl | (exfalso; omega)
theorem fmv_right {x y z : Nat} (hx : rg x < INF) (hy : rg y < INF) (hz : INF ≤ rg z) : fmv (vl x) (vl y) (vl z) = vl z := by
  rw [vl_fin hx, vl_fin hy]
  rcases vl_cases z with ⟨a, e⟩ | ⟨a, e⟩ | ⟨a, e⟩
  · rw [e]; rfl
  · rw [e]; rfl
  · omega

set_option maxHeartbeats 1600000 in
theorem specFMA_inf (x y z : Nat) (w : World) (h : INF ≤ rg x ∨ INF ≤ rg y) :
    Calls Try.prog 31 #[.float .f64 x, .float .f64 y, .float .f64 z] w (FsGives (fmv (vl x) (vl y) (vl z)) w) := by
  have hv := Lib.hid (fmv_left (z := z) h)
  by_cases fx : rg x < INF
  · have fy : INF ≤ rg y := by omega
    have F1 := Lib.hid (fun W : World => specFinite_yes x W fx)
    have F2 := Lib.hid (fun W : World => specFinite_no y W fy)
    clear h fx fy
    go_enter Try.func31, Try.ntmps31
    go_wp2_with (go_at_call 19; (with_reducible refine (F1.out _).mono ?_); rintro e' w' ⟨rfl, rfl⟩)
    ((with_reducible refine (F2.out _).mono ?_); rintro e' w1 ⟨rfl, q1⟩)
    obtain ⟨g, g', hrun, hans⟩ := mul_ans x y
    have r1 := hrun w1
    have v1 := hans.val w1
    have q2 := hans.qt w1
    clear hrun hans F1 F2
    generalize g w1 = p at *
    generalize g' w1 = w2 at *
    obtain ⟨f, f', frun, fans⟩ := add_ans p z
    have r2 := frun w2
    have v2 := Lib.hid ((fans.val w2).trans (by rw [v1, ← hv.out]))
    have l2 := fans.lt w2
    have q3 := fans.qt w2
    clear frun fans
    generalize f w2 = t at *
    generalize f' w2 = w3 at *
    clear v1
    go_wp2
    go_ret
    exact ⟨t, rfl, v2.out, l2, ((q1.trans q2).trans q3).below _⟩
  · have F1 := Lib.hid (fun W : World => specFinite_no x W (by omega))
    clear h fx
    go_enter Try.func31, Try.ntmps31
    go_wp2_with fail
    ((with_reducible refine (F1.out _).mono ?_); rintro e' w1 ⟨rfl, q1⟩)
    obtain ⟨g, g', hrun, hans⟩ := mul_ans x y
    have r1 := hrun w1
    have v1 := hans.val w1
    have q2 := hans.qt w1
    clear hrun hans F1
    generalize g w1 = p at *
    generalize g' w1 = w2 at *
    obtain ⟨f, f', frun, fans⟩ := add_ans p z
    have r2 := frun w2
    have v2 := Lib.hid ((fans.val w2).trans (by rw [v1, ← hv.out]))
    have l2 := fans.lt w2
    have q3 := fans.qt w2
    clear frun fans
    generalize f w2 = t at *
    generalize f' w2 = w3 at *
    clear v1
    go_wp2
    go_ret
    exact ⟨t, rfl, v2.out, l2, ((q1.trans q2).trans q3).below _⟩

set_option maxHeartbeats 800000 in
theorem specFMA_z (x y z : Nat) (w : World) (hz : z < 2 ^ 64) (fx : rg x < INF) (fy : rg y < INF) (fz : INF ≤ rg z) :
    Calls Try.prog 31 #[.float .f64 x, .float .f64 y, .float .f64 z] w (FsGives (fmv (vl x) (vl y) (vl z)) w) := by
  have F1 := Lib.hid (fun W : World => specFinite_yes x W fx)
  have F2 := Lib.hid (fun W : World => specFinite_yes y W fy)
  have F3 := Lib.hid (fun W : World => specFinite_no z W fz)
  have hv := Lib.hid (fmv_right fx fy fz)
  clear fx fy fz
  go_enter Try.func31, Try.ntmps31
  go_wp2_with (go_at_call 19; first | (((with_reducible refine (F1.out _).mono ?_)); rintro e' w' ⟨rfl, rfl⟩) | (((with_reducible refine (F2.out _).mono ?_)); rintro e' w' ⟨rfl, rfl⟩))
  ((with_reducible refine (F3.out _).mono ?_); rintro e' w1 ⟨rfl, q1⟩)
  go_wp2
  go_ret
  exact ⟨z, rfl, hv.out.symm, hz, q1.below _⟩
/-- one rounding -/
theorem specFMA_any (x y z : Nat) (w : World) (hx : x < 2 ^ 64) (hy : y < 2 ^ 64) (hz : z < 2 ^ 64) :
    Calls Try.prog 31 #[.float .f64 x, .float .f64 y, .float .f64 z] w (FsGives (fmv (vl x) (vl y) (vl z)) w) := by
  by_cases fx : rg x < INF
  · by_cases fy : rg y < INF
    · by_cases fz : rg z < INF
      · exact specFMA_fin x y z w hx hy hz fx fy fz
      · exact specFMA_z x y z w hz fx fy (by omega)
    · exact specFMA_inf x y z w (Or.inr (by omega))
  · exact specFMA_inf x y z w (Or.inl (by omega))
end Go.Proofs.Ytbhallblmphlmaa

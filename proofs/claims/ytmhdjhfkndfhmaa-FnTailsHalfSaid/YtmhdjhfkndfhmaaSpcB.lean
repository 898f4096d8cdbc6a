/-
  Contract of the reference's partsOf.
-/
import Derived.Test.YtmhdjhfkndfhmaaSpcA
import Derived.Test.YtmhdjhfkndfhmaaFlq
namespace Go.Proofs.Ytmhdjhfkndfhmaa
open Go.RowKit Flt

theorem abs_zero {b : Nat} (h : key b = 0) : absW b = b := by unfold absW; rw [if_neg (by omega)]

theorem abs_rg {b : Nat} (hb : b < 2 ^ 64) : rg b ≠ 0 → absW b = rg b := by
  intro h0
  unfold absW
  have hm := mk_of hb
  unfold key
  have hl := rg_lt b
  cases hs : sg b
  · rw [hs] at hm
    simp only [Bool.false_eq_true, if_false]
    rw [if_neg (by omega)]; exact hm.symm
  · simp only [if_true]
    rw [if_pos (by omega)]; rfl

theorem toU64_run {b : Nat} {n : Int} (h : floatToIntVal .f64 b .u64 = some n) (w : World) : (convert 22 49 (.float .f64 b)).run Try.prog w = .ok (.int .u64 n) w :=
  run_convert_float_int w _ _ .f64 .u64 b n (by rw [Try.underlying22]; rfl) Try.underlying49 h

theorem wr_eq {w : World} {o : Obj} {neg : Bool} {a b : Int} {t : TypeId} (h : a = b) : (w.alloc o).alloc (.cells #[.bool neg, .int .u64 0, .int .i64 a] t) = (w.alloc o).alloc (.cells #[.bool neg, .int .u64 0, .int .i64 b] t) := by rw [h]

theorem partsZero_build (w : World) : (Instr.build 57 #[(0, .bool false)]).run Try.prog w = .ok (.agg #[.bool false, .int .u64 0, .int .i64 0]) w := run_build w 57 _ _ (by kernel_rfl)

theorem build_neg (neg : Bool) (w : World) : (Instr.build 57 #[(0, .bool neg)]).run Try.prog w = .ok (.agg #[.bool neg, .int .u64 0, .int .i64 0]) w := by
  cases neg
  · exact run_build w 57 _ _ (by kernel_rfl)
  · exact run_build w 57 _ _ (by kernel_rfl)

set_option maxHeartbeats 400000 in
theorem partsOf_zero (b : Nat) (w : World) (hb : b < 2 ^ 64) (h0 : rg b = 0) :
    Calls Try.prog 58 #[.float .f64 b] w fun e w' => e = .returned (.agg #[.bool false, .int .u64 0, .int .i64 0]) ∧ Below w.heap.size w w' := by
  have hk : key b = 0 := by have := key_natAbs b; omega
  have hn : rg b ≤ INF := by rw [h0]; exact Nat.zero_le _
  have h1 := c_lt hn rg_zero_le
  have h2 := c_eq hn rg_zero_le
  rw [key_zero, hk] at h1 h2
  have hA := Lib.hid (fun W : World => specAbs_any b W hb (nan_false.2 hn))
  rw [abs_zero hk] at hA
  have hbd := build_neg
  clear h0 hk hn
  go_enter Try.func58, Try.ntmps58
  go_wp2_with (go_at_call 15; ((with_reducible refine (hA.out _).mono ?_)); rintro e w' ⟨rfl, rfl⟩)
  refine bodyPost_ret (v := .agg #[.bool false, .int .u64 0, .int .i64 0]) (by simp [results, Try.results58, go_sem]) rfl ⟨rfl, ?_⟩
  repeat (first | exact Below.refl _ _ | refine Below.alloc ?_ (by simp) _ | refine Below.setCell ?_ (by simp) _)

set_option maxHeartbeats 1600000 in
theorem partsOf_pos (b : Nat) (w : World) (hb : b < 2 ^ 64) (hf : rg b < INF) (h0 : 0 < rg b) :
    Calls Try.prog 58 #[.float .f64 b] w fun e w' => ∃ m E : Nat, Parts (rv (rg b)) m E ∧ E ≤ 3172 ∧ e = .returned (.agg #[.bool (sg b), .int .u64 (m : Int), .int .i64 ((E : Int) - 1074)]) ∧ Below w.heap.size w w' := by
  obtain ⟨hS, hM⟩ := St.start hf h0
  have hn : rg b ≤ INF := Nat.le_of_lt hf
  have h1 := c_lt hn rg_zero_le
  rw [key_zero] at h1
  have hks : decide (key b < 0) = sg b := by
    unfold key; cases sg b
    · simp
    · simp; omega
  rw [hks] at h1
  have hA := Lib.hid (fun W : World => specAbs_any b W hb (nan_false.2 hn))
  rw [abs_rg hb (by omega)] at hA
  have h2 := eq_zero hS.rep hS.lt
  rw [wd_rv, decide_eq_false (by have := hS.pos; omega)] at h2
  have hw0 := wd_rv (rg b)
  have hbd := build_neg
  generalize rv (rg b) = n0 at *
  rw [← hw0] at hA h2
  generalize sg b = neg at *
  clear hw0 hks hn hf h0 hb
  go_enter Try.func58, Try.ntmps58
  go_wp2_with (go_at_call 15; ((with_reducible refine (hA.out _).mono ?_)); rintro e w' ⟨rfl, rfl⟩)
  go_loopg [0] n0 (fun n x wr => ∃ E : Nat, x = .float .f64 (wd n) ∧ St (n0 * U) n E ∧ wr = (w.alloc (.cells #[.bool false, .int .u64 0, .int .i64 0] 57)).alloc (.cells #[.bool neg, .int .u64 0, .int .i64 ((E : Int) - 1074)] 57))
  case atStart => exact ⟨e0, rfl, hS, by rw [e0_eq]; rfl⟩
  case round =>
    clear hS h2
    obtain ⟨E, rfl, hS, rfl⟩ := hrel
    have hE := hS.bound hM
    rcases hS.q64 with ⟨ht, n', hS', hlt, hq0⟩ | ht
    · have hq := run_f hq0
      have hlt' := Lib.hid hlt
      clear hq0 hS hlt
      generalize wd gk = bb at *
      go_wp2
      go_roundg n'
      case measure => exact hlt'.out
      case rel => exact ⟨E + 64, rfl, hS', wr_eq (by omega)⟩
    · go_wp2
      go_loopg [0] gk (fun n x wr => ∃ E : Nat, x = .float .f64 (wd n) ∧ St (n0 * U) n E ∧ wr = (w.alloc (.cells #[.bool false, .int .u64 0, .int .i64 0] 57)).alloc (.cells #[.bool neg, .int .u64 0, .int .i64 ((E : Int) - 1074)] 57))
      case atStart => exact ⟨E, rfl, hS, rfl⟩
      case round =>
        clear hS ht hE
        obtain ⟨E, rfl, hS, rfl⟩ := hrel
        have hE := hS.bound hM
        rcases hS.q1 with ⟨ht, n', hS', hlt, hq0⟩ | ⟨ht, hL⟩
        · have hq := run_f hq0
          have hlt' := Lib.hid hlt
          clear hq0 hS hlt
          generalize wd gk = bb at *
          go_wp2
          go_roundg n'
          case measure => exact hlt'.out
          case rel => exact ⟨E + 1, rfl, hS', wr_eq (by omega)⟩
        · go_wp2
          go_loopg [0] E (fun E x wr => ∃ n, x = .float .f64 (wd n) ∧ St (n0 * U) n E ∧ Lt2 n (51 + 1076) ∧ E ≤ 3172 ∧ wr = (w.alloc (.cells #[.bool false, .int .u64 0, .int .i64 0] 57)).alloc (.cells #[.bool neg, .int .u64 0, .int .i64 ((E : Int) - 1074)] 57))
          case atStart => exact ⟨gk, rfl, hS, hL, hE, rfl⟩
          case round =>
            clear hS ht hE hL
            obtain ⟨n, rfl, hS, hL, hE, rfl⟩ := hrel
            rcases hS.m64 with ⟨ht, hstep⟩ | ht
            · by_cases hk : 64 ≤ gk
              · obtain ⟨j, rfl⟩ : ∃ j, gk = j + 64 := ⟨gk - 64, by omega⟩
                obtain ⟨n', hS', hL', hq0⟩ := hstep j rfl
                have hq := run_f hq0
                clear hq0 hS hstep hL
                generalize wd n = bb at *
                rw [show (((j + 64 : Nat) : Int)) - 1074 = (j : Int) - 1010 by omega]
                go_wp2
                go_roundg j
                case measure => omega
                case rel => exact ⟨n', rfl, hS', hL', by omega, wr_eq (by omega)⟩
              · clear hstep
                go_wp2
                clear hk ht
                go_loopg [0] gk (fun E x wr => ∃ n, x = .float .f64 (wd n) ∧ St (n0 * U) n E ∧ Lt2 n (51 + 1076) ∧ E ≤ 3172 ∧ wr = (w.alloc (.cells #[.bool false, .int .u64 0, .int .i64 0] 57)).alloc (.cells #[.bool neg, .int .u64 0, .int .i64 ((E : Int) - 1074)] 57))
                case atStart => exact ⟨n, rfl, hS, hL, hE, rfl⟩
                case round =>
                  clear hS hL hE
                  obtain ⟨n, rfl, hS, hL, hE, rfl⟩ := hrel
                  rcases hS.m1 with ⟨ht, hstep⟩ | ⟨ht, hbig⟩
                  · rcases gk with _ | j
                    · obtain ⟨m, hP, hc0⟩ := hS.done hL (Or.inr rfl)
                      have hc := toU64_run hc0
                      clear hc0 hstep hS hL
                      generalize wd n = bb at *
                      go_wp2
                      refine bodyPost_ret (v := .agg #[.bool neg, .int .u64 (m : Int), .int .i64 (((0 : Nat) : Int) - 1074)]) (by simp [results, Try.results58, go_sem]) rfl ⟨m, 0, hP, by omega, rfl, ?_⟩
                      repeat (first | exact Below.refl _ _ | refine Below.alloc ?_ (by simp) _ | refine Below.setCell ?_ (by simp) _)
                    · obtain ⟨n', hS', hL', hq0⟩ := hstep j rfl
                      have hq := run_f hq0
                      clear hq0 hS hstep hL
                      generalize wd n = bb at *
                      rw [show (((j + 1 : Nat) : Int)) - 1074 = (j : Int) - 1073 by omega]
                      go_wp2
                      go_roundg j
                      case measure => omega
                      case rel => exact ⟨n', rfl, hS', hL', by omega, wr_eq (by omega)⟩
                  · obtain ⟨m, hP, hc0⟩ := hS.done hL (Or.inl hbig)
                    have hc := toU64_run hc0
                    clear hc0 hbig hS hL
                    generalize wd n = bb at *
                    go_wp2
                    refine bodyPost_ret (v := .agg #[.bool neg, .int .u64 (m : Int), .int .i64 ((gk : Int) - 1074)]) (by simp [results, Try.results58, go_sem]) rfl ⟨m, gk, hP, by omega, rfl, ?_⟩
                    repeat (first | exact Below.refl _ _ | refine Below.alloc ?_ (by simp) _ | refine Below.setCell ?_ (by simp) _)
            · go_wp2
              clear ht
              go_loopg [0] gk (fun E x wr => ∃ n, x = .float .f64 (wd n) ∧ St (n0 * U) n E ∧ Lt2 n (51 + 1076) ∧ E ≤ 3172 ∧ wr = (w.alloc (.cells #[.bool false, .int .u64 0, .int .i64 0] 57)).alloc (.cells #[.bool neg, .int .u64 0, .int .i64 ((E : Int) - 1074)] 57))
              case atStart => exact ⟨n, rfl, hS, hL, hE, rfl⟩
              case round =>
                clear hS hL hE
                obtain ⟨n, rfl, hS, hL, hE, rfl⟩ := hrel
                rcases hS.m1 with ⟨ht, hstep⟩ | ⟨ht, hbig⟩
                · rcases gk with _ | j
                  · obtain ⟨m, hP, hc0⟩ := hS.done hL (Or.inr rfl)
                    have hc := toU64_run hc0
                    clear hc0 hstep hS hL
                    generalize wd n = bb at *
                    go_wp2
                    refine bodyPost_ret (v := .agg #[.bool neg, .int .u64 (m : Int), .int .i64 (((0 : Nat) : Int) - 1074)]) (by simp [results, Try.results58, go_sem]) rfl ⟨m, 0, hP, by omega, rfl, ?_⟩
                    repeat (first | exact Below.refl _ _ | refine Below.alloc ?_ (by simp) _ | refine Below.setCell ?_ (by simp) _)
                  · obtain ⟨n', hS', hL', hq0⟩ := hstep j rfl
                    have hq := run_f hq0
                    clear hq0 hS hstep hL
                    generalize wd n = bb at *
                    rw [show (((j + 1 : Nat) : Int)) - 1074 = (j : Int) - 1073 by omega]
                    go_wp2
                    go_roundg j
                    case measure => omega
                    case rel => exact ⟨n', rfl, hS', hL', by omega, wr_eq (by omega)⟩
                · obtain ⟨m, hP, hc0⟩ := hS.done hL (Or.inl hbig)
                  have hc := toU64_run hc0
                  clear hc0 hbig hS hL
                  generalize wd n = bb at *
                  go_wp2
                  refine bodyPost_ret (v := .agg #[.bool neg, .int .u64 (m : Int), .int .i64 ((gk : Int) - 1074)]) (by simp [results, Try.results58, go_sem]) rfl ⟨m, gk, hP, by omega, rfl, ?_⟩
                  repeat (first | exact Below.refl _ _ | refine Below.alloc ?_ (by simp) _ | refine Below.setCell ?_ (by simp) _)

end Go.Proofs.Ytmhdjhfkndfhmaa

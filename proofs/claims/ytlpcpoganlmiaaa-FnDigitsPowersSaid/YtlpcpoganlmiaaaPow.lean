/-
  Contract of impl.Powers.
-/
import Derived.Test.YtlpcpoganlmiaaaLibD
import Derived.Test.YtlpcpoganlmiaaaFpw
import Derived.Test.YtlpcpoganlmiaaaDig
import Derived.Deep.LoopGhost
namespace Go.Proofs.Ytlpcpoganlmiaaa
open Go.RowKit Flt

theorem eq_zero_of3 {y : Nat} (h : rg y = 0) : (FloatKind.f64.format.order y 0 != some .eq) = false := by
  have hk : key y = 0 := by have := key_natAbs y; omega
  rw [c_ne (by rw [h]; exact Nat.zero_le _) rg_zero_le, key_zero, decide_eq_false (by omega)]
theorem ne_zero_of3 {y : Nat} (h : rg y ≠ 0) (h1 : rg y ≤ INF) : (FloatKind.f64.format.order y 0 != some .eq) = true := by
  have hk : key y ≠ 0 := by have := key_natAbs y; omega
  rw [c_ne h1 rg_zero_le, key_zero, decide_eq_true hk]
theorem lt_zero_sg3 {x : Nat} (h : rg x ≠ 0) (h1 : rg x ≤ INF) : (FloatKind.f64.format.order x 0 == some .lt) = sg x := by
  rw [c_lt h1 rg_zero_le, key_zero]
  unfold key
  cases sg x
  · rw [if_neg (by decide)]; exact decide_eq_false (by omega)
  · rw [if_pos rfl]; exact decide_eq_true (by omega)

/-- the exponents of a number of units -/
def pwI (D : List Nat) : List Int := D.map fun (j : Nat) => (j : Int) - 1074
theorem pwI_len (D : List Nat) : (pwI D).length = D.length := by simp [pwI]
theorem pwI_snoc (D : List Nat) (j : Nat) : il (pwI (D ++ [j])) = il (pwI D) ++ [Value.int .i64 ((j : Int) - 1074)] := by
  unfold pwI; rw [List.map_append, il_append]; rfl

/-- where the loop has come to -/
structure PwIt (s : Bool) (N n : Nat) (D : List Nat) (x : Nat) : Prop where
  st : PwSt s n x
  all : D ++ pws n = pws N
  rep : Rep N
theorem PwIt.len {s : Bool} {N n : Nat} {D : List Nat} {x : Nat} (h : PwIt s N n D x) : D.length ≤ 53 := by
  have h1 := pws_len h.rep
  rw [← h.all, List.length_append] at h1
  omega
/-- what a round is told -/
structure PwRound (s : Bool) (N n : Nat) (D : List Nat) (x y L : Nat) : Prop where
  ne : (FloatKind.f64.format.order x 0 != some .eq) = true
  neg : (FloatKind.f64.format.order x 0 == some .lt) = s
  fr : ∀ W : World, Calls Try.prog 43 #[.float .f64 x] W fun e' w' => e' = .returned (.tuple #[.float .f64 (mk (sg x) (frw (rv (rg x)))), .int .i64 ((L : Int) - 1073)]) ∧ W = w'
  ldx : ∀ W : World, Calls Try.prog 38 #[.float .f64 (mk s (1022 * 2 ^ 52)), .int .i64 ((L : Int) - 1073)] W fun e' w' => e' = .returned (.float .f64 (mk s (wd (2 ^ L)))) ∧ W = w'
  sub : floatBits .sub .f64 x (mk s (wd (2 ^ L))) = some y
  it : PwIt s N (n - 2 ^ L) (D ++ [L]) y
  lt : n - 2 ^ L < n
  bd : L < 3000
theorem PwIt.round {s : Bool} {N n : Nat} {D : List Nat} {x : Nat} (h : PwIt s N n D x) (h0 : n ≠ 0) : ∃ y L, PwRound s N n D x y L := by
  obtain ⟨y, h1, h2⟩ := h.st.step h0
  have hF : Fits n := by rw [← h.st.val]; exact fits_rv h.st.fin
  have hle := Nat.log2_self_le h0
  have hr : rg x ≠ 0 := by
    intro hz
    have := h.st.val
    rw [hz, rv_zero] at this
    exact h0 this.symm
  have hlt := h.st.fin
  have hb : n.log2 < 3000 := by
    have he := e0_eq
    have hl := hF.lt
    rw [TOP_eq] at hl
    have := (Nat.log2_lt h0).2 hl
    omega
  refine ⟨y, n.log2, ne_zero_of3 hr (by omega), ?_, fun W => ?_, fun W => ?_, h1, ⟨h2, ?_, h.rep⟩, sub_log2_lt h0, hb⟩
  · rw [lt_zero_sg3 hr (by omega), h.st.sign h0]
  · have := frexp_any x W h.st.lt hr h.st.fin
    rw [h.st.val] at this ⊢
    exact this
  · have := ldexp_any (Flt.mk s (1022 * 2 ^ 52)) ((n.log2 : Int) - 1073) W (mk_lt s (by decide)) (by omega) (by omega)
    rw [half_ld s (Nat.lt_of_le_of_lt hle hF.lt)] at this
    exact this
  · rw [List.append_assoc]
    have := h.all
    rw [pws_pos h0] at this
    exact this

set_option maxRecDepth 100000 in
set_option maxHeartbeats 800000 in
theorem powers_fin (x : Nat) (w : World) (hx : x < 2 ^ 64) (hf : rg x < INF) :
    Calls Try.prog 26 #[.float .f64 x] w (NewRow 3 w.heap.size w (il (pwI (pws (rv (rg x)))))) := by
  obtain ⟨i0, hi, hz0, hz1, hz2⟩ := info_parts Try.infoI
  obtain ⟨r, r1, r2⟩ := sub_self_fin hf
  have hs := run_h r1
  have hne : (FloatKind.f64.format.order r 0 != some .eq) = false := eq_zero_of3 r2
  have hS0 : PwIt (sg x) (rv (rg x)) (rv (rg x)) [] x := ⟨PwSt.start hx hf, rfl, rep_rv _⟩
  generalize sg x = s at *
  generalize rv (rg x) = N at *
  clear r1 r2 hx hf
  go_enter Try.func26, Try.ntmps26
  go_wp2
  go_loopg [0, 3] N (fun n cx v wr => ∃ (z : Nat) (D : List Nat), cx = .float .f64 z ∧ PwIt s N n D z ∧ wr.ownsRow w.heap.size 3 1 v (il (pwI D)).length (il (pwI D)) ∧ Below w.heap.size w wr)
  case atStart => exact ⟨x, [], rfl, hS0, World.ownsRow_lit w #[] 0 (Nat.le_refl _) (by decide) rfl, (Below.refl _ _).alloc (Nat.le_refl _) _⟩
  case round =>
    clear hS0 hs hne
    obtain ⟨z, D, rfl, hS, hown, hbel⟩ := hrel
    have hsz := hbel.size
    by_cases h0 : gk = 0
    · have hz : (FloatKind.f64.format.order z 0 != some .eq) = false := by
        refine eq_zero_of3 ?_
        have := hS.st.val
        have h1 := le_rv (rg z)
        omega
      have hD : D = pws N := by
        have := hS.all
        rw [h0, pws_zero, List.append_nil] at this
        exact this
      have hN := Lib.hid (NewRow.mk hown hbel)
      rw [hD] at hN
      clear hD hown hbel hS h0
      go_wp2
      go_ret
      exact hN.out
    · obtain ⟨y, L, hR⟩ := hS.round h0
      have hdl := hS.len
      have t1 := hR.ne
      have t2 := hR.neg
      have HF := Lib.hid hR.fr
      have HL := Lib.hid hR.ldx
      have hsub := run_h hR.sub
      have hit := Lib.hid hR.it
      have hlt := Lib.hid hR.lt
      have hbd := hR.bd
      have hLn : Hid ((il (pwI D)).length = D.length) := by show _ = _; rw [il_len, pwI_len]
      have hsn := Lib.hid (pwI_snoc D L)
      clear hR hS h0
      generalize mk (sg z) (frw (rv (rg z))) = fr at *
      generalize mk s (wd (2 ^ L)) = pw at *
      have hw1 : (L : Int) - 1073 - 1 = (L : Int) - 1074 := by omega
      cases s
      all_goals
        go_wp2_with (first | (go_at_call 43; ((with_reducible refine (HF.out _).mono ?_)); rintro e w' ⟨rfl, rfl⟩) | (go_at_call 38; ((refine (HL.out _).mono ?_)); rintro e w' ⟨rfl, rfl⟩) | (at_builtin; refine wpList_append_own _ rfl _ _ 33 rfl w.heap.size 3 i0 (.int .i64 0) 1 8 Try.underlying33 hi hz0 hz1 hz2 rfl (by decide) _ _ _ rfl (hown.alloc _) ⟨wr.heap.size, 0, none⟩ 1 1 [.int .i64 ((L : Int) - 1074)] rfl rfl (news_one _ _ _) ?c2 ?c3 ?c4 ?c5 ?_))
        case c2 => intro u hu; simp at hu; subst hu; rfl
        case c3 => rw [hLn.out]; unfold maxLen; omega
        case c4 => rw [hLn.out]; omega
        case c5 => simp; omega
        intro v' w1 hown' hgrow _
        have hown2 : Hid (w1.ownsRow w.heap.size 3 1 v' (il (pwI (D ++ [L]))).length (il (pwI (D ++ [L])))) := by
          show w1.ownsRow _ _ _ _ _ _
          rw [hsn.out, List.length_append]; exact hown'
        have hbel2 : Below w.heap.size w w1 := (hbel.alloc hsz _).grown hgrow (by simp; omega) (fun g hg => (hown.lt g hg).1)
        clear hown' hgrow hown hbel
        go_wp2
        go_roundg (gk - 2 ^ L)
        case measure => exact hlt.out
        case rel => exact ⟨y, D ++ [L], rfl, hit.out, hown2.out, hbel2⟩

set_option maxHeartbeats 400000 in
theorem powers_inf (x : Nat) (w : World) (hf : INF ≤ rg x) :
    Calls Try.prog 26 #[.float .f64 x] w (NewRow 3 w.heap.size w []) := by
  have h3 := run_m (op := .sub) (Or.inr (Or.inl rfl)) (sub_self_nan hf)
  have h4 : ∀ W : World, (FloatKind.f64.format.order (nb W x x) 0 != some .eq) = true := fun W => by
    rw [c_nan (Or.inl (nan_true.1 (nan_nb W x x)))]; rfl
  clear hf
  go_enter Try.func26, Try.ntmps26
  go_wp2
  go_ret
  exact NewRow.mk (World.ownsRow_lit w #[] 0 (Nat.le_refl _) (by decide) rfl).drew ((Below.refl _ _).alloc (Nat.le_refl _) _).drew

/-- the exponents of a word -/
def pwW (x : Nat) : List Int := if rg x < INF then pwI (pws (rv (rg x))) else []
theorem powers_any (x : Nat) (w : World) (hx : x < 2 ^ 64) :
    Calls Try.prog 26 #[.float .f64 x] w (NewRow 3 w.heap.size w (il (pwW x))) := by
  unfold pwW
  by_cases h : rg x < INF
  · rw [if_pos h]; exact powers_fin x w hx h
  · rw [if_neg h]; exact powers_inf x w (by omega)
theorem pwW_len {x : Nat} : (pwW x).length ≤ 53 := by
  unfold pwW
  split
  · rw [pwI_len]; exact pws_len (rep_rv _)
  · exact Nat.zero_le _
end Go.Proofs.Ytlpcpoganlmiaaa

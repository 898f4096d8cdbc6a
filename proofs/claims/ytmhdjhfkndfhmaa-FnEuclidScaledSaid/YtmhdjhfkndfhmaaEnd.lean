/-
  Contracts of laws.ends, laws.last and impl.Remainder; how chains of finite numbers end.
-/
import Derived.Test.YtmhdjhfkndfhmaaEuc
import Derived.Test.YtmhdjhfkndfhmaaNea
import Derived.Test.YtmhdjhfkndfhmaaEul
import Derived.Test.YtmhdjhfkndfhmaaRed
import Derived.Test.YtmhdjhfkndfhmaaSpcB
import Derived.Test.YtmhdjhfkndfhmaaSpcC
import Derived.Test.YtmhdjhfkndfhmaaRow
namespace Go.Proofs.Ytmhdjhfkndfhmaa
open Go.RowKit Flt

set_option maxHeartbeats 400000 in
theorem impRem_any (x y : Nat) (w : World) (hx : x < 2 ^ 64) (hy : y < 2 ^ 64) :
    Calls Try.prog 22 #[.float .f64 x, .float .f64 y] w fun e w' => e = .returned (.float .f64 (remW x y)) ∧ w = w' := by
  have H := Lib.hid (fun W : World => remainder_any x y W hx hy)
  clear hx hy
  go_enter Try.func22, Try.ntmps22
  go_wp2_with (go_at_call 34; ((with_reducible refine (H.out _).mono ?_)); rintro e w' ⟨rfl, rfl⟩)
  go_ret
  exact ⟨rfl, rfl⟩

/-- the chain ends with g and 0 -/
structure EndW (L : List Nat) (g : Nat) : Prop where
  len : 3 ≤ L.length ∧ L.length ≤ 200
  zero : rg (L.getD (L.length - 1) 0) = 0
  val : rv (rg (L.getD (L.length - 2) 0)) = g
  pos : g ≠ 0
  fin : ∀ z ∈ L, rg z < INF
  word : ∀ z ∈ L, z < 2 ^ 64
theorem mg_vl {z : Nat} (h : rg z < INF) : mg (vl z) = rv (rg z) := by
  rw [vl_fin h]; exact fv_natAbs z
theorem ends_of {L l : List Nat} {X g : Nat} (hl : L.length ≤ 200) (hg : g ≠ 0) (hf : ∀ z ∈ L, rg z < INF) (hw : ∀ z ∈ L, z < 2 ^ 64) (h : L.map (fun z => mg (vl z)) = X :: (l ++ [g, 0])) : EndW L g := by
  have hlen : L.length = l.length + 3 := by
    have := congrArg List.length h
    rw [List.length_map] at this
    rw [this]; simp
  have hget : ∀ i, i < L.length → rv (rg (L.getD i 0)) = (X :: (l ++ [g, 0])).getD i 0 := by
    intro i hi
    have h1 := congrArg (fun l : List Nat => l[i]?) h
    simp only [List.getElem?_map] at h1
    rw [List.getElem?_eq_getElem hi] at h1
    have hm := getD_mem L i 0 hi
    rw [List.getD_eq_getElem?_getD, List.getElem?_eq_getElem hi] at hm ⊢
    rw [List.getD_eq_getElem?_getD, ← h1]
    exact (mg_vl (hf _ hm)).symm
  have t1 : (l ++ [g, 0]).getD (l.length + 1) 0 = 0 := by
    rw [List.getD_eq_getElem?_getD, List.getElem?_append_right (by omega), show l.length + 1 - l.length = 1 by omega]; rfl
  have t2 : (l ++ [g, 0]).getD l.length 0 = g := by
    rw [List.getD_eq_getElem?_getD, List.getElem?_append_right (by omega), show l.length - l.length = 0 by omega]; rfl
  refine ⟨⟨by omega, hl⟩, ?_, ?_, hg, hf, hw⟩
  · have := hget (L.length - 1) (by omega)
    rw [show L.length - 1 = l.length + 1 + 1 by omega, List.getD_cons_succ, t1] at this
    rw [show L.length - 1 = l.length + 1 + 1 by omega]
    have h0 : rv (rg (L.getD (l.length + 1 + 1) 0)) = 0 := this
    have := le_rv (rg (L.getD (l.length + 1 + 1) 0))
    omega
  · have := hget (L.length - 2) (by omega)
    rw [show L.length - 2 = l.length + 1 by omega, List.getD_cons_succ, t2] at this
    rw [show L.length - 2 = l.length + 1 by omega]
    exact this
theorem fv0 {y : Nat} (h : rg y ≠ 0) : (fv y).natAbs ≠ 0 := by
  rw [fv_natAbs]
  have := rv_pos (r := rg y) (by omega)
  omega

theorem euc_fin {x y : Nat} (hx : rg x < INF) (hy : rg y < INF) : ∀ z ∈ eucW x y, rg z < INF :=
  chw_fin (f := modW) (fun _ _ ha _ hs => (modW_fin ha hs).1) 198 x y hx hy
theorem euc_words {x y : Nat} (hx : x < 2 ^ 64) (hy : y < 2 ^ 64) : ∀ z ∈ eucW x y, z < 2 ^ 64 := by
  intro z hz
  rcases List.mem_cons.1 hz with rfl | hz
  · exact hx
  rcases List.mem_cons.1 hz with rfl | hz
  · exact hy
  exact chw_words modW_w 198 x y hx hy z hz
theorem euc_mg {x y : Nat} (hxl : x < 2 ^ 64) (hyl : y < 2 ^ 64) (hx : rg x < INF) (hy : rg y < INF) : (eucW x y).map (fun z => mg (vl z)) = (fv x).natAbs :: (fv y).natAbs :: cE (fv x).natAbs (fv y).natAbs := by
  show mg (vl x) :: mg (vl y) :: (chw modW 198 x y).map (fun z => mg (vl z)) = _
  have h1 := chw_vl modW_w' (fun a b ha => vl_modW a b ha) 198 x y hxl hyl
  have h2 := (chn_mod 198 (fv x) (fv y) (by have := cE_short (rep_fv x) (rep_fv y); omega)).2
  rw [vl_fin hx, vl_fin hy] at h1
  rw [← h1, List.map_map] at h2
  rw [vl_fin hx, vl_fin hy, ← h2]
  rfl
theorem euc_ends {x y : Nat} (hxl : x < 2 ^ 64) (hyl : y < 2 ^ 64) (hx : rg x < INF) (hy : rg y < INF) (h0 : rg y ≠ 0) : EndW (eucW x y) (Nat.gcd (fv x).natAbs (fv y).natAbs) := by
  obtain ⟨l, hl⟩ := cE_end (fv y).natAbs (fv x).natAbs (fv0 h0)
  have h := euc_mg hxl hyl hx hy
  rw [hl] at h
  refine ends_of ?_ ?_ (euc_fin hx hy) (euc_words hxl hyl) h
  · have := chw_len modW 198 x y
    show (chw modW 198 x y).length + 2 ≤ 200
    omega
  · exact Nat.ne_of_gt (Nat.gcd_pos_of_pos_right _ (by have := fv0 h0; omega))
theorem remW_fin {a b : Nat} (ha : rg a < INF) (hb : rg b < INF) (hs : stopw b = false) : rg (remW a b) < INF := by
  obtain ⟨h0, _⟩ := stopw_false hs
  have hF := remW_fits (x := a) (y := b) ha h0
  rw [remW_num ha h0 hb]
  exact fin_mkwd _ hF.rep hF.lt
theorem nea_fin {x y : Nat} (hx : rg x < INF) (hy : rg y < INF) : ∀ z ∈ neaW x y, rg z < INF :=
  chw_fin (f := remW) (fun _ _ ha hb hs => remW_fin ha hb hs) 198 x y hx hy
theorem nea_words {x y : Nat} (hx : x < 2 ^ 64) (hy : y < 2 ^ 64) : ∀ z ∈ neaW x y, z < 2 ^ 64 := by
  intro z hz
  rcases List.mem_cons.1 hz with rfl | hz
  · exact hx
  rcases List.mem_cons.1 hz with rfl | hz
  · exact hy
  exact chw_words remW_w 198 x y hx hy z hz
theorem nea_ends {x y : Nat} (hxl : x < 2 ^ 64) (hyl : y < 2 ^ 64) (hx : rg x < INF) (hy : rg y < INF) (h0 : rg y ≠ 0) : EndW (neaW x y) (Nat.gcd (fv x).natAbs (fv y).natAbs) := by
  obtain ⟨l, hl⟩ := cN_end (fv y).natAbs (fv x).natAbs (fv0 h0)
  have h1 := chw_vl remW_w' (fun a b _ => vl_remW a b) 198 x y hxl hyl
  have h2 := (chn_rem 198 (fv x) (fv y) (by have := cE_short (rep_fv x) (rep_fv y); have := cN_short (fv y).natAbs (fv x).natAbs; omega)).2
  rw [vl_fin hx, vl_fin hy] at h1
  rw [← h1, List.map_map] at h2
  have h : (neaW x y).map (fun z => mg (vl z)) = (fv x).natAbs :: (l ++ [Nat.gcd (fv x).natAbs (fv y).natAbs, 0]) := by
    rw [← hl, ← h2]
    show mg (vl x) :: mg (vl y) :: (chw remW 198 x y).map (fun z => mg (vl z)) = _
    rw [vl_fin hx, vl_fin hy]
    rfl
  refine ends_of ?_ ?_ (nea_fin hx hy) (nea_words hxl hyl) h
  · have := chw_len remW 198 x y
    show (chw remW 198 x y).length + 2 ≤ 200
    omega
  · exact Nat.ne_of_gt (Nat.gcd_pos_of_pos_right _ (by have := fv0 h0; omega))

/-- the number ahead of the 0 -/
def lastW (L : List Nat) : Nat := L.getD (L.length - 2) 0
theorem EndW.last_mem {L : List Nat} {g : Nat} (h : EndW L g) : lastW L ∈ L := getD_mem L _ 0 (by have := h.len; omega)
theorem EndW.last_ne {L : List Nat} {g : Nat} (h : EndW L g) : rg (lastW L) ≠ 0 := by
  intro h0
  have h1 := h.val
  have h2 : rv (rg (lastW L)) = g := h1
  rw [h0, rv_zero] at h2
  exact h.pos h2.symm

set_option maxHeartbeats 800000 in
theorem ends_any {g : Nat} (L : List Nat) (A : Option Addr) (c n B : Nat) (w : World) (hE : EndW L g) (hn : L.length = n) (h1 : Rd w B A (fl L)) :
    Calls Try.prog 19 #[.slice A n c] w fun e w' => e = .returned (.bool true) ∧ w = w' := by
  obtain ⟨l1, l2⟩ := hE.len
  rw [hn] at l1 l2
  obtain ⟨p, hp⟩ : ∃ p, p + 2 = n := ⟨n - 2, by omega⟩
  obtain ⟨q, hq⟩ : ∃ q, q + 1 = n := ⟨n - 1, by omega⟩
  obtain ⟨ad1, e1, _, c1⟩ := h1.fl (k := p) (by omega)
  obtain ⟨ad2, e2, _, c2⟩ := h1.fl (k := q) (by omega)
  cases e1; cases e2
  have hz : rg (L.getD q 0) = 0 := by have := hE.zero; rwa [show L.length - 1 = q by omega] at this
  have hl : rg (L.getD p 0) ≠ 0 := by have := hE.last_ne; unfold lastW at this; rwa [show L.length - 2 = p by omega] at this
  have hlf : rg (L.getD p 0) < INF := hE.fin _ (getD_mem L p 0 (by omega))
  have b1 := eq_zero_of hz
  have b2 : (FloatKind.f64.format.order (L.getD p 0) 0 != some .eq) = true := by
    have := ne_zero_of hl
    show (!(FloatKind.f64.format.order (L.getD p 0) 0 == some .eq)) = true
    rw [this]; rfl
  have hw1 : IntKind.i64.wrap ((n : Int) - 1) = (q : Int) := by rw [IntWalk.i64_in _ (by omega)]; omega
  have hw2 : IntKind.i64.wrap ((n : Int) - 2) = (p : Int) := by rw [IntWalk.i64_in _ (by omega)]; omega
  have hpn : p < n := by omega
  have hqn : q < n := by omega
  generalize L.getD p 0 = zp at *
  generalize L.getD q 0 = zq at *
  clear hp hq hz hl hlf h1 hE hn
  go_enter Try.func19, Try.ntmps19
  go_wp2
  go_ret
  exact ⟨rfl, rfl⟩

set_option maxHeartbeats 800000 in
theorem last_any (L : List Nat) (A : Option Addr) (c n B : Nat) (w : World) (hl : 2 ≤ n ∧ n ≤ 200) (hn : L.length = n) (h1 : Rd w B A (fl L)) :
    Calls Try.prog 21 #[.slice A n c] w fun e w' => e = .returned (.float .f64 (lastW L)) ∧ w = w' := by
  obtain ⟨p, hp⟩ : ∃ p, p + 2 = n := ⟨n - 2, by omega⟩
  obtain ⟨ad1, e1, _, c1⟩ := h1.fl (k := p) (by omega)
  cases e1
  unfold lastW
  rw [show L.length - 2 = p by omega]
  have hw2 : IntKind.i64.wrap ((n : Int) - 2) = (p : Int) := by rw [IntWalk.i64_in _ (by omega)]; omega
  have hpn : p < n := by omega
  generalize L.getD p 0 = zp at *
  clear hp h1 hn
  go_enter Try.func21, Try.ntmps21
  go_wp2
  go_ret
  exact ⟨rfl, rfl⟩

/-- the absolute value of a finite word -/
theorem abs_fin {x : Nat} (hx : x < 2 ^ 64) (hf : rg x < INF) : rg (absW x) < INF ∧ fv (absW x) = (rv (rg x) : Int) := by
  by_cases h0 : rg x = 0
  · have hk0 : key x = 0 := by have := key_natAbs x; omega
    rw [abs_zero hk0]
    exact ⟨hf, by rw [(fv_zero_iff x).2 h0, h0, rv_zero]; rfl⟩
  · rw [abs_rg hx h0, rg_rg]
    refine ⟨hf, ?_⟩
    unfold fv
    rw [rg_rg, show sg (rg x) = false from (by unfold sg rg; simp), if_neg (by decide)]
end Go.Proofs.Ytmhdjhfkndfhmaa

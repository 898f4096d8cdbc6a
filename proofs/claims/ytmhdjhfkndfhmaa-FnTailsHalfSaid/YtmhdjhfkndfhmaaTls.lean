/-
  The contract of impl.Tails, on values.
-/
import Derived.Test.YtmhdjhfkndfhmaaAns
import Derived.Test.YtmhdjhfkndfhmaaImpA
import Derived.Test.YtmhdjhfkndfhmaaTlp
import Derived.Test.YtmhdjhfkndfhmaaHor
namespace Go.Proofs.Ytmhdjhfkndfhmaa
open Go.RowKit Flt

/-- a product over a list comes back, and a new row of what each product has lost -/
def TlGives (x : Val) (l : List Val) (w : World) (e : Ending) (w' : World) : Prop :=
  ∃ (b : Nat) (L : List Nat) (A : Option Addr) (c : Nat), e = .returned (.tuple #[.float .f64 b, .slice A L.length c]) ∧ vl b = tlP x l ∧ b < 2 ^ 64 ∧ L.map vl = tlL x l ∧ (∀ z ∈ L, z < 2 ^ 64) ∧ w'.ownsRow w.heap.size 22 1 (.slice A L.length c) L.length (fl L) ∧ Below w.heap.size w w'
theorem neg_wordT (b : Nat) (w : World) : (Op.unary .neg (.float .f64 b)).run Try.prog w = .ok (.float .f64 (Op.negFloat .f64 b)) w := rfl
theorem mem_snoc {L : List Nat} {t : Nat} (h : ∀ z ∈ L, z < 2 ^ 64) (ht : t < 2 ^ 64) : ∀ z ∈ L ++ [t], z < 2 ^ 64 := fun z hz => by
  rcases List.mem_append.1 hz with hz | hz
  · exact h z hz
  · rw [List.mem_singleton.1 hz]; exact ht
theorem tl_step {x : Val} {V : List Val} {b y p t : Nat} {L : List Nat} (hb : vl b = tlP x V) (hL : L.map vl = tlL x V) (hp : vl p = mulv (vl b) (vl y)) (hpl : p < 2 ^ 64) (ht : vl t = fmv (vl b) (vl y) (vl (Op.negFloat .f64 p))) :
    vl p = tlP x (V ++ [vl y]) ∧ (L ++ [t]).map vl = tlL x (V ++ [vl y]) := by
  refine ⟨by rw [tlP_snoc, hp, hb], ?_⟩
  rw [List.map_append, hL, tlL_snoc]
  show _ ++ [vl t] = _
  rw [ht, vl_neg hpl, hp, hb]

set_option maxRecDepth 100000 in
set_option maxHeartbeats 1600000 in
theorem tails_any (x : Nat) (xs : List Nat) (A : Option Addr) (c n B : Nat) (w : World) (hs : x < 2 ^ 64) (hx : xs.length = n) (hn : n * 8 ≤ 140737488351232) (hB : B ≤ w.heap.size) (h1 : Rd w B A (fl xs)) :
    Calls Try.prog 32 #[.float .f64 x, .slice A n c] w (TlGives (vl x) (xs.map vl) w) := by
  obtain ⟨i0, hi, hz0, hz1, hz2⟩ := info_parts Try.infoF
  have hx' := Lib.hid hx
  have hng := neg_wordT
  clear hx
  go_enter Try.func32, Try.ntmps32
  go_wp2
  go_loopw [0, 6, 8, 9, 13] (fun z v _ _ i wr => ∃ (k b : Nat) (L : List Nat), k ≤ n ∧ i = .int .i64 k ∧ z = .float .f64 b ∧ b < 2 ^ 64 ∧ Hid (vl b = tlP (vl x) ((xs.take k).map vl)) ∧ Hid (L.map vl = tlL (vl x) ((xs.take k).map vl)) ∧ Hid (∀ z ∈ L, z < 2 ^ 64) ∧ wr.ownsRow w.heap.size 22 1 v (fl L).length (fl L) ∧ Below w.heap.size w wr) (fun _ _ _ _ i _ => n - (intOf i).toNat)
  case atStart => exact ⟨0, x, [], Nat.zero_le _, rfl, rfl, hs, rfl, rfl, (fun z h => by cases h), World.ownsRow_lit w #[] 0 (Nat.le_refl _) (by decide) rfl, (Below.refl _ _).alloc (Nat.le_refl _) _⟩
  case round =>
    obtain ⟨k, b, L, hk, rfl, rfl, hb, hv, hL, hw, hown, hbel⟩ := hrel
    have hsz := hbel.size
    have hLk : Hid ((fl L).length = k) := by
      have := congrArg List.length hL.out
      rw [List.length_map, tlL_len, List.length_map, List.length_take, hx'.out] at this
      show _ = _
      rw [fl_len, this]; omega
    by_cases hlt : k < n
    · obtain ⟨ad, e1, _, c1⟩ := (h1.below' hbel hB).fl (k := k) (by rw [hx'.out]; exact hlt)
      cases e1
      have hst := Lib.hid (vl_take_snoc (xs := xs) (k := k) (by rw [hx'.out]; exact hlt))
      generalize xs.getD k 0 = y at *
      obtain ⟨g, g', hrun, hans⟩ := mul_ans b y
      have m1 := hrun wr
      have mv := hans.val wr
      have ml := hans.lt wr
      have mq := hans.qt wr
      clear hrun hans
      generalize g wr = p at *
      generalize g' wr = wp at *
      obtain ⟨f, f', frun, fans⟩ := fma_ans b y (Op.negFloat .f64 p)
      have f1 := frun wp
      have fv' := fans.val wp
      have fl' := fans.lt wp
      have fq := fans.qt wp
      clear frun fans
      generalize f wp = t at *
      generalize f' wp = wt at *
      obtain ⟨s1, s2⟩ := tl_step hv.out hL.out mv ml fv'
      rw [← hst.out] at s1 s2
      have S1 := Lib.hid s1
      have S2 := Lib.hid s2
      have S3 := Lib.hid (mem_snoc hw.out fl')
      have hQ := mq.trans fq
      have hown1 := hQ.own hown
      have hbel1 := hbel.trans (hQ.below _)
      have hsz1 := hbel1.size
      clear s1 s2 mv fv' hst hv hL hw hQ mq fq hown hbel
      go_wp2_with (at_builtin; refine wpList_append_own _ rfl _ _ 23 rfl w.heap.size 22 i0 (.float .f64 0) 1 8 Try.underlying23 hi hz0 hz1 hz2 rfl (by decide) _ _ _ rfl (hown1.alloc _) ⟨wt.heap.size, 0, none⟩ 1 1 [.float .f64 t] rfl rfl (news_one _ _ _) ?c2 ?c3 ?c4 ?c5 ?_)
      case c2 => intro u hu; simp at hu; subst hu; rfl
      case c3 => rw [hLk.out]; unfold maxLen; omega
      case c4 => rw [hLk.out]; omega
      case c5 => simp; omega
      intro v' w3 hown' hgrow _
      have hbel3 : Below w.heap.size w w3 := (hbel1.alloc hsz1 _).grown hgrow (by simp; omega) (fun g hg => (hown1.lt g hg).1)
      have hown2 : Hid (w3.ownsRow w.heap.size 22 1 v' (fl (L ++ [t])).length (fl (L ++ [t]))) := by
        show w3.ownsRow _ _ _ _ _ _
        rw [fl_append, List.length_append]; exact hown'
      clear hown' hgrow hown1 hbel1 c1
      go_wp2
      go_roundw
      case rel => exact ⟨k + 1, p, L ++ [t], by omega, by go_num, rfl, ml, S1, S2, S3, hown2.out, hbel3⟩
      case measure => simp [intOf]; omega
    · have hkm : xs.take k = xs := List.take_of_length_le (by rw [hx'.out]; omega)
      rw [hkm] at hv hL
      obtain ⟨A3, c3, rfl, _⟩ := own_slice hown
      rw [fl_len] at hown ⊢
      have HO := Lib.hid hown
      clear hown hkm
      go_wp2
      go_ret2
      exact ⟨b, L, A3, c3, rfl, hv.out, hb, hL.out, hw.out, HO.out, hbel⟩

set_option maxHeartbeats 400000 in
theorem tails_nil (x : Nat) (A : Option Addr) (c : Nat) (w : World) :
    Calls Try.prog 32 #[.float .f64 x, .slice A 0 c] w fun e w' => (∃ v, e = .returned (.tuple #[.float .f64 x, v])) ∧ Below w.heap.size w w' := by
  go_enter Try.func32, Try.ntmps32
  go_wp2
  refine wp_loop_rounds 1 ?_
  rw [rounds_succ]
  go_wp2
  go_ret2
  exact ⟨⟨_, rfl⟩, (Below.refl _ _).alloc (Nat.le_refl _) _⟩
end Go.Proofs.Ytmhdjhfkndfhmaa

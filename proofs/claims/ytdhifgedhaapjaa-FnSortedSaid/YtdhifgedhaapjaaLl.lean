import Derived.Test.YtdhifgedhaapjaaLk
import Derived.Test.YtdhifgedhaapjaaLg
namespace Go.Proofs.Ytdhifgedhaapjaa
open Go Sa
theorem indS_27 {w0 : World} {m : Mem} {T : Nat → Int} {n tm bt ot ct ba oa ca bk ok ck : Nat} {f : Value} {K : Value → Mem → Prop} (L : Lv m .u8 .i32 T n tm bt ot ba oa bk ok f) (htm : tm = 256)
  (hck : tm ≤ ck) (hmid : MidF T n (fun x => m.val ba (oa + x)))
  (hK : ∀ m', SameK m m' → Out m m' (WL f bk ok tm ba oa n) → Lv m' .u8 .i32 T n tm bt ot ba oa bk ok f → SA T n (fun x => m'.val ba (oa + x)) → K (.tuple #[]) m') :
  callV Try.prog w0 27 [.slice (some ⟨bt, ot, none⟩) n ct, .slice (some ⟨ba, oa, none⟩) n ca, f, .slice (some ⟨bk, ok, none⟩) tm ck] m K := by
 have hn := L.hn
 let I : LI := fun ps ls m' => match ps, ls with
   | [.sl b o l c, .sl b' o' l' c', .sl b2 o2 l2 c2], [.iv _ cB, .iv _ bb, .iv _ i] => (bt = b ∧ ot = o ∧ n = l ∧ ba = b' ∧ oa = o' ∧ n = l' ∧ bk = b2 ∧ ok = o2 ∧ tm = l2) ∧
     ∃ (x : Nat) (G : Nat → Option Nat) (B : Int → Nat) (c : Nat), i = (x : Int) - 1 ∧ cB = c ∧ InvFS m .u8 .i32 T n tm bt ot ba oa bk ok f x G B c bb m'
   | _, _ => False
 let mu : LM := fun _ ls => match ls with | [_, _, .iv _ i] => (i + 1).toNat | _ => 0
 refine C_F27 (I0 := I)
  (X0 := fun _ ps ls m' => match ps, ls with
   | _, [.iv _ cB, .iv _ bb, .iv _ i] => ∃ (G : Nat → Option Nat) (B : Int → Nat) (c : Nat), InvFS m .u8 .i32 T n tm bt ot ba oa bk ok f 0 G B c bb m'
   | _, _ => False) (mu0 := mu) ?_ ?_
 ·intro bt' ot' lt' ct' ba' oa' la' ca' bk' ok' lk' ck' cB b i k m' hI hmu
  obtain ⟨⟨rfl, rfl, rfl, rfl, rfl, rfl, rfl, rfl, rfl⟩, x0, G, B, c, rfl, rfl, hJ⟩ := (show (_ ∧ _ ∧ _ ∧ _ ∧ _ ∧ _ ∧ _ ∧ _ ∧ _) ∧ ∃ (x : Nat) (G : Nat → Option Nat) (B : Int → Nat) (c : Nat), _ ∧ _ ∧ InvFS _ _ _ _ _ _ _ _ _ _ _ _ _ _ _ _ _ _ _ from hI)
  clear hI
  obtain ⟨L', hs, ho, hxn, li, rel, hc, hB⟩ := hJ
  have hmu' : ((x0 : Int) - 1 + 1).toNat < k + 1 := hmu
  have leaf : ∀ {x : Nat} {G' : Nat → Option Nat} {B' : Int → Nat} {c' : Nat} {b' : Int} {m2 : Mem}, x0 = x + 1 → InvFS m .u8 .i32 T n tm bt ot ba oa bk ok f x G' B' c' b' m2 →
    KF1 L0_F27 I mu (P0_F27 bt ot n ct' ba oa n ca' bk ok tm ck') k [.int .u8 c', .int .i32 b', .int .i64 ((x : Int) - 1)] m2 := fun {x _ _ _ _ _} hx h =>
   KF1_mk (And.intro (And.intro ⟨rfl, rfl, rfl, rfl, rfl, rfl, rfl, rfl, rfl⟩ ⟨x, _, _, _, rfl, rfl, h⟩) (show ((x : Int) - 1 + 1).toNat < k from by omega))
  clear_value I mu
  unfold R0_F27
  refine cond_of (fun hb => ?_) (fun hb => ?_)
  ·have hge : (x0 : Int) - 1 ≥ 0 := of_decide_eq_true hb
   obtain ⟨x, rfl⟩ : ∃ x, x0 = x + 1 := ⟨x0 - 1, by omega⟩
   have ex : ((x + 1 : Nat) : Int) - 1 = (x : Int) := by omega
   rw [ex, Int.toNat_natCast]
   have hx : x < n := by omega
   have hk1 := L'.sa x hx
   have hr1 := L'.sro
   have hi64 : inR .i64 ((x : Int) - 1) := inR_i64 (by omega) (by omega)
   refine ⟨by omega, by omega, hk1, fun z hz => ?_⟩
   have hzb : -(n : Int) < z ∧ z < n := by
    rw [← hz]; exact RelFS.lo (A := fun p => m'.val ba (oa + p)) li.toSCore rel hx
   have hz1 : inR .i64 z := inR_i64 (by omega) (by omega)
   repeat ((with_reducible refine And.intro ?_ ?_); · first | omega | with_reducible assumption | exact hk1 | exact hr1)
   refine cond_of (fun hb1 => ?_) (fun hb1 => ?_)
   ·have h0 : 0 ≤ m'.val ba (oa + x) := by rw [hz]; exact of_decide_eq_true hb1
    obtain ⟨li', rel'⟩ := fullS_skip li rel hx h0
    exact ⟨hi64, leaf rfl ⟨L', hs, ho, by omega, li', rel', hc, hB⟩⟩
   ·have hge : ¬ z ≥ 0 := of_decide_eq_false hb1
    have h0 : m'.val ba (oa + x) < 0 := by rw [hz]; omega
    obtain ⟨q, e, q3, q4, q5, li', rel'⟩ := fullS_neg li rel hx h0
    have e0 : 0 - m'.val ba (oa + x) = ((q + 1 : Nat) : Int) := e
    replace e : 0 - z = ((q + 1 : Nat) : Int) := by rw [← hz]; exact e0
    have hz2 : inR .i64 (0 - z) := inR_i64 (by omega) (by omega)
    have hz3 : inR .i32 (0 - z) := inR_i32 (by omega) (by omega)
    rw [e] at hz2 hz3 ⊢
    have L1 := L'.stA hx ((q + 1 : Nat) : Int)
    have ez1 : ((q + 1 : Nat) : Int) - 1 = (q : Int) := by omega
    have hz4 : inR .i64 ((q : Int)) := inR_i64 (by omega) (by omega)
    have hz5 : inR .i64 ((q : Int) - 1) := inR_i64 (by omega) (by omega)
    rw [ez1, Int.toNat_natCast]
    have hk3 := L1.tx.rd q (by omega)
    repeat ((with_reducible refine And.intro ?_ ?_); · first | omega | with_reducible assumption | exact hk1 | exact hk3 | exact hr1)
    intro m1 hm1
    subst hm1
    repeat ((with_reducible refine And.intro ?_ ?_); · first | omega | with_reducible assumption | exact hk1 | exact hk3 | exact hr1)
    intro zv hzv
    obtain ⟨cv, hcv, hct⟩ := L'.letter (i := q) (by omega)
    obtain rfl : zv = (cv : Int) := hzv.symm.trans ((L1.tx.v q (by omega)).trans hcv)
    rw [hcv] at q4 q5 li' rel'
    obtain ⟨y, hy⟩ : ∃ y, B cv = y + 1 := ⟨B cv - 1, by omega⟩
    rw [hy] at q4 li' rel'
    rw [Nat.add_sub_cancel] at li' rel'
    have hyn : y < n := by omega
    have hk4 := L'.kr c hc
    have hr2 := L'.kro
    have hk5 := L'.kr cv hct
    have hk6 := L'.sa y hyn
    have hz6 : inR .i64 (0 - (q : Int)) := inR_i64 (by omega) (by omega)
    have hz7 : inR .i32 (0 - (q : Int)) := inR_i32 (by omega) (by omega)
    have hz8 : inR .i32 (q : Int) := inR_i32 (by omega) (by omega)
    have hz9 : inR .i32 (y : Int) := inR_i32 (by omega) (by omega)
    have ey : ((y + 1 : Nat) : Int) - 1 = (y : Int) := by omega
    have fin1 : ∀ (v : Int), v = (if 0 < q ∧ T (q - 1) ≤ (cv : Int) then 0 - (q : Int) else (q : Int)) → ∀ (b : Int), Bk m' bk ok tm B c b → c ≠ cv →
      InvFS m .u8 .i32 T n tm bt ot ba oa bk ok f x (updG G y q) (updB B cv y) cv (y : Int) ((((m'.st ba (oa + x) ((q + 1 : Nat) : Int)).st bk (ok + c) b).st ba (oa + y) v)) := by
     intro v hv b hBb hne
     refine ⟨((L'.stA hx _).stK hc _).stA hyn _, ((hs.trans (SameK.st _ _ _ _)).trans (SameK.st _ _ _ _)).trans (SameK.st _ _ _ _), ((ho.st (.inr (.inr (InRow.mk hx))) _).st (.inr (.inl (InRow.mk hc))) _).st (.inr (.inr (InRow.mk hyn))) _, by omega, li', rel'.congr fun p hp => ?_, hct, ?_⟩
     ·rw [st_val, (L'.stA hx _).KtoA hp hc, st_val, hv, ← e0]
     ·exact hBb.swap (c := cv) hc y (m' := ((m'.st ba (oa + x) ((q + 1 : Nat) : Int)).st bk (ok + c) b).st ba (oa + y) v) (fun e he => by
       rw [((L'.stA hx _).stK hc _).AtoK hyn he, st_val]
       by_cases hec : e = c
       ·rw [if_pos hec, if_pos hec]
       ·rw [if_neg hec, if_neg hec, L'.AtoK hx he])
    have fin2 : ∀ (v : Int), v = (if 0 < q ∧ T (q - 1) ≤ (cv : Int) then 0 - (q : Int) else (q : Int)) → ∀ (b : Int), Bk m' bk ok tm B cv b →
      InvFS m .u8 .i32 T n tm bt ot ba oa bk ok f x (updG G y q) (updB B cv y) cv (y : Int) ((m'.st ba (oa + x) ((q + 1 : Nat) : Int)).st ba (oa + y) v) := by
     intro v hv b hBb
     refine ⟨(L'.stA hx _).stA hyn _, (hs.trans (SameK.st _ _ _ _)).trans (SameK.st _ _ _ _), (ho.st (.inr (.inr (InRow.mk hx))) _).st (.inr (.inr (InRow.mk hyn))) _, by omega, li', rel'.congr fun p hp => ?_, hct, ?_⟩
     ·rw [st_val, st_val, hv, ← e0]
     ·exact hBb.keep y (m' := (m'.st ba (oa + x) ((q + 1 : Nat) : Int)).st ba (oa + y) v) (fun e he => by
       rw [(L'.stA hx _).AtoK hyn he, L'.AtoK hx he])
    refine cond_of (fun hb2 => ?_) (fun hb2 => ?_)
    ·have hq0 : (q : Int) > 0 := of_decide_eq_true hb2
     obtain ⟨u, rfl⟩ : ∃ u, q = u + 1 := ⟨q - 1, by omega⟩
     have ez2 : ((u + 1 : Nat) : Int) - 1 = (u : Int) := by omega
     rw [ez2] at hz5 ⊢
     rw [Int.toNat_natCast]
     have hk2 := L1.tx.rd u (by omega)
     repeat ((with_reducible refine And.intro ?_ ?_); · first | omega | with_reducible assumption | exact hk1 | exact hk2 | exact hk3 | exact hk4 | exact hk5 | exact hk6 | exact hr1 | exact hr2)
     intro zu hzu
     obtain rfl : zu = T u := hzu.symm.trans (L1.tx.v u (by omega))
     refine cond_of (fun hb3 => ?_) (fun hb3 => ?_)
     ·have hlt : T u ≤ (cv : Int) := of_decide_eq_true hb3
      have hv : (0 - ((u + 1 : Nat) : Int)) = (if 0 < u + 1 ∧ T (u + 1 - 1) ≤ (cv : Int) then 0 - ((u + 1 : Nat) : Int) else ((u + 1 : Nat) : Int)) := by rw [if_pos ⟨by omega, hlt⟩]
      repeat ((with_reducible refine And.intro ?_ ?_); · first | omega | with_reducible assumption | exact hk1 | exact hk2 | exact hk3 | exact hk4 | exact hk5 | exact hk6 | exact hr1 | exact hr2)
      refine cond_of (fun hb4 => ?_) (fun hb4 => ?_)
      ·have hne : c ≠ cv := fun e => by rw [e] at hb4; simp at hb4
       repeat ((with_reducible refine And.intro ?_ ?_); · first | omega | with_reducible assumption | exact hk1 | exact hk2 | exact hk3 | exact hk4 | exact hk5 | exact hk6 | exact hr1 | exact hr2)
       intro m2 hm2
       subst hm2
       repeat ((with_reducible refine And.intro ?_ ?_); · first | omega | with_reducible assumption | exact hk1 | exact hk2 | exact hk3 | exact hk4 | exact hk5 | exact hk6 | exact hr1 | exact hr2)
       intro zy hzy
       obtain rfl : zy = ((y + 1 : Nat) : Int) := by
        rw [← hzy, Int.toNat_natCast, Int.toNat_natCast, st_val, if_neg (Ne.symm hne), L'.AtoK hx hct, ← hy]
        have := hB cv hct
        rw [if_neg (Ne.symm hne)] at this; exact this
       rw [ey, Int.toNat_natCast] at *
       repeat ((with_reducible refine And.intro ?_ ?_); · first | omega | with_reducible assumption | exact hk1 | exact hk2 | exact hk3 | exact hk4 | exact hk5 | exact hk6 | exact hr1 | exact hr2)
       intro m3 hm3
       subst hm3
       repeat ((with_reducible refine And.intro ?_ ?_); · first | omega | with_reducible assumption | exact hk1 | exact hk2 | exact hk3 | exact hk4 | exact hk5 | exact hk6 | exact hr1 | exact hr2)
       exact leaf rfl (fin1 _ hv b hB hne)
      ·have he : c = cv := by have := (bne_eq_false_iff_eq.1 hb4); omega
       subst he
       obtain rfl : b = ((y + 1 : Nat) : Int) := by rw [hB.hand hct, hy]
       rw [ey, Int.toNat_natCast]
       repeat ((with_reducible refine And.intro ?_ ?_); · first | omega | with_reducible assumption | exact hk1 | exact hk2 | exact hk3 | exact hk4 | exact hk5 | exact hk6 | exact hr1 | exact hr2)
       intro m3 hm3
       subst hm3
       repeat ((with_reducible refine And.intro ?_ ?_); · first | omega | with_reducible assumption | exact hk1 | exact hk2 | exact hk3 | exact hk4 | exact hk5 | exact hk6 | exact hr1 | exact hr2)
       exact leaf rfl (fin2 _ hv _ hB)
     ·have hlt : ¬ T u ≤ (cv : Int) := of_decide_eq_false hb3
      have hv : ((u + 1 : Nat) : Int) = (if 0 < u + 1 ∧ T (u + 1 - 1) ≤ (cv : Int) then 0 - ((u + 1 : Nat) : Int) else ((u + 1 : Nat) : Int)) := by rw [if_neg (fun h => hlt h.2)]
      refine cond_of (fun hb4 => ?_) (fun hb4 => ?_)
      ·have hne : c ≠ cv := fun e => by rw [e] at hb4; simp at hb4
       repeat ((with_reducible refine And.intro ?_ ?_); · first | omega | with_reducible assumption | exact hk1 | exact hk2 | exact hk3 | exact hk4 | exact hk5 | exact hk6 | exact hr1 | exact hr2)
       intro m2 hm2
       subst hm2
       repeat ((with_reducible refine And.intro ?_ ?_); · first | omega | with_reducible assumption | exact hk1 | exact hk2 | exact hk3 | exact hk4 | exact hk5 | exact hk6 | exact hr1 | exact hr2)
       intro zy hzy
       obtain rfl : zy = ((y + 1 : Nat) : Int) := by
        rw [← hzy, Int.toNat_natCast, Int.toNat_natCast, st_val, if_neg (Ne.symm hne), L'.AtoK hx hct, ← hy]
        have := hB cv hct
        rw [if_neg (Ne.symm hne)] at this; exact this
       rw [ey, Int.toNat_natCast] at *
       repeat ((with_reducible refine And.intro ?_ ?_); · first | omega | with_reducible assumption | exact hk1 | exact hk2 | exact hk3 | exact hk4 | exact hk5 | exact hk6 | exact hr1 | exact hr2)
       intro m3 hm3
       subst hm3
       repeat ((with_reducible refine And.intro ?_ ?_); · first | omega | with_reducible assumption | exact hk1 | exact hk2 | exact hk3 | exact hk4 | exact hk5 | exact hk6 | exact hr1 | exact hr2)
       exact leaf rfl (fin1 _ hv b hB hne)
      ·have he : c = cv := by have := (bne_eq_false_iff_eq.1 hb4); omega
       subst he
       obtain rfl : b = ((y + 1 : Nat) : Int) := by rw [hB.hand hct, hy]
       rw [ey, Int.toNat_natCast]
       repeat ((with_reducible refine And.intro ?_ ?_); · first | omega | with_reducible assumption | exact hk1 | exact hk2 | exact hk3 | exact hk4 | exact hk5 | exact hk6 | exact hr1 | exact hr2)
       intro m3 hm3
       subst hm3
       repeat ((with_reducible refine And.intro ?_ ?_); · first | omega | with_reducible assumption | exact hk1 | exact hk2 | exact hk3 | exact hk4 | exact hk5 | exact hk6 | exact hr1 | exact hr2)
       exact leaf rfl (fin2 _ hv _ hB)
    ·have hq0 : ¬ (q : Int) > 0 := of_decide_eq_false hb2
     have hv : (q : Int) = (if 0 < q ∧ T (q - 1) ≤ (cv : Int) then 0 - (q : Int) else (q : Int)) := by rw [if_neg (fun h => by omega)]
     refine cond_of (fun hb4 => ?_) (fun hb4 => ?_)
     ·have hne : c ≠ cv := fun e => by rw [e] at hb4; simp at hb4
      repeat ((with_reducible refine And.intro ?_ ?_); · first | omega | with_reducible assumption | exact hk1 | exact hk2 | exact hk3 | exact hk4 | exact hk5 | exact hk6 | exact hr1 | exact hr2)
      intro m2 hm2
      subst hm2
      repeat ((with_reducible refine And.intro ?_ ?_); · first | omega | with_reducible assumption | exact hk1 | exact hk2 | exact hk3 | exact hk4 | exact hk5 | exact hk6 | exact hr1 | exact hr2)
      intro zy hzy
      obtain rfl : zy = ((y + 1 : Nat) : Int) := by
       rw [← hzy, Int.toNat_natCast, Int.toNat_natCast, st_val, if_neg (Ne.symm hne), L'.AtoK hx hct, ← hy]
       have := hB cv hct
       rw [if_neg (Ne.symm hne)] at this; exact this
      rw [ey, Int.toNat_natCast] at *
      repeat ((with_reducible refine And.intro ?_ ?_); · first | omega | with_reducible assumption | exact hk1 | exact hk2 | exact hk3 | exact hk4 | exact hk5 | exact hk6 | exact hr1 | exact hr2)
      intro m3 hm3
      subst hm3
      repeat ((with_reducible refine And.intro ?_ ?_); · first | omega | with_reducible assumption | exact hk1 | exact hk2 | exact hk3 | exact hk4 | exact hk5 | exact hk6 | exact hr1 | exact hr2)
      exact leaf rfl (fin1 _ hv b hB hne)
     ·have he : c = cv := by have := (bne_eq_false_iff_eq.1 hb4); omega
      subst he
      obtain rfl : b = ((y + 1 : Nat) : Int) := by rw [hB.hand hct, hy]
      rw [ey, Int.toNat_natCast]
      repeat ((with_reducible refine And.intro ?_ ?_); · first | omega | with_reducible assumption | exact hk1 | exact hk2 | exact hk3 | exact hk4 | exact hk5 | exact hk6 | exact hr1 | exact hr2)
      intro m3 hm3
      subst hm3
      repeat ((with_reducible refine And.intro ?_ ?_); · first | omega | with_reducible assumption | exact hk1 | exact hk2 | exact hk3 | exact hk4 | exact hk5 | exact hk6 | exact hr1 | exact hr2)
      exact leaf rfl (fin2 _ hv _ hB)
  ·have hge : ¬ (x0 : Int) - 1 ≥ 0 := of_decide_eq_false hb
   obtain rfl : x0 = 0 := by omega
   exact XF1_mk (show ∃ (G : Nat → Option Nat) (B : Int → Nat) (c : Nat), InvFS _ _ _ _ _ _ _ _ _ _ _ _ _ _ _ _ _ _ _ from ⟨G, B, c, L', hs, ho, hxn, li, rel, hc, hB⟩)
 ·unfold M_F27
  refine bmax_39 L.hn htm L.t2 L.t1 hck L.tx L.kr L.kro L.akt L.fr fun m1 hs1 ho1 hb1 hd1 => ?_
  have ho1' : Out m m1 (WL f bk ok tm ba oa n) := ho1.mono fun x y h => h.elim .inl (fun h => .inr (.inl h))
  have L1 := L.keep hs1 ho1' (L.fr.done hs1 hd1)
  have hr0 : ∀ p, p < n → m1.val ba (oa + p) = m.val ba (oa + p) := fun x hx => ho1 _ _ (fun h => h.elim (fun h => (L.fr.not_in h).2.1 (InRow.mk hx)) (fun h => L.aka.not_row h (InRow.mk hx)))
  obtain ⟨G0, B0, li0, rel0⟩ := hmid
  obtain ⟨G, li, rel⟩ := fullS_start li0 rel0 (B' := fun c => bs T n c + cc T n c) (fun _ _ => rfl)
  have hk1 := L1.kr 0 L.t1
  have ht1 := L.t1
  have hi1 : inR .i64 ((n : Int) - 1) := inR_i64 (by omega) (by omega)
  rw [show Int.toNat (0 : Int) = 0 by rfl]
  repeat ((with_reducible refine And.intro ?_ ?_); · first | omega | with_reducible assumption | exact hk1 | exact hk2 | exact hk3 | exact hk4 | exact hk5 | exact hk6 | exact hr1 | exact hr2)
  intro z3 hz3
  repeat ((with_reducible refine And.intro ?_ ?_); · first | omega | with_reducible assumption | exact hk1 | exact hk2 | exact hk3 | exact hk4 | exact hk5 | exact hk6 | exact hr1 | exact hr2)
  refine And.intro (And.intro ⟨rfl, rfl, rfl, rfl, rfl, rfl, rfl, rfl, htm⟩ ⟨n, G, _, 0, rfl, rfl, L1, hs1, ho1', Nat.le_refl _, li, rel.congr hr0, L.t1, fun e he => ?_⟩) (fun z4 z5 z6 m8 hX _ => ?_)
  ·have hbe := hb1 e he
   rw [bs_succ] at hbe
   by_cases he0 : e = 0
   ·subst he0; rw [if_pos rfl, ← hz3, hbe]
   ·rw [if_neg he0, hbe]
  ·obtain ⟨G, B, c, J⟩ := (show ∃ (G : Nat → Option Nat) (B : Int → Nat) (c : Nat), InvFS _ _ _ _ _ _ _ _ _ _ _ _ _ _ _ _ _ _ _ from hX)
   exact hK m8 J.hs J.ho J.L (fullS_fin J.li J.rel)
theorem indS_54 {w0 : World} {m : Mem} {T : Nat → Int} {n tm bt ot ct ba oa ca bk ok ck : Nat} {f : Value} {K : Value → Mem → Prop} (L : Lv m .i32 .i32 T n tm bt ot ba oa bk ok f) (htm : True)
  (hck : tm ≤ ck) (hmid : MidF T n (fun x => m.val ba (oa + x)))
  (hK : ∀ m', SameK m m' → Out m m' (WL f bk ok tm ba oa n) → Lv m' .i32 .i32 T n tm bt ot ba oa bk ok f → SA T n (fun x => m'.val ba (oa + x)) → K (.tuple #[]) m') :
  callV Try.prog w0 54 [.slice (some ⟨bt, ot, none⟩) n ct, .slice (some ⟨ba, oa, none⟩) n ca, f, .slice (some ⟨bk, ok, none⟩) tm ck] m K := by
 have hn := L.hn
 let I : LI := fun ps ls m' => match ps, ls with
   | [.sl b o l c, .sl b' o' l' c', .sl b2 o2 l2 c2], [.iv _ cB, .iv _ bb, .iv _ i] => (bt = b ∧ ot = o ∧ n = l ∧ ba = b' ∧ oa = o' ∧ n = l' ∧ bk = b2 ∧ ok = o2 ∧ tm = l2) ∧
     ∃ (x : Nat) (G : Nat → Option Nat) (B : Int → Nat) (c : Nat), i = (x : Int) - 1 ∧ cB = c ∧ InvFS m .i32 .i32 T n tm bt ot ba oa bk ok f x G B c bb m'
   | _, _ => False
 let mu : LM := fun _ ls => match ls with | [_, _, .iv _ i] => (i + 1).toNat | _ => 0
 refine C_F54 (I0 := I)
  (X0 := fun _ ps ls m' => match ps, ls with
   | _, [.iv _ cB, .iv _ bb, .iv _ i] => ∃ (G : Nat → Option Nat) (B : Int → Nat) (c : Nat), InvFS m .i32 .i32 T n tm bt ot ba oa bk ok f 0 G B c bb m'
   | _, _ => False) (mu0 := mu) ?_ ?_
 ·intro bt' ot' lt' ct' ba' oa' la' ca' bk' ok' lk' ck' cB b i k m' hI hmu
  obtain ⟨⟨rfl, rfl, rfl, rfl, rfl, rfl, rfl, rfl, rfl⟩, x0, G, B, c, rfl, rfl, hJ⟩ := (show (_ ∧ _ ∧ _ ∧ _ ∧ _ ∧ _ ∧ _ ∧ _ ∧ _) ∧ ∃ (x : Nat) (G : Nat → Option Nat) (B : Int → Nat) (c : Nat), _ ∧ _ ∧ InvFS _ _ _ _ _ _ _ _ _ _ _ _ _ _ _ _ _ _ _ from hI)
  clear hI
  obtain ⟨L', hs, ho, hxn, li, rel, hc, hB⟩ := hJ
  have hmu' : ((x0 : Int) - 1 + 1).toNat < k + 1 := hmu
  have leaf : ∀ {x : Nat} {G' : Nat → Option Nat} {B' : Int → Nat} {c' : Nat} {b' : Int} {m2 : Mem}, x0 = x + 1 → InvFS m .i32 .i32 T n tm bt ot ba oa bk ok f x G' B' c' b' m2 →
    KF1 L0_F54 I mu (P0_F54 bt ot n ct' ba oa n ca' bk ok tm ck') k [.int .i32 c', .int .i32 b', .int .i64 ((x : Int) - 1)] m2 := fun {x _ _ _ _ _} hx h =>
   KF1_mk (And.intro (And.intro ⟨rfl, rfl, rfl, rfl, rfl, rfl, rfl, rfl, rfl⟩ ⟨x, _, _, _, rfl, rfl, h⟩) (show ((x : Int) - 1 + 1).toNat < k from by omega))
  clear_value I mu
  unfold R0_F54
  refine cond_of (fun hb => ?_) (fun hb => ?_)
  ·have hge : (x0 : Int) - 1 ≥ 0 := of_decide_eq_true hb
   obtain ⟨x, rfl⟩ : ∃ x, x0 = x + 1 := ⟨x0 - 1, by omega⟩
   have ex : ((x + 1 : Nat) : Int) - 1 = (x : Int) := by omega
   rw [ex, Int.toNat_natCast]
   have hx : x < n := by omega
   have hk1 := L'.sa x hx
   have hr1 := L'.sro
   have hi64 : inR .i64 ((x : Int) - 1) := inR_i64 (by omega) (by omega)
   refine ⟨by omega, by omega, hk1, fun z hz => ?_⟩
   have hzb : -(n : Int) < z ∧ z < n := by
    rw [← hz]; exact RelFS.lo (A := fun p => m'.val ba (oa + p)) li.toSCore rel hx
   have hz1 : inR .i64 z := inR_i64 (by omega) (by omega)
   repeat ((with_reducible refine And.intro ?_ ?_); · first | omega | with_reducible assumption | exact hk1 | exact hr1)
   refine cond_of (fun hb1 => ?_) (fun hb1 => ?_)
   ·have h0 : 0 ≤ m'.val ba (oa + x) := by rw [hz]; exact of_decide_eq_true hb1
    obtain ⟨li', rel'⟩ := fullS_skip li rel hx h0
    exact ⟨hi64, leaf rfl ⟨L', hs, ho, by omega, li', rel', hc, hB⟩⟩
   ·have hge : ¬ z ≥ 0 := of_decide_eq_false hb1
    have h0 : m'.val ba (oa + x) < 0 := by rw [hz]; omega
    obtain ⟨q, e, q3, q4, q5, li', rel'⟩ := fullS_neg li rel hx h0
    have e0 : 0 - m'.val ba (oa + x) = ((q + 1 : Nat) : Int) := e
    replace e : 0 - z = ((q + 1 : Nat) : Int) := by rw [← hz]; exact e0
    have hz2 : inR .i64 (0 - z) := inR_i64 (by omega) (by omega)
    have hz3 : inR .i32 (0 - z) := inR_i32 (by omega) (by omega)
    rw [e] at hz2 hz3 ⊢
    have L1 := L'.stA hx ((q + 1 : Nat) : Int)
    have ez1 : ((q + 1 : Nat) : Int) - 1 = (q : Int) := by omega
    have hz4 : inR .i64 ((q : Int)) := inR_i64 (by omega) (by omega)
    have hz5 : inR .i64 ((q : Int) - 1) := inR_i64 (by omega) (by omega)
    rw [ez1, Int.toNat_natCast]
    have hk3 := L1.tx.rd q (by omega)
    repeat ((with_reducible refine And.intro ?_ ?_); · first | omega | with_reducible assumption | exact hk1 | exact hk3 | exact hr1)
    intro m1 hm1
    subst hm1
    repeat ((with_reducible refine And.intro ?_ ?_); · first | omega | with_reducible assumption | exact hk1 | exact hk3 | exact hr1)
    intro zv hzv
    obtain ⟨cv, hcv, hct⟩ := L'.letter (i := q) (by omega)
    obtain rfl : zv = (cv : Int) := hzv.symm.trans ((L1.tx.v q (by omega)).trans hcv)
    rw [hcv] at q4 q5 li' rel'
    obtain ⟨y, hy⟩ : ∃ y, B cv = y + 1 := ⟨B cv - 1, by omega⟩
    rw [hy] at q4 li' rel'
    rw [Nat.add_sub_cancel] at li' rel'
    have hyn : y < n := by omega
    have hk4 := L'.kr c hc
    have hr2 := L'.kro
    have hk5 := L'.kr cv hct
    have hk6 := L'.sa y hyn
    have hz6 : inR .i64 (0 - (q : Int)) := inR_i64 (by omega) (by omega)
    have hz7 : inR .i32 (0 - (q : Int)) := inR_i32 (by omega) (by omega)
    have hz8 : inR .i32 (q : Int) := inR_i32 (by omega) (by omega)
    have hz9 : inR .i32 (y : Int) := inR_i32 (by omega) (by omega)
    have ey : ((y + 1 : Nat) : Int) - 1 = (y : Int) := by omega
    have fin1 : ∀ (v : Int), v = (if 0 < q ∧ T (q - 1) ≤ (cv : Int) then 0 - (q : Int) else (q : Int)) → ∀ (b : Int), Bk m' bk ok tm B c b → c ≠ cv →
      InvFS m .i32 .i32 T n tm bt ot ba oa bk ok f x (updG G y q) (updB B cv y) cv (y : Int) ((((m'.st ba (oa + x) ((q + 1 : Nat) : Int)).st bk (ok + c) b).st ba (oa + y) v)) := by
     intro v hv b hBb hne
     refine ⟨((L'.stA hx _).stK hc _).stA hyn _, ((hs.trans (SameK.st _ _ _ _)).trans (SameK.st _ _ _ _)).trans (SameK.st _ _ _ _), ((ho.st (.inr (.inr (InRow.mk hx))) _).st (.inr (.inl (InRow.mk hc))) _).st (.inr (.inr (InRow.mk hyn))) _, by omega, li', rel'.congr fun p hp => ?_, hct, ?_⟩
     ·rw [st_val, (L'.stA hx _).KtoA hp hc, st_val, hv, ← e0]
     ·exact hBb.swap (c := cv) hc y (m' := ((m'.st ba (oa + x) ((q + 1 : Nat) : Int)).st bk (ok + c) b).st ba (oa + y) v) (fun e he => by
       rw [((L'.stA hx _).stK hc _).AtoK hyn he, st_val]
       by_cases hec : e = c
       ·rw [if_pos hec, if_pos hec]
       ·rw [if_neg hec, if_neg hec, L'.AtoK hx he])
    have fin2 : ∀ (v : Int), v = (if 0 < q ∧ T (q - 1) ≤ (cv : Int) then 0 - (q : Int) else (q : Int)) → ∀ (b : Int), Bk m' bk ok tm B cv b →
      InvFS m .i32 .i32 T n tm bt ot ba oa bk ok f x (updG G y q) (updB B cv y) cv (y : Int) ((m'.st ba (oa + x) ((q + 1 : Nat) : Int)).st ba (oa + y) v) := by
     intro v hv b hBb
     refine ⟨(L'.stA hx _).stA hyn _, (hs.trans (SameK.st _ _ _ _)).trans (SameK.st _ _ _ _), (ho.st (.inr (.inr (InRow.mk hx))) _).st (.inr (.inr (InRow.mk hyn))) _, by omega, li', rel'.congr fun p hp => ?_, hct, ?_⟩
     ·rw [st_val, st_val, hv, ← e0]
     ·exact hBb.keep y (m' := (m'.st ba (oa + x) ((q + 1 : Nat) : Int)).st ba (oa + y) v) (fun e he => by
       rw [(L'.stA hx _).AtoK hyn he, L'.AtoK hx he])
    refine cond_of (fun hb2 => ?_) (fun hb2 => ?_)
    ·have hq0 : (q : Int) > 0 := of_decide_eq_true hb2
     obtain ⟨u, rfl⟩ : ∃ u, q = u + 1 := ⟨q - 1, by omega⟩
     have ez2 : ((u + 1 : Nat) : Int) - 1 = (u : Int) := by omega
     rw [ez2] at hz5 ⊢
     rw [Int.toNat_natCast]
     have hk2 := L1.tx.rd u (by omega)
     repeat ((with_reducible refine And.intro ?_ ?_); · first | omega | with_reducible assumption | exact hk1 | exact hk2 | exact hk3 | exact hk4 | exact hk5 | exact hk6 | exact hr1 | exact hr2)
     intro zu hzu
     obtain rfl : zu = T u := hzu.symm.trans (L1.tx.v u (by omega))
     refine cond_of (fun hb3 => ?_) (fun hb3 => ?_)
     ·have hlt : T u ≤ (cv : Int) := of_decide_eq_true hb3
      have hv : (0 - ((u + 1 : Nat) : Int)) = (if 0 < u + 1 ∧ T (u + 1 - 1) ≤ (cv : Int) then 0 - ((u + 1 : Nat) : Int) else ((u + 1 : Nat) : Int)) := by rw [if_pos ⟨by omega, hlt⟩]
      repeat ((with_reducible refine And.intro ?_ ?_); · first | omega | with_reducible assumption | exact hk1 | exact hk2 | exact hk3 | exact hk4 | exact hk5 | exact hk6 | exact hr1 | exact hr2)
      refine cond_of (fun hb4 => ?_) (fun hb4 => ?_)
      ·have hne : c ≠ cv := fun e => by rw [e] at hb4; simp at hb4
       repeat ((with_reducible refine And.intro ?_ ?_); · first | omega | with_reducible assumption | exact hk1 | exact hk2 | exact hk3 | exact hk4 | exact hk5 | exact hk6 | exact hr1 | exact hr2)
       intro m2 hm2
       subst hm2
       repeat ((with_reducible refine And.intro ?_ ?_); · first | omega | with_reducible assumption | exact hk1 | exact hk2 | exact hk3 | exact hk4 | exact hk5 | exact hk6 | exact hr1 | exact hr2)
       intro zy hzy
       obtain rfl : zy = ((y + 1 : Nat) : Int) := by
        rw [← hzy, Int.toNat_natCast, Int.toNat_natCast, st_val, if_neg (Ne.symm hne), L'.AtoK hx hct, ← hy]
        have := hB cv hct
        rw [if_neg (Ne.symm hne)] at this; exact this
       rw [ey, Int.toNat_natCast] at *
       repeat ((with_reducible refine And.intro ?_ ?_); · first | omega | with_reducible assumption | exact hk1 | exact hk2 | exact hk3 | exact hk4 | exact hk5 | exact hk6 | exact hr1 | exact hr2)
       intro m3 hm3
       subst hm3
       repeat ((with_reducible refine And.intro ?_ ?_); · first | omega | with_reducible assumption | exact hk1 | exact hk2 | exact hk3 | exact hk4 | exact hk5 | exact hk6 | exact hr1 | exact hr2)
       exact leaf rfl (fin1 _ hv b hB hne)
      ·have he : c = cv := by have := (bne_eq_false_iff_eq.1 hb4); omega
       subst he
       obtain rfl : b = ((y + 1 : Nat) : Int) := by rw [hB.hand hct, hy]
       rw [ey, Int.toNat_natCast]
       repeat ((with_reducible refine And.intro ?_ ?_); · first | omega | with_reducible assumption | exact hk1 | exact hk2 | exact hk3 | exact hk4 | exact hk5 | exact hk6 | exact hr1 | exact hr2)
       intro m3 hm3
       subst hm3
       repeat ((with_reducible refine And.intro ?_ ?_); · first | omega | with_reducible assumption | exact hk1 | exact hk2 | exact hk3 | exact hk4 | exact hk5 | exact hk6 | exact hr1 | exact hr2)
       exact leaf rfl (fin2 _ hv _ hB)
     ·have hlt : ¬ T u ≤ (cv : Int) := of_decide_eq_false hb3
      have hv : ((u + 1 : Nat) : Int) = (if 0 < u + 1 ∧ T (u + 1 - 1) ≤ (cv : Int) then 0 - ((u + 1 : Nat) : Int) else ((u + 1 : Nat) : Int)) := by rw [if_neg (fun h => hlt h.2)]
      refine cond_of (fun hb4 => ?_) (fun hb4 => ?_)
      ·have hne : c ≠ cv := fun e => by rw [e] at hb4; simp at hb4
       repeat ((with_reducible refine And.intro ?_ ?_); · first | omega | with_reducible assumption | exact hk1 | exact hk2 | exact hk3 | exact hk4 | exact hk5 | exact hk6 | exact hr1 | exact hr2)
       intro m2 hm2
       subst hm2
       repeat ((with_reducible refine And.intro ?_ ?_); · first | omega | with_reducible assumption | exact hk1 | exact hk2 | exact hk3 | exact hk4 | exact hk5 | exact hk6 | exact hr1 | exact hr2)
       intro zy hzy
       obtain rfl : zy = ((y + 1 : Nat) : Int) := by
        rw [← hzy, Int.toNat_natCast, Int.toNat_natCast, st_val, if_neg (Ne.symm hne), L'.AtoK hx hct, ← hy]
        have := hB cv hct
        rw [if_neg (Ne.symm hne)] at this; exact this
       rw [ey, Int.toNat_natCast] at *
       repeat ((with_reducible refine And.intro ?_ ?_); · first | omega | with_reducible assumption | exact hk1 | exact hk2 | exact hk3 | exact hk4 | exact hk5 | exact hk6 | exact hr1 | exact hr2)
       intro m3 hm3
       subst hm3
       repeat ((with_reducible refine And.intro ?_ ?_); · first | omega | with_reducible assumption | exact hk1 | exact hk2 | exact hk3 | exact hk4 | exact hk5 | exact hk6 | exact hr1 | exact hr2)
       exact leaf rfl (fin1 _ hv b hB hne)
      ·have he : c = cv := by have := (bne_eq_false_iff_eq.1 hb4); omega
       subst he
       obtain rfl : b = ((y + 1 : Nat) : Int) := by rw [hB.hand hct, hy]
       rw [ey, Int.toNat_natCast]
       repeat ((with_reducible refine And.intro ?_ ?_); · first | omega | with_reducible assumption | exact hk1 | exact hk2 | exact hk3 | exact hk4 | exact hk5 | exact hk6 | exact hr1 | exact hr2)
       intro m3 hm3
       subst hm3
       repeat ((with_reducible refine And.intro ?_ ?_); · first | omega | with_reducible assumption | exact hk1 | exact hk2 | exact hk3 | exact hk4 | exact hk5 | exact hk6 | exact hr1 | exact hr2)
       exact leaf rfl (fin2 _ hv _ hB)
    ·have hq0 : ¬ (q : Int) > 0 := of_decide_eq_false hb2
     have hv : (q : Int) = (if 0 < q ∧ T (q - 1) ≤ (cv : Int) then 0 - (q : Int) else (q : Int)) := by rw [if_neg (fun h => by omega)]
     refine cond_of (fun hb4 => ?_) (fun hb4 => ?_)
     ·have hne : c ≠ cv := fun e => by rw [e] at hb4; simp at hb4
      repeat ((with_reducible refine And.intro ?_ ?_); · first | omega | with_reducible assumption | exact hk1 | exact hk2 | exact hk3 | exact hk4 | exact hk5 | exact hk6 | exact hr1 | exact hr2)
      intro m2 hm2
      subst hm2
      repeat ((with_reducible refine And.intro ?_ ?_); · first | omega | with_reducible assumption | exact hk1 | exact hk2 | exact hk3 | exact hk4 | exact hk5 | exact hk6 | exact hr1 | exact hr2)
      intro zy hzy
      obtain rfl : zy = ((y + 1 : Nat) : Int) := by
       rw [← hzy, Int.toNat_natCast, Int.toNat_natCast, st_val, if_neg (Ne.symm hne), L'.AtoK hx hct, ← hy]
       have := hB cv hct
       rw [if_neg (Ne.symm hne)] at this; exact this
      rw [ey, Int.toNat_natCast] at *
      repeat ((with_reducible refine And.intro ?_ ?_); · first | omega | with_reducible assumption | exact hk1 | exact hk2 | exact hk3 | exact hk4 | exact hk5 | exact hk6 | exact hr1 | exact hr2)
      intro m3 hm3
      subst hm3
      repeat ((with_reducible refine And.intro ?_ ?_); · first | omega | with_reducible assumption | exact hk1 | exact hk2 | exact hk3 | exact hk4 | exact hk5 | exact hk6 | exact hr1 | exact hr2)
      exact leaf rfl (fin1 _ hv b hB hne)
     ·have he : c = cv := by have := (bne_eq_false_iff_eq.1 hb4); omega
      subst he
      obtain rfl : b = ((y + 1 : Nat) : Int) := by rw [hB.hand hct, hy]
      rw [ey, Int.toNat_natCast]
      repeat ((with_reducible refine And.intro ?_ ?_); · first | omega | with_reducible assumption | exact hk1 | exact hk2 | exact hk3 | exact hk4 | exact hk5 | exact hk6 | exact hr1 | exact hr2)
      intro m3 hm3
      subst hm3
      repeat ((with_reducible refine And.intro ?_ ?_); · first | omega | with_reducible assumption | exact hk1 | exact hk2 | exact hk3 | exact hk4 | exact hk5 | exact hk6 | exact hr1 | exact hr2)
      exact leaf rfl (fin2 _ hv _ hB)
  ·have hge : ¬ (x0 : Int) - 1 ≥ 0 := of_decide_eq_false hb
   obtain rfl : x0 = 0 := by omega
   exact XF1_mk (show ∃ (G : Nat → Option Nat) (B : Int → Nat) (c : Nat), InvFS _ _ _ _ _ _ _ _ _ _ _ _ _ _ _ _ _ _ _ from ⟨G, B, c, L', hs, ho, hxn, li, rel, hc, hB⟩)
 ·unfold M_F54
  refine bmax_65 L.hn htm L.t2 L.t1 hck L.tx L.kr L.kro L.akt L.fr fun m1 hs1 ho1 hb1 hd1 => ?_
  have ho1' : Out m m1 (WL f bk ok tm ba oa n) := ho1.mono fun x y h => h.elim .inl (fun h => .inr (.inl h))
  have L1 := L.keep hs1 ho1' (L.fr.done hs1 hd1)
  have hr0 : ∀ p, p < n → m1.val ba (oa + p) = m.val ba (oa + p) := fun x hx => ho1 _ _ (fun h => h.elim (fun h => (L.fr.not_in h).2.1 (InRow.mk hx)) (fun h => L.aka.not_row h (InRow.mk hx)))
  obtain ⟨G0, B0, li0, rel0⟩ := hmid
  obtain ⟨G, li, rel⟩ := fullS_start li0 rel0 (B' := fun c => bs T n c + cc T n c) (fun _ _ => rfl)
  have hk1 := L1.kr 0 L.t1
  have ht1 := L.t1
  have hi1 : inR .i64 ((n : Int) - 1) := inR_i64 (by omega) (by omega)
  rw [show Int.toNat (0 : Int) = 0 by rfl]
  repeat ((with_reducible refine And.intro ?_ ?_); · first | omega | with_reducible assumption | exact hk1 | exact hk2 | exact hk3 | exact hk4 | exact hk5 | exact hk6 | exact hr1 | exact hr2)
  intro z3 hz3
  repeat ((with_reducible refine And.intro ?_ ?_); · first | omega | with_reducible assumption | exact hk1 | exact hk2 | exact hk3 | exact hk4 | exact hk5 | exact hk6 | exact hr1 | exact hr2)
  refine And.intro (And.intro ⟨rfl, rfl, rfl, rfl, rfl, rfl, rfl, rfl, rfl⟩ ⟨n, G, _, 0, rfl, rfl, L1, hs1, ho1', Nat.le_refl _, li, rel.congr hr0, L.t1, fun e he => ?_⟩) (fun z4 z5 z6 m8 hX _ => ?_)
  ·have hbe := hb1 e he
   rw [bs_succ] at hbe
   by_cases he0 : e = 0
   ·subst he0; rw [if_pos rfl, ← hz3, hbe]
   ·rw [if_neg he0, hbe]
  ·obtain ⟨G, B, c, J⟩ := (show ∃ (G : Nat → Option Nat) (B : Int → Nat) (c : Nat), InvFS _ _ _ _ _ _ _ _ _ _ _ _ _ _ _ _ _ _ _ from hX)
   exact hK m8 J.hs J.ho J.L (fullS_fin J.li J.rel)
theorem indS_38 {w0 : World} {m : Mem} {T : Nat → Int} {n tm bt ot ct ba oa ca bk ok ck : Nat} {f : Value} {K : Value → Mem → Prop} (L : Lv m .u8 .i64 T n tm bt ot ba oa bk ok f) (htm : tm = 256)
  (hck : tm ≤ ck) (hmid : MidF T n (fun x => m.val ba (oa + x)))
  (hK : ∀ m', SameK m m' → Out m m' (WL f bk ok tm ba oa n) → Lv m' .u8 .i64 T n tm bt ot ba oa bk ok f → SA T n (fun x => m'.val ba (oa + x)) → K (.tuple #[]) m') :
  callV Try.prog w0 38 [.slice (some ⟨bt, ot, none⟩) n ct, .slice (some ⟨ba, oa, none⟩) n ca, f, .slice (some ⟨bk, ok, none⟩) tm ck] m K := by
 have hn := L.hn
 let I : LI := fun ps ls m' => match ps, ls with
   | [.sl b o l c, .sl b' o' l' c', .sl b2 o2 l2 c2], [.iv _ cB, .iv _ bb, .iv _ i] => (bt = b ∧ ot = o ∧ n = l ∧ ba = b' ∧ oa = o' ∧ n = l' ∧ bk = b2 ∧ ok = o2 ∧ tm = l2) ∧
     ∃ (x : Nat) (G : Nat → Option Nat) (B : Int → Nat) (c : Nat), i = (x : Int) - 1 ∧ cB = c ∧ InvFS m .u8 .i64 T n tm bt ot ba oa bk ok f x G B c bb m'
   | _, _ => False
 let mu : LM := fun _ ls => match ls with | [_, _, .iv _ i] => (i + 1).toNat | _ => 0
 refine C_F38 (I0 := I)
  (X0 := fun _ ps ls m' => match ps, ls with
   | _, [.iv _ cB, .iv _ bb, .iv _ i] => ∃ (G : Nat → Option Nat) (B : Int → Nat) (c : Nat), InvFS m .u8 .i64 T n tm bt ot ba oa bk ok f 0 G B c bb m'
   | _, _ => False) (mu0 := mu) ?_ ?_
 ·intro bt' ot' lt' ct' ba' oa' la' ca' bk' ok' lk' ck' cB b i k m' hI hmu
  obtain ⟨⟨rfl, rfl, rfl, rfl, rfl, rfl, rfl, rfl, rfl⟩, x0, G, B, c, rfl, rfl, hJ⟩ := (show (_ ∧ _ ∧ _ ∧ _ ∧ _ ∧ _ ∧ _ ∧ _ ∧ _) ∧ ∃ (x : Nat) (G : Nat → Option Nat) (B : Int → Nat) (c : Nat), _ ∧ _ ∧ InvFS _ _ _ _ _ _ _ _ _ _ _ _ _ _ _ _ _ _ _ from hI)
  clear hI
  obtain ⟨L', hs, ho, hxn, li, rel, hc, hB⟩ := hJ
  have hmu' : ((x0 : Int) - 1 + 1).toNat < k + 1 := hmu
  have leaf : ∀ {x : Nat} {G' : Nat → Option Nat} {B' : Int → Nat} {c' : Nat} {b' : Int} {m2 : Mem}, x0 = x + 1 → InvFS m .u8 .i64 T n tm bt ot ba oa bk ok f x G' B' c' b' m2 →
    KF1 L0_F38 I mu (P0_F38 bt ot n ct' ba oa n ca' bk ok tm ck') k [.int .u8 c', .int .i64 b', .int .i64 ((x : Int) - 1)] m2 := fun {x _ _ _ _ _} hx h =>
   KF1_mk (And.intro (And.intro ⟨rfl, rfl, rfl, rfl, rfl, rfl, rfl, rfl, rfl⟩ ⟨x, _, _, _, rfl, rfl, h⟩) (show ((x : Int) - 1 + 1).toNat < k from by omega))
  clear_value I mu
  unfold R0_F38
  refine cond_of (fun hb => ?_) (fun hb => ?_)
  ·have hge : (x0 : Int) - 1 ≥ 0 := of_decide_eq_true hb
   obtain ⟨x, rfl⟩ : ∃ x, x0 = x + 1 := ⟨x0 - 1, by omega⟩
   have ex : ((x + 1 : Nat) : Int) - 1 = (x : Int) := by omega
   rw [ex, Int.toNat_natCast]
   have hx : x < n := by omega
   have hk1 := L'.sa x hx
   have hr1 := L'.sro
   have hi64 : inR .i64 ((x : Int) - 1) := inR_i64 (by omega) (by omega)
   refine ⟨by omega, by omega, hk1, fun z hz => ?_⟩
   have hzb : -(n : Int) < z ∧ z < n := by
    rw [← hz]; exact RelFS.lo (A := fun p => m'.val ba (oa + p)) li.toSCore rel hx
   have hz1 : inR .i64 z := inR_i64 (by omega) (by omega)
   repeat ((with_reducible refine And.intro ?_ ?_); · first | omega | with_reducible assumption | exact hk1 | exact hr1)
   refine cond_of (fun hb1 => ?_) (fun hb1 => ?_)
   ·have h0 : 0 ≤ m'.val ba (oa + x) := by rw [hz]; exact of_decide_eq_true hb1
    obtain ⟨li', rel'⟩ := fullS_skip li rel hx h0
    exact ⟨hi64, leaf rfl ⟨L', hs, ho, by omega, li', rel', hc, hB⟩⟩
   ·have hge : ¬ z ≥ 0 := of_decide_eq_false hb1
    have h0 : m'.val ba (oa + x) < 0 := by rw [hz]; omega
    obtain ⟨q, e, q3, q4, q5, li', rel'⟩ := fullS_neg li rel hx h0
    have e0 : 0 - m'.val ba (oa + x) = ((q + 1 : Nat) : Int) := e
    replace e : 0 - z = ((q + 1 : Nat) : Int) := by rw [← hz]; exact e0
    have hz2 : inR .i64 (0 - z) := inR_i64 (by omega) (by omega)
    have hz3 : inR .i64 (0 - z) := inR_i64 (by omega) (by omega)
    rw [e] at hz2 hz3 ⊢
    have L1 := L'.stA hx ((q + 1 : Nat) : Int)
    have ez1 : ((q + 1 : Nat) : Int) - 1 = (q : Int) := by omega
    have hz4 : inR .i64 ((q : Int)) := inR_i64 (by omega) (by omega)
    have hz5 : inR .i64 ((q : Int) - 1) := inR_i64 (by omega) (by omega)
    rw [ez1, Int.toNat_natCast]
    have hk3 := L1.tx.rd q (by omega)
    repeat ((with_reducible refine And.intro ?_ ?_); · first | omega | with_reducible assumption | exact hk1 | exact hk3 | exact hr1)
    intro m1 hm1
    subst hm1
    repeat ((with_reducible refine And.intro ?_ ?_); · first | omega | with_reducible assumption | exact hk1 | exact hk3 | exact hr1)
    intro zv hzv
    obtain ⟨cv, hcv, hct⟩ := L'.letter (i := q) (by omega)
    obtain rfl : zv = (cv : Int) := hzv.symm.trans ((L1.tx.v q (by omega)).trans hcv)
    rw [hcv] at q4 q5 li' rel'
    obtain ⟨y, hy⟩ : ∃ y, B cv = y + 1 := ⟨B cv - 1, by omega⟩
    rw [hy] at q4 li' rel'
    rw [Nat.add_sub_cancel] at li' rel'
    have hyn : y < n := by omega
    have hk4 := L'.kr c hc
    have hr2 := L'.kro
    have hk5 := L'.kr cv hct
    have hk6 := L'.sa y hyn
    have hz6 : inR .i64 (0 - (q : Int)) := inR_i64 (by omega) (by omega)
    have hz7 : inR .i64 (0 - (q : Int)) := inR_i64 (by omega) (by omega)
    have hz8 : inR .i64 (q : Int) := inR_i64 (by omega) (by omega)
    have hz9 : inR .i64 (y : Int) := inR_i64 (by omega) (by omega)
    have ey : ((y + 1 : Nat) : Int) - 1 = (y : Int) := by omega
    have fin1 : ∀ (v : Int), v = (if 0 < q ∧ T (q - 1) ≤ (cv : Int) then 0 - (q : Int) else (q : Int)) → ∀ (b : Int), Bk m' bk ok tm B c b → c ≠ cv →
      InvFS m .u8 .i64 T n tm bt ot ba oa bk ok f x (updG G y q) (updB B cv y) cv (y : Int) ((((m'.st ba (oa + x) ((q + 1 : Nat) : Int)).st bk (ok + c) b).st ba (oa + y) v)) := by
     intro v hv b hBb hne
     refine ⟨((L'.stA hx _).stK hc _).stA hyn _, ((hs.trans (SameK.st _ _ _ _)).trans (SameK.st _ _ _ _)).trans (SameK.st _ _ _ _), ((ho.st (.inr (.inr (InRow.mk hx))) _).st (.inr (.inl (InRow.mk hc))) _).st (.inr (.inr (InRow.mk hyn))) _, by omega, li', rel'.congr fun p hp => ?_, hct, ?_⟩
     ·rw [st_val, (L'.stA hx _).KtoA hp hc, st_val, hv, ← e0]
     ·exact hBb.swap (c := cv) hc y (m' := ((m'.st ba (oa + x) ((q + 1 : Nat) : Int)).st bk (ok + c) b).st ba (oa + y) v) (fun e he => by
       rw [((L'.stA hx _).stK hc _).AtoK hyn he, st_val]
       by_cases hec : e = c
       ·rw [if_pos hec, if_pos hec]
       ·rw [if_neg hec, if_neg hec, L'.AtoK hx he])
    have fin2 : ∀ (v : Int), v = (if 0 < q ∧ T (q - 1) ≤ (cv : Int) then 0 - (q : Int) else (q : Int)) → ∀ (b : Int), Bk m' bk ok tm B cv b →
      InvFS m .u8 .i64 T n tm bt ot ba oa bk ok f x (updG G y q) (updB B cv y) cv (y : Int) ((m'.st ba (oa + x) ((q + 1 : Nat) : Int)).st ba (oa + y) v) := by
     intro v hv b hBb
     refine ⟨(L'.stA hx _).stA hyn _, (hs.trans (SameK.st _ _ _ _)).trans (SameK.st _ _ _ _), (ho.st (.inr (.inr (InRow.mk hx))) _).st (.inr (.inr (InRow.mk hyn))) _, by omega, li', rel'.congr fun p hp => ?_, hct, ?_⟩
     ·rw [st_val, st_val, hv, ← e0]
     ·exact hBb.keep y (m' := (m'.st ba (oa + x) ((q + 1 : Nat) : Int)).st ba (oa + y) v) (fun e he => by
       rw [(L'.stA hx _).AtoK hyn he, L'.AtoK hx he])
    refine cond_of (fun hb2 => ?_) (fun hb2 => ?_)
    ·have hq0 : (q : Int) > 0 := of_decide_eq_true hb2
     obtain ⟨u, rfl⟩ : ∃ u, q = u + 1 := ⟨q - 1, by omega⟩
     have ez2 : ((u + 1 : Nat) : Int) - 1 = (u : Int) := by omega
     rw [ez2] at hz5 ⊢
     rw [Int.toNat_natCast]
     have hk2 := L1.tx.rd u (by omega)
     repeat ((with_reducible refine And.intro ?_ ?_); · first | omega | with_reducible assumption | exact hk1 | exact hk2 | exact hk3 | exact hk4 | exact hk5 | exact hk6 | exact hr1 | exact hr2)
     intro zu hzu
     obtain rfl : zu = T u := hzu.symm.trans (L1.tx.v u (by omega))
     refine cond_of (fun hb3 => ?_) (fun hb3 => ?_)
     ·have hlt : T u ≤ (cv : Int) := of_decide_eq_true hb3
      have hv : (0 - ((u + 1 : Nat) : Int)) = (if 0 < u + 1 ∧ T (u + 1 - 1) ≤ (cv : Int) then 0 - ((u + 1 : Nat) : Int) else ((u + 1 : Nat) : Int)) := by rw [if_pos ⟨by omega, hlt⟩]
      repeat ((with_reducible refine And.intro ?_ ?_); · first | omega | with_reducible assumption | exact hk1 | exact hk2 | exact hk3 | exact hk4 | exact hk5 | exact hk6 | exact hr1 | exact hr2)
      refine cond_of (fun hb4 => ?_) (fun hb4 => ?_)
      ·have hne : c ≠ cv := fun e => by rw [e] at hb4; simp at hb4
       repeat ((with_reducible refine And.intro ?_ ?_); · first | omega | with_reducible assumption | exact hk1 | exact hk2 | exact hk3 | exact hk4 | exact hk5 | exact hk6 | exact hr1 | exact hr2)
       intro m2 hm2
       subst hm2
       repeat ((with_reducible refine And.intro ?_ ?_); · first | omega | with_reducible assumption | exact hk1 | exact hk2 | exact hk3 | exact hk4 | exact hk5 | exact hk6 | exact hr1 | exact hr2)
       intro zy hzy
       obtain rfl : zy = ((y + 1 : Nat) : Int) := by
        rw [← hzy, Int.toNat_natCast, Int.toNat_natCast, st_val, if_neg (Ne.symm hne), L'.AtoK hx hct, ← hy]
        have := hB cv hct
        rw [if_neg (Ne.symm hne)] at this; exact this
       rw [ey, Int.toNat_natCast] at *
       repeat ((with_reducible refine And.intro ?_ ?_); · first | omega | with_reducible assumption | exact hk1 | exact hk2 | exact hk3 | exact hk4 | exact hk5 | exact hk6 | exact hr1 | exact hr2)
       intro m3 hm3
       subst hm3
       repeat ((with_reducible refine And.intro ?_ ?_); · first | omega | with_reducible assumption | exact hk1 | exact hk2 | exact hk3 | exact hk4 | exact hk5 | exact hk6 | exact hr1 | exact hr2)
       exact leaf rfl (fin1 _ hv b hB hne)
      ·have he : c = cv := by have := (bne_eq_false_iff_eq.1 hb4); omega
       subst he
       obtain rfl : b = ((y + 1 : Nat) : Int) := by rw [hB.hand hct, hy]
       rw [ey, Int.toNat_natCast]
       repeat ((with_reducible refine And.intro ?_ ?_); · first | omega | with_reducible assumption | exact hk1 | exact hk2 | exact hk3 | exact hk4 | exact hk5 | exact hk6 | exact hr1 | exact hr2)
       intro m3 hm3
       subst hm3
       repeat ((with_reducible refine And.intro ?_ ?_); · first | omega | with_reducible assumption | exact hk1 | exact hk2 | exact hk3 | exact hk4 | exact hk5 | exact hk6 | exact hr1 | exact hr2)
       exact leaf rfl (fin2 _ hv _ hB)
     ·have hlt : ¬ T u ≤ (cv : Int) := of_decide_eq_false hb3
      have hv : ((u + 1 : Nat) : Int) = (if 0 < u + 1 ∧ T (u + 1 - 1) ≤ (cv : Int) then 0 - ((u + 1 : Nat) : Int) else ((u + 1 : Nat) : Int)) := by rw [if_neg (fun h => hlt h.2)]
      refine cond_of (fun hb4 => ?_) (fun hb4 => ?_)
      ·have hne : c ≠ cv := fun e => by rw [e] at hb4; simp at hb4
       repeat ((with_reducible refine And.intro ?_ ?_); · first | omega | with_reducible assumption | exact hk1 | exact hk2 | exact hk3 | exact hk4 | exact hk5 | exact hk6 | exact hr1 | exact hr2)
       intro m2 hm2
       subst hm2
       repeat ((with_reducible refine And.intro ?_ ?_); · first | omega | with_reducible assumption | exact hk1 | exact hk2 | exact hk3 | exact hk4 | exact hk5 | exact hk6 | exact hr1 | exact hr2)
       intro zy hzy
       obtain rfl : zy = ((y + 1 : Nat) : Int) := by
        rw [← hzy, Int.toNat_natCast, Int.toNat_natCast, st_val, if_neg (Ne.symm hne), L'.AtoK hx hct, ← hy]
        have := hB cv hct
        rw [if_neg (Ne.symm hne)] at this; exact this
       rw [ey, Int.toNat_natCast] at *
       repeat ((with_reducible refine And.intro ?_ ?_); · first | omega | with_reducible assumption | exact hk1 | exact hk2 | exact hk3 | exact hk4 | exact hk5 | exact hk6 | exact hr1 | exact hr2)
       intro m3 hm3
       subst hm3
       repeat ((with_reducible refine And.intro ?_ ?_); · first | omega | with_reducible assumption | exact hk1 | exact hk2 | exact hk3 | exact hk4 | exact hk5 | exact hk6 | exact hr1 | exact hr2)
       exact leaf rfl (fin1 _ hv b hB hne)
      ·have he : c = cv := by have := (bne_eq_false_iff_eq.1 hb4); omega
       subst he
       obtain rfl : b = ((y + 1 : Nat) : Int) := by rw [hB.hand hct, hy]
       rw [ey, Int.toNat_natCast]
       repeat ((with_reducible refine And.intro ?_ ?_); · first | omega | with_reducible assumption | exact hk1 | exact hk2 | exact hk3 | exact hk4 | exact hk5 | exact hk6 | exact hr1 | exact hr2)
       intro m3 hm3
       subst hm3
       repeat ((with_reducible refine And.intro ?_ ?_); · first | omega | with_reducible assumption | exact hk1 | exact hk2 | exact hk3 | exact hk4 | exact hk5 | exact hk6 | exact hr1 | exact hr2)
       exact leaf rfl (fin2 _ hv _ hB)
    ·have hq0 : ¬ (q : Int) > 0 := of_decide_eq_false hb2
     have hv : (q : Int) = (if 0 < q ∧ T (q - 1) ≤ (cv : Int) then 0 - (q : Int) else (q : Int)) := by rw [if_neg (fun h => by omega)]
     refine cond_of (fun hb4 => ?_) (fun hb4 => ?_)
     ·have hne : c ≠ cv := fun e => by rw [e] at hb4; simp at hb4
      repeat ((with_reducible refine And.intro ?_ ?_); · first | omega | with_reducible assumption | exact hk1 | exact hk2 | exact hk3 | exact hk4 | exact hk5 | exact hk6 | exact hr1 | exact hr2)
      intro m2 hm2
      subst hm2
      repeat ((with_reducible refine And.intro ?_ ?_); · first | omega | with_reducible assumption | exact hk1 | exact hk2 | exact hk3 | exact hk4 | exact hk5 | exact hk6 | exact hr1 | exact hr2)
      intro zy hzy
      obtain rfl : zy = ((y + 1 : Nat) : Int) := by
       rw [← hzy, Int.toNat_natCast, Int.toNat_natCast, st_val, if_neg (Ne.symm hne), L'.AtoK hx hct, ← hy]
       have := hB cv hct
       rw [if_neg (Ne.symm hne)] at this; exact this
      rw [ey, Int.toNat_natCast] at *
      repeat ((with_reducible refine And.intro ?_ ?_); · first | omega | with_reducible assumption | exact hk1 | exact hk2 | exact hk3 | exact hk4 | exact hk5 | exact hk6 | exact hr1 | exact hr2)
      intro m3 hm3
      subst hm3
      repeat ((with_reducible refine And.intro ?_ ?_); · first | omega | with_reducible assumption | exact hk1 | exact hk2 | exact hk3 | exact hk4 | exact hk5 | exact hk6 | exact hr1 | exact hr2)
      exact leaf rfl (fin1 _ hv b hB hne)
     ·have he : c = cv := by have := (bne_eq_false_iff_eq.1 hb4); omega
      subst he
      obtain rfl : b = ((y + 1 : Nat) : Int) := by rw [hB.hand hct, hy]
      rw [ey, Int.toNat_natCast]
      repeat ((with_reducible refine And.intro ?_ ?_); · first | omega | with_reducible assumption | exact hk1 | exact hk2 | exact hk3 | exact hk4 | exact hk5 | exact hk6 | exact hr1 | exact hr2)
      intro m3 hm3
      subst hm3
      repeat ((with_reducible refine And.intro ?_ ?_); · first | omega | with_reducible assumption | exact hk1 | exact hk2 | exact hk3 | exact hk4 | exact hk5 | exact hk6 | exact hr1 | exact hr2)
      exact leaf rfl (fin2 _ hv _ hB)
  ·have hge : ¬ (x0 : Int) - 1 ≥ 0 := of_decide_eq_false hb
   obtain rfl : x0 = 0 := by omega
   exact XF1_mk (show ∃ (G : Nat → Option Nat) (B : Int → Nat) (c : Nat), InvFS _ _ _ _ _ _ _ _ _ _ _ _ _ _ _ _ _ _ _ from ⟨G, B, c, L', hs, ho, hxn, li, rel, hc, hB⟩)
 ·unfold M_F38
  refine bmax_42 L.hn htm L.t2 L.t1 hck L.tx L.kr L.kro L.akt L.fr fun m1 hs1 ho1 hb1 hd1 => ?_
  have ho1' : Out m m1 (WL f bk ok tm ba oa n) := ho1.mono fun x y h => h.elim .inl (fun h => .inr (.inl h))
  have L1 := L.keep hs1 ho1' (L.fr.done hs1 hd1)
  have hr0 : ∀ p, p < n → m1.val ba (oa + p) = m.val ba (oa + p) := fun x hx => ho1 _ _ (fun h => h.elim (fun h => (L.fr.not_in h).2.1 (InRow.mk hx)) (fun h => L.aka.not_row h (InRow.mk hx)))
  obtain ⟨G0, B0, li0, rel0⟩ := hmid
  obtain ⟨G, li, rel⟩ := fullS_start li0 rel0 (B' := fun c => bs T n c + cc T n c) (fun _ _ => rfl)
  have hk1 := L1.kr 0 L.t1
  have ht1 := L.t1
  have hi1 : inR .i64 ((n : Int) - 1) := inR_i64 (by omega) (by omega)
  rw [show Int.toNat (0 : Int) = 0 by rfl]
  repeat ((with_reducible refine And.intro ?_ ?_); · first | omega | with_reducible assumption | exact hk1 | exact hk2 | exact hk3 | exact hk4 | exact hk5 | exact hk6 | exact hr1 | exact hr2)
  intro z3 hz3
  repeat ((with_reducible refine And.intro ?_ ?_); · first | omega | with_reducible assumption | exact hk1 | exact hk2 | exact hk3 | exact hk4 | exact hk5 | exact hk6 | exact hr1 | exact hr2)
  refine And.intro (And.intro ⟨rfl, rfl, rfl, rfl, rfl, rfl, rfl, rfl, htm⟩ ⟨n, G, _, 0, rfl, rfl, L1, hs1, ho1', Nat.le_refl _, li, rel.congr hr0, L.t1, fun e he => ?_⟩) (fun z4 z5 z6 m8 hX _ => ?_)
  ·have hbe := hb1 e he
   rw [bs_succ] at hbe
   by_cases he0 : e = 0
   ·subst he0; rw [if_pos rfl, ← hz3, hbe]
   ·rw [if_neg he0, hbe]
  ·obtain ⟨G, B, c, J⟩ := (show ∃ (G : Nat → Option Nat) (B : Int → Nat) (c : Nat), InvFS _ _ _ _ _ _ _ _ _ _ _ _ _ _ _ _ _ _ _ from hX)
   exact hK m8 J.hs J.ho J.L (fullS_fin J.li J.rel)
theorem indS_64 {w0 : World} {m : Mem} {T : Nat → Int} {n tm bt ot ct ba oa ca bk ok ck : Nat} {f : Value} {K : Value → Mem → Prop} (L : Lv m .i64 .i64 T n tm bt ot ba oa bk ok f) (htm : True)
  (hck : tm ≤ ck) (hmid : MidF T n (fun x => m.val ba (oa + x)))
  (hK : ∀ m', SameK m m' → Out m m' (WL f bk ok tm ba oa n) → Lv m' .i64 .i64 T n tm bt ot ba oa bk ok f → SA T n (fun x => m'.val ba (oa + x)) → K (.tuple #[]) m') :
  callV Try.prog w0 64 [.slice (some ⟨bt, ot, none⟩) n ct, .slice (some ⟨ba, oa, none⟩) n ca, f, .slice (some ⟨bk, ok, none⟩) tm ck] m K := by
 have hn := L.hn
 let I : LI := fun ps ls m' => match ps, ls with
   | [.sl b o l c, .sl b' o' l' c', .sl b2 o2 l2 c2], [.iv _ cB, .iv _ bb, .iv _ i] => (bt = b ∧ ot = o ∧ n = l ∧ ba = b' ∧ oa = o' ∧ n = l' ∧ bk = b2 ∧ ok = o2 ∧ tm = l2) ∧
     ∃ (x : Nat) (G : Nat → Option Nat) (B : Int → Nat) (c : Nat), i = (x : Int) - 1 ∧ cB = c ∧ InvFS m .i64 .i64 T n tm bt ot ba oa bk ok f x G B c bb m'
   | _, _ => False
 let mu : LM := fun _ ls => match ls with | [_, _, .iv _ i] => (i + 1).toNat | _ => 0
 refine C_F64 (I0 := I)
  (X0 := fun _ ps ls m' => match ps, ls with
   | _, [.iv _ cB, .iv _ bb, .iv _ i] => ∃ (G : Nat → Option Nat) (B : Int → Nat) (c : Nat), InvFS m .i64 .i64 T n tm bt ot ba oa bk ok f 0 G B c bb m'
   | _, _ => False) (mu0 := mu) ?_ ?_
 ·intro bt' ot' lt' ct' ba' oa' la' ca' bk' ok' lk' ck' cB b i k m' hI hmu
  obtain ⟨⟨rfl, rfl, rfl, rfl, rfl, rfl, rfl, rfl, rfl⟩, x0, G, B, c, rfl, rfl, hJ⟩ := (show (_ ∧ _ ∧ _ ∧ _ ∧ _ ∧ _ ∧ _ ∧ _ ∧ _) ∧ ∃ (x : Nat) (G : Nat → Option Nat) (B : Int → Nat) (c : Nat), _ ∧ _ ∧ InvFS _ _ _ _ _ _ _ _ _ _ _ _ _ _ _ _ _ _ _ from hI)
  clear hI
  obtain ⟨L', hs, ho, hxn, li, rel, hc, hB⟩ := hJ
  have hmu' : ((x0 : Int) - 1 + 1).toNat < k + 1 := hmu
  have leaf : ∀ {x : Nat} {G' : Nat → Option Nat} {B' : Int → Nat} {c' : Nat} {b' : Int} {m2 : Mem}, x0 = x + 1 → InvFS m .i64 .i64 T n tm bt ot ba oa bk ok f x G' B' c' b' m2 →
    KF1 L0_F64 I mu (P0_F64 bt ot n ct' ba oa n ca' bk ok tm ck') k [.int .i64 c', .int .i64 b', .int .i64 ((x : Int) - 1)] m2 := fun {x _ _ _ _ _} hx h =>
   KF1_mk (And.intro (And.intro ⟨rfl, rfl, rfl, rfl, rfl, rfl, rfl, rfl, rfl⟩ ⟨x, _, _, _, rfl, rfl, h⟩) (show ((x : Int) - 1 + 1).toNat < k from by omega))
  clear_value I mu
  unfold R0_F64
  refine cond_of (fun hb => ?_) (fun hb => ?_)
  ·have hge : (x0 : Int) - 1 ≥ 0 := of_decide_eq_true hb
   obtain ⟨x, rfl⟩ : ∃ x, x0 = x + 1 := ⟨x0 - 1, by omega⟩
   have ex : ((x + 1 : Nat) : Int) - 1 = (x : Int) := by omega
   rw [ex, Int.toNat_natCast]
   have hx : x < n := by omega
   have hk1 := L'.sa x hx
   have hr1 := L'.sro
   have hi64 : inR .i64 ((x : Int) - 1) := inR_i64 (by omega) (by omega)
   refine ⟨by omega, by omega, hk1, fun z hz => ?_⟩
   have hzb : -(n : Int) < z ∧ z < n := by
    rw [← hz]; exact RelFS.lo (A := fun p => m'.val ba (oa + p)) li.toSCore rel hx
   have hz1 : inR .i64 z := inR_i64 (by omega) (by omega)
   repeat ((with_reducible refine And.intro ?_ ?_); · first | omega | with_reducible assumption | exact hk1 | exact hr1)
   refine cond_of (fun hb1 => ?_) (fun hb1 => ?_)
   ·have h0 : 0 ≤ m'.val ba (oa + x) := by rw [hz]; exact of_decide_eq_true hb1
    obtain ⟨li', rel'⟩ := fullS_skip li rel hx h0
    exact ⟨hi64, leaf rfl ⟨L', hs, ho, by omega, li', rel', hc, hB⟩⟩
   ·have hge : ¬ z ≥ 0 := of_decide_eq_false hb1
    have h0 : m'.val ba (oa + x) < 0 := by rw [hz]; omega
    obtain ⟨q, e, q3, q4, q5, li', rel'⟩ := fullS_neg li rel hx h0
    have e0 : 0 - m'.val ba (oa + x) = ((q + 1 : Nat) : Int) := e
    replace e : 0 - z = ((q + 1 : Nat) : Int) := by rw [← hz]; exact e0
    have hz2 : inR .i64 (0 - z) := inR_i64 (by omega) (by omega)
    have hz3 : inR .i64 (0 - z) := inR_i64 (by omega) (by omega)
    rw [e] at hz2 hz3 ⊢
    have L1 := L'.stA hx ((q + 1 : Nat) : Int)
    have ez1 : ((q + 1 : Nat) : Int) - 1 = (q : Int) := by omega
    have hz4 : inR .i64 ((q : Int)) := inR_i64 (by omega) (by omega)
    have hz5 : inR .i64 ((q : Int) - 1) := inR_i64 (by omega) (by omega)
    rw [ez1, Int.toNat_natCast]
    have hk3 := L1.tx.rd q (by omega)
    repeat ((with_reducible refine And.intro ?_ ?_); · first | omega | with_reducible assumption | exact hk1 | exact hk3 | exact hr1)
    intro m1 hm1
    subst hm1
    repeat ((with_reducible refine And.intro ?_ ?_); · first | omega | with_reducible assumption | exact hk1 | exact hk3 | exact hr1)
    intro zv hzv
    obtain ⟨cv, hcv, hct⟩ := L'.letter (i := q) (by omega)
    obtain rfl : zv = (cv : Int) := hzv.symm.trans ((L1.tx.v q (by omega)).trans hcv)
    rw [hcv] at q4 q5 li' rel'
    obtain ⟨y, hy⟩ : ∃ y, B cv = y + 1 := ⟨B cv - 1, by omega⟩
    rw [hy] at q4 li' rel'
    rw [Nat.add_sub_cancel] at li' rel'
    have hyn : y < n := by omega
    have hk4 := L'.kr c hc
    have hr2 := L'.kro
    have hk5 := L'.kr cv hct
    have hk6 := L'.sa y hyn
    have hz6 : inR .i64 (0 - (q : Int)) := inR_i64 (by omega) (by omega)
    have hz7 : inR .i64 (0 - (q : Int)) := inR_i64 (by omega) (by omega)
    have hz8 : inR .i64 (q : Int) := inR_i64 (by omega) (by omega)
    have hz9 : inR .i64 (y : Int) := inR_i64 (by omega) (by omega)
    have ey : ((y + 1 : Nat) : Int) - 1 = (y : Int) := by omega
    have fin1 : ∀ (v : Int), v = (if 0 < q ∧ T (q - 1) ≤ (cv : Int) then 0 - (q : Int) else (q : Int)) → ∀ (b : Int), Bk m' bk ok tm B c b → c ≠ cv →
      InvFS m .i64 .i64 T n tm bt ot ba oa bk ok f x (updG G y q) (updB B cv y) cv (y : Int) ((((m'.st ba (oa + x) ((q + 1 : Nat) : Int)).st bk (ok + c) b).st ba (oa + y) v)) := by
     intro v hv b hBb hne
     refine ⟨((L'.stA hx _).stK hc _).stA hyn _, ((hs.trans (SameK.st _ _ _ _)).trans (SameK.st _ _ _ _)).trans (SameK.st _ _ _ _), ((ho.st (.inr (.inr (InRow.mk hx))) _).st (.inr (.inl (InRow.mk hc))) _).st (.inr (.inr (InRow.mk hyn))) _, by omega, li', rel'.congr fun p hp => ?_, hct, ?_⟩
     ·rw [st_val, (L'.stA hx _).KtoA hp hc, st_val, hv, ← e0]
     ·exact hBb.swap (c := cv) hc y (m' := ((m'.st ba (oa + x) ((q + 1 : Nat) : Int)).st bk (ok + c) b).st ba (oa + y) v) (fun e he => by
       rw [((L'.stA hx _).stK hc _).AtoK hyn he, st_val]
       by_cases hec : e = c
       ·rw [if_pos hec, if_pos hec]
       ·rw [if_neg hec, if_neg hec, L'.AtoK hx he])
    have fin2 : ∀ (v : Int), v = (if 0 < q ∧ T (q - 1) ≤ (cv : Int) then 0 - (q : Int) else (q : Int)) → ∀ (b : Int), Bk m' bk ok tm B cv b →
      InvFS m .i64 .i64 T n tm bt ot ba oa bk ok f x (updG G y q) (updB B cv y) cv (y : Int) ((m'.st ba (oa + x) ((q + 1 : Nat) : Int)).st ba (oa + y) v) := by
     intro v hv b hBb
     refine ⟨(L'.stA hx _).stA hyn _, (hs.trans (SameK.st _ _ _ _)).trans (SameK.st _ _ _ _), (ho.st (.inr (.inr (InRow.mk hx))) _).st (.inr (.inr (InRow.mk hyn))) _, by omega, li', rel'.congr fun p hp => ?_, hct, ?_⟩
     ·rw [st_val, st_val, hv, ← e0]
     ·exact hBb.keep y (m' := (m'.st ba (oa + x) ((q + 1 : Nat) : Int)).st ba (oa + y) v) (fun e he => by
       rw [(L'.stA hx _).AtoK hyn he, L'.AtoK hx he])
    refine cond_of (fun hb2 => ?_) (fun hb2 => ?_)
    ·have hq0 : (q : Int) > 0 := of_decide_eq_true hb2
     obtain ⟨u, rfl⟩ : ∃ u, q = u + 1 := ⟨q - 1, by omega⟩
     have ez2 : ((u + 1 : Nat) : Int) - 1 = (u : Int) := by omega
     rw [ez2] at hz5 ⊢
     rw [Int.toNat_natCast]
     have hk2 := L1.tx.rd u (by omega)
     repeat ((with_reducible refine And.intro ?_ ?_); · first | omega | with_reducible assumption | exact hk1 | exact hk2 | exact hk3 | exact hk4 | exact hk5 | exact hk6 | exact hr1 | exact hr2)
     intro zu hzu
     obtain rfl : zu = T u := hzu.symm.trans (L1.tx.v u (by omega))
     refine cond_of (fun hb3 => ?_) (fun hb3 => ?_)
     ·have hlt : T u ≤ (cv : Int) := of_decide_eq_true hb3
      have hv : (0 - ((u + 1 : Nat) : Int)) = (if 0 < u + 1 ∧ T (u + 1 - 1) ≤ (cv : Int) then 0 - ((u + 1 : Nat) : Int) else ((u + 1 : Nat) : Int)) := by rw [if_pos ⟨by omega, hlt⟩]
      repeat ((with_reducible refine And.intro ?_ ?_); · first | omega | with_reducible assumption | exact hk1 | exact hk2 | exact hk3 | exact hk4 | exact hk5 | exact hk6 | exact hr1 | exact hr2)
      refine cond_of (fun hb4 => ?_) (fun hb4 => ?_)
      ·have hne : c ≠ cv := fun e => by rw [e] at hb4; simp at hb4
       repeat ((with_reducible refine And.intro ?_ ?_); · first | omega | with_reducible assumption | exact hk1 | exact hk2 | exact hk3 | exact hk4 | exact hk5 | exact hk6 | exact hr1 | exact hr2)
       intro m2 hm2
       subst hm2
       repeat ((with_reducible refine And.intro ?_ ?_); · first | omega | with_reducible assumption | exact hk1 | exact hk2 | exact hk3 | exact hk4 | exact hk5 | exact hk6 | exact hr1 | exact hr2)
       intro zy hzy
       obtain rfl : zy = ((y + 1 : Nat) : Int) := by
        rw [← hzy, Int.toNat_natCast, Int.toNat_natCast, st_val, if_neg (Ne.symm hne), L'.AtoK hx hct, ← hy]
        have := hB cv hct
        rw [if_neg (Ne.symm hne)] at this; exact this
       rw [ey, Int.toNat_natCast] at *
       repeat ((with_reducible refine And.intro ?_ ?_); · first | omega | with_reducible assumption | exact hk1 | exact hk2 | exact hk3 | exact hk4 | exact hk5 | exact hk6 | exact hr1 | exact hr2)
       intro m3 hm3
       subst hm3
       repeat ((with_reducible refine And.intro ?_ ?_); · first | omega | with_reducible assumption | exact hk1 | exact hk2 | exact hk3 | exact hk4 | exact hk5 | exact hk6 | exact hr1 | exact hr2)
       exact leaf rfl (fin1 _ hv b hB hne)
      ·have he : c = cv := by have := (bne_eq_false_iff_eq.1 hb4); omega
       subst he
       obtain rfl : b = ((y + 1 : Nat) : Int) := by rw [hB.hand hct, hy]
       rw [ey, Int.toNat_natCast]
       repeat ((with_reducible refine And.intro ?_ ?_); · first | omega | with_reducible assumption | exact hk1 | exact hk2 | exact hk3 | exact hk4 | exact hk5 | exact hk6 | exact hr1 | exact hr2)
       intro m3 hm3
       subst hm3
       repeat ((with_reducible refine And.intro ?_ ?_); · first | omega | with_reducible assumption | exact hk1 | exact hk2 | exact hk3 | exact hk4 | exact hk5 | exact hk6 | exact hr1 | exact hr2)
       exact leaf rfl (fin2 _ hv _ hB)
     ·have hlt : ¬ T u ≤ (cv : Int) := of_decide_eq_false hb3
      have hv : ((u + 1 : Nat) : Int) = (if 0 < u + 1 ∧ T (u + 1 - 1) ≤ (cv : Int) then 0 - ((u + 1 : Nat) : Int) else ((u + 1 : Nat) : Int)) := by rw [if_neg (fun h => hlt h.2)]
      refine cond_of (fun hb4 => ?_) (fun hb4 => ?_)
      ·have hne : c ≠ cv := fun e => by rw [e] at hb4; simp at hb4
       repeat ((with_reducible refine And.intro ?_ ?_); · first | omega | with_reducible assumption | exact hk1 | exact hk2 | exact hk3 | exact hk4 | exact hk5 | exact hk6 | exact hr1 | exact hr2)
       intro m2 hm2
       subst hm2
       repeat ((with_reducible refine And.intro ?_ ?_); · first | omega | with_reducible assumption | exact hk1 | exact hk2 | exact hk3 | exact hk4 | exact hk5 | exact hk6 | exact hr1 | exact hr2)
       intro zy hzy
       obtain rfl : zy = ((y + 1 : Nat) : Int) := by
        rw [← hzy, Int.toNat_natCast, Int.toNat_natCast, st_val, if_neg (Ne.symm hne), L'.AtoK hx hct, ← hy]
        have := hB cv hct
        rw [if_neg (Ne.symm hne)] at this; exact this
       rw [ey, Int.toNat_natCast] at *
       repeat ((with_reducible refine And.intro ?_ ?_); · first | omega | with_reducible assumption | exact hk1 | exact hk2 | exact hk3 | exact hk4 | exact hk5 | exact hk6 | exact hr1 | exact hr2)
       intro m3 hm3
       subst hm3
       repeat ((with_reducible refine And.intro ?_ ?_); · first | omega | with_reducible assumption | exact hk1 | exact hk2 | exact hk3 | exact hk4 | exact hk5 | exact hk6 | exact hr1 | exact hr2)
       exact leaf rfl (fin1 _ hv b hB hne)
      ·have he : c = cv := by have := (bne_eq_false_iff_eq.1 hb4); omega
       subst he
       obtain rfl : b = ((y + 1 : Nat) : Int) := by rw [hB.hand hct, hy]
       rw [ey, Int.toNat_natCast]
       repeat ((with_reducible refine And.intro ?_ ?_); · first | omega | with_reducible assumption | exact hk1 | exact hk2 | exact hk3 | exact hk4 | exact hk5 | exact hk6 | exact hr1 | exact hr2)
       intro m3 hm3
       subst hm3
       repeat ((with_reducible refine And.intro ?_ ?_); · first | omega | with_reducible assumption | exact hk1 | exact hk2 | exact hk3 | exact hk4 | exact hk5 | exact hk6 | exact hr1 | exact hr2)
       exact leaf rfl (fin2 _ hv _ hB)
    ·have hq0 : ¬ (q : Int) > 0 := of_decide_eq_false hb2
     have hv : (q : Int) = (if 0 < q ∧ T (q - 1) ≤ (cv : Int) then 0 - (q : Int) else (q : Int)) := by rw [if_neg (fun h => by omega)]
     refine cond_of (fun hb4 => ?_) (fun hb4 => ?_)
     ·have hne : c ≠ cv := fun e => by rw [e] at hb4; simp at hb4
      repeat ((with_reducible refine And.intro ?_ ?_); · first | omega | with_reducible assumption | exact hk1 | exact hk2 | exact hk3 | exact hk4 | exact hk5 | exact hk6 | exact hr1 | exact hr2)
      intro m2 hm2
      subst hm2
      repeat ((with_reducible refine And.intro ?_ ?_); · first | omega | with_reducible assumption | exact hk1 | exact hk2 | exact hk3 | exact hk4 | exact hk5 | exact hk6 | exact hr1 | exact hr2)
      intro zy hzy
      obtain rfl : zy = ((y + 1 : Nat) : Int) := by
       rw [← hzy, Int.toNat_natCast, Int.toNat_natCast, st_val, if_neg (Ne.symm hne), L'.AtoK hx hct, ← hy]
       have := hB cv hct
       rw [if_neg (Ne.symm hne)] at this; exact this
      rw [ey, Int.toNat_natCast] at *
      repeat ((with_reducible refine And.intro ?_ ?_); · first | omega | with_reducible assumption | exact hk1 | exact hk2 | exact hk3 | exact hk4 | exact hk5 | exact hk6 | exact hr1 | exact hr2)
      intro m3 hm3
      subst hm3
      repeat ((with_reducible refine And.intro ?_ ?_); · first | omega | with_reducible assumption | exact hk1 | exact hk2 | exact hk3 | exact hk4 | exact hk5 | exact hk6 | exact hr1 | exact hr2)
      exact leaf rfl (fin1 _ hv b hB hne)
     ·have he : c = cv := by have := (bne_eq_false_iff_eq.1 hb4); omega
      subst he
      obtain rfl : b = ((y + 1 : Nat) : Int) := by rw [hB.hand hct, hy]
      rw [ey, Int.toNat_natCast]
      repeat ((with_reducible refine And.intro ?_ ?_); · first | omega | with_reducible assumption | exact hk1 | exact hk2 | exact hk3 | exact hk4 | exact hk5 | exact hk6 | exact hr1 | exact hr2)
      intro m3 hm3
      subst hm3
      repeat ((with_reducible refine And.intro ?_ ?_); · first | omega | with_reducible assumption | exact hk1 | exact hk2 | exact hk3 | exact hk4 | exact hk5 | exact hk6 | exact hr1 | exact hr2)
      exact leaf rfl (fin2 _ hv _ hB)
  ·have hge : ¬ (x0 : Int) - 1 ≥ 0 := of_decide_eq_false hb
   obtain rfl : x0 = 0 := by omega
   exact XF1_mk (show ∃ (G : Nat → Option Nat) (B : Int → Nat) (c : Nat), InvFS _ _ _ _ _ _ _ _ _ _ _ _ _ _ _ _ _ _ _ from ⟨G, B, c, L', hs, ho, hxn, li, rel, hc, hB⟩)
 ·unfold M_F64
  refine bmax_67 L.hn htm L.t2 L.t1 hck L.tx L.kr L.kro L.akt L.fr fun m1 hs1 ho1 hb1 hd1 => ?_
  have ho1' : Out m m1 (WL f bk ok tm ba oa n) := ho1.mono fun x y h => h.elim .inl (fun h => .inr (.inl h))
  have L1 := L.keep hs1 ho1' (L.fr.done hs1 hd1)
  have hr0 : ∀ p, p < n → m1.val ba (oa + p) = m.val ba (oa + p) := fun x hx => ho1 _ _ (fun h => h.elim (fun h => (L.fr.not_in h).2.1 (InRow.mk hx)) (fun h => L.aka.not_row h (InRow.mk hx)))
  obtain ⟨G0, B0, li0, rel0⟩ := hmid
  obtain ⟨G, li, rel⟩ := fullS_start li0 rel0 (B' := fun c => bs T n c + cc T n c) (fun _ _ => rfl)
  have hk1 := L1.kr 0 L.t1
  have ht1 := L.t1
  have hi1 : inR .i64 ((n : Int) - 1) := inR_i64 (by omega) (by omega)
  rw [show Int.toNat (0 : Int) = 0 by rfl]
  repeat ((with_reducible refine And.intro ?_ ?_); · first | omega | with_reducible assumption | exact hk1 | exact hk2 | exact hk3 | exact hk4 | exact hk5 | exact hk6 | exact hr1 | exact hr2)
  intro z3 hz3
  repeat ((with_reducible refine And.intro ?_ ?_); · first | omega | with_reducible assumption | exact hk1 | exact hk2 | exact hk3 | exact hk4 | exact hk5 | exact hk6 | exact hr1 | exact hr2)
  refine And.intro (And.intro ⟨rfl, rfl, rfl, rfl, rfl, rfl, rfl, rfl, rfl⟩ ⟨n, G, _, 0, rfl, rfl, L1, hs1, ho1', Nat.le_refl _, li, rel.congr hr0, L.t1, fun e he => ?_⟩) (fun z4 z5 z6 m8 hX _ => ?_)
  ·have hbe := hb1 e he
   rw [bs_succ] at hbe
   by_cases he0 : e = 0
   ·subst he0; rw [if_pos rfl, ← hz3, hbe]
   ·rw [if_neg he0, hbe]
  ·obtain ⟨G, B, c, J⟩ := (show ∃ (G : Nat → Option Nat) (B : Int → Nat) (c : Nat), InvFS _ _ _ _ _ _ _ _ _ _ _ _ _ _ _ _ _ _ _ from hX)
   exact hK m8 J.hs J.ho J.L (fullS_fin J.li J.rel)
end Go.Proofs.Ytdhifgedhaapjaa

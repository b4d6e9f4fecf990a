import Derived.Test.YtdhifgedhaapjaaGreatDoorLi
import Derived.Test.YtdhifgedhaapjaaGreatDoorLf
namespace Go.Proofs.YtdhifgedhaapjaaGreatDoor
open Go Sa
theorem subL_71 {w0 : World} {m : Mem} {T : Nat → Int} {n tm bt ot ct ba oa ca bk ok ck : Nat} {f : Value} {K : Value → Mem → Prop} (L : Lv m .u8 .i32 T n tm bt ot ba oa bk ok f) (htm : tm = 256)
  (hck : tm ≤ ck) {d : Nat} (hd : St T n d) (hsd : Seeds T n d (fun x => m.val ba (oa + x)))
  (hK : ∀ m', SameK m m' → Out m m' (WL f bk ok tm ba oa n) → Lv m' .u8 .i32 T n tm bt ot ba oa bk ok f → Tops T n d (fun x => m'.val ba (oa + x)) → K (.tuple #[]) m') :
  callV Tryz.prog w0 71 [.slice (some ⟨bt, ot, none⟩) n ct, .slice (some ⟨ba, oa, none⟩) n ca, f, .slice (some ⟨bk, ok, none⟩) tm ck] m K := by
 have hn := L.hn
 let I : LI := fun ps ls m' => match ps, ls with
   | [.sl b o l c, .sl b' o' l' c', .sl b2 o2 l2 c2], [.iv _ cB, .iv _ bb, .iv _ i] => (bt = b ∧ ot = o ∧ n = l ∧ ba = b' ∧ oa = o' ∧ n = l' ∧ bk = b2 ∧ ok = o2 ∧ tm = l2) ∧
     ∃ (x : Nat) (G : Nat → Option Nat) (B : Int → Nat) (c : Nat), i = x ∧ cB = c ∧ InvSL m .u8 .i32 T n tm bt ot ba oa bk ok f d x G B c bb m'
   | _, _ => False
 let mu : LM := fun _ ls => match ls with | [_, _, .iv _ i] => (n - i).toNat | _ => 0
 refine C_F71 (I0 := I)
  (X0 := fun _ ps ls m' => match ps, ls with
   | _, [.iv _ cB, .iv _ bb, .iv _ i] => ∃ (G : Nat → Option Nat) (B : Int → Nat) (c : Nat), InvSL m .u8 .i32 T n tm bt ot ba oa bk ok f d n G B c bb m'
   | _, _ => False) (mu0 := mu) ?_ ?_
 ·intro bt' ot' lt' ct' ba' oa' la' ca' bk' ok' lk' ck' cB b i k m' hI hmu
  obtain ⟨⟨rfl, rfl, rfl, rfl, rfl, rfl, rfl, rfl, rfl⟩, x, G, B, c, rfl, rfl, hJ⟩ := (show (_ ∧ _ ∧ _ ∧ _ ∧ _ ∧ _ ∧ _ ∧ _ ∧ _) ∧ ∃ (x : Nat) (G : Nat → Option Nat) (B : Int → Nat) (c : Nat), _ ∧ _ ∧ InvSL _ _ _ _ _ _ _ _ _ _ _ _ _ _ _ _ _ _ _ _ from hI)
  clear hI
  obtain ⟨L', hs, ho, hxn, li, rel, hc, hB⟩ := hJ
  have hmu' : ((n : Int) - x).toNat < k + 1 := hmu
  have leaf : ∀ {G' : Nat → Option Nat} {B' : Int → Nat} {c' : Nat} {b' : Int} {m2 : Mem}, x < n → InvSL m .u8 .i32 T n tm bt ot ba oa bk ok f d (x + 1) G' B' c' b' m2 →
    KF1 L0_F71 I mu (P0_F71 bt ot n ct' ba oa n ca' bk ok tm ck') k [.int .u8 c', .int .i32 b', .int .i64 ((x : Int) + 1)] m2 := fun hx h =>
   KF1_mk (And.intro (And.intro ⟨rfl, rfl, rfl, rfl, rfl, rfl, rfl, rfl, rfl⟩ ⟨x + 1, _, _, _, by omega, rfl, h⟩) (show ((n : Int) - ((x : Int) + 1)).toNat < k from by omega))
  clear_value I mu
  unfold R0_F71
  refine cond_of (fun hb => ?_) (fun hb => ?_)
  ·have hx : x < n := by have := of_decide_eq_true hb; omega
   rw [Int.toNat_natCast]
   have hk1 := L'.sa x hx
   have hr1 := L'.sro
   have hi64 : inR .i64 ((x : Int) + 1) := inR_i64 (by omega) (by omega)
   refine ⟨by omega, by omega, hk1, fun z hz => ?_⟩
   have hzb : -(n : Int) < z ∧ z < n + 1 := by
    rw [← hz]
    by_cases h0 : m'.val ba (oa + x) < 0
    ·have := (subL_neg (by omega) li rel hx h0).1
     exact ⟨this, by omega⟩
    ·by_cases h1 : 0 < m'.val ba (oa + x)
     ·obtain ⟨k, e, _, h2, _⟩ := subL_pos (sub_L (d + 1)) (by omega) (by rw [Nat.add_sub_cancel]; exact hd) li rel hx h1
      have e' : m'.val ba (oa + x) = ((k + 1 : Nat) : Int) := e
      omega
     ·omega
   have hz1 : inR .i64 z := inR_i64 (by omega) (by omega)
   have hz2 : inR .i64 (0 - z) := inR_i64 (by omega) (by omega)
   have hz3 : inR .i32 (0 - z) := inR_i32 (by omega) (by omega)
   have hz4 : inR .i64 (z - 1) := inR_i64 (by omega) (by omega)
   have hz5 : inR .i64 (z - 1 - 1) := inR_i64 (by omega) (by omega)
   repeat ((with_reducible refine And.intro ?_ ?_); · first | omega | with_reducible assumption | exact hk1 | exact hr1)
   refine cond_of (fun hb1 => ?_) (fun hb1 => cond_of (fun hb2 => ?_) (fun hb2 => ?_))
   ·have h0 : m'.val ba (oa + x) = 0 := hz.trans (eq_of_beq hb1)
    obtain ⟨li', rel'⟩ := subL_zero (by omega) li rel hx h0
    exact ⟨hi64, leaf hx ⟨L', hs, ho, hx, li', rel', hc, hB⟩⟩
   ·have h0 : m'.val ba (oa + x) < 0 := by rw [hz]; exact of_decide_eq_true hb2
    obtain ⟨_, li', rel'⟩ := subL_neg (by omega) li rel hx h0
    repeat ((with_reducible refine And.intro ?_ ?_); · first | omega | with_reducible assumption | exact hk1 | exact hr1)
    intro m1 hm1
    subst hm1
    repeat ((with_reducible refine And.intro ?_ ?_); · first | omega | with_reducible assumption | exact hk1 | exact hr1)
    refine leaf hx ⟨L'.stA hx _, hs.trans (SameK.st _ _ _ _), ho.st (.inr (.inr (InRow.mk hx))) _, hx, li', rel'.congr fun p hp => ?_, hc, hB.same fun d hd => L'.AtoK hx hd _⟩
    rw [st_val]
    by_cases hpx : p = x
    ·rw [if_pos hpx, if_pos hpx, hz]; omega
    ·rw [if_neg hpx, if_neg hpx]
   ·have hne : z ≠ 0 := fun e => by rw [e] at hb1; exact absurd hb1 (by decide)
    have hge : ¬ z < 0 := of_decide_eq_false hb2
    have h0 : 0 < m'.val ba (oa + x) := by rw [hz]; omega
    obtain ⟨q, e, q1, q2, q3, q4, q5, q6, li', rel'⟩ := subL_pos (sub_L (d + 1)) (by omega) (by rw [Nat.add_sub_cancel]; exact hd) li rel hx h0
    have e' : m'.val ba (oa + x) = ((q + 1 : Nat) : Int) := e
    obtain rfl : z = ((q + 1 : Nat) : Int) := hz.symm.trans e'
    obtain ⟨u, rfl⟩ : ∃ u, q = u + 1 := ⟨q - 1, by omega⟩
    have ez1 : ((u + 1 + 1 : Nat) : Int) - 1 = ((u + 1 : Nat) : Int) := by omega
    have ez2 : ((u + 1 : Nat) : Int) - 1 = (u : Int) := by omega
    have L1 := L'.stA hx 0
    rw [ez1, ez2] at hz5 ⊢
    rw [ez1] at hz4
    rw [Int.toNat_natCast, Int.toNat_natCast]
    rw [Nat.add_sub_cancel] at rel'
    have hk2 := L1.tx.rd u (by omega)
    have hk3 := L1.tx.rd (u + 1) q3
    repeat ((with_reducible refine And.intro ?_ ?_); · first | omega | with_reducible assumption | exact hk1 | exact hk2 | exact hk3 | exact hr1)
    intro m1 hm1
    subst hm1
    repeat ((with_reducible refine And.intro ?_ ?_); · first | omega | with_reducible assumption | exact hk1 | exact hk2 | exact hk3 | exact hr1)
    intro zu hzu
    obtain rfl : zu = T u := hzu.symm.trans (L1.tx.v u (by omega))
    repeat ((with_reducible refine And.intro ?_ ?_); · first | omega | with_reducible assumption | exact hk1 | exact hk2 | exact hk3 | exact hr1)
    intro zv hzv
    obtain ⟨cv, hcv, hct⟩ := L'.letter q3
    obtain rfl : zv = (cv : Int) := hzv.symm.trans ((L1.tx.v (u + 1) q3).trans hcv)
    rw [hcv] at q4 q5 q6 li' rel'
    have hBc : ∃ y, B cv = y ∧ x < y ∧ y < n := ⟨_, rfl, q4, q5⟩
    obtain ⟨y, hy, hxy, hyn⟩ := hBc
    rw [hy] at li' rel'
    have hk4 := L'.kr c hc
    have hr2 := L'.kro
    have hk5 := L'.kr cv hct
    have hk6 := L'.sa y hyn
    have hz6 : inR .i64 (0 - ((u + 1 : Nat) : Int)) := inR_i64 (by omega) (by omega)
    have hz7 : inR .i32 (0 - ((u + 1 : Nat) : Int)) := inR_i32 (by omega) (by omega)
    have hz8 : inR .i32 ((u + 1 : Nat) : Int) := inR_i32 (by omega) (by omega)
    have hz9 : inR .i32 ((y : Int) + 1) := inR_i32 (by omega) (by omega)
    have fin1 : ∀ (v : Int), v = (if T u < (cv : Int) then 0 - ((u + 1 : Nat) : Int) else ((u + 1 : Nat) : Int)) → ∀ (b : Int), Bk m' bk ok tm B c b → c ≠ cv →
      InvSL m .u8 .i32 T n tm bt ot ba oa bk ok f d (x + 1) (updG G y (u + 1)) (updB B cv (y + 1)) cv ((y : Int) + 1) ((((m'.st ba (oa + x) 0).st bk (ok + c) b).st ba (oa + y) v)) := by
     intro v hv b hBb hne
     refine ⟨((L'.stA hx _).stK hc _).stA hyn _, ((hs.trans (SameK.st _ _ _ _)).trans (SameK.st _ _ _ _)).trans (SameK.st _ _ _ _), ((ho.st (.inr (.inr (InRow.mk hx))) _).st (.inr (.inl (InRow.mk hc))) _).st (.inr (.inr (InRow.mk hyn))) _, hx, li', rel'.congr fun p hp => ?_, hct, ?_⟩
     ·rw [st_val, (L'.stA hx _).KtoA hp hc, st_val, hv]
     ·have := hBb.swap (c := cv) hc (y + 1) (m' := ((m'.st ba (oa + x) 0).st bk (ok + c) b).st ba (oa + y) v) (fun e he => by
       rw [((L'.stA hx _).stK hc _).AtoK hyn he, st_val]
       by_cases hec : e = c
       ·rw [if_pos hec, if_pos hec]
       ·rw [if_neg hec, if_neg hec, L'.AtoK hx he])
      rw [show ((y : Int) + 1) = ((y + 1 : Nat) : Int) by omega]; exact this
    have fin2 : ∀ (v : Int), v = (if T u < (cv : Int) then 0 - ((u + 1 : Nat) : Int) else ((u + 1 : Nat) : Int)) → ∀ (b : Int), Bk m' bk ok tm B cv b →
      InvSL m .u8 .i32 T n tm bt ot ba oa bk ok f d (x + 1) (updG G y (u + 1)) (updB B cv (y + 1)) cv ((y : Int) + 1) ((m'.st ba (oa + x) 0).st ba (oa + y) v) := by
     intro v hv b hBb
     refine ⟨(L'.stA hx _).stA hyn _, (hs.trans (SameK.st _ _ _ _)).trans (SameK.st _ _ _ _), (ho.st (.inr (.inr (InRow.mk hx))) _).st (.inr (.inr (InRow.mk hyn))) _, hx, li', rel'.congr fun p hp => ?_, hct, ?_⟩
     ·rw [st_val, st_val, hv]
     ·have := hBb.keep (y + 1) (m' := (m'.st ba (oa + x) 0).st ba (oa + y) v) (fun e he => by
       rw [(L'.stA hx _).AtoK hyn he, L'.AtoK hx he])
      rw [show ((y : Int) + 1) = ((y + 1 : Nat) : Int) by omega]; exact this
    refine cond_of (fun hb3 => ?_) (fun hb3 => ?_)
    ·have hlt : T u < (cv : Int) := of_decide_eq_true hb3
     have hv : (0 - ((u + 1 : Nat) : Int)) = (if T u < (cv : Int) then 0 - ((u + 1 : Nat) : Int) else ((u + 1 : Nat) : Int)) := by rw [if_pos hlt]
     repeat ((with_reducible refine And.intro ?_ ?_); · first | omega | with_reducible assumption | exact hk1 | exact hk2 | exact hk3 | exact hk4 | exact hk5 | exact hk6 | exact hr1 | exact hr2)
     refine cond_of (fun hb4 => ?_) (fun hb4 => ?_)
     ·have hne : c ≠ cv := fun e => by rw [e] at hb4; simp at hb4
      repeat ((with_reducible refine And.intro ?_ ?_); · first | omega | with_reducible assumption | exact hk1 | exact hk2 | exact hk3 | exact hk4 | exact hk5 | exact hk6 | exact hr1 | exact hr2)
      intro m2 hm2
      subst hm2
      repeat ((with_reducible refine And.intro ?_ ?_); · first | omega | with_reducible assumption | exact hk1 | exact hk2 | exact hk3 | exact hk4 | exact hk5 | exact hk6 | exact hr1 | exact hr2)
      intro zy hzy
      obtain rfl : zy = (y : Int) := by
       rw [← hzy, Int.toNat_natCast, Int.toNat_natCast, st_val, if_neg (Ne.symm hne), L'.AtoK hx hct, ← hy]
       have := hB cv hct
       rw [if_neg (Ne.symm hne)] at this; exact this
      rw [Int.toNat_natCast] at *
      repeat ((with_reducible refine And.intro ?_ ?_); · first | omega | with_reducible assumption | exact hk1 | exact hk2 | exact hk3 | exact hk4 | exact hk5 | exact hk6 | exact hr1 | exact hr2)
      intro m3 hm3
      subst hm3
      repeat ((with_reducible refine And.intro ?_ ?_); · first | omega | with_reducible assumption | exact hk1 | exact hk2 | exact hk3 | exact hk4 | exact hk5 | exact hk6 | exact hr1 | exact hr2)
      exact leaf hx (fin1 _ hv b hB hne)
     ·have he : c = cv := by have := (bne_eq_false_iff_eq.1 hb4); omega
      subst he
      obtain rfl : b = (y : Int) := by rw [hB.hand hct, hy]
      rw [Int.toNat_natCast]
      repeat ((with_reducible refine And.intro ?_ ?_); · first | omega | with_reducible assumption | exact hk1 | exact hk2 | exact hk3 | exact hk4 | exact hk5 | exact hk6 | exact hr1 | exact hr2)
      intro m3 hm3
      subst hm3
      repeat ((with_reducible refine And.intro ?_ ?_); · first | omega | with_reducible assumption | exact hk1 | exact hk2 | exact hk3 | exact hk4 | exact hk5 | exact hk6 | exact hr1 | exact hr2)
      exact leaf hx (fin2 _ hv _ hB)
    ·have hlt : ¬ T u < (cv : Int) := of_decide_eq_false hb3
     have hv : ((u + 1 : Nat) : Int) = (if T u < (cv : Int) then 0 - ((u + 1 : Nat) : Int) else ((u + 1 : Nat) : Int)) := by rw [if_neg hlt]
     refine cond_of (fun hb4 => ?_) (fun hb4 => ?_)
     ·have hne : c ≠ cv := fun e => by rw [e] at hb4; simp at hb4
      repeat ((with_reducible refine And.intro ?_ ?_); · first | omega | with_reducible assumption | exact hk1 | exact hk2 | exact hk3 | exact hk4 | exact hk5 | exact hk6 | exact hr1 | exact hr2)
      intro m2 hm2
      subst hm2
      repeat ((with_reducible refine And.intro ?_ ?_); · first | omega | with_reducible assumption | exact hk1 | exact hk2 | exact hk3 | exact hk4 | exact hk5 | exact hk6 | exact hr1 | exact hr2)
      intro zy hzy
      obtain rfl : zy = (y : Int) := by
       rw [← hzy, Int.toNat_natCast, Int.toNat_natCast, st_val, if_neg (Ne.symm hne), L'.AtoK hx hct, ← hy]
       have := hB cv hct
       rw [if_neg (Ne.symm hne)] at this; exact this
      rw [Int.toNat_natCast] at *
      repeat ((with_reducible refine And.intro ?_ ?_); · first | omega | with_reducible assumption | exact hk1 | exact hk2 | exact hk3 | exact hk4 | exact hk5 | exact hk6 | exact hr1 | exact hr2)
      intro m3 hm3
      subst hm3
      repeat ((with_reducible refine And.intro ?_ ?_); · first | omega | with_reducible assumption | exact hk1 | exact hk2 | exact hk3 | exact hk4 | exact hk5 | exact hk6 | exact hr1 | exact hr2)
      exact leaf hx (fin1 _ hv b hB hne)
     ·have he : c = cv := by have := (bne_eq_false_iff_eq.1 hb4); omega
      subst he
      obtain rfl : b = (y : Int) := by rw [hB.hand hct, hy]
      rw [Int.toNat_natCast]
      repeat ((with_reducible refine And.intro ?_ ?_); · first | omega | with_reducible assumption | exact hk1 | exact hk2 | exact hk3 | exact hk4 | exact hk5 | exact hk6 | exact hr1 | exact hr2)
      intro m3 hm3
      subst hm3
      repeat ((with_reducible refine And.intro ?_ ?_); · first | omega | with_reducible assumption | exact hk1 | exact hk2 | exact hk3 | exact hk4 | exact hk5 | exact hk6 | exact hr1 | exact hr2)
      exact leaf hx (fin2 _ hv _ hB)
  ·have hx : ¬ x < n := by have := of_decide_eq_false hb; omega
   obtain rfl : x = n := by omega
   exact XF1_mk (show ∃ (G : Nat → Option Nat) (B : Int → Nat) (c : Nat), InvSL _ _ _ _ _ _ _ _ _ _ _ _ _ _ _ _ _ _ _ _ from ⟨G, B, c, L', hs, ho, hxn, li, rel, hc, hB⟩)
 ·unfold M_F71
  refine bmin_98 L.hn htm L.t2 L.t1 hck L.tx L.kr L.kro L.akt L.fr fun m1 hs1 ho1 hb1 hd1 => ?_
  have ho1' : Out m m1 (WL f bk ok tm ba oa n) := ho1.mono fun x y h => h.elim .inl (fun h => .inr (.inl h))
  have L1 := L.keep hs1 ho1' (L.fr.done hs1 hd1)
  have hsd1 := hsd.congr (A' := fun x => m1.val ba (oa + x)) fun x hx => ho1 _ _ (fun h => h.elim (fun h => (L.fr.not_in h).2.1 (InRow.mk hx)) (fun h => L.aka.not_row h (InRow.mk hx)))
  obtain ⟨n2, y1, G, li, rel⟩ := subL_start hd hsd1 (B := fun c => bs T n c) (fun _ _ => rfl)
  obtain ⟨u, rfl⟩ : ∃ u, n = u + 2 := ⟨n - 2, by omega⟩
  have en1 : (((u + 2 : Nat) : Int) - 1) = ((u + 1 : Nat) : Int) := by omega
  have en2 : (((u + 1 : Nat) : Int) - 1) = (u : Int) := by omega
  rw [show u + 2 - 1 = u + 1 by omega] at y1 li rel
  rw [Nat.add_sub_cancel] at rel
  rw [en1, en2, Int.toNat_natCast, Int.toNat_natCast]
  have hk1 := L1.tx.rd u (by omega)
  have hk2 := L1.tx.rd (u + 1) (by omega)
  have hi1 : inR .i64 ((u + 1 : Nat) : Int) := inR_i64 (by omega) (by omega)
  have hi2 : inR .i64 (u : Int) := inR_i64 (by omega) (by omega)
  have hi3 : inR .i64 (0 - ((u + 1 : Nat) : Int)) := inR_i64 (by omega) (by omega)
  have hi4 : inR .i32 (0 - ((u + 1 : Nat) : Int)) := inR_i32 (by omega) (by omega)
  have hi5 : inR .i32 ((u + 1 : Nat) : Int) := inR_i32 (by omega) (by omega)
  obtain ⟨cv, hcv, hct⟩ := L1.letter (i := u + 1) (by omega)
  rw [hcv] at y1 li rel
  obtain ⟨y, hy⟩ : ∃ y, bs T (u + 2) (cv : Int) = y := ⟨_, rfl⟩
  rw [hy] at y1 li rel
  have hi6 : inR .i32 ((y : Int) + 1) := inR_i32 (by omega) (by omega)
  have hk3 := L1.kr cv hct
  have hk4 := L1.sa y y1
  have hr1 := L1.sro
  have hyv : m1.val bk (ok + cv) = (y : Int) := by rw [hb1 cv hct, ← hy]; simp
  have fin : ∀ (v : Int), v = (if T u < (cv : Int) then 0 - ((u + 1 : Nat) : Int) else ((u + 1 : Nat) : Int)) →
    InvSL m .u8 .i32 T (u + 2) tm bt ot ba oa bk ok f d 0 G (updB (fun c => bs T (u + 2) c) cv (y + 1)) cv ((y : Int) + 1) (m1.st ba (oa + y) v) := by
   intro v hv
   refine ⟨L1.stA y1 _, hs1.trans (SameK.st _ _ _ _), ho1'.st (.inr (.inr (InRow.mk y1))) _, Nat.zero_le _, li, rel.congr fun p hp => ?_, hct, fun e he => ?_⟩
   ·rw [st_val, hv]
   ·by_cases hec : e = cv
    ·subst hec; rw [if_pos rfl, updB_same]; omega
    ·rw [if_neg hec, updB_other _ (by omega), L1.AtoK y1 he, hb1 e he]; simp
  have last : ∀ (z7 z8 z9 : Int) (m10 : Mem), (∃ (G : Nat → Option Nat) (B : Int → Nat) (c : Nat), InvSL m .u8 .i32 T (u + 2) tm bt ot ba oa bk ok f d (u + 2) G B c z8 m10) → K (.tuple #[]) m10 := by
   rintro z7 z8 z9 m10 ⟨G, B, c, J⟩
   exact hK m10 J.hs J.ho J.L (subL_fin hd J.li J.rel)
  repeat ((with_reducible refine And.intro ?_ ?_); · first | omega | with_reducible assumption | exact hk1 | exact hk2 | exact hk3 | exact hk4 | exact hk5 | exact hk6 | exact hr1 | exact hr2)
  intro z3 hz3
  obtain rfl : z3 = T u := hz3.symm.trans (L1.tx.v u (by omega))
  repeat ((with_reducible refine And.intro ?_ ?_); · first | omega | with_reducible assumption | exact hk1 | exact hk2 | exact hk3 | exact hk4 | exact hk5 | exact hk6 | exact hr1 | exact hr2)
  intro z4 hz4
  obtain rfl : z4 = (cv : Int) := hz4.symm.trans ((L1.tx.v (u + 1) (by omega)).trans hcv)
  rw [Int.toNat_natCast]
  refine cond_of (fun hb3 => ?_) (fun hb3 => ?_)
  ·have hlt : T u < (cv : Int) := of_decide_eq_true hb3
   have hv : (0 - ((u + 1 : Nat) : Int)) = (if T u < (cv : Int) then 0 - ((u + 1 : Nat) : Int) else ((u + 1 : Nat) : Int)) := by rw [if_pos hlt]
   repeat ((with_reducible refine And.intro ?_ ?_); · first | omega | with_reducible assumption | exact hk1 | exact hk2 | exact hk3 | exact hk4 | exact hk5 | exact hk6 | exact hr1 | exact hr2)
   intro z5 hz5
   obtain rfl : z5 = (y : Int) := hz5.symm.trans hyv
   rw [Int.toNat_natCast]
   repeat ((with_reducible refine And.intro ?_ ?_); · first | omega | with_reducible assumption | exact hk1 | exact hk2 | exact hk3 | exact hk4 | exact hk5 | exact hk6 | exact hr1 | exact hr2)
   intro m6 hm6
   subst hm6
   repeat ((with_reducible refine And.intro ?_ ?_); · first | omega | with_reducible assumption | exact hk1 | exact hk2 | exact hk3 | exact hk4 | exact hk5 | exact hk6 | exact hr1 | exact hr2)
   exact And.intro (And.intro ⟨rfl, rfl, rfl, rfl, rfl, rfl, rfl, rfl, htm⟩ ⟨0, _, _, cv, rfl, rfl, fin _ hv⟩) (fun z7 z8 z9 m10 hX _ => last z7 z8 z9 m10 hX)
  ·have hlt : ¬ T u < (cv : Int) := of_decide_eq_false hb3
   have hv : ((u + 1 : Nat) : Int) = (if T u < (cv : Int) then 0 - ((u + 1 : Nat) : Int) else ((u + 1 : Nat) : Int)) := by rw [if_neg hlt]
   repeat ((with_reducible refine And.intro ?_ ?_); · first | omega | with_reducible assumption | exact hk1 | exact hk2 | exact hk3 | exact hk4 | exact hk5 | exact hk6 | exact hr1 | exact hr2)
   intro z5 hz5
   obtain rfl : z5 = (y : Int) := hz5.symm.trans hyv
   rw [Int.toNat_natCast]
   repeat ((with_reducible refine And.intro ?_ ?_); · first | omega | with_reducible assumption | exact hk1 | exact hk2 | exact hk3 | exact hk4 | exact hk5 | exact hk6 | exact hr1 | exact hr2)
   intro m6 hm6
   subst hm6
   repeat ((with_reducible refine And.intro ?_ ?_); · first | omega | with_reducible assumption | exact hk1 | exact hk2 | exact hk3 | exact hk4 | exact hk5 | exact hk6 | exact hr1 | exact hr2)
   exact And.intro (And.intro ⟨rfl, rfl, rfl, rfl, rfl, rfl, rfl, rfl, htm⟩ ⟨0, _, _, cv, rfl, rfl, fin _ hv⟩) (fun z7 z8 z9 m10 hX _ => last z7 z8 z9 m10 hX)
theorem subL_106 {w0 : World} {m : Mem} {T : Nat → Int} {n tm bt ot ct ba oa ca bk ok ck : Nat} {f : Value} {K : Value → Mem → Prop} (L : Lv m .i32 .i32 T n tm bt ot ba oa bk ok f) (htm : True)
  (hck : tm ≤ ck) {d : Nat} (hd : St T n d) (hsd : Seeds T n d (fun x => m.val ba (oa + x)))
  (hK : ∀ m', SameK m m' → Out m m' (WL f bk ok tm ba oa n) → Lv m' .i32 .i32 T n tm bt ot ba oa bk ok f → Tops T n d (fun x => m'.val ba (oa + x)) → K (.tuple #[]) m') :
  callV Tryz.prog w0 106 [.slice (some ⟨bt, ot, none⟩) n ct, .slice (some ⟨ba, oa, none⟩) n ca, f, .slice (some ⟨bk, ok, none⟩) tm ck] m K := by
 have hn := L.hn
 let I : LI := fun ps ls m' => match ps, ls with
   | [.sl b o l c, .sl b' o' l' c', .sl b2 o2 l2 c2], [.iv _ cB, .iv _ bb, .iv _ i] => (bt = b ∧ ot = o ∧ n = l ∧ ba = b' ∧ oa = o' ∧ n = l' ∧ bk = b2 ∧ ok = o2 ∧ tm = l2) ∧
     ∃ (x : Nat) (G : Nat → Option Nat) (B : Int → Nat) (c : Nat), i = x ∧ cB = c ∧ InvSL m .i32 .i32 T n tm bt ot ba oa bk ok f d x G B c bb m'
   | _, _ => False
 let mu : LM := fun _ ls => match ls with | [_, _, .iv _ i] => (n - i).toNat | _ => 0
 refine C_F106 (I0 := I)
  (X0 := fun _ ps ls m' => match ps, ls with
   | _, [.iv _ cB, .iv _ bb, .iv _ i] => ∃ (G : Nat → Option Nat) (B : Int → Nat) (c : Nat), InvSL m .i32 .i32 T n tm bt ot ba oa bk ok f d n G B c bb m'
   | _, _ => False) (mu0 := mu) ?_ ?_
 ·intro bt' ot' lt' ct' ba' oa' la' ca' bk' ok' lk' ck' cB b i k m' hI hmu
  obtain ⟨⟨rfl, rfl, rfl, rfl, rfl, rfl, rfl, rfl, rfl⟩, x, G, B, c, rfl, rfl, hJ⟩ := (show (_ ∧ _ ∧ _ ∧ _ ∧ _ ∧ _ ∧ _ ∧ _ ∧ _) ∧ ∃ (x : Nat) (G : Nat → Option Nat) (B : Int → Nat) (c : Nat), _ ∧ _ ∧ InvSL _ _ _ _ _ _ _ _ _ _ _ _ _ _ _ _ _ _ _ _ from hI)
  clear hI
  obtain ⟨L', hs, ho, hxn, li, rel, hc, hB⟩ := hJ
  have hmu' : ((n : Int) - x).toNat < k + 1 := hmu
  have leaf : ∀ {G' : Nat → Option Nat} {B' : Int → Nat} {c' : Nat} {b' : Int} {m2 : Mem}, x < n → InvSL m .i32 .i32 T n tm bt ot ba oa bk ok f d (x + 1) G' B' c' b' m2 →
    KF1 L0_F106 I mu (P0_F106 bt ot n ct' ba oa n ca' bk ok tm ck') k [.int .i32 c', .int .i32 b', .int .i64 ((x : Int) + 1)] m2 := fun hx h =>
   KF1_mk (And.intro (And.intro ⟨rfl, rfl, rfl, rfl, rfl, rfl, rfl, rfl, rfl⟩ ⟨x + 1, _, _, _, by omega, rfl, h⟩) (show ((n : Int) - ((x : Int) + 1)).toNat < k from by omega))
  clear_value I mu
  unfold R0_F106
  refine cond_of (fun hb => ?_) (fun hb => ?_)
  ·have hx : x < n := by have := of_decide_eq_true hb; omega
   rw [Int.toNat_natCast]
   have hk1 := L'.sa x hx
   have hr1 := L'.sro
   have hi64 : inR .i64 ((x : Int) + 1) := inR_i64 (by omega) (by omega)
   refine ⟨by omega, by omega, hk1, fun z hz => ?_⟩
   have hzb : -(n : Int) < z ∧ z < n + 1 := by
    rw [← hz]
    by_cases h0 : m'.val ba (oa + x) < 0
    ·have := (subL_neg (by omega) li rel hx h0).1
     exact ⟨this, by omega⟩
    ·by_cases h1 : 0 < m'.val ba (oa + x)
     ·obtain ⟨k, e, _, h2, _⟩ := subL_pos (sub_L (d + 1)) (by omega) (by rw [Nat.add_sub_cancel]; exact hd) li rel hx h1
      have e' : m'.val ba (oa + x) = ((k + 1 : Nat) : Int) := e
      omega
     ·omega
   have hz1 : inR .i64 z := inR_i64 (by omega) (by omega)
   have hz2 : inR .i64 (0 - z) := inR_i64 (by omega) (by omega)
   have hz3 : inR .i32 (0 - z) := inR_i32 (by omega) (by omega)
   have hz4 : inR .i64 (z - 1) := inR_i64 (by omega) (by omega)
   have hz5 : inR .i64 (z - 1 - 1) := inR_i64 (by omega) (by omega)
   repeat ((with_reducible refine And.intro ?_ ?_); · first | omega | with_reducible assumption | exact hk1 | exact hr1)
   refine cond_of (fun hb1 => ?_) (fun hb1 => cond_of (fun hb2 => ?_) (fun hb2 => ?_))
   ·have h0 : m'.val ba (oa + x) = 0 := hz.trans (eq_of_beq hb1)
    obtain ⟨li', rel'⟩ := subL_zero (by omega) li rel hx h0
    exact ⟨hi64, leaf hx ⟨L', hs, ho, hx, li', rel', hc, hB⟩⟩
   ·have h0 : m'.val ba (oa + x) < 0 := by rw [hz]; exact of_decide_eq_true hb2
    obtain ⟨_, li', rel'⟩ := subL_neg (by omega) li rel hx h0
    repeat ((with_reducible refine And.intro ?_ ?_); · first | omega | with_reducible assumption | exact hk1 | exact hr1)
    intro m1 hm1
    subst hm1
    repeat ((with_reducible refine And.intro ?_ ?_); · first | omega | with_reducible assumption | exact hk1 | exact hr1)
    refine leaf hx ⟨L'.stA hx _, hs.trans (SameK.st _ _ _ _), ho.st (.inr (.inr (InRow.mk hx))) _, hx, li', rel'.congr fun p hp => ?_, hc, hB.same fun d hd => L'.AtoK hx hd _⟩
    rw [st_val]
    by_cases hpx : p = x
    ·rw [if_pos hpx, if_pos hpx, hz]; omega
    ·rw [if_neg hpx, if_neg hpx]
   ·have hne : z ≠ 0 := fun e => by rw [e] at hb1; exact absurd hb1 (by decide)
    have hge : ¬ z < 0 := of_decide_eq_false hb2
    have h0 : 0 < m'.val ba (oa + x) := by rw [hz]; omega
    obtain ⟨q, e, q1, q2, q3, q4, q5, q6, li', rel'⟩ := subL_pos (sub_L (d + 1)) (by omega) (by rw [Nat.add_sub_cancel]; exact hd) li rel hx h0
    have e' : m'.val ba (oa + x) = ((q + 1 : Nat) : Int) := e
    obtain rfl : z = ((q + 1 : Nat) : Int) := hz.symm.trans e'
    obtain ⟨u, rfl⟩ : ∃ u, q = u + 1 := ⟨q - 1, by omega⟩
    have ez1 : ((u + 1 + 1 : Nat) : Int) - 1 = ((u + 1 : Nat) : Int) := by omega
    have ez2 : ((u + 1 : Nat) : Int) - 1 = (u : Int) := by omega
    have L1 := L'.stA hx 0
    rw [ez1, ez2] at hz5 ⊢
    rw [ez1] at hz4
    rw [Int.toNat_natCast, Int.toNat_natCast]
    rw [Nat.add_sub_cancel] at rel'
    have hk2 := L1.tx.rd u (by omega)
    have hk3 := L1.tx.rd (u + 1) q3
    repeat ((with_reducible refine And.intro ?_ ?_); · first | omega | with_reducible assumption | exact hk1 | exact hk2 | exact hk3 | exact hr1)
    intro m1 hm1
    subst hm1
    repeat ((with_reducible refine And.intro ?_ ?_); · first | omega | with_reducible assumption | exact hk1 | exact hk2 | exact hk3 | exact hr1)
    intro zu hzu
    obtain rfl : zu = T u := hzu.symm.trans (L1.tx.v u (by omega))
    repeat ((with_reducible refine And.intro ?_ ?_); · first | omega | with_reducible assumption | exact hk1 | exact hk2 | exact hk3 | exact hr1)
    intro zv hzv
    obtain ⟨cv, hcv, hct⟩ := L'.letter q3
    obtain rfl : zv = (cv : Int) := hzv.symm.trans ((L1.tx.v (u + 1) q3).trans hcv)
    rw [hcv] at q4 q5 q6 li' rel'
    have hBc : ∃ y, B cv = y ∧ x < y ∧ y < n := ⟨_, rfl, q4, q5⟩
    obtain ⟨y, hy, hxy, hyn⟩ := hBc
    rw [hy] at li' rel'
    have hk4 := L'.kr c hc
    have hr2 := L'.kro
    have hk5 := L'.kr cv hct
    have hk6 := L'.sa y hyn
    have hz6 : inR .i64 (0 - ((u + 1 : Nat) : Int)) := inR_i64 (by omega) (by omega)
    have hz7 : inR .i32 (0 - ((u + 1 : Nat) : Int)) := inR_i32 (by omega) (by omega)
    have hz8 : inR .i32 ((u + 1 : Nat) : Int) := inR_i32 (by omega) (by omega)
    have hz9 : inR .i32 ((y : Int) + 1) := inR_i32 (by omega) (by omega)
    have fin1 : ∀ (v : Int), v = (if T u < (cv : Int) then 0 - ((u + 1 : Nat) : Int) else ((u + 1 : Nat) : Int)) → ∀ (b : Int), Bk m' bk ok tm B c b → c ≠ cv →
      InvSL m .i32 .i32 T n tm bt ot ba oa bk ok f d (x + 1) (updG G y (u + 1)) (updB B cv (y + 1)) cv ((y : Int) + 1) ((((m'.st ba (oa + x) 0).st bk (ok + c) b).st ba (oa + y) v)) := by
     intro v hv b hBb hne
     refine ⟨((L'.stA hx _).stK hc _).stA hyn _, ((hs.trans (SameK.st _ _ _ _)).trans (SameK.st _ _ _ _)).trans (SameK.st _ _ _ _), ((ho.st (.inr (.inr (InRow.mk hx))) _).st (.inr (.inl (InRow.mk hc))) _).st (.inr (.inr (InRow.mk hyn))) _, hx, li', rel'.congr fun p hp => ?_, hct, ?_⟩
     ·rw [st_val, (L'.stA hx _).KtoA hp hc, st_val, hv]
     ·have := hBb.swap (c := cv) hc (y + 1) (m' := ((m'.st ba (oa + x) 0).st bk (ok + c) b).st ba (oa + y) v) (fun e he => by
       rw [((L'.stA hx _).stK hc _).AtoK hyn he, st_val]
       by_cases hec : e = c
       ·rw [if_pos hec, if_pos hec]
       ·rw [if_neg hec, if_neg hec, L'.AtoK hx he])
      rw [show ((y : Int) + 1) = ((y + 1 : Nat) : Int) by omega]; exact this
    have fin2 : ∀ (v : Int), v = (if T u < (cv : Int) then 0 - ((u + 1 : Nat) : Int) else ((u + 1 : Nat) : Int)) → ∀ (b : Int), Bk m' bk ok tm B cv b →
      InvSL m .i32 .i32 T n tm bt ot ba oa bk ok f d (x + 1) (updG G y (u + 1)) (updB B cv (y + 1)) cv ((y : Int) + 1) ((m'.st ba (oa + x) 0).st ba (oa + y) v) := by
     intro v hv b hBb
     refine ⟨(L'.stA hx _).stA hyn _, (hs.trans (SameK.st _ _ _ _)).trans (SameK.st _ _ _ _), (ho.st (.inr (.inr (InRow.mk hx))) _).st (.inr (.inr (InRow.mk hyn))) _, hx, li', rel'.congr fun p hp => ?_, hct, ?_⟩
     ·rw [st_val, st_val, hv]
     ·have := hBb.keep (y + 1) (m' := (m'.st ba (oa + x) 0).st ba (oa + y) v) (fun e he => by
       rw [(L'.stA hx _).AtoK hyn he, L'.AtoK hx he])
      rw [show ((y : Int) + 1) = ((y + 1 : Nat) : Int) by omega]; exact this
    refine cond_of (fun hb3 => ?_) (fun hb3 => ?_)
    ·have hlt : T u < (cv : Int) := of_decide_eq_true hb3
     have hv : (0 - ((u + 1 : Nat) : Int)) = (if T u < (cv : Int) then 0 - ((u + 1 : Nat) : Int) else ((u + 1 : Nat) : Int)) := by rw [if_pos hlt]
     repeat ((with_reducible refine And.intro ?_ ?_); · first | omega | with_reducible assumption | exact hk1 | exact hk2 | exact hk3 | exact hk4 | exact hk5 | exact hk6 | exact hr1 | exact hr2)
     refine cond_of (fun hb4 => ?_) (fun hb4 => ?_)
     ·have hne : c ≠ cv := fun e => by rw [e] at hb4; simp at hb4
      repeat ((with_reducible refine And.intro ?_ ?_); · first | omega | with_reducible assumption | exact hk1 | exact hk2 | exact hk3 | exact hk4 | exact hk5 | exact hk6 | exact hr1 | exact hr2)
      intro m2 hm2
      subst hm2
      repeat ((with_reducible refine And.intro ?_ ?_); · first | omega | with_reducible assumption | exact hk1 | exact hk2 | exact hk3 | exact hk4 | exact hk5 | exact hk6 | exact hr1 | exact hr2)
      intro zy hzy
      obtain rfl : zy = (y : Int) := by
       rw [← hzy, Int.toNat_natCast, Int.toNat_natCast, st_val, if_neg (Ne.symm hne), L'.AtoK hx hct, ← hy]
       have := hB cv hct
       rw [if_neg (Ne.symm hne)] at this; exact this
      rw [Int.toNat_natCast] at *
      repeat ((with_reducible refine And.intro ?_ ?_); · first | omega | with_reducible assumption | exact hk1 | exact hk2 | exact hk3 | exact hk4 | exact hk5 | exact hk6 | exact hr1 | exact hr2)
      intro m3 hm3
      subst hm3
      repeat ((with_reducible refine And.intro ?_ ?_); · first | omega | with_reducible assumption | exact hk1 | exact hk2 | exact hk3 | exact hk4 | exact hk5 | exact hk6 | exact hr1 | exact hr2)
      exact leaf hx (fin1 _ hv b hB hne)
     ·have he : c = cv := by have := (bne_eq_false_iff_eq.1 hb4); omega
      subst he
      obtain rfl : b = (y : Int) := by rw [hB.hand hct, hy]
      rw [Int.toNat_natCast]
      repeat ((with_reducible refine And.intro ?_ ?_); · first | omega | with_reducible assumption | exact hk1 | exact hk2 | exact hk3 | exact hk4 | exact hk5 | exact hk6 | exact hr1 | exact hr2)
      intro m3 hm3
      subst hm3
      repeat ((with_reducible refine And.intro ?_ ?_); · first | omega | with_reducible assumption | exact hk1 | exact hk2 | exact hk3 | exact hk4 | exact hk5 | exact hk6 | exact hr1 | exact hr2)
      exact leaf hx (fin2 _ hv _ hB)
    ·have hlt : ¬ T u < (cv : Int) := of_decide_eq_false hb3
     have hv : ((u + 1 : Nat) : Int) = (if T u < (cv : Int) then 0 - ((u + 1 : Nat) : Int) else ((u + 1 : Nat) : Int)) := by rw [if_neg hlt]
     refine cond_of (fun hb4 => ?_) (fun hb4 => ?_)
     ·have hne : c ≠ cv := fun e => by rw [e] at hb4; simp at hb4
      repeat ((with_reducible refine And.intro ?_ ?_); · first | omega | with_reducible assumption | exact hk1 | exact hk2 | exact hk3 | exact hk4 | exact hk5 | exact hk6 | exact hr1 | exact hr2)
      intro m2 hm2
      subst hm2
      repeat ((with_reducible refine And.intro ?_ ?_); · first | omega | with_reducible assumption | exact hk1 | exact hk2 | exact hk3 | exact hk4 | exact hk5 | exact hk6 | exact hr1 | exact hr2)
      intro zy hzy
      obtain rfl : zy = (y : Int) := by
       rw [← hzy, Int.toNat_natCast, Int.toNat_natCast, st_val, if_neg (Ne.symm hne), L'.AtoK hx hct, ← hy]
       have := hB cv hct
       rw [if_neg (Ne.symm hne)] at this; exact this
      rw [Int.toNat_natCast] at *
      repeat ((with_reducible refine And.intro ?_ ?_); · first | omega | with_reducible assumption | exact hk1 | exact hk2 | exact hk3 | exact hk4 | exact hk5 | exact hk6 | exact hr1 | exact hr2)
      intro m3 hm3
      subst hm3
      repeat ((with_reducible refine And.intro ?_ ?_); · first | omega | with_reducible assumption | exact hk1 | exact hk2 | exact hk3 | exact hk4 | exact hk5 | exact hk6 | exact hr1 | exact hr2)
      exact leaf hx (fin1 _ hv b hB hne)
     ·have he : c = cv := by have := (bne_eq_false_iff_eq.1 hb4); omega
      subst he
      obtain rfl : b = (y : Int) := by rw [hB.hand hct, hy]
      rw [Int.toNat_natCast]
      repeat ((with_reducible refine And.intro ?_ ?_); · first | omega | with_reducible assumption | exact hk1 | exact hk2 | exact hk3 | exact hk4 | exact hk5 | exact hk6 | exact hr1 | exact hr2)
      intro m3 hm3
      subst hm3
      repeat ((with_reducible refine And.intro ?_ ?_); · first | omega | with_reducible assumption | exact hk1 | exact hk2 | exact hk3 | exact hk4 | exact hk5 | exact hk6 | exact hr1 | exact hr2)
      exact leaf hx (fin2 _ hv _ hB)
  ·have hx : ¬ x < n := by have := of_decide_eq_false hb; omega
   obtain rfl : x = n := by omega
   exact XF1_mk (show ∃ (G : Nat → Option Nat) (B : Int → Nat) (c : Nat), InvSL _ _ _ _ _ _ _ _ _ _ _ _ _ _ _ _ _ _ _ _ from ⟨G, B, c, L', hs, ho, hxn, li, rel, hc, hB⟩)
 ·unfold M_F106
  refine bmin_125 L.hn htm L.t2 L.t1 hck L.tx L.kr L.kro L.akt L.fr fun m1 hs1 ho1 hb1 hd1 => ?_
  have ho1' : Out m m1 (WL f bk ok tm ba oa n) := ho1.mono fun x y h => h.elim .inl (fun h => .inr (.inl h))
  have L1 := L.keep hs1 ho1' (L.fr.done hs1 hd1)
  have hsd1 := hsd.congr (A' := fun x => m1.val ba (oa + x)) fun x hx => ho1 _ _ (fun h => h.elim (fun h => (L.fr.not_in h).2.1 (InRow.mk hx)) (fun h => L.aka.not_row h (InRow.mk hx)))
  obtain ⟨n2, y1, G, li, rel⟩ := subL_start hd hsd1 (B := fun c => bs T n c) (fun _ _ => rfl)
  obtain ⟨u, rfl⟩ : ∃ u, n = u + 2 := ⟨n - 2, by omega⟩
  have en1 : (((u + 2 : Nat) : Int) - 1) = ((u + 1 : Nat) : Int) := by omega
  have en2 : (((u + 1 : Nat) : Int) - 1) = (u : Int) := by omega
  rw [show u + 2 - 1 = u + 1 by omega] at y1 li rel
  rw [Nat.add_sub_cancel] at rel
  rw [en1, en2, Int.toNat_natCast, Int.toNat_natCast]
  have hk1 := L1.tx.rd u (by omega)
  have hk2 := L1.tx.rd (u + 1) (by omega)
  have hi1 : inR .i64 ((u + 1 : Nat) : Int) := inR_i64 (by omega) (by omega)
  have hi2 : inR .i64 (u : Int) := inR_i64 (by omega) (by omega)
  have hi3 : inR .i64 (0 - ((u + 1 : Nat) : Int)) := inR_i64 (by omega) (by omega)
  have hi4 : inR .i32 (0 - ((u + 1 : Nat) : Int)) := inR_i32 (by omega) (by omega)
  have hi5 : inR .i32 ((u + 1 : Nat) : Int) := inR_i32 (by omega) (by omega)
  obtain ⟨cv, hcv, hct⟩ := L1.letter (i := u + 1) (by omega)
  rw [hcv] at y1 li rel
  obtain ⟨y, hy⟩ : ∃ y, bs T (u + 2) (cv : Int) = y := ⟨_, rfl⟩
  rw [hy] at y1 li rel
  have hi6 : inR .i32 ((y : Int) + 1) := inR_i32 (by omega) (by omega)
  have hk3 := L1.kr cv hct
  have hk4 := L1.sa y y1
  have hr1 := L1.sro
  have hyv : m1.val bk (ok + cv) = (y : Int) := by rw [hb1 cv hct, ← hy]; simp
  have fin : ∀ (v : Int), v = (if T u < (cv : Int) then 0 - ((u + 1 : Nat) : Int) else ((u + 1 : Nat) : Int)) →
    InvSL m .i32 .i32 T (u + 2) tm bt ot ba oa bk ok f d 0 G (updB (fun c => bs T (u + 2) c) cv (y + 1)) cv ((y : Int) + 1) (m1.st ba (oa + y) v) := by
   intro v hv
   refine ⟨L1.stA y1 _, hs1.trans (SameK.st _ _ _ _), ho1'.st (.inr (.inr (InRow.mk y1))) _, Nat.zero_le _, li, rel.congr fun p hp => ?_, hct, fun e he => ?_⟩
   ·rw [st_val, hv]
   ·by_cases hec : e = cv
    ·subst hec; rw [if_pos rfl, updB_same]; omega
    ·rw [if_neg hec, updB_other _ (by omega), L1.AtoK y1 he, hb1 e he]; simp
  have last : ∀ (z7 z8 z9 : Int) (m10 : Mem), (∃ (G : Nat → Option Nat) (B : Int → Nat) (c : Nat), InvSL m .i32 .i32 T (u + 2) tm bt ot ba oa bk ok f d (u + 2) G B c z8 m10) → K (.tuple #[]) m10 := by
   rintro z7 z8 z9 m10 ⟨G, B, c, J⟩
   exact hK m10 J.hs J.ho J.L (subL_fin hd J.li J.rel)
  repeat ((with_reducible refine And.intro ?_ ?_); · first | omega | with_reducible assumption | exact hk1 | exact hk2 | exact hk3 | exact hk4 | exact hk5 | exact hk6 | exact hr1 | exact hr2)
  intro z3 hz3
  obtain rfl : z3 = T u := hz3.symm.trans (L1.tx.v u (by omega))
  repeat ((with_reducible refine And.intro ?_ ?_); · first | omega | with_reducible assumption | exact hk1 | exact hk2 | exact hk3 | exact hk4 | exact hk5 | exact hk6 | exact hr1 | exact hr2)
  intro z4 hz4
  obtain rfl : z4 = (cv : Int) := hz4.symm.trans ((L1.tx.v (u + 1) (by omega)).trans hcv)
  rw [Int.toNat_natCast]
  refine cond_of (fun hb3 => ?_) (fun hb3 => ?_)
  ·have hlt : T u < (cv : Int) := of_decide_eq_true hb3
   have hv : (0 - ((u + 1 : Nat) : Int)) = (if T u < (cv : Int) then 0 - ((u + 1 : Nat) : Int) else ((u + 1 : Nat) : Int)) := by rw [if_pos hlt]
   repeat ((with_reducible refine And.intro ?_ ?_); · first | omega | with_reducible assumption | exact hk1 | exact hk2 | exact hk3 | exact hk4 | exact hk5 | exact hk6 | exact hr1 | exact hr2)
   intro z5 hz5
   obtain rfl : z5 = (y : Int) := hz5.symm.trans hyv
   rw [Int.toNat_natCast]
   repeat ((with_reducible refine And.intro ?_ ?_); · first | omega | with_reducible assumption | exact hk1 | exact hk2 | exact hk3 | exact hk4 | exact hk5 | exact hk6 | exact hr1 | exact hr2)
   intro m6 hm6
   subst hm6
   repeat ((with_reducible refine And.intro ?_ ?_); · first | omega | with_reducible assumption | exact hk1 | exact hk2 | exact hk3 | exact hk4 | exact hk5 | exact hk6 | exact hr1 | exact hr2)
   exact And.intro (And.intro ⟨rfl, rfl, rfl, rfl, rfl, rfl, rfl, rfl, rfl⟩ ⟨0, _, _, cv, rfl, rfl, fin _ hv⟩) (fun z7 z8 z9 m10 hX _ => last z7 z8 z9 m10 hX)
  ·have hlt : ¬ T u < (cv : Int) := of_decide_eq_false hb3
   have hv : ((u + 1 : Nat) : Int) = (if T u < (cv : Int) then 0 - ((u + 1 : Nat) : Int) else ((u + 1 : Nat) : Int)) := by rw [if_neg hlt]
   repeat ((with_reducible refine And.intro ?_ ?_); · first | omega | with_reducible assumption | exact hk1 | exact hk2 | exact hk3 | exact hk4 | exact hk5 | exact hk6 | exact hr1 | exact hr2)
   intro z5 hz5
   obtain rfl : z5 = (y : Int) := hz5.symm.trans hyv
   rw [Int.toNat_natCast]
   repeat ((with_reducible refine And.intro ?_ ?_); · first | omega | with_reducible assumption | exact hk1 | exact hk2 | exact hk3 | exact hk4 | exact hk5 | exact hk6 | exact hr1 | exact hr2)
   intro m6 hm6
   subst hm6
   repeat ((with_reducible refine And.intro ?_ ?_); · first | omega | with_reducible assumption | exact hk1 | exact hk2 | exact hk3 | exact hk4 | exact hk5 | exact hk6 | exact hr1 | exact hr2)
   exact And.intro (And.intro ⟨rfl, rfl, rfl, rfl, rfl, rfl, rfl, rfl, rfl⟩ ⟨0, _, _, cv, rfl, rfl, fin _ hv⟩) (fun z7 z8 z9 m10 hX _ => last z7 z8 z9 m10 hX)
end Go.Proofs.YtdhifgedhaapjaaGreatDoor
namespace Go.Proofs.YtdhifgedhaapjaaGreatDoor
open Go Sa
theorem subS_72 {w0 : World} {m : Mem} {T : Nat → Int} {n tm bt ot ct ba oa ca bk ok ck : Nat} {f : Value} {K : Value → Mem → Prop} (L : Lv m .u8 .i32 T n tm bt ot ba oa bk ok f) (htm : tm = 256)
  (hck : tm ≤ ck) {d : Nat} (hd : Lms T n d) (hmin : ∀ j, Lms T n j → d ≤ j) (htops : Tops T n d (fun x => m.val ba (oa + x)))
  (hK : ∀ m', SameK m m' → Out m m' (WL f bk ok tm ba oa n) → Lv m' .u8 .i32 T n tm bt ot ba oa bk ok f → Sub T n (fun x => m'.val ba (oa + x)) → K (.tuple #[]) m') :
  callV Tryz.prog w0 72 [.slice (some ⟨bt, ot, none⟩) n ct, .slice (some ⟨ba, oa, none⟩) n ca, f, .slice (some ⟨bk, ok, none⟩) tm ck] m K := by
 have hn := L.hn
 have hd1 := hd.1
 let I : LI := fun ps ls m' => match ps, ls with
   | [.sl b o l c, .sl b' o' l' c', .sl b2 o2 l2 c2], [.iv _ cB, .iv _ bb, .iv _ tt, .iv _ i] => (bt = b ∧ ot = o ∧ n = l ∧ ba = b' ∧ oa = o' ∧ n = l' ∧ bk = b2 ∧ ok = o2 ∧ tm = l2) ∧
     ∃ (x top : Nat) (G : Nat → Option Nat) (B : Int → Nat) (c : Nat), i = (x : Int) - 1 ∧ tt = top ∧ cB = c ∧ InvSS m .u8 .i32 T n tm bt ot ba oa bk ok f d x top G B c bb m'
   | _, _ => False
 let mu : LM := fun _ ls => match ls with | [_, _, _, .iv _ i] => (i + 1).toNat | _ => 0
 refine C_F72 (I0 := I)
  (X0 := fun _ ps ls m' => match ps, ls with
   | _, [.iv _ cB, .iv _ bb, .iv _ tt, .iv _ i] => ∃ (top : Nat) (G : Nat → Option Nat) (B : Int → Nat) (c : Nat), InvSS m .u8 .i32 T n tm bt ot ba oa bk ok f d 0 top G B c bb m'
   | _, _ => False) (mu0 := mu) ?_ ?_
 ·intro bt' ot' lt' ct' ba' oa' la' ca' bk' ok' lk' ck' cB b tt i k m' hI hmu
  obtain ⟨⟨rfl, rfl, rfl, rfl, rfl, rfl, rfl, rfl, rfl⟩, x0, top, G, B, c, rfl, rfl, rfl, hJ⟩ := (show (_ ∧ _ ∧ _ ∧ _ ∧ _ ∧ _ ∧ _ ∧ _ ∧ _) ∧ ∃ (x top : Nat) (G : Nat → Option Nat) (B : Int → Nat) (c : Nat), _ ∧ _ ∧ _ ∧ InvSS _ _ _ _ _ _ _ _ _ _ _ _ _ _ _ _ _ _ _ _ _ from hI)
  clear hI
  obtain ⟨L', hs, ho, hxn, hz0, li, rel, hc, hB⟩ := hJ
  have hmu' : ((x0 : Int) - 1 + 1).toNat < k + 1 := hmu
  have leaf : ∀ {x top' : Nat} {G' : Nat → Option Nat} {B' : Int → Nat} {c' : Nat} {b' : Int} {m2 : Mem}, x0 = x + 1 → InvSS m .u8 .i32 T n tm bt ot ba oa bk ok f d x top' G' B' c' b' m2 →
    KF1 L0_F72 I mu (P0_F72 bt ot n ct' ba oa n ca' bk ok tm ck') k [.int .u8 c', .int .i32 b', .int .i64 top', .int .i64 ((x : Int) - 1)] m2 := fun {x _ _ _ _ _ _} hx h =>
   KF1_mk (And.intro (And.intro ⟨rfl, rfl, rfl, rfl, rfl, rfl, rfl, rfl, rfl⟩ ⟨x, _, _, _, _, rfl, rfl, rfl, h⟩) (show ((x : Int) - 1 + 1).toNat < k from by omega))
  clear_value I mu
  unfold R0_F72
  refine cond_of (fun hb => ?_) (fun hb => ?_)
  ·have hge : (x0 : Int) - 1 ≥ 0 := of_decide_eq_true hb
   obtain ⟨x, rfl⟩ : ∃ x, x0 = x + 1 := ⟨x0 - 1, by omega⟩
   have ex : ((x + 1 : Nat) : Int) - 1 = (x : Int) := by omega
   rw [ex, Int.toNat_natCast]
   have hx : x < n := by omega
   have hk1 := L'.sa x hx
   have hr1 := L'.sro
   have hi64 : inR .i64 ((x : Int) - 1) := inR_i64 (by omega) (by omega)
   refine ⟨by omega, by omega, hk1, fun z hz => ?_⟩
   have hzb : -(n : Int) < z ∧ z < n + 1 := by
    rw [← hz]
    by_cases h0 : m'.val ba (oa + x) < 0
    ·have := (subS_neg li rel h0).1
     exact ⟨this, by omega⟩
    ·by_cases h1 : 0 < m'.val ba (oa + x)
     ·obtain ⟨k, e, _, h2, _⟩ := subS_pos (sub_S d) hd hz0 li rel h1
      have e' : m'.val ba (oa + x) = ((k + 1 : Nat) : Int) := e
      omega
     ·omega
   have htn := rel.tn
   have hz1 : inR .i64 z := inR_i64 (by omega) (by omega)
   have hz2 : inR .i64 (0 - z) := inR_i64 (by omega) (by omega)
   have hz3 : inR .i32 (0 - z) := inR_i32 (by omega) (by omega)
   have hz4 : inR .i64 (z - 1) := inR_i64 (by omega) (by omega)
   have hz5 : inR .i64 (z - 1 - 1) := inR_i64 (by omega) (by omega)
   have hzt : inR .i64 ((top : Int) - 1) := inR_i64 (by omega) (by omega)
   repeat ((with_reducible refine And.intro ?_ ?_); · first | omega | with_reducible assumption | exact hk1 | exact hr1)
   refine cond_of (fun hb1 => ?_) (fun hb1 => ?_)
   ·have h0 : m'.val ba (oa + x) = 0 := hz.trans (eq_of_beq hb1)
    obtain ⟨li', rel'⟩ := subS_zero hd1 hz0 li rel h0
    exact ⟨hi64, leaf rfl ⟨L', hs, ho, by omega, hz0, li', rel', hc, hB⟩⟩
   ·have hne : z ≠ 0 := fun e => by rw [e] at hb1; exact absurd hb1 (by decide)
    repeat ((with_reducible refine And.intro ?_ ?_); · first | omega | with_reducible assumption | exact hk1 | exact hr1)
    intro m1 hm1
    subst hm1
    refine cond_of (fun hb2 => ?_) (fun hb2 => ?_)
    ·have h0 : m'.val ba (oa + x) < 0 := by rw [hz]; exact of_decide_eq_true hb2
     obtain ⟨_, hxt, li', rel'⟩ := subS_neg li rel h0
     have et : (top : Int) - 1 = ((top - 1 : Nat) : Int) := by omega
     rw [et] at hzt ⊢
     rw [Int.toNat_natCast]
     have hk2 := L'.sa (top - 1) (by omega)
     repeat ((with_reducible refine And.intro ?_ ?_); · first | omega | with_reducible assumption | exact hk1 | exact hk2 | exact hr1)
     intro m2 hm2
     subst hm2
     repeat ((with_reducible refine And.intro ?_ ?_); · first | omega | with_reducible assumption | exact hk1 | exact hk2 | exact hr1)
     refine leaf rfl ⟨(L'.stA hx _).stA (by omega) _, (hs.trans (SameK.st _ _ _ _)).trans (SameK.st _ _ _ _), (ho.st (.inr (.inr (InRow.mk hx))) _).st (.inr (.inr (InRow.mk (by omega)))) _, by omega, hz0, li', rel'.congr (by omega) fun p hp => ?_, hc, hB.same fun e he => by rw [(L'.stA hx _).AtoK (by omega) he, L'.AtoK hx he]⟩
     rw [st_val, st_val, hz]
    ·have hge : ¬ z < 0 := of_decide_eq_false hb2
     have h0 : 0 < m'.val ba (oa + x) := by rw [hz]; omega
     obtain ⟨q, e, q1, q2, q4, q5, hz', li', rel'⟩ := subS_pos (sub_S d) hd hz0 li rel h0
     have e' : m'.val ba (oa + x) = ((q + 1 : Nat) : Int) := e
     obtain rfl : z = ((q + 1 : Nat) : Int) := hz.symm.trans e'
     obtain ⟨u, rfl⟩ : ∃ u, q = u + 1 := ⟨q - 1, by omega⟩
     have ez1 : ((u + 1 + 1 : Nat) : Int) - 1 = ((u + 1 : Nat) : Int) := by omega
     have ez2 : ((u + 1 : Nat) : Int) - 1 = (u : Int) := by omega
     have L1 := L'.stA hx 0
     rw [ez1, ez2] at hz5 ⊢
     rw [ez1] at hz4
     rw [Int.toNat_natCast, Int.toNat_natCast]
     rw [Nat.add_sub_cancel] at rel'
     have hk2 := L1.tx.rd u (by omega)
     have hk3 := L1.tx.rd (u + 1) (by omega)
     repeat ((with_reducible refine And.intro ?_ ?_); · first | omega | with_reducible assumption | exact hk1 | exact hk2 | exact hk3 | exact hr1)
     intro zv hzv
     obtain ⟨cv, hcv, hct⟩ := L'.letter (i := u + 1) (by omega)
     obtain rfl : zv = (cv : Int) := hzv.symm.trans ((L1.tx.v (u + 1) (by omega)).trans hcv)
     repeat ((with_reducible refine And.intro ?_ ?_); · first | omega | with_reducible assumption | exact hk1 | exact hk2 | exact hk3 | exact hr1)
     intro zu hzu
     obtain rfl : zu = T u := hzu.symm.trans (L1.tx.v u (by omega))
     rw [hcv] at q4 q5 hz' li' rel'
     obtain ⟨y, hy⟩ : ∃ y, B cv = y + 1 := ⟨B cv - 1, by omega⟩
     rw [hy] at q4 hz' li' rel'
     rw [Nat.add_sub_cancel] at hz' li' rel'
     have hyn : y < n := by omega
     have hk4 := L'.kr c hc
     have hr2 := L'.kro
     have hk5 := L'.kr cv hct
     have hk6 := L'.sa y hyn
     have hz6 : inR .i64 (0 - ((u + 1 : Nat) : Int)) := inR_i64 (by omega) (by omega)
     have hz7 : inR .i32 (0 - ((u + 1 : Nat) : Int)) := inR_i32 (by omega) (by omega)
     have hz8 : inR .i32 ((u + 1 : Nat) : Int) := inR_i32 (by omega) (by omega)
     have hz9 : inR .i32 (y : Int) := inR_i32 (by omega) (by omega)
     have ey : ((y + 1 : Nat) : Int) - 1 = (y : Int) := by omega
     have fin1 : ∀ (v : Int), v = (if T u > (cv : Int) then 0 - ((u + 1 : Nat) : Int) else ((u + 1 : Nat) : Int)) → ∀ (b : Int), Bk m' bk ok tm B c b → c ≠ cv →
       InvSS m .u8 .i32 T n tm bt ot ba oa bk ok f d x top (updG G y (u + 1)) (updB B cv y) cv (y : Int) ((((m'.st ba (oa + x) 0).st bk (ok + c) b).st ba (oa + y) v)) := by
      intro v hv b hBb hne
      refine ⟨((L'.stA hx _).stK hc _).stA hyn _, ((hs.trans (SameK.st _ _ _ _)).trans (SameK.st _ _ _ _)).trans (SameK.st _ _ _ _), ((ho.st (.inr (.inr (InRow.mk hx))) _).st (.inr (.inl (InRow.mk hc))) _).st (.inr (.inr (InRow.mk hyn))) _, by omega, hz', li', rel'.congr (by omega) fun p hp => ?_, hct, ?_⟩
      ·rw [st_val, (L'.stA hx _).KtoA hp hc, st_val, hv]
      ·exact hBb.swap (c := cv) hc y (m' := ((m'.st ba (oa + x) 0).st bk (ok + c) b).st ba (oa + y) v) (fun e he => by
        rw [((L'.stA hx _).stK hc _).AtoK hyn he, st_val]
        by_cases hec : e = c
        ·rw [if_pos hec, if_pos hec]
        ·rw [if_neg hec, if_neg hec, L'.AtoK hx he])
     have fin2 : ∀ (v : Int), v = (if T u > (cv : Int) then 0 - ((u + 1 : Nat) : Int) else ((u + 1 : Nat) : Int)) → ∀ (b : Int), Bk m' bk ok tm B cv b →
       InvSS m .u8 .i32 T n tm bt ot ba oa bk ok f d x top (updG G y (u + 1)) (updB B cv y) cv (y : Int) ((m'.st ba (oa + x) 0).st ba (oa + y) v) := by
      intro v hv b hBb
      refine ⟨(L'.stA hx _).stA hyn _, (hs.trans (SameK.st _ _ _ _)).trans (SameK.st _ _ _ _), (ho.st (.inr (.inr (InRow.mk hx))) _).st (.inr (.inr (InRow.mk hyn))) _, by omega, hz', li', rel'.congr (by omega) fun p hp => ?_, hct, ?_⟩
      ·rw [st_val, st_val, hv]
      ·exact hBb.keep y (m' := (m'.st ba (oa + x) 0).st ba (oa + y) v) (fun e he => by
        rw [(L'.stA hx _).AtoK hyn he, L'.AtoK hx he])
     refine cond_of (fun hb3 => ?_) (fun hb3 => ?_)
     ·have hlt : T u > (cv : Int) := of_decide_eq_true hb3
      have hv : (0 - ((u + 1 : Nat) : Int)) = (if T u > (cv : Int) then 0 - ((u + 1 : Nat) : Int) else ((u + 1 : Nat) : Int)) := by rw [if_pos hlt]
      repeat ((with_reducible refine And.intro ?_ ?_); · first | omega | with_reducible assumption | exact hk1 | exact hk2 | exact hk3 | exact hk4 | exact hk5 | exact hk6 | exact hr1 | exact hr2)
      refine cond_of (fun hb4 => ?_) (fun hb4 => ?_)
      ·have hne : c ≠ cv := fun e => by rw [e] at hb4; simp at hb4
       repeat ((with_reducible refine And.intro ?_ ?_); · first | omega | with_reducible assumption | exact hk1 | exact hk2 | exact hk3 | exact hk4 | exact hk5 | exact hk6 | exact hr1 | exact hr2)
       intro m2 hm2
       subst hm2
       repeat ((with_reducible refine And.intro ?_ ?_); · first | omega | with_reducible assumption | exact hk1 | exact hk2 | exact hk3 | exact hk4 | exact hk5 | exact hk6 | exact hr1 | exact hr2)
       intro zy hzy
       obtain rfl : zy = ((y + 1 : Nat) : Int) := by
        rw [← hzy, Int.toNat_natCast, Int.toNat_natCast, st_val, if_neg (Ne.symm hne), L'.AtoK hx hct, ← hy]
        have := hB cv hct
        rw [if_neg (Ne.symm hne)] at this; exact this
       rw [ey, Int.toNat_natCast] at *
       repeat ((with_reducible refine And.intro ?_ ?_); · first | omega | with_reducible assumption | exact hk1 | exact hk2 | exact hk3 | exact hk4 | exact hk5 | exact hk6 | exact hr1 | exact hr2)
       intro m3 hm3
       subst hm3
       repeat ((with_reducible refine And.intro ?_ ?_); · first | omega | with_reducible assumption | exact hk1 | exact hk2 | exact hk3 | exact hk4 | exact hk5 | exact hk6 | exact hr1 | exact hr2)
       exact leaf rfl (fin1 _ hv b hB hne)
      ·have he : c = cv := by have := (bne_eq_false_iff_eq.1 hb4); omega
       subst he
       obtain rfl : b = ((y + 1 : Nat) : Int) := by rw [hB.hand hct, hy]
       rw [ey, Int.toNat_natCast]
       repeat ((with_reducible refine And.intro ?_ ?_); · first | omega | with_reducible assumption | exact hk1 | exact hk2 | exact hk3 | exact hk4 | exact hk5 | exact hk6 | exact hr1 | exact hr2)
       intro m3 hm3
       subst hm3
       repeat ((with_reducible refine And.intro ?_ ?_); · first | omega | with_reducible assumption | exact hk1 | exact hk2 | exact hk3 | exact hk4 | exact hk5 | exact hk6 | exact hr1 | exact hr2)
       exact leaf rfl (fin2 _ hv _ hB)
     ·have hlt : ¬ T u > (cv : Int) := of_decide_eq_false hb3
      have hv : ((u + 1 : Nat) : Int) = (if T u > (cv : Int) then 0 - ((u + 1 : Nat) : Int) else ((u + 1 : Nat) : Int)) := by rw [if_neg hlt]
      refine cond_of (fun hb4 => ?_) (fun hb4 => ?_)
      ·have hne : c ≠ cv := fun e => by rw [e] at hb4; simp at hb4
       repeat ((with_reducible refine And.intro ?_ ?_); · first | omega | with_reducible assumption | exact hk1 | exact hk2 | exact hk3 | exact hk4 | exact hk5 | exact hk6 | exact hr1 | exact hr2)
       intro m2 hm2
       subst hm2
       repeat ((with_reducible refine And.intro ?_ ?_); · first | omega | with_reducible assumption | exact hk1 | exact hk2 | exact hk3 | exact hk4 | exact hk5 | exact hk6 | exact hr1 | exact hr2)
       intro zy hzy
       obtain rfl : zy = ((y + 1 : Nat) : Int) := by
        rw [← hzy, Int.toNat_natCast, Int.toNat_natCast, st_val, if_neg (Ne.symm hne), L'.AtoK hx hct, ← hy]
        have := hB cv hct
        rw [if_neg (Ne.symm hne)] at this; exact this
       rw [ey, Int.toNat_natCast] at *
       repeat ((with_reducible refine And.intro ?_ ?_); · first | omega | with_reducible assumption | exact hk1 | exact hk2 | exact hk3 | exact hk4 | exact hk5 | exact hk6 | exact hr1 | exact hr2)
       intro m3 hm3
       subst hm3
       repeat ((with_reducible refine And.intro ?_ ?_); · first | omega | with_reducible assumption | exact hk1 | exact hk2 | exact hk3 | exact hk4 | exact hk5 | exact hk6 | exact hr1 | exact hr2)
       exact leaf rfl (fin1 _ hv b hB hne)
      ·have he : c = cv := by have := (bne_eq_false_iff_eq.1 hb4); omega
       subst he
       obtain rfl : b = ((y + 1 : Nat) : Int) := by rw [hB.hand hct, hy]
       rw [ey, Int.toNat_natCast]
       repeat ((with_reducible refine And.intro ?_ ?_); · first | omega | with_reducible assumption | exact hk1 | exact hk2 | exact hk3 | exact hk4 | exact hk5 | exact hk6 | exact hr1 | exact hr2)
       intro m3 hm3
       subst hm3
       repeat ((with_reducible refine And.intro ?_ ?_); · first | omega | with_reducible assumption | exact hk1 | exact hk2 | exact hk3 | exact hk4 | exact hk5 | exact hk6 | exact hr1 | exact hr2)
       exact leaf rfl (fin2 _ hv _ hB)
  ·have hge : ¬ (x0 : Int) - 1 ≥ 0 := of_decide_eq_false hb
   obtain rfl : x0 = 0 := by omega
   exact XF1_mk (show ∃ (top : Nat) (G : Nat → Option Nat) (B : Int → Nat) (c : Nat), InvSS _ _ _ _ _ _ _ _ _ _ _ _ _ _ _ _ _ _ _ _ _ from ⟨top, G, B, c, L', hs, ho, hxn, hz0, li, rel, hc, hB⟩)
 ·unfold M_F72
  refine bmax_97 L.hn htm L.t2 L.t1 hck L.tx L.kr L.kro L.akt L.fr fun m1 hs1 ho1 hb1 hd1 => ?_
  have ho1' : Out m m1 (WL f bk ok tm ba oa n) := ho1.mono fun x y h => h.elim .inl (fun h => .inr (.inl h))
  have L1 := L.keep hs1 ho1' (L.fr.done hs1 hd1)
  have hr0 : ∀ p, p < n → m1.val ba (oa + p) = m.val ba (oa + p) := fun x hx => ho1 _ _ (fun h => h.elim (fun h => (L.fr.not_in h).2.1 (InRow.mk hx)) (fun h => L.aka.not_row h (InRow.mk hx)))
  obtain ⟨G, hz0, li, rel⟩ := subS_start htops (B := fun c => bs T n c + cc T n c) (fun _ _ => rfl)
  have hk1 := L1.kr 0 L.t1
  have ht1 := L.t1
  have hi1 : inR .i64 ((n : Int) - 1) := inR_i64 (by omega) (by omega)
  rw [show Int.toNat (0 : Int) = 0 by rfl]
  repeat ((with_reducible refine And.intro ?_ ?_); · first | omega | with_reducible assumption | exact hk1 | exact hk2 | exact hk3 | exact hk4 | exact hk5 | exact hk6 | exact hr1 | exact hr2)
  intro z3 hz3
  repeat ((with_reducible refine And.intro ?_ ?_); · first | omega | with_reducible assumption | exact hk1 | exact hk2 | exact hk3 | exact hk4 | exact hk5 | exact hk6 | exact hr1 | exact hr2)
  refine And.intro (And.intro ⟨rfl, rfl, rfl, rfl, rfl, rfl, rfl, rfl, htm⟩ ⟨n, n, G, _, 0, rfl, rfl, rfl, L1, hs1, ho1', Nat.le_refl _, hz0, li, rel.congr (Nat.le_refl _) hr0, L.t1, fun e he => ?_⟩) (fun z4 z5 z6 z7 m8 hX _ => ?_)
  ·have hbe := hb1 e he
   rw [bs_succ] at hbe
   by_cases he0 : e = 0
   ·subst he0; rw [if_pos rfl, ← hz3, hbe]
   ·rw [if_neg he0, hbe]
  ·obtain ⟨top, G, B, c, J⟩ := (show ∃ (top : Nat) (G : Nat → Option Nat) (B : Int → Nat) (c : Nat), InvSS _ _ _ _ _ _ _ _ _ _ _ _ _ _ _ _ _ _ _ _ _ from hX)
   exact hK m8 J.hs J.ho J.L (subS_fin hmin J.li J.rel).2
theorem subS_107 {w0 : World} {m : Mem} {T : Nat → Int} {n tm bt ot ct ba oa ca bk ok ck : Nat} {f : Value} {K : Value → Mem → Prop} (L : Lv m .i32 .i32 T n tm bt ot ba oa bk ok f) (htm : True)
  (hck : tm ≤ ck) {d : Nat} (hd : Lms T n d) (hmin : ∀ j, Lms T n j → d ≤ j) (htops : Tops T n d (fun x => m.val ba (oa + x)))
  (hK : ∀ m', SameK m m' → Out m m' (WL f bk ok tm ba oa n) → Lv m' .i32 .i32 T n tm bt ot ba oa bk ok f → Sub T n (fun x => m'.val ba (oa + x)) → K (.tuple #[]) m') :
  callV Tryz.prog w0 107 [.slice (some ⟨bt, ot, none⟩) n ct, .slice (some ⟨ba, oa, none⟩) n ca, f, .slice (some ⟨bk, ok, none⟩) tm ck] m K := by
 have hn := L.hn
 have hd1 := hd.1
 let I : LI := fun ps ls m' => match ps, ls with
   | [.sl b o l c, .sl b' o' l' c', .sl b2 o2 l2 c2], [.iv _ cB, .iv _ bb, .iv _ tt, .iv _ i] => (bt = b ∧ ot = o ∧ n = l ∧ ba = b' ∧ oa = o' ∧ n = l' ∧ bk = b2 ∧ ok = o2 ∧ tm = l2) ∧
     ∃ (x top : Nat) (G : Nat → Option Nat) (B : Int → Nat) (c : Nat), i = (x : Int) - 1 ∧ tt = top ∧ cB = c ∧ InvSS m .i32 .i32 T n tm bt ot ba oa bk ok f d x top G B c bb m'
   | _, _ => False
 let mu : LM := fun _ ls => match ls with | [_, _, _, .iv _ i] => (i + 1).toNat | _ => 0
 refine C_F107 (I0 := I)
  (X0 := fun _ ps ls m' => match ps, ls with
   | _, [.iv _ cB, .iv _ bb, .iv _ tt, .iv _ i] => ∃ (top : Nat) (G : Nat → Option Nat) (B : Int → Nat) (c : Nat), InvSS m .i32 .i32 T n tm bt ot ba oa bk ok f d 0 top G B c bb m'
   | _, _ => False) (mu0 := mu) ?_ ?_
 ·intro bt' ot' lt' ct' ba' oa' la' ca' bk' ok' lk' ck' cB b tt i k m' hI hmu
  obtain ⟨⟨rfl, rfl, rfl, rfl, rfl, rfl, rfl, rfl, rfl⟩, x0, top, G, B, c, rfl, rfl, rfl, hJ⟩ := (show (_ ∧ _ ∧ _ ∧ _ ∧ _ ∧ _ ∧ _ ∧ _ ∧ _) ∧ ∃ (x top : Nat) (G : Nat → Option Nat) (B : Int → Nat) (c : Nat), _ ∧ _ ∧ _ ∧ InvSS _ _ _ _ _ _ _ _ _ _ _ _ _ _ _ _ _ _ _ _ _ from hI)
  clear hI
  obtain ⟨L', hs, ho, hxn, hz0, li, rel, hc, hB⟩ := hJ
  have hmu' : ((x0 : Int) - 1 + 1).toNat < k + 1 := hmu
  have leaf : ∀ {x top' : Nat} {G' : Nat → Option Nat} {B' : Int → Nat} {c' : Nat} {b' : Int} {m2 : Mem}, x0 = x + 1 → InvSS m .i32 .i32 T n tm bt ot ba oa bk ok f d x top' G' B' c' b' m2 →
    KF1 L0_F107 I mu (P0_F107 bt ot n ct' ba oa n ca' bk ok tm ck') k [.int .i32 c', .int .i32 b', .int .i64 top', .int .i64 ((x : Int) - 1)] m2 := fun {x _ _ _ _ _ _} hx h =>
   KF1_mk (And.intro (And.intro ⟨rfl, rfl, rfl, rfl, rfl, rfl, rfl, rfl, rfl⟩ ⟨x, _, _, _, _, rfl, rfl, rfl, h⟩) (show ((x : Int) - 1 + 1).toNat < k from by omega))
  clear_value I mu
  unfold R0_F107
  refine cond_of (fun hb => ?_) (fun hb => ?_)
  ·have hge : (x0 : Int) - 1 ≥ 0 := of_decide_eq_true hb
   obtain ⟨x, rfl⟩ : ∃ x, x0 = x + 1 := ⟨x0 - 1, by omega⟩
   have ex : ((x + 1 : Nat) : Int) - 1 = (x : Int) := by omega
   rw [ex, Int.toNat_natCast]
   have hx : x < n := by omega
   have hk1 := L'.sa x hx
   have hr1 := L'.sro
   have hi64 : inR .i64 ((x : Int) - 1) := inR_i64 (by omega) (by omega)
   refine ⟨by omega, by omega, hk1, fun z hz => ?_⟩
   have hzb : -(n : Int) < z ∧ z < n + 1 := by
    rw [← hz]
    by_cases h0 : m'.val ba (oa + x) < 0
    ·have := (subS_neg li rel h0).1
     exact ⟨this, by omega⟩
    ·by_cases h1 : 0 < m'.val ba (oa + x)
     ·obtain ⟨k, e, _, h2, _⟩ := subS_pos (sub_S d) hd hz0 li rel h1
      have e' : m'.val ba (oa + x) = ((k + 1 : Nat) : Int) := e
      omega
     ·omega
   have htn := rel.tn
   have hz1 : inR .i64 z := inR_i64 (by omega) (by omega)
   have hz2 : inR .i64 (0 - z) := inR_i64 (by omega) (by omega)
   have hz3 : inR .i32 (0 - z) := inR_i32 (by omega) (by omega)
   have hz4 : inR .i64 (z - 1) := inR_i64 (by omega) (by omega)
   have hz5 : inR .i64 (z - 1 - 1) := inR_i64 (by omega) (by omega)
   have hzt : inR .i64 ((top : Int) - 1) := inR_i64 (by omega) (by omega)
   repeat ((with_reducible refine And.intro ?_ ?_); · first | omega | with_reducible assumption | exact hk1 | exact hr1)
   refine cond_of (fun hb1 => ?_) (fun hb1 => ?_)
   ·have h0 : m'.val ba (oa + x) = 0 := hz.trans (eq_of_beq hb1)
    obtain ⟨li', rel'⟩ := subS_zero hd1 hz0 li rel h0
    exact ⟨hi64, leaf rfl ⟨L', hs, ho, by omega, hz0, li', rel', hc, hB⟩⟩
   ·have hne : z ≠ 0 := fun e => by rw [e] at hb1; exact absurd hb1 (by decide)
    repeat ((with_reducible refine And.intro ?_ ?_); · first | omega | with_reducible assumption | exact hk1 | exact hr1)
    intro m1 hm1
    subst hm1
    refine cond_of (fun hb2 => ?_) (fun hb2 => ?_)
    ·have h0 : m'.val ba (oa + x) < 0 := by rw [hz]; exact of_decide_eq_true hb2
     obtain ⟨_, hxt, li', rel'⟩ := subS_neg li rel h0
     have et : (top : Int) - 1 = ((top - 1 : Nat) : Int) := by omega
     rw [et] at hzt ⊢
     rw [Int.toNat_natCast]
     have hk2 := L'.sa (top - 1) (by omega)
     repeat ((with_reducible refine And.intro ?_ ?_); · first | omega | with_reducible assumption | exact hk1 | exact hk2 | exact hr1)
     intro m2 hm2
     subst hm2
     repeat ((with_reducible refine And.intro ?_ ?_); · first | omega | with_reducible assumption | exact hk1 | exact hk2 | exact hr1)
     refine leaf rfl ⟨(L'.stA hx _).stA (by omega) _, (hs.trans (SameK.st _ _ _ _)).trans (SameK.st _ _ _ _), (ho.st (.inr (.inr (InRow.mk hx))) _).st (.inr (.inr (InRow.mk (by omega)))) _, by omega, hz0, li', rel'.congr (by omega) fun p hp => ?_, hc, hB.same fun e he => by rw [(L'.stA hx _).AtoK (by omega) he, L'.AtoK hx he]⟩
     rw [st_val, st_val, hz]
    ·have hge : ¬ z < 0 := of_decide_eq_false hb2
     have h0 : 0 < m'.val ba (oa + x) := by rw [hz]; omega
     obtain ⟨q, e, q1, q2, q4, q5, hz', li', rel'⟩ := subS_pos (sub_S d) hd hz0 li rel h0
     have e' : m'.val ba (oa + x) = ((q + 1 : Nat) : Int) := e
     obtain rfl : z = ((q + 1 : Nat) : Int) := hz.symm.trans e'
     obtain ⟨u, rfl⟩ : ∃ u, q = u + 1 := ⟨q - 1, by omega⟩
     have ez1 : ((u + 1 + 1 : Nat) : Int) - 1 = ((u + 1 : Nat) : Int) := by omega
     have ez2 : ((u + 1 : Nat) : Int) - 1 = (u : Int) := by omega
     have L1 := L'.stA hx 0
     rw [ez1, ez2] at hz5 ⊢
     rw [ez1] at hz4
     rw [Int.toNat_natCast, Int.toNat_natCast]
     rw [Nat.add_sub_cancel] at rel'
     have hk2 := L1.tx.rd u (by omega)
     have hk3 := L1.tx.rd (u + 1) (by omega)
     repeat ((with_reducible refine And.intro ?_ ?_); · first | omega | with_reducible assumption | exact hk1 | exact hk2 | exact hk3 | exact hr1)
     intro zv hzv
     obtain ⟨cv, hcv, hct⟩ := L'.letter (i := u + 1) (by omega)
     obtain rfl : zv = (cv : Int) := hzv.symm.trans ((L1.tx.v (u + 1) (by omega)).trans hcv)
     repeat ((with_reducible refine And.intro ?_ ?_); · first | omega | with_reducible assumption | exact hk1 | exact hk2 | exact hk3 | exact hr1)
     intro zu hzu
     obtain rfl : zu = T u := hzu.symm.trans (L1.tx.v u (by omega))
     rw [hcv] at q4 q5 hz' li' rel'
     obtain ⟨y, hy⟩ : ∃ y, B cv = y + 1 := ⟨B cv - 1, by omega⟩
     rw [hy] at q4 hz' li' rel'
     rw [Nat.add_sub_cancel] at hz' li' rel'
     have hyn : y < n := by omega
     have hk4 := L'.kr c hc
     have hr2 := L'.kro
     have hk5 := L'.kr cv hct
     have hk6 := L'.sa y hyn
     have hz6 : inR .i64 (0 - ((u + 1 : Nat) : Int)) := inR_i64 (by omega) (by omega)
     have hz7 : inR .i32 (0 - ((u + 1 : Nat) : Int)) := inR_i32 (by omega) (by omega)
     have hz8 : inR .i32 ((u + 1 : Nat) : Int) := inR_i32 (by omega) (by omega)
     have hz9 : inR .i32 (y : Int) := inR_i32 (by omega) (by omega)
     have ey : ((y + 1 : Nat) : Int) - 1 = (y : Int) := by omega
     have fin1 : ∀ (v : Int), v = (if T u > (cv : Int) then 0 - ((u + 1 : Nat) : Int) else ((u + 1 : Nat) : Int)) → ∀ (b : Int), Bk m' bk ok tm B c b → c ≠ cv →
       InvSS m .i32 .i32 T n tm bt ot ba oa bk ok f d x top (updG G y (u + 1)) (updB B cv y) cv (y : Int) ((((m'.st ba (oa + x) 0).st bk (ok + c) b).st ba (oa + y) v)) := by
      intro v hv b hBb hne
      refine ⟨((L'.stA hx _).stK hc _).stA hyn _, ((hs.trans (SameK.st _ _ _ _)).trans (SameK.st _ _ _ _)).trans (SameK.st _ _ _ _), ((ho.st (.inr (.inr (InRow.mk hx))) _).st (.inr (.inl (InRow.mk hc))) _).st (.inr (.inr (InRow.mk hyn))) _, by omega, hz', li', rel'.congr (by omega) fun p hp => ?_, hct, ?_⟩
      ·rw [st_val, (L'.stA hx _).KtoA hp hc, st_val, hv]
      ·exact hBb.swap (c := cv) hc y (m' := ((m'.st ba (oa + x) 0).st bk (ok + c) b).st ba (oa + y) v) (fun e he => by
        rw [((L'.stA hx _).stK hc _).AtoK hyn he, st_val]
        by_cases hec : e = c
        ·rw [if_pos hec, if_pos hec]
        ·rw [if_neg hec, if_neg hec, L'.AtoK hx he])
     have fin2 : ∀ (v : Int), v = (if T u > (cv : Int) then 0 - ((u + 1 : Nat) : Int) else ((u + 1 : Nat) : Int)) → ∀ (b : Int), Bk m' bk ok tm B cv b →
       InvSS m .i32 .i32 T n tm bt ot ba oa bk ok f d x top (updG G y (u + 1)) (updB B cv y) cv (y : Int) ((m'.st ba (oa + x) 0).st ba (oa + y) v) := by
      intro v hv b hBb
      refine ⟨(L'.stA hx _).stA hyn _, (hs.trans (SameK.st _ _ _ _)).trans (SameK.st _ _ _ _), (ho.st (.inr (.inr (InRow.mk hx))) _).st (.inr (.inr (InRow.mk hyn))) _, by omega, hz', li', rel'.congr (by omega) fun p hp => ?_, hct, ?_⟩
      ·rw [st_val, st_val, hv]
      ·exact hBb.keep y (m' := (m'.st ba (oa + x) 0).st ba (oa + y) v) (fun e he => by
        rw [(L'.stA hx _).AtoK hyn he, L'.AtoK hx he])
     refine cond_of (fun hb3 => ?_) (fun hb3 => ?_)
     ·have hlt : T u > (cv : Int) := of_decide_eq_true hb3
      have hv : (0 - ((u + 1 : Nat) : Int)) = (if T u > (cv : Int) then 0 - ((u + 1 : Nat) : Int) else ((u + 1 : Nat) : Int)) := by rw [if_pos hlt]
      repeat ((with_reducible refine And.intro ?_ ?_); · first | omega | with_reducible assumption | exact hk1 | exact hk2 | exact hk3 | exact hk4 | exact hk5 | exact hk6 | exact hr1 | exact hr2)
      refine cond_of (fun hb4 => ?_) (fun hb4 => ?_)
      ·have hne : c ≠ cv := fun e => by rw [e] at hb4; simp at hb4
       repeat ((with_reducible refine And.intro ?_ ?_); · first | omega | with_reducible assumption | exact hk1 | exact hk2 | exact hk3 | exact hk4 | exact hk5 | exact hk6 | exact hr1 | exact hr2)
       intro m2 hm2
       subst hm2
       repeat ((with_reducible refine And.intro ?_ ?_); · first | omega | with_reducible assumption | exact hk1 | exact hk2 | exact hk3 | exact hk4 | exact hk5 | exact hk6 | exact hr1 | exact hr2)
       intro zy hzy
       obtain rfl : zy = ((y + 1 : Nat) : Int) := by
        rw [← hzy, Int.toNat_natCast, Int.toNat_natCast, st_val, if_neg (Ne.symm hne), L'.AtoK hx hct, ← hy]
        have := hB cv hct
        rw [if_neg (Ne.symm hne)] at this; exact this
       rw [ey, Int.toNat_natCast] at *
       repeat ((with_reducible refine And.intro ?_ ?_); · first | omega | with_reducible assumption | exact hk1 | exact hk2 | exact hk3 | exact hk4 | exact hk5 | exact hk6 | exact hr1 | exact hr2)
       intro m3 hm3
       subst hm3
       repeat ((with_reducible refine And.intro ?_ ?_); · first | omega | with_reducible assumption | exact hk1 | exact hk2 | exact hk3 | exact hk4 | exact hk5 | exact hk6 | exact hr1 | exact hr2)
       exact leaf rfl (fin1 _ hv b hB hne)
      ·have he : c = cv := by have := (bne_eq_false_iff_eq.1 hb4); omega
       subst he
       obtain rfl : b = ((y + 1 : Nat) : Int) := by rw [hB.hand hct, hy]
       rw [ey, Int.toNat_natCast]
       repeat ((with_reducible refine And.intro ?_ ?_); · first | omega | with_reducible assumption | exact hk1 | exact hk2 | exact hk3 | exact hk4 | exact hk5 | exact hk6 | exact hr1 | exact hr2)
       intro m3 hm3
       subst hm3
       repeat ((with_reducible refine And.intro ?_ ?_); · first | omega | with_reducible assumption | exact hk1 | exact hk2 | exact hk3 | exact hk4 | exact hk5 | exact hk6 | exact hr1 | exact hr2)
       exact leaf rfl (fin2 _ hv _ hB)
     ·have hlt : ¬ T u > (cv : Int) := of_decide_eq_false hb3
      have hv : ((u + 1 : Nat) : Int) = (if T u > (cv : Int) then 0 - ((u + 1 : Nat) : Int) else ((u + 1 : Nat) : Int)) := by rw [if_neg hlt]
      refine cond_of (fun hb4 => ?_) (fun hb4 => ?_)
      ·have hne : c ≠ cv := fun e => by rw [e] at hb4; simp at hb4
       repeat ((with_reducible refine And.intro ?_ ?_); · first | omega | with_reducible assumption | exact hk1 | exact hk2 | exact hk3 | exact hk4 | exact hk5 | exact hk6 | exact hr1 | exact hr2)
       intro m2 hm2
       subst hm2
       repeat ((with_reducible refine And.intro ?_ ?_); · first | omega | with_reducible assumption | exact hk1 | exact hk2 | exact hk3 | exact hk4 | exact hk5 | exact hk6 | exact hr1 | exact hr2)
       intro zy hzy
       obtain rfl : zy = ((y + 1 : Nat) : Int) := by
        rw [← hzy, Int.toNat_natCast, Int.toNat_natCast, st_val, if_neg (Ne.symm hne), L'.AtoK hx hct, ← hy]
        have := hB cv hct
        rw [if_neg (Ne.symm hne)] at this; exact this
       rw [ey, Int.toNat_natCast] at *
       repeat ((with_reducible refine And.intro ?_ ?_); · first | omega | with_reducible assumption | exact hk1 | exact hk2 | exact hk3 | exact hk4 | exact hk5 | exact hk6 | exact hr1 | exact hr2)
       intro m3 hm3
       subst hm3
       repeat ((with_reducible refine And.intro ?_ ?_); · first | omega | with_reducible assumption | exact hk1 | exact hk2 | exact hk3 | exact hk4 | exact hk5 | exact hk6 | exact hr1 | exact hr2)
       exact leaf rfl (fin1 _ hv b hB hne)
      ·have he : c = cv := by have := (bne_eq_false_iff_eq.1 hb4); omega
       subst he
       obtain rfl : b = ((y + 1 : Nat) : Int) := by rw [hB.hand hct, hy]
       rw [ey, Int.toNat_natCast]
       repeat ((with_reducible refine And.intro ?_ ?_); · first | omega | with_reducible assumption | exact hk1 | exact hk2 | exact hk3 | exact hk4 | exact hk5 | exact hk6 | exact hr1 | exact hr2)
       intro m3 hm3
       subst hm3
       repeat ((with_reducible refine And.intro ?_ ?_); · first | omega | with_reducible assumption | exact hk1 | exact hk2 | exact hk3 | exact hk4 | exact hk5 | exact hk6 | exact hr1 | exact hr2)
       exact leaf rfl (fin2 _ hv _ hB)
  ·have hge : ¬ (x0 : Int) - 1 ≥ 0 := of_decide_eq_false hb
   obtain rfl : x0 = 0 := by omega
   exact XF1_mk (show ∃ (top : Nat) (G : Nat → Option Nat) (B : Int → Nat) (c : Nat), InvSS _ _ _ _ _ _ _ _ _ _ _ _ _ _ _ _ _ _ _ _ _ from ⟨top, G, B, c, L', hs, ho, hxn, hz0, li, rel, hc, hB⟩)
 ·unfold M_F107
  refine bmax_124 L.hn htm L.t2 L.t1 hck L.tx L.kr L.kro L.akt L.fr fun m1 hs1 ho1 hb1 hd1 => ?_
  have ho1' : Out m m1 (WL f bk ok tm ba oa n) := ho1.mono fun x y h => h.elim .inl (fun h => .inr (.inl h))
  have L1 := L.keep hs1 ho1' (L.fr.done hs1 hd1)
  have hr0 : ∀ p, p < n → m1.val ba (oa + p) = m.val ba (oa + p) := fun x hx => ho1 _ _ (fun h => h.elim (fun h => (L.fr.not_in h).2.1 (InRow.mk hx)) (fun h => L.aka.not_row h (InRow.mk hx)))
  obtain ⟨G, hz0, li, rel⟩ := subS_start htops (B := fun c => bs T n c + cc T n c) (fun _ _ => rfl)
  have hk1 := L1.kr 0 L.t1
  have ht1 := L.t1
  have hi1 : inR .i64 ((n : Int) - 1) := inR_i64 (by omega) (by omega)
  rw [show Int.toNat (0 : Int) = 0 by rfl]
  repeat ((with_reducible refine And.intro ?_ ?_); · first | omega | with_reducible assumption | exact hk1 | exact hk2 | exact hk3 | exact hk4 | exact hk5 | exact hk6 | exact hr1 | exact hr2)
  intro z3 hz3
  repeat ((with_reducible refine And.intro ?_ ?_); · first | omega | with_reducible assumption | exact hk1 | exact hk2 | exact hk3 | exact hk4 | exact hk5 | exact hk6 | exact hr1 | exact hr2)
  refine And.intro (And.intro ⟨rfl, rfl, rfl, rfl, rfl, rfl, rfl, rfl, rfl⟩ ⟨n, n, G, _, 0, rfl, rfl, rfl, L1, hs1, ho1', Nat.le_refl _, hz0, li, rel.congr (Nat.le_refl _) hr0, L.t1, fun e he => ?_⟩) (fun z4 z5 z6 z7 m8 hX _ => ?_)
  ·have hbe := hb1 e he
   rw [bs_succ] at hbe
   by_cases he0 : e = 0
   ·subst he0; rw [if_pos rfl, ← hz3, hbe]
   ·rw [if_neg he0, hbe]
  ·obtain ⟨top, G, B, c, J⟩ := (show ∃ (top : Nat) (G : Nat → Option Nat) (B : Int → Nat) (c : Nat), InvSS _ _ _ _ _ _ _ _ _ _ _ _ _ _ _ _ _ _ _ _ _ from hX)
   exact hK m8 J.hs J.ho J.L (subS_fin hmin J.li J.rel).2
end Go.Proofs.YtdhifgedhaapjaaGreatDoor

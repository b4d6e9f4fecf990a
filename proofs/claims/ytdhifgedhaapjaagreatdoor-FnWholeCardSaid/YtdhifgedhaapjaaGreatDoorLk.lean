/- The words of the last two scans, on one level. -/
import Derived.Test.YtdhifgedhaapjaaGreatDoorLi
import Derived.Test.YtdhifgedhaapjaaGreatDoorLe
import Derived.Test.YtdhifgedhaapjaaGreatDoorLh
namespace Go.Proofs.YtdhifgedhaapjaaGreatDoor
open Go Sa
structure InvFL (m0 : Mem) (kt ks : IntKind) (T : Nat → Int) (n tm bt ot ba oa bk ok : Nat) (f : Value) (x : Nat) (G : Nat → Option Nat) (B : Int → Nat) (cB : Nat) (b : Int) (m : Mem) : Prop where
 L : Lv m kt ks T n tm bt ot ba oa bk ok f
 hs : SameK m0 m
 ho : Out m0 m (WL f bk ok tm ba oa n)
 hx : x ≤ n
 li : LInv T n 0 (leF T n) x G B
 rel : RelF T n G (fun p => m.val ba (oa + p))
 hc : cB < tm
 hB : Bk m bk ok tm B cB b
structure InvFS (m0 : Mem) (kt ks : IntKind) (T : Nat → Int) (n tm bt ot ba oa bk ok : Nat) (f : Value) (x : Nat) (G : Nat → Option Nat) (B : Int → Nat) (cB : Nat) (b : Int) (m : Mem) : Prop where
 L : Lv m kt ks T n tm bt ot ba oa bk ok f
 hs : SameK m0 m
 ho : Out m0 m (WL f bk ok tm ba oa n)
 hx : x ≤ n
 li : SInv T n 0 (leF T n) x G B
 rel : RelFS T n x G (fun p => m.val ba (oa + p))
 hc : cB < tm
 hB : Bk m bk ok tm B cB b
def MidF (T : Nat → Int) (n : Nat) (A : Nat → Int) : Prop := ∃ G B, LInv T n 0 (leF T n) n G B ∧ RelF T n G A
theorem MidF.congr {T : Nat → Int} {n : Nat} {A A' : Nat → Int} (h : MidF T n A) (hA : ∀ p, p < n → A' p = A p) : MidF T n A' := by
 obtain ⟨G, B, h1, h2⟩ := h
 exact ⟨G, B, h1, h2.congr hA⟩
end Go.Proofs.YtdhifgedhaapjaaGreatDoor
namespace Go.Proofs.YtdhifgedhaapjaaGreatDoor
open Go Sa
theorem indL_79 {w0 : World} {m : Mem} {T : Nat → Int} {n tm bt ot ct ba oa ca bk ok ck : Nat} {f : Value} {K : Value → Mem → Prop} (L : Lv m .u8 .i32 T n tm bt ot ba oa bk ok f) (htm : tm = 256)
  (hck : tm ≤ ck) (hn2 : 2 ≤ n) (hsd : SeedsF T n (fun x => m.val ba (oa + x)))
  (hK : ∀ m', SameK m m' → Out m m' (WL f bk ok tm ba oa n) → Lv m' .u8 .i32 T n tm bt ot ba oa bk ok f → MidF T n (fun x => m'.val ba (oa + x)) → K (.tuple #[]) m') :
  callV Tryz.prog w0 79 [.slice (some ⟨bt, ot, none⟩) n ct, .slice (some ⟨ba, oa, none⟩) n ca, f, .slice (some ⟨bk, ok, none⟩) tm ck] m K := by
 have hn := L.hn
 let I : LI := fun ps ls m' => match ps, ls with
   | [.sl b o l c, .sl b' o' l' c', .sl b2 o2 l2 c2], [.iv _ cB, .iv _ bb, .iv _ i] => (bt = b ∧ ot = o ∧ n = l ∧ ba = b' ∧ oa = o' ∧ n = l' ∧ bk = b2 ∧ ok = o2 ∧ tm = l2) ∧
     ∃ (x : Nat) (G : Nat → Option Nat) (B : Int → Nat) (c : Nat), i = x ∧ cB = c ∧ InvFL m .u8 .i32 T n tm bt ot ba oa bk ok f x G B c bb m'
   | _, _ => False
 let mu : LM := fun _ ls => match ls with | [_, _, .iv _ i] => (n - i).toNat | _ => 0
 refine C_F79 (I0 := I)
  (X0 := fun _ ps ls m' => match ps, ls with
   | _, [.iv _ cB, .iv _ bb, .iv _ i] => ∃ (G : Nat → Option Nat) (B : Int → Nat) (c : Nat), InvFL m .u8 .i32 T n tm bt ot ba oa bk ok f n G B c bb m'
   | _, _ => False) (mu0 := mu) ?_ ?_
 ·intro bt' ot' lt' ct' ba' oa' la' ca' bk' ok' lk' ck' cB b i k m' hI hmu
  obtain ⟨⟨rfl, rfl, rfl, rfl, rfl, rfl, rfl, rfl, rfl⟩, x, G, B, c, rfl, rfl, hJ⟩ := (show (_ ∧ _ ∧ _ ∧ _ ∧ _ ∧ _ ∧ _ ∧ _ ∧ _) ∧ ∃ (x : Nat) (G : Nat → Option Nat) (B : Int → Nat) (c : Nat), _ ∧ _ ∧ InvFL _ _ _ _ _ _ _ _ _ _ _ _ _ _ _ _ _ _ _ from hI)
  clear hI
  obtain ⟨L', hs, ho, hxn, li, rel, hc, hB⟩ := hJ
  have hmu' : ((n : Int) - x).toNat < k + 1 := hmu
  have leaf : ∀ {G' : Nat → Option Nat} {B' : Int → Nat} {c' : Nat} {b' : Int} {m2 : Mem}, x < n → InvFL m .u8 .i32 T n tm bt ot ba oa bk ok f (x + 1) G' B' c' b' m2 →
    KF1 L0_F79 I mu (P0_F79 bt ot n ct' ba oa n ca' bk ok tm ck') k [.int .u8 c', .int .i32 b', .int .i64 ((x : Int) + 1)] m2 := fun hx h =>
   KF1_mk (And.intro (And.intro ⟨rfl, rfl, rfl, rfl, rfl, rfl, rfl, rfl, rfl⟩ ⟨x + 1, _, _, _, by omega, rfl, h⟩) (show ((n : Int) - ((x : Int) + 1)).toNat < k from by omega))
  clear_value I mu
  unfold R0_F79
  refine cond_of (fun hb => ?_) (fun hb => ?_)
  ·have hx : x < n := by have := of_decide_eq_true hb; omega
   rw [Int.toNat_natCast]
   have hk1 := L'.sa x hx
   have hr1 := L'.sro
   have hi64 : inR .i64 ((x : Int) + 1) := inR_i64 (by omega) (by omega)
   refine ⟨by omega, by omega, hk1, fun z hz => ?_⟩
   have hzb : -(n : Int) < z ∧ z < n := by
    rw [← hz]; exact RelF.lo (A := fun p => m'.val ba (oa + p)) li.toLCore rel hx
   have hz1 : inR .i64 z := inR_i64 (by omega) (by omega)
   have hz4 : inR .i64 (z - 1) := inR_i64 (by omega) (by omega)
   have hz5 : inR .i64 (z - 1 - 1) := inR_i64 (by omega) (by omega)
   repeat ((with_reducible refine And.intro ?_ ?_); · first | omega | with_reducible assumption | exact hk1 | exact hr1)
   refine cond_of (fun hb1 => ?_) (fun hb1 => ?_)
   ·have h0 : m'.val ba (oa + x) ≤ 0 := by rw [hz]; exact of_decide_eq_true hb1
    exact ⟨hi64, leaf hx ⟨L', hs, ho, hx, fullL_skip li rel hx h0, rel, hc, hB⟩⟩
   ·have hge : ¬ z ≤ 0 := of_decide_eq_false hb1
    have h0 : 0 < m'.val ba (oa + x) := by rw [hz]; omega
    obtain ⟨q, e, q3, q2, q5, li', rel'⟩ := fullL_pos li rel hx h0
    have e' : m'.val ba (oa + x) = ((q + 1 : Nat) : Int) := e
    obtain rfl : z = ((q + 1 : Nat) : Int) := hz.symm.trans e'
    have ez1 : ((q + 1 : Nat) : Int) - 1 = (q : Int) := by omega
    rw [ez1] at hz4 hz5 ⊢
    rw [Int.toNat_natCast]
    have hk3 := L'.tx.rd q q3
    repeat ((with_reducible refine And.intro ?_ ?_); · first | omega | with_reducible assumption | exact hk1 | exact hk3 | exact hr1)
    intro zv hzv
    obtain ⟨cv, hcv, hct⟩ := L'.letter q3
    obtain rfl : zv = (cv : Int) := hzv.symm.trans ((L'.tx.v q q3).trans hcv)
    rw [hcv] at q5 li' rel'
    have hBc : ∃ y, B cv = y ∧ y < n := ⟨_, rfl, q5⟩
    obtain ⟨y, hy, hyn⟩ := hBc
    rw [hy] at li' rel'
    have hk4 := L'.kr c hc
    have hr2 := L'.kro
    have hk5 := L'.kr cv hct
    have hk6 := L'.sa y hyn
    have hz6 : inR .i64 (0 - (q : Int)) := inR_i64 (by omega) (by omega)
    have hz7 : inR .i32 (0 - (q : Int)) := inR_i32 (by omega) (by omega)
    have hz8 : inR .i32 (q : Int) := inR_i32 (by omega) (by omega)
    have hz9 : inR .i32 ((y : Int) + 1) := inR_i32 (by omega) (by omega)
    have fin1 : ∀ (v : Int), v = (if 0 < q ∧ T (q - 1) < (cv : Int) then 0 - (q : Int) else (q : Int)) → ∀ (b : Int), Bk m' bk ok tm B c b → c ≠ cv →
      InvFL m .u8 .i32 T n tm bt ot ba oa bk ok f (x + 1) (updG G y q) (updB B cv (y + 1)) cv ((y : Int) + 1) (((m'.st bk (ok + c) b).st ba (oa + y) v)) := by
     intro v hv b hBb hne
     refine ⟨(L'.stK hc _).stA hyn _, (hs.trans (SameK.st _ _ _ _)).trans (SameK.st _ _ _ _), (ho.st (.inr (.inl (InRow.mk hc))) _).st (.inr (.inr (InRow.mk hyn))) _, hx, li', rel'.congr fun p hp => ?_, hct, ?_⟩
     ·rw [st_val, L'.KtoA hp hc, hv]
     ·have := hBb.swap (c := cv) hc (y + 1) (m' := (m'.st bk (ok + c) b).st ba (oa + y) v) (fun e he => by
       rw [(L'.stK hc _).AtoK hyn he, st_val])
      rw [show ((y : Int) + 1) = ((y + 1 : Nat) : Int) by omega]; exact this
    have fin2 : ∀ (v : Int), v = (if 0 < q ∧ T (q - 1) < (cv : Int) then 0 - (q : Int) else (q : Int)) → ∀ (b : Int), Bk m' bk ok tm B cv b →
      InvFL m .u8 .i32 T n tm bt ot ba oa bk ok f (x + 1) (updG G y q) (updB B cv (y + 1)) cv ((y : Int) + 1) (m'.st ba (oa + y) v) := by
     intro v hv b hBb
     refine ⟨L'.stA hyn _, hs.trans (SameK.st _ _ _ _), ho.st (.inr (.inr (InRow.mk hyn))) _, hx, li', rel'.congr fun p hp => ?_, hct, ?_⟩
     ·rw [st_val, hv]
     ·have := hBb.keep (y + 1) (m' := m'.st ba (oa + y) v) (fun e he => by
       rw [L'.AtoK hyn he])
      rw [show ((y : Int) + 1) = ((y + 1 : Nat) : Int) by omega]; exact this
    refine cond_of (fun hb2 => ?_) (fun hb2 => ?_)
    ·have hq0 : (q : Int) > 0 := of_decide_eq_true hb2
     obtain ⟨u, rfl⟩ : ∃ u, q = u + 1 := ⟨q - 1, by omega⟩
     have ez2 : ((u + 1 : Nat) : Int) - 1 = (u : Int) := by omega
     rw [ez2] at hz5 ⊢
     rw [Int.toNat_natCast]
     have hk2 := L'.tx.rd u (by omega)
     repeat ((with_reducible refine And.intro ?_ ?_); · first | omega | with_reducible assumption | exact hk1 | exact hk2 | exact hk3 | exact hk4 | exact hk5 | exact hk6 | exact hr1 | exact hr2)
     intro zu hzu
     obtain rfl : zu = T u := hzu.symm.trans (L'.tx.v u (by omega))
     refine cond_of (fun hb3 => ?_) (fun hb3 => ?_)
     ·have hlt : T u < (cv : Int) := of_decide_eq_true hb3
      have hv : (0 - ((u + 1 : Nat) : Int)) = (if 0 < u + 1 ∧ T (u + 1 - 1) < (cv : Int) then 0 - ((u + 1 : Nat) : Int) else ((u + 1 : Nat) : Int)) := by rw [if_pos ⟨by omega, hlt⟩]
      repeat ((with_reducible refine And.intro ?_ ?_); · first | omega | with_reducible assumption | exact hk1 | exact hk2 | exact hk3 | exact hk4 | exact hk5 | exact hk6 | exact hr1 | exact hr2)
      refine cond_of (fun hb4 => ?_) (fun hb4 => ?_)
      ·have hne : c ≠ cv := fun e => by rw [e] at hb4; simp at hb4
       repeat ((with_reducible refine And.intro ?_ ?_); · first | omega | with_reducible assumption | exact hk1 | exact hk2 | exact hk3 | exact hk4 | exact hk5 | exact hk6 | exact hr1 | exact hr2)
       intro m2 hm2
       subst hm2
       repeat ((with_reducible refine And.intro ?_ ?_); · first | omega | with_reducible assumption | exact hk1 | exact hk2 | exact hk3 | exact hk4 | exact hk5 | exact hk6 | exact hr1 | exact hr2)
       intro zy hzy
       obtain rfl : zy = (y : Int) := by
        rw [← hzy, Int.toNat_natCast, Int.toNat_natCast, st_val, if_neg (Ne.symm hne), ← hy]
        have := hB cv hct
        rw [if_neg (Ne.symm hne)] at this; exact this
       rw [Int.toNat_natCast] at *
       repeat ((with_reducible refine And.intro ?_ ?_); · first | omega | with_reducible assumption | exact hk1 | exact hk2 | exact hk3 | exact hk4 | exact hk5 | exact hk6 | exact hr1 | exact hr2)
       intro m3 hm3
       subst hm3
       repeat ((with_reducible refine And.intro ?_ ?_); · first | omega | with_reducible assumption | exact hk1 | exact hk2 | exact hk3 | exact hk4 | exact hk5 | exact hk6 | exact hr1 | exact hr2)
       exact leaf hx (fin1 _ hv b hB hne)
      ·have he : c = cv := by have := (bne_eq_false_iff_eq.1 hb4); omega
       subst he
       obtain rfl : b = (y : Int) := by rw [hB.hand hct, hy]
       rw [Int.toNat_natCast]
       repeat ((with_reducible refine And.intro ?_ ?_); · first | omega | with_reducible assumption | exact hk1 | exact hk2 | exact hk3 | exact hk4 | exact hk5 | exact hk6 | exact hr1 | exact hr2)
       intro m3 hm3
       subst hm3
       repeat ((with_reducible refine And.intro ?_ ?_); · first | omega | with_reducible assumption | exact hk1 | exact hk2 | exact hk3 | exact hk4 | exact hk5 | exact hk6 | exact hr1 | exact hr2)
       exact leaf hx (fin2 _ hv _ hB)
     ·have hlt : ¬ T u < (cv : Int) := of_decide_eq_false hb3
      have hv : ((u + 1 : Nat) : Int) = (if 0 < u + 1 ∧ T (u + 1 - 1) < (cv : Int) then 0 - ((u + 1 : Nat) : Int) else ((u + 1 : Nat) : Int)) := by rw [if_neg (fun h => hlt h.2)]
      refine cond_of (fun hb4 => ?_) (fun hb4 => ?_)
      ·have hne : c ≠ cv := fun e => by rw [e] at hb4; simp at hb4
       repeat ((with_reducible refine And.intro ?_ ?_); · first | omega | with_reducible assumption | exact hk1 | exact hk2 | exact hk3 | exact hk4 | exact hk5 | exact hk6 | exact hr1 | exact hr2)
       intro m2 hm2
       subst hm2
       repeat ((with_reducible refine And.intro ?_ ?_); · first | omega | with_reducible assumption | exact hk1 | exact hk2 | exact hk3 | exact hk4 | exact hk5 | exact hk6 | exact hr1 | exact hr2)
       intro zy hzy
       obtain rfl : zy = (y : Int) := by
        rw [← hzy, Int.toNat_natCast, Int.toNat_natCast, st_val, if_neg (Ne.symm hne), ← hy]
        have := hB cv hct
        rw [if_neg (Ne.symm hne)] at this; exact this
       rw [Int.toNat_natCast] at *
       repeat ((with_reducible refine And.intro ?_ ?_); · first | omega | with_reducible assumption | exact hk1 | exact hk2 | exact hk3 | exact hk4 | exact hk5 | exact hk6 | exact hr1 | exact hr2)
       intro m3 hm3
       subst hm3
       repeat ((with_reducible refine And.intro ?_ ?_); · first | omega | with_reducible assumption | exact hk1 | exact hk2 | exact hk3 | exact hk4 | exact hk5 | exact hk6 | exact hr1 | exact hr2)
       exact leaf hx (fin1 _ hv b hB hne)
      ·have he : c = cv := by have := (bne_eq_false_iff_eq.1 hb4); omega
       subst he
       obtain rfl : b = (y : Int) := by rw [hB.hand hct, hy]
       rw [Int.toNat_natCast]
       repeat ((with_reducible refine And.intro ?_ ?_); · first | omega | with_reducible assumption | exact hk1 | exact hk2 | exact hk3 | exact hk4 | exact hk5 | exact hk6 | exact hr1 | exact hr2)
       intro m3 hm3
       subst hm3
       repeat ((with_reducible refine And.intro ?_ ?_); · first | omega | with_reducible assumption | exact hk1 | exact hk2 | exact hk3 | exact hk4 | exact hk5 | exact hk6 | exact hr1 | exact hr2)
       exact leaf hx (fin2 _ hv _ hB)
    ·have hq0 : ¬ (q : Int) > 0 := of_decide_eq_false hb2
     have hv : (q : Int) = (if 0 < q ∧ T (q - 1) < (cv : Int) then 0 - (q : Int) else (q : Int)) := by rw [if_neg (fun h => by omega)]
     refine cond_of (fun hb4 => ?_) (fun hb4 => ?_)
     ·have hne : c ≠ cv := fun e => by rw [e] at hb4; simp at hb4
      repeat ((with_reducible refine And.intro ?_ ?_); · first | omega | with_reducible assumption | exact hk1 | exact hk2 | exact hk3 | exact hk4 | exact hk5 | exact hk6 | exact hr1 | exact hr2)
      intro m2 hm2
      subst hm2
      repeat ((with_reducible refine And.intro ?_ ?_); · first | omega | with_reducible assumption | exact hk1 | exact hk2 | exact hk3 | exact hk4 | exact hk5 | exact hk6 | exact hr1 | exact hr2)
      intro zy hzy
      obtain rfl : zy = (y : Int) := by
       rw [← hzy, Int.toNat_natCast, Int.toNat_natCast, st_val, if_neg (Ne.symm hne), ← hy]
       have := hB cv hct
       rw [if_neg (Ne.symm hne)] at this; exact this
      rw [Int.toNat_natCast] at *
      repeat ((with_reducible refine And.intro ?_ ?_); · first | omega | with_reducible assumption | exact hk1 | exact hk2 | exact hk3 | exact hk4 | exact hk5 | exact hk6 | exact hr1 | exact hr2)
      intro m3 hm3
      subst hm3
      repeat ((with_reducible refine And.intro ?_ ?_); · first | omega | with_reducible assumption | exact hk1 | exact hk2 | exact hk3 | exact hk4 | exact hk5 | exact hk6 | exact hr1 | exact hr2)
      exact leaf hx (fin1 _ hv b hB hne)
     ·have he : c = cv := by have := (bne_eq_false_iff_eq.1 hb4); omega
      subst he
      obtain rfl : b = (y : Int) := by rw [hB.hand hct, hy]
      rw [Int.toNat_natCast]
      repeat ((with_reducible refine And.intro ?_ ?_); · first | omega | with_reducible assumption | exact hk1 | exact hk2 | exact hk3 | exact hk4 | exact hk5 | exact hk6 | exact hr1 | exact hr2)
      intro m3 hm3
      subst hm3
      repeat ((with_reducible refine And.intro ?_ ?_); · first | omega | with_reducible assumption | exact hk1 | exact hk2 | exact hk3 | exact hk4 | exact hk5 | exact hk6 | exact hr1 | exact hr2)
      exact leaf hx (fin2 _ hv _ hB)
  ·have hx : ¬ x < n := by have := of_decide_eq_false hb; omega
   obtain rfl : x = n := by omega
   exact XF1_mk (show ∃ (G : Nat → Option Nat) (B : Int → Nat) (c : Nat), InvFL _ _ _ _ _ _ _ _ _ _ _ _ _ _ _ _ _ _ _ from ⟨G, B, c, L', hs, ho, hxn, li, rel, hc, hB⟩)
 ·unfold M_F79
  refine bmin_98 L.hn htm L.t2 L.t1 hck L.tx L.kr L.kro L.akt L.fr fun m1 hs1 ho1 hb1 hd1 => ?_
  have ho1' : Out m m1 (WL f bk ok tm ba oa n) := ho1.mono fun x y h => h.elim .inl (fun h => .inr (.inl h))
  have L1 := L.keep hs1 ho1' (L.fr.done hs1 hd1)
  obtain ⟨y1, G, li, rel⟩ := fullL_start (by omega) hsd (B := fun c => bs T n c) (fun _ _ => rfl)
  have hr0 : ∀ x, x < n → m1.val ba (oa + x) = m.val ba (oa + x) := fun x hx => ho1 _ _ (fun h => h.elim (fun h => (L.fr.not_in h).2.1 (InRow.mk hx)) (fun h => L.aka.not_row h (InRow.mk hx)))
  obtain ⟨u, rfl⟩ : ∃ u, n = u + 2 := ⟨n - 2, by omega⟩
  have en1 : (((u + 2 : Nat) : Int) - 1) = ((u + 1 : Nat) : Int) := by omega
  have en2 : (((u + 1 : Nat) : Int) - 1) = (u : Int) := by omega
  rw [show u + 2 - 1 = u + 1 by omega] at y1 li rel
  rw [Nat.add_sub_cancel] at rel
  rw [en1, en2, Int.toNat_natCast, Int.toNat_natCast]
  have hk1 := L1.tx.rd u (by omega)
  have hk2 := L1.tx.rd (u + 1) (by omega)
  have hi1 : inR .i64 ((u + 1 : Nat) : Int) := inR_i64 (by omega) (by omega)
  have hi2 : inR .i64 (u : Int) := inR_i64 (by omega) (by omega)
  have hi3 : inR .i64 (0 - ((u + 1 : Nat) : Int)) := inR_i64 (by omega) (by omega)
  have hi4 : inR .i32 (0 - ((u + 1 : Nat) : Int)) := inR_i32 (by omega) (by omega)
  have hi5 : inR .i32 ((u + 1 : Nat) : Int) := inR_i32 (by omega) (by omega)
  obtain ⟨cv, hcv, hct⟩ := L1.letter (i := u + 1) (by omega)
  rw [hcv] at y1 li rel
  obtain ⟨y, hy⟩ : ∃ y, bs T (u + 2) (cv : Int) = y := ⟨_, rfl⟩
  rw [hy] at y1 li rel
  have hi6 : inR .i32 ((y : Int) + 1) := inR_i32 (by omega) (by omega)
  have hk3 := L1.kr cv hct
  have hk4 := L1.sa y y1
  have hr1 := L1.sro
  have hyv : m1.val bk (ok + cv) = (y : Int) := by rw [hb1 cv hct, ← hy]; simp
  have fin : ∀ (v : Int), v = (if 0 < u + 1 ∧ T u < (cv : Int) then 0 - ((u + 1 : Nat) : Int) else ((u + 1 : Nat) : Int)) →
    InvFL m .u8 .i32 T (u + 2) tm bt ot ba oa bk ok f 0 G (updB (fun c => bs T (u + 2) c) cv (y + 1)) cv ((y : Int) + 1) (m1.st ba (oa + y) v) := by
   intro v hv
   refine ⟨L1.stA y1 _, hs1.trans (SameK.st _ _ _ _), ho1'.st (.inr (.inr (InRow.mk y1))) _, Nat.zero_le _, li, rel.congr fun p hp => ?_, hct, fun e he => ?_⟩
   ·rw [st_val, hv, hr0 p hp]
   ·by_cases hec : e = cv
    ·subst hec; rw [if_pos rfl, updB_same]; omega
    ·rw [if_neg hec, updB_other _ (by omega), L1.AtoK y1 he, hb1 e he]; simp
  have last : ∀ (z7 z8 z9 : Int) (m10 : Mem), (∃ (G : Nat → Option Nat) (B : Int → Nat) (c : Nat), InvFL m .u8 .i32 T (u + 2) tm bt ot ba oa bk ok f (u + 2) G B c z8 m10) → K (.tuple #[]) m10 := by
   rintro z7 z8 z9 m10 ⟨G, B, c, J⟩
   exact hK m10 J.hs J.ho J.L ⟨G, B, J.li, J.rel⟩
  repeat ((with_reducible refine And.intro ?_ ?_); · first | omega | with_reducible assumption | exact hk1 | exact hk2 | exact hk3 | exact hk4 | exact hk5 | exact hk6 | exact hr1 | exact hr2)
  intro z3 hz3
  obtain rfl : z3 = T u := hz3.symm.trans (L1.tx.v u (by omega))
  repeat ((with_reducible refine And.intro ?_ ?_); · first | omega | with_reducible assumption | exact hk1 | exact hk2 | exact hk3 | exact hk4 | exact hk5 | exact hk6 | exact hr1 | exact hr2)
  intro z4 hz4
  obtain rfl : z4 = (cv : Int) := hz4.symm.trans ((L1.tx.v (u + 1) (by omega)).trans hcv)
  rw [Int.toNat_natCast]
  refine cond_of (fun hb3 => ?_) (fun hb3 => ?_)
  ·have hlt : T u < (cv : Int) := of_decide_eq_true hb3
   have hv : (0 - ((u + 1 : Nat) : Int)) = (if 0 < u + 1 ∧ T u < (cv : Int) then 0 - ((u + 1 : Nat) : Int) else ((u + 1 : Nat) : Int)) := by rw [if_pos ⟨by omega, hlt⟩]
   repeat ((with_reducible refine And.intro ?_ ?_); · first | omega | with_reducible assumption | exact hk1 | exact hk2 | exact hk3 | exact hk4 | exact hk5 | exact hk6 | exact hr1 | exact hr2)
   intro z5 hz5
   obtain rfl : z5 = (y : Int) := hz5.symm.trans hyv
   rw [Int.toNat_natCast]
   repeat ((with_reducible refine And.intro ?_ ?_); · first | omega | with_reducible assumption | exact hk1 | exact hk2 | exact hk3 | exact hk4 | exact hk5 | exact hk6 | exact hr1 | exact hr2)
   intro m6 hm6
   subst hm6
   repeat ((with_reducible refine And.intro ?_ ?_); · first | omega | with_reducible assumption | exact hk1 | exact hk2 | exact hk3 | exact hk4 | exact hk5 | exact hk6 | exact hr1 | exact hr2)
   exact And.intro (And.intro ⟨rfl, rfl, rfl, rfl, rfl, rfl, rfl, rfl, htm⟩ ⟨0, _, _, cv, rfl, rfl, fin _ hv⟩) (fun z7 z8 z9 m10 hX _ => last z7 z8 z9 m10 hX)
  ·have hlt : ¬ T u < (cv : Int) := of_decide_eq_false hb3
   have hv : ((u + 1 : Nat) : Int) = (if 0 < u + 1 ∧ T u < (cv : Int) then 0 - ((u + 1 : Nat) : Int) else ((u + 1 : Nat) : Int)) := by rw [if_neg fun h => hlt h.2]
   repeat ((with_reducible refine And.intro ?_ ?_); · first | omega | with_reducible assumption | exact hk1 | exact hk2 | exact hk3 | exact hk4 | exact hk5 | exact hk6 | exact hr1 | exact hr2)
   intro z5 hz5
   obtain rfl : z5 = (y : Int) := hz5.symm.trans hyv
   rw [Int.toNat_natCast]
   repeat ((with_reducible refine And.intro ?_ ?_); · first | omega | with_reducible assumption | exact hk1 | exact hk2 | exact hk3 | exact hk4 | exact hk5 | exact hk6 | exact hr1 | exact hr2)
   intro m6 hm6
   subst hm6
   repeat ((with_reducible refine And.intro ?_ ?_); · first | omega | with_reducible assumption | exact hk1 | exact hk2 | exact hk3 | exact hk4 | exact hk5 | exact hk6 | exact hr1 | exact hr2)
   exact And.intro (And.intro ⟨rfl, rfl, rfl, rfl, rfl, rfl, rfl, rfl, htm⟩ ⟨0, _, _, cv, rfl, rfl, fin _ hv⟩) (fun z7 z8 z9 m10 hX _ => last z7 z8 z9 m10 hX)
theorem indL_112 {w0 : World} {m : Mem} {T : Nat → Int} {n tm bt ot ct ba oa ca bk ok ck : Nat} {f : Value} {K : Value → Mem → Prop} (L : Lv m .i32 .i32 T n tm bt ot ba oa bk ok f) (htm : True)
  (hck : tm ≤ ck) (hn2 : 2 ≤ n) (hsd : SeedsF T n (fun x => m.val ba (oa + x)))
  (hK : ∀ m', SameK m m' → Out m m' (WL f bk ok tm ba oa n) → Lv m' .i32 .i32 T n tm bt ot ba oa bk ok f → MidF T n (fun x => m'.val ba (oa + x)) → K (.tuple #[]) m') :
  callV Tryz.prog w0 112 [.slice (some ⟨bt, ot, none⟩) n ct, .slice (some ⟨ba, oa, none⟩) n ca, f, .slice (some ⟨bk, ok, none⟩) tm ck] m K := by
 have hn := L.hn
 let I : LI := fun ps ls m' => match ps, ls with
   | [.sl b o l c, .sl b' o' l' c', .sl b2 o2 l2 c2], [.iv _ cB, .iv _ bb, .iv _ i] => (bt = b ∧ ot = o ∧ n = l ∧ ba = b' ∧ oa = o' ∧ n = l' ∧ bk = b2 ∧ ok = o2 ∧ tm = l2) ∧
     ∃ (x : Nat) (G : Nat → Option Nat) (B : Int → Nat) (c : Nat), i = x ∧ cB = c ∧ InvFL m .i32 .i32 T n tm bt ot ba oa bk ok f x G B c bb m'
   | _, _ => False
 let mu : LM := fun _ ls => match ls with | [_, _, .iv _ i] => (n - i).toNat | _ => 0
 refine C_F112 (I0 := I)
  (X0 := fun _ ps ls m' => match ps, ls with
   | _, [.iv _ cB, .iv _ bb, .iv _ i] => ∃ (G : Nat → Option Nat) (B : Int → Nat) (c : Nat), InvFL m .i32 .i32 T n tm bt ot ba oa bk ok f n G B c bb m'
   | _, _ => False) (mu0 := mu) ?_ ?_
 ·intro bt' ot' lt' ct' ba' oa' la' ca' bk' ok' lk' ck' cB b i k m' hI hmu
  obtain ⟨⟨rfl, rfl, rfl, rfl, rfl, rfl, rfl, rfl, rfl⟩, x, G, B, c, rfl, rfl, hJ⟩ := (show (_ ∧ _ ∧ _ ∧ _ ∧ _ ∧ _ ∧ _ ∧ _ ∧ _) ∧ ∃ (x : Nat) (G : Nat → Option Nat) (B : Int → Nat) (c : Nat), _ ∧ _ ∧ InvFL _ _ _ _ _ _ _ _ _ _ _ _ _ _ _ _ _ _ _ from hI)
  clear hI
  obtain ⟨L', hs, ho, hxn, li, rel, hc, hB⟩ := hJ
  have hmu' : ((n : Int) - x).toNat < k + 1 := hmu
  have leaf : ∀ {G' : Nat → Option Nat} {B' : Int → Nat} {c' : Nat} {b' : Int} {m2 : Mem}, x < n → InvFL m .i32 .i32 T n tm bt ot ba oa bk ok f (x + 1) G' B' c' b' m2 →
    KF1 L0_F112 I mu (P0_F112 bt ot n ct' ba oa n ca' bk ok tm ck') k [.int .i32 c', .int .i32 b', .int .i64 ((x : Int) + 1)] m2 := fun hx h =>
   KF1_mk (And.intro (And.intro ⟨rfl, rfl, rfl, rfl, rfl, rfl, rfl, rfl, rfl⟩ ⟨x + 1, _, _, _, by omega, rfl, h⟩) (show ((n : Int) - ((x : Int) + 1)).toNat < k from by omega))
  clear_value I mu
  unfold R0_F112
  refine cond_of (fun hb => ?_) (fun hb => ?_)
  ·have hx : x < n := by have := of_decide_eq_true hb; omega
   rw [Int.toNat_natCast]
   have hk1 := L'.sa x hx
   have hr1 := L'.sro
   have hi64 : inR .i64 ((x : Int) + 1) := inR_i64 (by omega) (by omega)
   refine ⟨by omega, by omega, hk1, fun z hz => ?_⟩
   have hzb : -(n : Int) < z ∧ z < n := by
    rw [← hz]; exact RelF.lo (A := fun p => m'.val ba (oa + p)) li.toLCore rel hx
   have hz1 : inR .i64 z := inR_i64 (by omega) (by omega)
   have hz4 : inR .i64 (z - 1) := inR_i64 (by omega) (by omega)
   have hz5 : inR .i64 (z - 1 - 1) := inR_i64 (by omega) (by omega)
   repeat ((with_reducible refine And.intro ?_ ?_); · first | omega | with_reducible assumption | exact hk1 | exact hr1)
   refine cond_of (fun hb1 => ?_) (fun hb1 => ?_)
   ·have h0 : m'.val ba (oa + x) ≤ 0 := by rw [hz]; exact of_decide_eq_true hb1
    exact ⟨hi64, leaf hx ⟨L', hs, ho, hx, fullL_skip li rel hx h0, rel, hc, hB⟩⟩
   ·have hge : ¬ z ≤ 0 := of_decide_eq_false hb1
    have h0 : 0 < m'.val ba (oa + x) := by rw [hz]; omega
    obtain ⟨q, e, q3, q2, q5, li', rel'⟩ := fullL_pos li rel hx h0
    have e' : m'.val ba (oa + x) = ((q + 1 : Nat) : Int) := e
    obtain rfl : z = ((q + 1 : Nat) : Int) := hz.symm.trans e'
    have ez1 : ((q + 1 : Nat) : Int) - 1 = (q : Int) := by omega
    rw [ez1] at hz4 hz5 ⊢
    rw [Int.toNat_natCast]
    have hk3 := L'.tx.rd q q3
    repeat ((with_reducible refine And.intro ?_ ?_); · first | omega | with_reducible assumption | exact hk1 | exact hk3 | exact hr1)
    intro zv hzv
    obtain ⟨cv, hcv, hct⟩ := L'.letter q3
    obtain rfl : zv = (cv : Int) := hzv.symm.trans ((L'.tx.v q q3).trans hcv)
    rw [hcv] at q5 li' rel'
    have hBc : ∃ y, B cv = y ∧ y < n := ⟨_, rfl, q5⟩
    obtain ⟨y, hy, hyn⟩ := hBc
    rw [hy] at li' rel'
    have hk4 := L'.kr c hc
    have hr2 := L'.kro
    have hk5 := L'.kr cv hct
    have hk6 := L'.sa y hyn
    have hz6 : inR .i64 (0 - (q : Int)) := inR_i64 (by omega) (by omega)
    have hz7 : inR .i32 (0 - (q : Int)) := inR_i32 (by omega) (by omega)
    have hz8 : inR .i32 (q : Int) := inR_i32 (by omega) (by omega)
    have hz9 : inR .i32 ((y : Int) + 1) := inR_i32 (by omega) (by omega)
    have fin1 : ∀ (v : Int), v = (if 0 < q ∧ T (q - 1) < (cv : Int) then 0 - (q : Int) else (q : Int)) → ∀ (b : Int), Bk m' bk ok tm B c b → c ≠ cv →
      InvFL m .i32 .i32 T n tm bt ot ba oa bk ok f (x + 1) (updG G y q) (updB B cv (y + 1)) cv ((y : Int) + 1) (((m'.st bk (ok + c) b).st ba (oa + y) v)) := by
     intro v hv b hBb hne
     refine ⟨(L'.stK hc _).stA hyn _, (hs.trans (SameK.st _ _ _ _)).trans (SameK.st _ _ _ _), (ho.st (.inr (.inl (InRow.mk hc))) _).st (.inr (.inr (InRow.mk hyn))) _, hx, li', rel'.congr fun p hp => ?_, hct, ?_⟩
     ·rw [st_val, L'.KtoA hp hc, hv]
     ·have := hBb.swap (c := cv) hc (y + 1) (m' := (m'.st bk (ok + c) b).st ba (oa + y) v) (fun e he => by
       rw [(L'.stK hc _).AtoK hyn he, st_val])
      rw [show ((y : Int) + 1) = ((y + 1 : Nat) : Int) by omega]; exact this
    have fin2 : ∀ (v : Int), v = (if 0 < q ∧ T (q - 1) < (cv : Int) then 0 - (q : Int) else (q : Int)) → ∀ (b : Int), Bk m' bk ok tm B cv b →
      InvFL m .i32 .i32 T n tm bt ot ba oa bk ok f (x + 1) (updG G y q) (updB B cv (y + 1)) cv ((y : Int) + 1) (m'.st ba (oa + y) v) := by
     intro v hv b hBb
     refine ⟨L'.stA hyn _, hs.trans (SameK.st _ _ _ _), ho.st (.inr (.inr (InRow.mk hyn))) _, hx, li', rel'.congr fun p hp => ?_, hct, ?_⟩
     ·rw [st_val, hv]
     ·have := hBb.keep (y + 1) (m' := m'.st ba (oa + y) v) (fun e he => by
       rw [L'.AtoK hyn he])
      rw [show ((y : Int) + 1) = ((y + 1 : Nat) : Int) by omega]; exact this
    refine cond_of (fun hb2 => ?_) (fun hb2 => ?_)
    ·have hq0 : (q : Int) > 0 := of_decide_eq_true hb2
     obtain ⟨u, rfl⟩ : ∃ u, q = u + 1 := ⟨q - 1, by omega⟩
     have ez2 : ((u + 1 : Nat) : Int) - 1 = (u : Int) := by omega
     rw [ez2] at hz5 ⊢
     rw [Int.toNat_natCast]
     have hk2 := L'.tx.rd u (by omega)
     repeat ((with_reducible refine And.intro ?_ ?_); · first | omega | with_reducible assumption | exact hk1 | exact hk2 | exact hk3 | exact hk4 | exact hk5 | exact hk6 | exact hr1 | exact hr2)
     intro zu hzu
     obtain rfl : zu = T u := hzu.symm.trans (L'.tx.v u (by omega))
     refine cond_of (fun hb3 => ?_) (fun hb3 => ?_)
     ·have hlt : T u < (cv : Int) := of_decide_eq_true hb3
      have hv : (0 - ((u + 1 : Nat) : Int)) = (if 0 < u + 1 ∧ T (u + 1 - 1) < (cv : Int) then 0 - ((u + 1 : Nat) : Int) else ((u + 1 : Nat) : Int)) := by rw [if_pos ⟨by omega, hlt⟩]
      repeat ((with_reducible refine And.intro ?_ ?_); · first | omega | with_reducible assumption | exact hk1 | exact hk2 | exact hk3 | exact hk4 | exact hk5 | exact hk6 | exact hr1 | exact hr2)
      refine cond_of (fun hb4 => ?_) (fun hb4 => ?_)
      ·have hne : c ≠ cv := fun e => by rw [e] at hb4; simp at hb4
       repeat ((with_reducible refine And.intro ?_ ?_); · first | omega | with_reducible assumption | exact hk1 | exact hk2 | exact hk3 | exact hk4 | exact hk5 | exact hk6 | exact hr1 | exact hr2)
       intro m2 hm2
       subst hm2
       repeat ((with_reducible refine And.intro ?_ ?_); · first | omega | with_reducible assumption | exact hk1 | exact hk2 | exact hk3 | exact hk4 | exact hk5 | exact hk6 | exact hr1 | exact hr2)
       intro zy hzy
       obtain rfl : zy = (y : Int) := by
        rw [← hzy, Int.toNat_natCast, Int.toNat_natCast, st_val, if_neg (Ne.symm hne), ← hy]
        have := hB cv hct
        rw [if_neg (Ne.symm hne)] at this; exact this
       rw [Int.toNat_natCast] at *
       repeat ((with_reducible refine And.intro ?_ ?_); · first | omega | with_reducible assumption | exact hk1 | exact hk2 | exact hk3 | exact hk4 | exact hk5 | exact hk6 | exact hr1 | exact hr2)
       intro m3 hm3
       subst hm3
       repeat ((with_reducible refine And.intro ?_ ?_); · first | omega | with_reducible assumption | exact hk1 | exact hk2 | exact hk3 | exact hk4 | exact hk5 | exact hk6 | exact hr1 | exact hr2)
       exact leaf hx (fin1 _ hv b hB hne)
      ·have he : c = cv := by have := (bne_eq_false_iff_eq.1 hb4); omega
       subst he
       obtain rfl : b = (y : Int) := by rw [hB.hand hct, hy]
       rw [Int.toNat_natCast]
       repeat ((with_reducible refine And.intro ?_ ?_); · first | omega | with_reducible assumption | exact hk1 | exact hk2 | exact hk3 | exact hk4 | exact hk5 | exact hk6 | exact hr1 | exact hr2)
       intro m3 hm3
       subst hm3
       repeat ((with_reducible refine And.intro ?_ ?_); · first | omega | with_reducible assumption | exact hk1 | exact hk2 | exact hk3 | exact hk4 | exact hk5 | exact hk6 | exact hr1 | exact hr2)
       exact leaf hx (fin2 _ hv _ hB)
     ·have hlt : ¬ T u < (cv : Int) := of_decide_eq_false hb3
      have hv : ((u + 1 : Nat) : Int) = (if 0 < u + 1 ∧ T (u + 1 - 1) < (cv : Int) then 0 - ((u + 1 : Nat) : Int) else ((u + 1 : Nat) : Int)) := by rw [if_neg (fun h => hlt h.2)]
      refine cond_of (fun hb4 => ?_) (fun hb4 => ?_)
      ·have hne : c ≠ cv := fun e => by rw [e] at hb4; simp at hb4
       repeat ((with_reducible refine And.intro ?_ ?_); · first | omega | with_reducible assumption | exact hk1 | exact hk2 | exact hk3 | exact hk4 | exact hk5 | exact hk6 | exact hr1 | exact hr2)
       intro m2 hm2
       subst hm2
       repeat ((with_reducible refine And.intro ?_ ?_); · first | omega | with_reducible assumption | exact hk1 | exact hk2 | exact hk3 | exact hk4 | exact hk5 | exact hk6 | exact hr1 | exact hr2)
       intro zy hzy
       obtain rfl : zy = (y : Int) := by
        rw [← hzy, Int.toNat_natCast, Int.toNat_natCast, st_val, if_neg (Ne.symm hne), ← hy]
        have := hB cv hct
        rw [if_neg (Ne.symm hne)] at this; exact this
       rw [Int.toNat_natCast] at *
       repeat ((with_reducible refine And.intro ?_ ?_); · first | omega | with_reducible assumption | exact hk1 | exact hk2 | exact hk3 | exact hk4 | exact hk5 | exact hk6 | exact hr1 | exact hr2)
       intro m3 hm3
       subst hm3
       repeat ((with_reducible refine And.intro ?_ ?_); · first | omega | with_reducible assumption | exact hk1 | exact hk2 | exact hk3 | exact hk4 | exact hk5 | exact hk6 | exact hr1 | exact hr2)
       exact leaf hx (fin1 _ hv b hB hne)
      ·have he : c = cv := by have := (bne_eq_false_iff_eq.1 hb4); omega
       subst he
       obtain rfl : b = (y : Int) := by rw [hB.hand hct, hy]
       rw [Int.toNat_natCast]
       repeat ((with_reducible refine And.intro ?_ ?_); · first | omega | with_reducible assumption | exact hk1 | exact hk2 | exact hk3 | exact hk4 | exact hk5 | exact hk6 | exact hr1 | exact hr2)
       intro m3 hm3
       subst hm3
       repeat ((with_reducible refine And.intro ?_ ?_); · first | omega | with_reducible assumption | exact hk1 | exact hk2 | exact hk3 | exact hk4 | exact hk5 | exact hk6 | exact hr1 | exact hr2)
       exact leaf hx (fin2 _ hv _ hB)
    ·have hq0 : ¬ (q : Int) > 0 := of_decide_eq_false hb2
     have hv : (q : Int) = (if 0 < q ∧ T (q - 1) < (cv : Int) then 0 - (q : Int) else (q : Int)) := by rw [if_neg (fun h => by omega)]
     refine cond_of (fun hb4 => ?_) (fun hb4 => ?_)
     ·have hne : c ≠ cv := fun e => by rw [e] at hb4; simp at hb4
      repeat ((with_reducible refine And.intro ?_ ?_); · first | omega | with_reducible assumption | exact hk1 | exact hk2 | exact hk3 | exact hk4 | exact hk5 | exact hk6 | exact hr1 | exact hr2)
      intro m2 hm2
      subst hm2
      repeat ((with_reducible refine And.intro ?_ ?_); · first | omega | with_reducible assumption | exact hk1 | exact hk2 | exact hk3 | exact hk4 | exact hk5 | exact hk6 | exact hr1 | exact hr2)
      intro zy hzy
      obtain rfl : zy = (y : Int) := by
       rw [← hzy, Int.toNat_natCast, Int.toNat_natCast, st_val, if_neg (Ne.symm hne), ← hy]
       have := hB cv hct
       rw [if_neg (Ne.symm hne)] at this; exact this
      rw [Int.toNat_natCast] at *
      repeat ((with_reducible refine And.intro ?_ ?_); · first | omega | with_reducible assumption | exact hk1 | exact hk2 | exact hk3 | exact hk4 | exact hk5 | exact hk6 | exact hr1 | exact hr2)
      intro m3 hm3
      subst hm3
      repeat ((with_reducible refine And.intro ?_ ?_); · first | omega | with_reducible assumption | exact hk1 | exact hk2 | exact hk3 | exact hk4 | exact hk5 | exact hk6 | exact hr1 | exact hr2)
      exact leaf hx (fin1 _ hv b hB hne)
     ·have he : c = cv := by have := (bne_eq_false_iff_eq.1 hb4); omega
      subst he
      obtain rfl : b = (y : Int) := by rw [hB.hand hct, hy]
      rw [Int.toNat_natCast]
      repeat ((with_reducible refine And.intro ?_ ?_); · first | omega | with_reducible assumption | exact hk1 | exact hk2 | exact hk3 | exact hk4 | exact hk5 | exact hk6 | exact hr1 | exact hr2)
      intro m3 hm3
      subst hm3
      repeat ((with_reducible refine And.intro ?_ ?_); · first | omega | with_reducible assumption | exact hk1 | exact hk2 | exact hk3 | exact hk4 | exact hk5 | exact hk6 | exact hr1 | exact hr2)
      exact leaf hx (fin2 _ hv _ hB)
  ·have hx : ¬ x < n := by have := of_decide_eq_false hb; omega
   obtain rfl : x = n := by omega
   exact XF1_mk (show ∃ (G : Nat → Option Nat) (B : Int → Nat) (c : Nat), InvFL _ _ _ _ _ _ _ _ _ _ _ _ _ _ _ _ _ _ _ from ⟨G, B, c, L', hs, ho, hxn, li, rel, hc, hB⟩)
 ·unfold M_F112
  refine bmin_125 L.hn htm L.t2 L.t1 hck L.tx L.kr L.kro L.akt L.fr fun m1 hs1 ho1 hb1 hd1 => ?_
  have ho1' : Out m m1 (WL f bk ok tm ba oa n) := ho1.mono fun x y h => h.elim .inl (fun h => .inr (.inl h))
  have L1 := L.keep hs1 ho1' (L.fr.done hs1 hd1)
  obtain ⟨y1, G, li, rel⟩ := fullL_start (by omega) hsd (B := fun c => bs T n c) (fun _ _ => rfl)
  have hr0 : ∀ x, x < n → m1.val ba (oa + x) = m.val ba (oa + x) := fun x hx => ho1 _ _ (fun h => h.elim (fun h => (L.fr.not_in h).2.1 (InRow.mk hx)) (fun h => L.aka.not_row h (InRow.mk hx)))
  obtain ⟨u, rfl⟩ : ∃ u, n = u + 2 := ⟨n - 2, by omega⟩
  have en1 : (((u + 2 : Nat) : Int) - 1) = ((u + 1 : Nat) : Int) := by omega
  have en2 : (((u + 1 : Nat) : Int) - 1) = (u : Int) := by omega
  rw [show u + 2 - 1 = u + 1 by omega] at y1 li rel
  rw [Nat.add_sub_cancel] at rel
  rw [en1, en2, Int.toNat_natCast, Int.toNat_natCast]
  have hk1 := L1.tx.rd u (by omega)
  have hk2 := L1.tx.rd (u + 1) (by omega)
  have hi1 : inR .i64 ((u + 1 : Nat) : Int) := inR_i64 (by omega) (by omega)
  have hi2 : inR .i64 (u : Int) := inR_i64 (by omega) (by omega)
  have hi3 : inR .i64 (0 - ((u + 1 : Nat) : Int)) := inR_i64 (by omega) (by omega)
  have hi4 : inR .i32 (0 - ((u + 1 : Nat) : Int)) := inR_i32 (by omega) (by omega)
  have hi5 : inR .i32 ((u + 1 : Nat) : Int) := inR_i32 (by omega) (by omega)
  obtain ⟨cv, hcv, hct⟩ := L1.letter (i := u + 1) (by omega)
  rw [hcv] at y1 li rel
  obtain ⟨y, hy⟩ : ∃ y, bs T (u + 2) (cv : Int) = y := ⟨_, rfl⟩
  rw [hy] at y1 li rel
  have hi6 : inR .i32 ((y : Int) + 1) := inR_i32 (by omega) (by omega)
  have hk3 := L1.kr cv hct
  have hk4 := L1.sa y y1
  have hr1 := L1.sro
  have hyv : m1.val bk (ok + cv) = (y : Int) := by rw [hb1 cv hct, ← hy]; simp
  have fin : ∀ (v : Int), v = (if 0 < u + 1 ∧ T u < (cv : Int) then 0 - ((u + 1 : Nat) : Int) else ((u + 1 : Nat) : Int)) →
    InvFL m .i32 .i32 T (u + 2) tm bt ot ba oa bk ok f 0 G (updB (fun c => bs T (u + 2) c) cv (y + 1)) cv ((y : Int) + 1) (m1.st ba (oa + y) v) := by
   intro v hv
   refine ⟨L1.stA y1 _, hs1.trans (SameK.st _ _ _ _), ho1'.st (.inr (.inr (InRow.mk y1))) _, Nat.zero_le _, li, rel.congr fun p hp => ?_, hct, fun e he => ?_⟩
   ·rw [st_val, hv, hr0 p hp]
   ·by_cases hec : e = cv
    ·subst hec; rw [if_pos rfl, updB_same]; omega
    ·rw [if_neg hec, updB_other _ (by omega), L1.AtoK y1 he, hb1 e he]; simp
  have last : ∀ (z7 z8 z9 : Int) (m10 : Mem), (∃ (G : Nat → Option Nat) (B : Int → Nat) (c : Nat), InvFL m .i32 .i32 T (u + 2) tm bt ot ba oa bk ok f (u + 2) G B c z8 m10) → K (.tuple #[]) m10 := by
   rintro z7 z8 z9 m10 ⟨G, B, c, J⟩
   exact hK m10 J.hs J.ho J.L ⟨G, B, J.li, J.rel⟩
  repeat ((with_reducible refine And.intro ?_ ?_); · first | omega | with_reducible assumption | exact hk1 | exact hk2 | exact hk3 | exact hk4 | exact hk5 | exact hk6 | exact hr1 | exact hr2)
  intro z3 hz3
  obtain rfl : z3 = T u := hz3.symm.trans (L1.tx.v u (by omega))
  repeat ((with_reducible refine And.intro ?_ ?_); · first | omega | with_reducible assumption | exact hk1 | exact hk2 | exact hk3 | exact hk4 | exact hk5 | exact hk6 | exact hr1 | exact hr2)
  intro z4 hz4
  obtain rfl : z4 = (cv : Int) := hz4.symm.trans ((L1.tx.v (u + 1) (by omega)).trans hcv)
  rw [Int.toNat_natCast]
  refine cond_of (fun hb3 => ?_) (fun hb3 => ?_)
  ·have hlt : T u < (cv : Int) := of_decide_eq_true hb3
   have hv : (0 - ((u + 1 : Nat) : Int)) = (if 0 < u + 1 ∧ T u < (cv : Int) then 0 - ((u + 1 : Nat) : Int) else ((u + 1 : Nat) : Int)) := by rw [if_pos ⟨by omega, hlt⟩]
   repeat ((with_reducible refine And.intro ?_ ?_); · first | omega | with_reducible assumption | exact hk1 | exact hk2 | exact hk3 | exact hk4 | exact hk5 | exact hk6 | exact hr1 | exact hr2)
   intro z5 hz5
   obtain rfl : z5 = (y : Int) := hz5.symm.trans hyv
   rw [Int.toNat_natCast]
   repeat ((with_reducible refine And.intro ?_ ?_); · first | omega | with_reducible assumption | exact hk1 | exact hk2 | exact hk3 | exact hk4 | exact hk5 | exact hk6 | exact hr1 | exact hr2)
   intro m6 hm6
   subst hm6
   repeat ((with_reducible refine And.intro ?_ ?_); · first | omega | with_reducible assumption | exact hk1 | exact hk2 | exact hk3 | exact hk4 | exact hk5 | exact hk6 | exact hr1 | exact hr2)
   exact And.intro (And.intro ⟨rfl, rfl, rfl, rfl, rfl, rfl, rfl, rfl, rfl⟩ ⟨0, _, _, cv, rfl, rfl, fin _ hv⟩) (fun z7 z8 z9 m10 hX _ => last z7 z8 z9 m10 hX)
  ·have hlt : ¬ T u < (cv : Int) := of_decide_eq_false hb3
   have hv : ((u + 1 : Nat) : Int) = (if 0 < u + 1 ∧ T u < (cv : Int) then 0 - ((u + 1 : Nat) : Int) else ((u + 1 : Nat) : Int)) := by rw [if_neg fun h => hlt h.2]
   repeat ((with_reducible refine And.intro ?_ ?_); · first | omega | with_reducible assumption | exact hk1 | exact hk2 | exact hk3 | exact hk4 | exact hk5 | exact hk6 | exact hr1 | exact hr2)
   intro z5 hz5
   obtain rfl : z5 = (y : Int) := hz5.symm.trans hyv
   rw [Int.toNat_natCast]
   repeat ((with_reducible refine And.intro ?_ ?_); · first | omega | with_reducible assumption | exact hk1 | exact hk2 | exact hk3 | exact hk4 | exact hk5 | exact hk6 | exact hr1 | exact hr2)
   intro m6 hm6
   subst hm6
   repeat ((with_reducible refine And.intro ?_ ?_); · first | omega | with_reducible assumption | exact hk1 | exact hk2 | exact hk3 | exact hk4 | exact hk5 | exact hk6 | exact hr1 | exact hr2)
   exact And.intro (And.intro ⟨rfl, rfl, rfl, rfl, rfl, rfl, rfl, rfl, rfl⟩ ⟨0, _, _, cv, rfl, rfl, fin _ hv⟩) (fun z7 z8 z9 m10 hX _ => last z7 z8 z9 m10 hX)
end Go.Proofs.YtdhifgedhaapjaaGreatDoor
namespace Go.Proofs.YtdhifgedhaapjaaGreatDoor
open Go Sa
theorem indS_80 {w0 : World} {m : Mem} {T : Nat → Int} {n tm bt ot ct ba oa ca bk ok ck : Nat} {f : Value} {K : Value → Mem → Prop} (L : Lv m .u8 .i32 T n tm bt ot ba oa bk ok f) (htm : tm = 256)
  (hck : tm ≤ ck) (hmid : MidF T n (fun x => m.val ba (oa + x)))
  (hK : ∀ m', SameK m m' → Out m m' (WL f bk ok tm ba oa n) → Lv m' .u8 .i32 T n tm bt ot ba oa bk ok f → SA T n (fun x => m'.val ba (oa + x)) → K (.tuple #[]) m') :
  callV Tryz.prog w0 80 [.slice (some ⟨bt, ot, none⟩) n ct, .slice (some ⟨ba, oa, none⟩) n ca, f, .slice (some ⟨bk, ok, none⟩) tm ck] m K := by
 have hn := L.hn
 let I : LI := fun ps ls m' => match ps, ls with
   | [.sl b o l c, .sl b' o' l' c', .sl b2 o2 l2 c2], [.iv _ cB, .iv _ bb, .iv _ i] => (bt = b ∧ ot = o ∧ n = l ∧ ba = b' ∧ oa = o' ∧ n = l' ∧ bk = b2 ∧ ok = o2 ∧ tm = l2) ∧
     ∃ (x : Nat) (G : Nat → Option Nat) (B : Int → Nat) (c : Nat), i = (x : Int) - 1 ∧ cB = c ∧ InvFS m .u8 .i32 T n tm bt ot ba oa bk ok f x G B c bb m'
   | _, _ => False
 let mu : LM := fun _ ls => match ls with | [_, _, .iv _ i] => (i + 1).toNat | _ => 0
 refine C_F80 (I0 := I)
  (X0 := fun _ ps ls m' => match ps, ls with
   | _, [.iv _ cB, .iv _ bb, .iv _ i] => ∃ (G : Nat → Option Nat) (B : Int → Nat) (c : Nat), InvFS m .u8 .i32 T n tm bt ot ba oa bk ok f 0 G B c bb m'
   | _, _ => False) (mu0 := mu) ?_ ?_
 ·intro bt' ot' lt' ct' ba' oa' la' ca' bk' ok' lk' ck' cB b i k m' hI hmu
  obtain ⟨⟨rfl, rfl, rfl, rfl, rfl, rfl, rfl, rfl, rfl⟩, x0, G, B, c, rfl, rfl, hJ⟩ := (show (_ ∧ _ ∧ _ ∧ _ ∧ _ ∧ _ ∧ _ ∧ _ ∧ _) ∧ ∃ (x : Nat) (G : Nat → Option Nat) (B : Int → Nat) (c : Nat), _ ∧ _ ∧ InvFS _ _ _ _ _ _ _ _ _ _ _ _ _ _ _ _ _ _ _ from hI)
  clear hI
  obtain ⟨L', hs, ho, hxn, li, rel, hc, hB⟩ := hJ
  have hmu' : ((x0 : Int) - 1 + 1).toNat < k + 1 := hmu
  have leaf : ∀ {x : Nat} {G' : Nat → Option Nat} {B' : Int → Nat} {c' : Nat} {b' : Int} {m2 : Mem}, x0 = x + 1 → InvFS m .u8 .i32 T n tm bt ot ba oa bk ok f x G' B' c' b' m2 →
    KF1 L0_F80 I mu (P0_F80 bt ot n ct' ba oa n ca' bk ok tm ck') k [.int .u8 c', .int .i32 b', .int .i64 ((x : Int) - 1)] m2 := fun {x _ _ _ _ _} hx h =>
   KF1_mk (And.intro (And.intro ⟨rfl, rfl, rfl, rfl, rfl, rfl, rfl, rfl, rfl⟩ ⟨x, _, _, _, rfl, rfl, h⟩) (show ((x : Int) - 1 + 1).toNat < k from by omega))
  clear_value I mu
  unfold R0_F80
  refine cond_of (fun hb => ?_) (fun hb => ?_)
  ·have hge : (x0 : Int) - 1 ≥ 0 := of_decide_eq_true hb
   obtain ⟨x, rfl⟩ : ∃ x, x0 = x + 1 := ⟨x0 - 1, by omega⟩
   have ex : ((x + 1 : Nat) : Int) - 1 = (x : Int) := by omega
   rw [ex, Int.toNat_natCast]
   have hx : x < n := by omega
   have hk1 := L'.sa x hx
   have hr1 := L'.sro
   have hi64 : inR .i64 ((x : Int) - 1) := inR_i64 (by omega) (by omega)
   refine ⟨by omega, by omega, hk1, fun z hz => ?_⟩
   have hzb : -(n : Int) < z ∧ z < n := by
    rw [← hz]; exact RelFS.lo (A := fun p => m'.val ba (oa + p)) li.toSCore rel hx
   have hz1 : inR .i64 z := inR_i64 (by omega) (by omega)
   repeat ((with_reducible refine And.intro ?_ ?_); · first | omega | with_reducible assumption | exact hk1 | exact hr1)
   refine cond_of (fun hb1 => ?_) (fun hb1 => ?_)
   ·have h0 : 0 ≤ m'.val ba (oa + x) := by rw [hz]; exact of_decide_eq_true hb1
    obtain ⟨li', rel'⟩ := fullS_skip li rel hx h0
    exact ⟨hi64, leaf rfl ⟨L', hs, ho, by omega, li', rel', hc, hB⟩⟩
   ·have hge : ¬ z ≥ 0 := of_decide_eq_false hb1
    have h0 : m'.val ba (oa + x) < 0 := by rw [hz]; omega
    obtain ⟨q, e, q3, q4, q5, li', rel'⟩ := fullS_neg li rel hx h0
    have e0 : 0 - m'.val ba (oa + x) = ((q + 1 : Nat) : Int) := e
    replace e : 0 - z = ((q + 1 : Nat) : Int) := by rw [← hz]; exact e0
    have hz2 : inR .i64 (0 - z) := inR_i64 (by omega) (by omega)
    have hz3 : inR .i32 (0 - z) := inR_i32 (by omega) (by omega)
    rw [e] at hz2 hz3 ⊢
    have L1 := L'.stA hx ((q + 1 : Nat) : Int)
    have ez1 : ((q + 1 : Nat) : Int) - 1 = (q : Int) := by omega
    have hz4 : inR .i64 ((q : Int)) := inR_i64 (by omega) (by omega)
    have hz5 : inR .i64 ((q : Int) - 1) := inR_i64 (by omega) (by omega)
    rw [ez1, Int.toNat_natCast]
    have hk3 := L1.tx.rd q (by omega)
    repeat ((with_reducible refine And.intro ?_ ?_); · first | omega | with_reducible assumption | exact hk1 | exact hk3 | exact hr1)
    intro m1 hm1
    subst hm1
    repeat ((with_reducible refine And.intro ?_ ?_); · first | omega | with_reducible assumption | exact hk1 | exact hk3 | exact hr1)
    intro zv hzv
    obtain ⟨cv, hcv, hct⟩ := L'.letter (i := q) (by omega)
    obtain rfl : zv = (cv : Int) := hzv.symm.trans ((L1.tx.v q (by omega)).trans hcv)
    rw [hcv] at q4 q5 li' rel'
    obtain ⟨y, hy⟩ : ∃ y, B cv = y + 1 := ⟨B cv - 1, by omega⟩
    rw [hy] at q4 li' rel'
    rw [Nat.add_sub_cancel] at li' rel'
    have hyn : y < n := by omega
    have hk4 := L'.kr c hc
    have hr2 := L'.kro
    have hk5 := L'.kr cv hct
    have hk6 := L'.sa y hyn
    have hz6 : inR .i64 (0 - (q : Int)) := inR_i64 (by omega) (by omega)
    have hz7 : inR .i32 (0 - (q : Int)) := inR_i32 (by omega) (by omega)
    have hz8 : inR .i32 (q : Int) := inR_i32 (by omega) (by omega)
    have hz9 : inR .i32 (y : Int) := inR_i32 (by omega) (by omega)
    have ey : ((y + 1 : Nat) : Int) - 1 = (y : Int) := by omega
    have fin1 : ∀ (v : Int), v = (if 0 < q ∧ T (q - 1) ≤ (cv : Int) then 0 - (q : Int) else (q : Int)) → ∀ (b : Int), Bk m' bk ok tm B c b → c ≠ cv →
      InvFS m .u8 .i32 T n tm bt ot ba oa bk ok f x (updG G y q) (updB B cv y) cv (y : Int) ((((m'.st ba (oa + x) ((q + 1 : Nat) : Int)).st bk (ok + c) b).st ba (oa + y) v)) := by
     intro v hv b hBb hne
     refine ⟨((L'.stA hx _).stK hc _).stA hyn _, ((hs.trans (SameK.st _ _ _ _)).trans (SameK.st _ _ _ _)).trans (SameK.st _ _ _ _), ((ho.st (.inr (.inr (InRow.mk hx))) _).st (.inr (.inl (InRow.mk hc))) _).st (.inr (.inr (InRow.mk hyn))) _, by omega, li', rel'.congr fun p hp => ?_, hct, ?_⟩
     ·rw [st_val, (L'.stA hx _).KtoA hp hc, st_val, hv, ← e0]
     ·exact hBb.swap (c := cv) hc y (m' := ((m'.st ba (oa + x) ((q + 1 : Nat) : Int)).st bk (ok + c) b).st ba (oa + y) v) (fun e he => by
       rw [((L'.stA hx _).stK hc _).AtoK hyn he, st_val]
       by_cases hec : e = c
       ·rw [if_pos hec, if_pos hec]
       ·rw [if_neg hec, if_neg hec, L'.AtoK hx he])
    have fin2 : ∀ (v : Int), v = (if 0 < q ∧ T (q - 1) ≤ (cv : Int) then 0 - (q : Int) else (q : Int)) → ∀ (b : Int), Bk m' bk ok tm B cv b →
      InvFS m .u8 .i32 T n tm bt ot ba oa bk ok f x (updG G y q) (updB B cv y) cv (y : Int) ((m'.st ba (oa + x) ((q + 1 : Nat) : Int)).st ba (oa + y) v) := by
     intro v hv b hBb
     refine ⟨(L'.stA hx _).stA hyn _, (hs.trans (SameK.st _ _ _ _)).trans (SameK.st _ _ _ _), (ho.st (.inr (.inr (InRow.mk hx))) _).st (.inr (.inr (InRow.mk hyn))) _, by omega, li', rel'.congr fun p hp => ?_, hct, ?_⟩
     ·rw [st_val, st_val, hv, ← e0]
     ·exact hBb.keep y (m' := (m'.st ba (oa + x) ((q + 1 : Nat) : Int)).st ba (oa + y) v) (fun e he => by
       rw [(L'.stA hx _).AtoK hyn he, L'.AtoK hx he])
    refine cond_of (fun hb2 => ?_) (fun hb2 => ?_)
    ·have hq0 : (q : Int) > 0 := of_decide_eq_true hb2
     obtain ⟨u, rfl⟩ : ∃ u, q = u + 1 := ⟨q - 1, by omega⟩
     have ez2 : ((u + 1 : Nat) : Int) - 1 = (u : Int) := by omega
     rw [ez2] at hz5 ⊢
     rw [Int.toNat_natCast]
     have hk2 := L1.tx.rd u (by omega)
     repeat ((with_reducible refine And.intro ?_ ?_); · first | omega | with_reducible assumption | exact hk1 | exact hk2 | exact hk3 | exact hk4 | exact hk5 | exact hk6 | exact hr1 | exact hr2)
     intro zu hzu
     obtain rfl : zu = T u := hzu.symm.trans (L1.tx.v u (by omega))
     refine cond_of (fun hb3 => ?_) (fun hb3 => ?_)
     ·have hlt : T u ≤ (cv : Int) := of_decide_eq_true hb3
      have hv : (0 - ((u + 1 : Nat) : Int)) = (if 0 < u + 1 ∧ T (u + 1 - 1) ≤ (cv : Int) then 0 - ((u + 1 : Nat) : Int) else ((u + 1 : Nat) : Int)) := by rw [if_pos ⟨by omega, hlt⟩]
      repeat ((with_reducible refine And.intro ?_ ?_); · first | omega | with_reducible assumption | exact hk1 | exact hk2 | exact hk3 | exact hk4 | exact hk5 | exact hk6 | exact hr1 | exact hr2)
      refine cond_of (fun hb4 => ?_) (fun hb4 => ?_)
      ·have hne : c ≠ cv := fun e => by rw [e] at hb4; simp at hb4
       repeat ((with_reducible refine And.intro ?_ ?_); · first | omega | with_reducible assumption | exact hk1 | exact hk2 | exact hk3 | exact hk4 | exact hk5 | exact hk6 | exact hr1 | exact hr2)
       intro m2 hm2
       subst hm2
       repeat ((with_reducible refine And.intro ?_ ?_); · first | omega | with_reducible assumption | exact hk1 | exact hk2 | exact hk3 | exact hk4 | exact hk5 | exact hk6 | exact hr1 | exact hr2)
       intro zy hzy
       obtain rfl : zy = ((y + 1 : Nat) : Int) := by
        rw [← hzy, Int.toNat_natCast, Int.toNat_natCast, st_val, if_neg (Ne.symm hne), L'.AtoK hx hct, ← hy]
        have := hB cv hct
        rw [if_neg (Ne.symm hne)] at this; exact this
       rw [ey, Int.toNat_natCast] at *
       repeat ((with_reducible refine And.intro ?_ ?_); · first | omega | with_reducible assumption | exact hk1 | exact hk2 | exact hk3 | exact hk4 | exact hk5 | exact hk6 | exact hr1 | exact hr2)
       intro m3 hm3
       subst hm3
       repeat ((with_reducible refine And.intro ?_ ?_); · first | omega | with_reducible assumption | exact hk1 | exact hk2 | exact hk3 | exact hk4 | exact hk5 | exact hk6 | exact hr1 | exact hr2)
       exact leaf rfl (fin1 _ hv b hB hne)
      ·have he : c = cv := by have := (bne_eq_false_iff_eq.1 hb4); omega
       subst he
       obtain rfl : b = ((y + 1 : Nat) : Int) := by rw [hB.hand hct, hy]
       rw [ey, Int.toNat_natCast]
       repeat ((with_reducible refine And.intro ?_ ?_); · first | omega | with_reducible assumption | exact hk1 | exact hk2 | exact hk3 | exact hk4 | exact hk5 | exact hk6 | exact hr1 | exact hr2)
       intro m3 hm3
       subst hm3
       repeat ((with_reducible refine And.intro ?_ ?_); · first | omega | with_reducible assumption | exact hk1 | exact hk2 | exact hk3 | exact hk4 | exact hk5 | exact hk6 | exact hr1 | exact hr2)
       exact leaf rfl (fin2 _ hv _ hB)
     ·have hlt : ¬ T u ≤ (cv : Int) := of_decide_eq_false hb3
      have hv : ((u + 1 : Nat) : Int) = (if 0 < u + 1 ∧ T (u + 1 - 1) ≤ (cv : Int) then 0 - ((u + 1 : Nat) : Int) else ((u + 1 : Nat) : Int)) := by rw [if_neg (fun h => hlt h.2)]
      refine cond_of (fun hb4 => ?_) (fun hb4 => ?_)
      ·have hne : c ≠ cv := fun e => by rw [e] at hb4; simp at hb4
       repeat ((with_reducible refine And.intro ?_ ?_); · first | omega | with_reducible assumption | exact hk1 | exact hk2 | exact hk3 | exact hk4 | exact hk5 | exact hk6 | exact hr1 | exact hr2)
       intro m2 hm2
       subst hm2
       repeat ((with_reducible refine And.intro ?_ ?_); · first | omega | with_reducible assumption | exact hk1 | exact hk2 | exact hk3 | exact hk4 | exact hk5 | exact hk6 | exact hr1 | exact hr2)
       intro zy hzy
       obtain rfl : zy = ((y + 1 : Nat) : Int) := by
        rw [← hzy, Int.toNat_natCast, Int.toNat_natCast, st_val, if_neg (Ne.symm hne), L'.AtoK hx hct, ← hy]
        have := hB cv hct
        rw [if_neg (Ne.symm hne)] at this; exact this
       rw [ey, Int.toNat_natCast] at *
       repeat ((with_reducible refine And.intro ?_ ?_); · first | omega | with_reducible assumption | exact hk1 | exact hk2 | exact hk3 | exact hk4 | exact hk5 | exact hk6 | exact hr1 | exact hr2)
       intro m3 hm3
       subst hm3
       repeat ((with_reducible refine And.intro ?_ ?_); · first | omega | with_reducible assumption | exact hk1 | exact hk2 | exact hk3 | exact hk4 | exact hk5 | exact hk6 | exact hr1 | exact hr2)
       exact leaf rfl (fin1 _ hv b hB hne)
      ·have he : c = cv := by have := (bne_eq_false_iff_eq.1 hb4); omega
       subst he
       obtain rfl : b = ((y + 1 : Nat) : Int) := by rw [hB.hand hct, hy]
       rw [ey, Int.toNat_natCast]
       repeat ((with_reducible refine And.intro ?_ ?_); · first | omega | with_reducible assumption | exact hk1 | exact hk2 | exact hk3 | exact hk4 | exact hk5 | exact hk6 | exact hr1 | exact hr2)
       intro m3 hm3
       subst hm3
       repeat ((with_reducible refine And.intro ?_ ?_); · first | omega | with_reducible assumption | exact hk1 | exact hk2 | exact hk3 | exact hk4 | exact hk5 | exact hk6 | exact hr1 | exact hr2)
       exact leaf rfl (fin2 _ hv _ hB)
    ·have hq0 : ¬ (q : Int) > 0 := of_decide_eq_false hb2
     have hv : (q : Int) = (if 0 < q ∧ T (q - 1) ≤ (cv : Int) then 0 - (q : Int) else (q : Int)) := by rw [if_neg (fun h => by omega)]
     refine cond_of (fun hb4 => ?_) (fun hb4 => ?_)
     ·have hne : c ≠ cv := fun e => by rw [e] at hb4; simp at hb4
      repeat ((with_reducible refine And.intro ?_ ?_); · first | omega | with_reducible assumption | exact hk1 | exact hk2 | exact hk3 | exact hk4 | exact hk5 | exact hk6 | exact hr1 | exact hr2)
      intro m2 hm2
      subst hm2
      repeat ((with_reducible refine And.intro ?_ ?_); · first | omega | with_reducible assumption | exact hk1 | exact hk2 | exact hk3 | exact hk4 | exact hk5 | exact hk6 | exact hr1 | exact hr2)
      intro zy hzy
      obtain rfl : zy = ((y + 1 : Nat) : Int) := by
       rw [← hzy, Int.toNat_natCast, Int.toNat_natCast, st_val, if_neg (Ne.symm hne), L'.AtoK hx hct, ← hy]
       have := hB cv hct
       rw [if_neg (Ne.symm hne)] at this; exact this
      rw [ey, Int.toNat_natCast] at *
      repeat ((with_reducible refine And.intro ?_ ?_); · first | omega | with_reducible assumption | exact hk1 | exact hk2 | exact hk3 | exact hk4 | exact hk5 | exact hk6 | exact hr1 | exact hr2)
      intro m3 hm3
      subst hm3
      repeat ((with_reducible refine And.intro ?_ ?_); · first | omega | with_reducible assumption | exact hk1 | exact hk2 | exact hk3 | exact hk4 | exact hk5 | exact hk6 | exact hr1 | exact hr2)
      exact leaf rfl (fin1 _ hv b hB hne)
     ·have he : c = cv := by have := (bne_eq_false_iff_eq.1 hb4); omega
      subst he
      obtain rfl : b = ((y + 1 : Nat) : Int) := by rw [hB.hand hct, hy]
      rw [ey, Int.toNat_natCast]
      repeat ((with_reducible refine And.intro ?_ ?_); · first | omega | with_reducible assumption | exact hk1 | exact hk2 | exact hk3 | exact hk4 | exact hk5 | exact hk6 | exact hr1 | exact hr2)
      intro m3 hm3
      subst hm3
      repeat ((with_reducible refine And.intro ?_ ?_); · first | omega | with_reducible assumption | exact hk1 | exact hk2 | exact hk3 | exact hk4 | exact hk5 | exact hk6 | exact hr1 | exact hr2)
      exact leaf rfl (fin2 _ hv _ hB)
  ·have hge : ¬ (x0 : Int) - 1 ≥ 0 := of_decide_eq_false hb
   obtain rfl : x0 = 0 := by omega
   exact XF1_mk (show ∃ (G : Nat → Option Nat) (B : Int → Nat) (c : Nat), InvFS _ _ _ _ _ _ _ _ _ _ _ _ _ _ _ _ _ _ _ from ⟨G, B, c, L', hs, ho, hxn, li, rel, hc, hB⟩)
 ·unfold M_F80
  refine bmax_97 L.hn htm L.t2 L.t1 hck L.tx L.kr L.kro L.akt L.fr fun m1 hs1 ho1 hb1 hd1 => ?_
  have ho1' : Out m m1 (WL f bk ok tm ba oa n) := ho1.mono fun x y h => h.elim .inl (fun h => .inr (.inl h))
  have L1 := L.keep hs1 ho1' (L.fr.done hs1 hd1)
  have hr0 : ∀ p, p < n → m1.val ba (oa + p) = m.val ba (oa + p) := fun x hx => ho1 _ _ (fun h => h.elim (fun h => (L.fr.not_in h).2.1 (InRow.mk hx)) (fun h => L.aka.not_row h (InRow.mk hx)))
  obtain ⟨G0, B0, li0, rel0⟩ := hmid
  obtain ⟨G, li, rel⟩ := fullS_start li0 rel0 (B' := fun c => bs T n c + cc T n c) (fun _ _ => rfl)
  have hk1 := L1.kr 0 L.t1
  have ht1 := L.t1
  have hi1 : inR .i64 ((n : Int) - 1) := inR_i64 (by omega) (by omega)
  rw [show Int.toNat (0 : Int) = 0 by rfl]
  repeat ((with_reducible refine And.intro ?_ ?_); · first | omega | with_reducible assumption | exact hk1 | exact hk2 | exact hk3 | exact hk4 | exact hk5 | exact hk6 | exact hr1 | exact hr2)
  intro z3 hz3
  repeat ((with_reducible refine And.intro ?_ ?_); · first | omega | with_reducible assumption | exact hk1 | exact hk2 | exact hk3 | exact hk4 | exact hk5 | exact hk6 | exact hr1 | exact hr2)
  refine And.intro (And.intro ⟨rfl, rfl, rfl, rfl, rfl, rfl, rfl, rfl, htm⟩ ⟨n, G, _, 0, rfl, rfl, L1, hs1, ho1', Nat.le_refl _, li, rel.congr hr0, L.t1, fun e he => ?_⟩) (fun z4 z5 z6 m8 hX _ => ?_)
  ·have hbe := hb1 e he
   rw [bs_succ] at hbe
   by_cases he0 : e = 0
   ·subst he0; rw [if_pos rfl, ← hz3, hbe]
   ·rw [if_neg he0, hbe]
  ·obtain ⟨G, B, c, J⟩ := (show ∃ (G : Nat → Option Nat) (B : Int → Nat) (c : Nat), InvFS _ _ _ _ _ _ _ _ _ _ _ _ _ _ _ _ _ _ _ from hX)
   exact hK m8 J.hs J.ho J.L (fullS_fin J.li J.rel)
theorem indS_113 {w0 : World} {m : Mem} {T : Nat → Int} {n tm bt ot ct ba oa ca bk ok ck : Nat} {f : Value} {K : Value → Mem → Prop} (L : Lv m .i32 .i32 T n tm bt ot ba oa bk ok f) (htm : True)
  (hck : tm ≤ ck) (hmid : MidF T n (fun x => m.val ba (oa + x)))
  (hK : ∀ m', SameK m m' → Out m m' (WL f bk ok tm ba oa n) → Lv m' .i32 .i32 T n tm bt ot ba oa bk ok f → SA T n (fun x => m'.val ba (oa + x)) → K (.tuple #[]) m') :
  callV Tryz.prog w0 113 [.slice (some ⟨bt, ot, none⟩) n ct, .slice (some ⟨ba, oa, none⟩) n ca, f, .slice (some ⟨bk, ok, none⟩) tm ck] m K := by
 have hn := L.hn
 let I : LI := fun ps ls m' => match ps, ls with
   | [.sl b o l c, .sl b' o' l' c', .sl b2 o2 l2 c2], [.iv _ cB, .iv _ bb, .iv _ i] => (bt = b ∧ ot = o ∧ n = l ∧ ba = b' ∧ oa = o' ∧ n = l' ∧ bk = b2 ∧ ok = o2 ∧ tm = l2) ∧
     ∃ (x : Nat) (G : Nat → Option Nat) (B : Int → Nat) (c : Nat), i = (x : Int) - 1 ∧ cB = c ∧ InvFS m .i32 .i32 T n tm bt ot ba oa bk ok f x G B c bb m'
   | _, _ => False
 let mu : LM := fun _ ls => match ls with | [_, _, .iv _ i] => (i + 1).toNat | _ => 0
 refine C_F113 (I0 := I)
  (X0 := fun _ ps ls m' => match ps, ls with
   | _, [.iv _ cB, .iv _ bb, .iv _ i] => ∃ (G : Nat → Option Nat) (B : Int → Nat) (c : Nat), InvFS m .i32 .i32 T n tm bt ot ba oa bk ok f 0 G B c bb m'
   | _, _ => False) (mu0 := mu) ?_ ?_
 ·intro bt' ot' lt' ct' ba' oa' la' ca' bk' ok' lk' ck' cB b i k m' hI hmu
  obtain ⟨⟨rfl, rfl, rfl, rfl, rfl, rfl, rfl, rfl, rfl⟩, x0, G, B, c, rfl, rfl, hJ⟩ := (show (_ ∧ _ ∧ _ ∧ _ ∧ _ ∧ _ ∧ _ ∧ _ ∧ _) ∧ ∃ (x : Nat) (G : Nat → Option Nat) (B : Int → Nat) (c : Nat), _ ∧ _ ∧ InvFS _ _ _ _ _ _ _ _ _ _ _ _ _ _ _ _ _ _ _ from hI)
  clear hI
  obtain ⟨L', hs, ho, hxn, li, rel, hc, hB⟩ := hJ
  have hmu' : ((x0 : Int) - 1 + 1).toNat < k + 1 := hmu
  have leaf : ∀ {x : Nat} {G' : Nat → Option Nat} {B' : Int → Nat} {c' : Nat} {b' : Int} {m2 : Mem}, x0 = x + 1 → InvFS m .i32 .i32 T n tm bt ot ba oa bk ok f x G' B' c' b' m2 →
    KF1 L0_F113 I mu (P0_F113 bt ot n ct' ba oa n ca' bk ok tm ck') k [.int .i32 c', .int .i32 b', .int .i64 ((x : Int) - 1)] m2 := fun {x _ _ _ _ _} hx h =>
   KF1_mk (And.intro (And.intro ⟨rfl, rfl, rfl, rfl, rfl, rfl, rfl, rfl, rfl⟩ ⟨x, _, _, _, rfl, rfl, h⟩) (show ((x : Int) - 1 + 1).toNat < k from by omega))
  clear_value I mu
  unfold R0_F113
  refine cond_of (fun hb => ?_) (fun hb => ?_)
  ·have hge : (x0 : Int) - 1 ≥ 0 := of_decide_eq_true hb
   obtain ⟨x, rfl⟩ : ∃ x, x0 = x + 1 := ⟨x0 - 1, by omega⟩
   have ex : ((x + 1 : Nat) : Int) - 1 = (x : Int) := by omega
   rw [ex, Int.toNat_natCast]
   have hx : x < n := by omega
   have hk1 := L'.sa x hx
   have hr1 := L'.sro
   have hi64 : inR .i64 ((x : Int) - 1) := inR_i64 (by omega) (by omega)
   refine ⟨by omega, by omega, hk1, fun z hz => ?_⟩
   have hzb : -(n : Int) < z ∧ z < n := by
    rw [← hz]; exact RelFS.lo (A := fun p => m'.val ba (oa + p)) li.toSCore rel hx
   have hz1 : inR .i64 z := inR_i64 (by omega) (by omega)
   repeat ((with_reducible refine And.intro ?_ ?_); · first | omega | with_reducible assumption | exact hk1 | exact hr1)
   refine cond_of (fun hb1 => ?_) (fun hb1 => ?_)
   ·have h0 : 0 ≤ m'.val ba (oa + x) := by rw [hz]; exact of_decide_eq_true hb1
    obtain ⟨li', rel'⟩ := fullS_skip li rel hx h0
    exact ⟨hi64, leaf rfl ⟨L', hs, ho, by omega, li', rel', hc, hB⟩⟩
   ·have hge : ¬ z ≥ 0 := of_decide_eq_false hb1
    have h0 : m'.val ba (oa + x) < 0 := by rw [hz]; omega
    obtain ⟨q, e, q3, q4, q5, li', rel'⟩ := fullS_neg li rel hx h0
    have e0 : 0 - m'.val ba (oa + x) = ((q + 1 : Nat) : Int) := e
    replace e : 0 - z = ((q + 1 : Nat) : Int) := by rw [← hz]; exact e0
    have hz2 : inR .i64 (0 - z) := inR_i64 (by omega) (by omega)
    have hz3 : inR .i32 (0 - z) := inR_i32 (by omega) (by omega)
    rw [e] at hz2 hz3 ⊢
    have L1 := L'.stA hx ((q + 1 : Nat) : Int)
    have ez1 : ((q + 1 : Nat) : Int) - 1 = (q : Int) := by omega
    have hz4 : inR .i64 ((q : Int)) := inR_i64 (by omega) (by omega)
    have hz5 : inR .i64 ((q : Int) - 1) := inR_i64 (by omega) (by omega)
    rw [ez1, Int.toNat_natCast]
    have hk3 := L1.tx.rd q (by omega)
    repeat ((with_reducible refine And.intro ?_ ?_); · first | omega | with_reducible assumption | exact hk1 | exact hk3 | exact hr1)
    intro m1 hm1
    subst hm1
    repeat ((with_reducible refine And.intro ?_ ?_); · first | omega | with_reducible assumption | exact hk1 | exact hk3 | exact hr1)
    intro zv hzv
    obtain ⟨cv, hcv, hct⟩ := L'.letter (i := q) (by omega)
    obtain rfl : zv = (cv : Int) := hzv.symm.trans ((L1.tx.v q (by omega)).trans hcv)
    rw [hcv] at q4 q5 li' rel'
    obtain ⟨y, hy⟩ : ∃ y, B cv = y + 1 := ⟨B cv - 1, by omega⟩
    rw [hy] at q4 li' rel'
    rw [Nat.add_sub_cancel] at li' rel'
    have hyn : y < n := by omega
    have hk4 := L'.kr c hc
    have hr2 := L'.kro
    have hk5 := L'.kr cv hct
    have hk6 := L'.sa y hyn
    have hz6 : inR .i64 (0 - (q : Int)) := inR_i64 (by omega) (by omega)
    have hz7 : inR .i32 (0 - (q : Int)) := inR_i32 (by omega) (by omega)
    have hz8 : inR .i32 (q : Int) := inR_i32 (by omega) (by omega)
    have hz9 : inR .i32 (y : Int) := inR_i32 (by omega) (by omega)
    have ey : ((y + 1 : Nat) : Int) - 1 = (y : Int) := by omega
    have fin1 : ∀ (v : Int), v = (if 0 < q ∧ T (q - 1) ≤ (cv : Int) then 0 - (q : Int) else (q : Int)) → ∀ (b : Int), Bk m' bk ok tm B c b → c ≠ cv →
      InvFS m .i32 .i32 T n tm bt ot ba oa bk ok f x (updG G y q) (updB B cv y) cv (y : Int) ((((m'.st ba (oa + x) ((q + 1 : Nat) : Int)).st bk (ok + c) b).st ba (oa + y) v)) := by
     intro v hv b hBb hne
     refine ⟨((L'.stA hx _).stK hc _).stA hyn _, ((hs.trans (SameK.st _ _ _ _)).trans (SameK.st _ _ _ _)).trans (SameK.st _ _ _ _), ((ho.st (.inr (.inr (InRow.mk hx))) _).st (.inr (.inl (InRow.mk hc))) _).st (.inr (.inr (InRow.mk hyn))) _, by omega, li', rel'.congr fun p hp => ?_, hct, ?_⟩
     ·rw [st_val, (L'.stA hx _).KtoA hp hc, st_val, hv, ← e0]
     ·exact hBb.swap (c := cv) hc y (m' := ((m'.st ba (oa + x) ((q + 1 : Nat) : Int)).st bk (ok + c) b).st ba (oa + y) v) (fun e he => by
       rw [((L'.stA hx _).stK hc _).AtoK hyn he, st_val]
       by_cases hec : e = c
       ·rw [if_pos hec, if_pos hec]
       ·rw [if_neg hec, if_neg hec, L'.AtoK hx he])
    have fin2 : ∀ (v : Int), v = (if 0 < q ∧ T (q - 1) ≤ (cv : Int) then 0 - (q : Int) else (q : Int)) → ∀ (b : Int), Bk m' bk ok tm B cv b →
      InvFS m .i32 .i32 T n tm bt ot ba oa bk ok f x (updG G y q) (updB B cv y) cv (y : Int) ((m'.st ba (oa + x) ((q + 1 : Nat) : Int)).st ba (oa + y) v) := by
     intro v hv b hBb
     refine ⟨(L'.stA hx _).stA hyn _, (hs.trans (SameK.st _ _ _ _)).trans (SameK.st _ _ _ _), (ho.st (.inr (.inr (InRow.mk hx))) _).st (.inr (.inr (InRow.mk hyn))) _, by omega, li', rel'.congr fun p hp => ?_, hct, ?_⟩
     ·rw [st_val, st_val, hv, ← e0]
     ·exact hBb.keep y (m' := (m'.st ba (oa + x) ((q + 1 : Nat) : Int)).st ba (oa + y) v) (fun e he => by
       rw [(L'.stA hx _).AtoK hyn he, L'.AtoK hx he])
    refine cond_of (fun hb2 => ?_) (fun hb2 => ?_)
    ·have hq0 : (q : Int) > 0 := of_decide_eq_true hb2
     obtain ⟨u, rfl⟩ : ∃ u, q = u + 1 := ⟨q - 1, by omega⟩
     have ez2 : ((u + 1 : Nat) : Int) - 1 = (u : Int) := by omega
     rw [ez2] at hz5 ⊢
     rw [Int.toNat_natCast]
     have hk2 := L1.tx.rd u (by omega)
     repeat ((with_reducible refine And.intro ?_ ?_); · first | omega | with_reducible assumption | exact hk1 | exact hk2 | exact hk3 | exact hk4 | exact hk5 | exact hk6 | exact hr1 | exact hr2)
     intro zu hzu
     obtain rfl : zu = T u := hzu.symm.trans (L1.tx.v u (by omega))
     refine cond_of (fun hb3 => ?_) (fun hb3 => ?_)
     ·have hlt : T u ≤ (cv : Int) := of_decide_eq_true hb3
      have hv : (0 - ((u + 1 : Nat) : Int)) = (if 0 < u + 1 ∧ T (u + 1 - 1) ≤ (cv : Int) then 0 - ((u + 1 : Nat) : Int) else ((u + 1 : Nat) : Int)) := by rw [if_pos ⟨by omega, hlt⟩]
      repeat ((with_reducible refine And.intro ?_ ?_); · first | omega | with_reducible assumption | exact hk1 | exact hk2 | exact hk3 | exact hk4 | exact hk5 | exact hk6 | exact hr1 | exact hr2)
      refine cond_of (fun hb4 => ?_) (fun hb4 => ?_)
      ·have hne : c ≠ cv := fun e => by rw [e] at hb4; simp at hb4
       repeat ((with_reducible refine And.intro ?_ ?_); · first | omega | with_reducible assumption | exact hk1 | exact hk2 | exact hk3 | exact hk4 | exact hk5 | exact hk6 | exact hr1 | exact hr2)
       intro m2 hm2
       subst hm2
       repeat ((with_reducible refine And.intro ?_ ?_); · first | omega | with_reducible assumption | exact hk1 | exact hk2 | exact hk3 | exact hk4 | exact hk5 | exact hk6 | exact hr1 | exact hr2)
       intro zy hzy
       obtain rfl : zy = ((y + 1 : Nat) : Int) := by
        rw [← hzy, Int.toNat_natCast, Int.toNat_natCast, st_val, if_neg (Ne.symm hne), L'.AtoK hx hct, ← hy]
        have := hB cv hct
        rw [if_neg (Ne.symm hne)] at this; exact this
       rw [ey, Int.toNat_natCast] at *
       repeat ((with_reducible refine And.intro ?_ ?_); · first | omega | with_reducible assumption | exact hk1 | exact hk2 | exact hk3 | exact hk4 | exact hk5 | exact hk6 | exact hr1 | exact hr2)
       intro m3 hm3
       subst hm3
       repeat ((with_reducible refine And.intro ?_ ?_); · first | omega | with_reducible assumption | exact hk1 | exact hk2 | exact hk3 | exact hk4 | exact hk5 | exact hk6 | exact hr1 | exact hr2)
       exact leaf rfl (fin1 _ hv b hB hne)
      ·have he : c = cv := by have := (bne_eq_false_iff_eq.1 hb4); omega
       subst he
       obtain rfl : b = ((y + 1 : Nat) : Int) := by rw [hB.hand hct, hy]
       rw [ey, Int.toNat_natCast]
       repeat ((with_reducible refine And.intro ?_ ?_); · first | omega | with_reducible assumption | exact hk1 | exact hk2 | exact hk3 | exact hk4 | exact hk5 | exact hk6 | exact hr1 | exact hr2)
       intro m3 hm3
       subst hm3
       repeat ((with_reducible refine And.intro ?_ ?_); · first | omega | with_reducible assumption | exact hk1 | exact hk2 | exact hk3 | exact hk4 | exact hk5 | exact hk6 | exact hr1 | exact hr2)
       exact leaf rfl (fin2 _ hv _ hB)
     ·have hlt : ¬ T u ≤ (cv : Int) := of_decide_eq_false hb3
      have hv : ((u + 1 : Nat) : Int) = (if 0 < u + 1 ∧ T (u + 1 - 1) ≤ (cv : Int) then 0 - ((u + 1 : Nat) : Int) else ((u + 1 : Nat) : Int)) := by rw [if_neg (fun h => hlt h.2)]
      refine cond_of (fun hb4 => ?_) (fun hb4 => ?_)
      ·have hne : c ≠ cv := fun e => by rw [e] at hb4; simp at hb4
       repeat ((with_reducible refine And.intro ?_ ?_); · first | omega | with_reducible assumption | exact hk1 | exact hk2 | exact hk3 | exact hk4 | exact hk5 | exact hk6 | exact hr1 | exact hr2)
       intro m2 hm2
       subst hm2
       repeat ((with_reducible refine And.intro ?_ ?_); · first | omega | with_reducible assumption | exact hk1 | exact hk2 | exact hk3 | exact hk4 | exact hk5 | exact hk6 | exact hr1 | exact hr2)
       intro zy hzy
       obtain rfl : zy = ((y + 1 : Nat) : Int) := by
        rw [← hzy, Int.toNat_natCast, Int.toNat_natCast, st_val, if_neg (Ne.symm hne), L'.AtoK hx hct, ← hy]
        have := hB cv hct
        rw [if_neg (Ne.symm hne)] at this; exact this
       rw [ey, Int.toNat_natCast] at *
       repeat ((with_reducible refine And.intro ?_ ?_); · first | omega | with_reducible assumption | exact hk1 | exact hk2 | exact hk3 | exact hk4 | exact hk5 | exact hk6 | exact hr1 | exact hr2)
       intro m3 hm3
       subst hm3
       repeat ((with_reducible refine And.intro ?_ ?_); · first | omega | with_reducible assumption | exact hk1 | exact hk2 | exact hk3 | exact hk4 | exact hk5 | exact hk6 | exact hr1 | exact hr2)
       exact leaf rfl (fin1 _ hv b hB hne)
      ·have he : c = cv := by have := (bne_eq_false_iff_eq.1 hb4); omega
       subst he
       obtain rfl : b = ((y + 1 : Nat) : Int) := by rw [hB.hand hct, hy]
       rw [ey, Int.toNat_natCast]
       repeat ((with_reducible refine And.intro ?_ ?_); · first | omega | with_reducible assumption | exact hk1 | exact hk2 | exact hk3 | exact hk4 | exact hk5 | exact hk6 | exact hr1 | exact hr2)
       intro m3 hm3
       subst hm3
       repeat ((with_reducible refine And.intro ?_ ?_); · first | omega | with_reducible assumption | exact hk1 | exact hk2 | exact hk3 | exact hk4 | exact hk5 | exact hk6 | exact hr1 | exact hr2)
       exact leaf rfl (fin2 _ hv _ hB)
    ·have hq0 : ¬ (q : Int) > 0 := of_decide_eq_false hb2
     have hv : (q : Int) = (if 0 < q ∧ T (q - 1) ≤ (cv : Int) then 0 - (q : Int) else (q : Int)) := by rw [if_neg (fun h => by omega)]
     refine cond_of (fun hb4 => ?_) (fun hb4 => ?_)
     ·have hne : c ≠ cv := fun e => by rw [e] at hb4; simp at hb4
      repeat ((with_reducible refine And.intro ?_ ?_); · first | omega | with_reducible assumption | exact hk1 | exact hk2 | exact hk3 | exact hk4 | exact hk5 | exact hk6 | exact hr1 | exact hr2)
      intro m2 hm2
      subst hm2
      repeat ((with_reducible refine And.intro ?_ ?_); · first | omega | with_reducible assumption | exact hk1 | exact hk2 | exact hk3 | exact hk4 | exact hk5 | exact hk6 | exact hr1 | exact hr2)
      intro zy hzy
      obtain rfl : zy = ((y + 1 : Nat) : Int) := by
       rw [← hzy, Int.toNat_natCast, Int.toNat_natCast, st_val, if_neg (Ne.symm hne), L'.AtoK hx hct, ← hy]
       have := hB cv hct
       rw [if_neg (Ne.symm hne)] at this; exact this
      rw [ey, Int.toNat_natCast] at *
      repeat ((with_reducible refine And.intro ?_ ?_); · first | omega | with_reducible assumption | exact hk1 | exact hk2 | exact hk3 | exact hk4 | exact hk5 | exact hk6 | exact hr1 | exact hr2)
      intro m3 hm3
      subst hm3
      repeat ((with_reducible refine And.intro ?_ ?_); · first | omega | with_reducible assumption | exact hk1 | exact hk2 | exact hk3 | exact hk4 | exact hk5 | exact hk6 | exact hr1 | exact hr2)
      exact leaf rfl (fin1 _ hv b hB hne)
     ·have he : c = cv := by have := (bne_eq_false_iff_eq.1 hb4); omega
      subst he
      obtain rfl : b = ((y + 1 : Nat) : Int) := by rw [hB.hand hct, hy]
      rw [ey, Int.toNat_natCast]
      repeat ((with_reducible refine And.intro ?_ ?_); · first | omega | with_reducible assumption | exact hk1 | exact hk2 | exact hk3 | exact hk4 | exact hk5 | exact hk6 | exact hr1 | exact hr2)
      intro m3 hm3
      subst hm3
      repeat ((with_reducible refine And.intro ?_ ?_); · first | omega | with_reducible assumption | exact hk1 | exact hk2 | exact hk3 | exact hk4 | exact hk5 | exact hk6 | exact hr1 | exact hr2)
      exact leaf rfl (fin2 _ hv _ hB)
  ·have hge : ¬ (x0 : Int) - 1 ≥ 0 := of_decide_eq_false hb
   obtain rfl : x0 = 0 := by omega
   exact XF1_mk (show ∃ (G : Nat → Option Nat) (B : Int → Nat) (c : Nat), InvFS _ _ _ _ _ _ _ _ _ _ _ _ _ _ _ _ _ _ _ from ⟨G, B, c, L', hs, ho, hxn, li, rel, hc, hB⟩)
 ·unfold M_F113
  refine bmax_124 L.hn htm L.t2 L.t1 hck L.tx L.kr L.kro L.akt L.fr fun m1 hs1 ho1 hb1 hd1 => ?_
  have ho1' : Out m m1 (WL f bk ok tm ba oa n) := ho1.mono fun x y h => h.elim .inl (fun h => .inr (.inl h))
  have L1 := L.keep hs1 ho1' (L.fr.done hs1 hd1)
  have hr0 : ∀ p, p < n → m1.val ba (oa + p) = m.val ba (oa + p) := fun x hx => ho1 _ _ (fun h => h.elim (fun h => (L.fr.not_in h).2.1 (InRow.mk hx)) (fun h => L.aka.not_row h (InRow.mk hx)))
  obtain ⟨G0, B0, li0, rel0⟩ := hmid
  obtain ⟨G, li, rel⟩ := fullS_start li0 rel0 (B' := fun c => bs T n c + cc T n c) (fun _ _ => rfl)
  have hk1 := L1.kr 0 L.t1
  have ht1 := L.t1
  have hi1 : inR .i64 ((n : Int) - 1) := inR_i64 (by omega) (by omega)
  rw [show Int.toNat (0 : Int) = 0 by rfl]
  repeat ((with_reducible refine And.intro ?_ ?_); · first | omega | with_reducible assumption | exact hk1 | exact hk2 | exact hk3 | exact hk4 | exact hk5 | exact hk6 | exact hr1 | exact hr2)
  intro z3 hz3
  repeat ((with_reducible refine And.intro ?_ ?_); · first | omega | with_reducible assumption | exact hk1 | exact hk2 | exact hk3 | exact hk4 | exact hk5 | exact hk6 | exact hr1 | exact hr2)
  refine And.intro (And.intro ⟨rfl, rfl, rfl, rfl, rfl, rfl, rfl, rfl, rfl⟩ ⟨n, G, _, 0, rfl, rfl, L1, hs1, ho1', Nat.le_refl _, li, rel.congr hr0, L.t1, fun e he => ?_⟩) (fun z4 z5 z6 m8 hX _ => ?_)
  ·have hbe := hb1 e he
   rw [bs_succ] at hbe
   by_cases he0 : e = 0
   ·subst he0; rw [if_pos rfl, ← hz3, hbe]
   ·rw [if_neg he0, hbe]
  ·obtain ⟨G, B, c, J⟩ := (show ∃ (G : Nat → Option Nat) (B : Int → Nat) (c : Nat), InvFS _ _ _ _ _ _ _ _ _ _ _ _ _ _ _ _ _ _ _ from hX)
   exact hK m8 J.hs J.ho J.L (fullS_fin J.li J.rel)
end Go.Proofs.YtdhifgedhaapjaaGreatDoor

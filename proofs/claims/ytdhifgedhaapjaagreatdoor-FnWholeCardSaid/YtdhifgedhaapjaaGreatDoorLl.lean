/- The words of the steps between the scans, on one level. -/
import Derived.Test.YtdhifgedhaapjaaGreatDoorLk
import Derived.Test.YtdhifgedhaapjaaGreatDoorLe
import Derived.Test.YtdhifgedhaapjaaGreatDoorLg
namespace Go.Proofs.YtdhifgedhaapjaaGreatDoor
open Go Sa
structure InvX (m0 : Mem) (kt ks : IntKind) (T : Nat → Int) (n tm bt ot ba oa bk ok : Nat) (f : Value) (S : Nat → Nat) (B : Int → Nat) (p x : Nat) (m : Mem) : Prop where
 L : Lv m kt ks T n tm bt ot ba oa bk ok f
 hs : SameK m0 m
 ho : Out m0 m (WL f bk ok tm ba oa n)
 hB : ∀ c : Nat, c < tm → m.val bk (ok + c) = B c
 ex : Exp T n S (fun q => m0.val ba (oa + q)) B (fun q => m.val ba (oa + q)) p x
end Go.Proofs.YtdhifgedhaapjaaGreatDoor
namespace Go.Proofs.YtdhifgedhaapjaaGreatDoor
open Go Sa
theorem expand_78 {w0 : World} {m : Mem} {T : Nat → Int} {n tm bt ot ct ba oa ca bk ok ck : Nat} {f : Value} {K : Value → Mem → Prop} (L : Lv m .u8 .i32 T n tm bt ot ba oa bk ok f) (htm : tm = 256)
  (hck : tm ≤ ck) {S : Nat → Nat} (hr : RowF T n S) (h1 : 1 ≤ nlms T n) (hA : ∀ u, u < nlms T n → m.val ba (oa + u) = (S u : Int))
  (hK : ∀ m', SameK m m' → Out m m' (WL f bk ok tm ba oa n) → Lv m' .u8 .i32 T n tm bt ot ba oa bk ok f → SeedsF T n (fun x => m'.val ba (oa + x)) → K (.tuple #[]) m') :
  callV Tryz.prog w0 78 [.slice (some ⟨bt, ot, none⟩) n ct, f, .slice (some ⟨bk, ok, none⟩) tm ck, .slice (some ⟨ba, oa, none⟩) n ca, .int .i64 (nlms T n)] m K := by
 have hn := L.hn
 have hmn : nlms T n ≤ n := cn_le_self _ _
 let I : LI := fun ps ls m' => match ps, ls with
   | [.sl b o l c, .sl b2 o2 l2 c2, .sl b' o' l' c'], [.iv _ xx, .iv _ sx, .iv _ bb, .iv _ i] => (bt = b ∧ ot = o ∧ n = l ∧ ba = b' ∧ oa = o' ∧ n = l' ∧ bk = b2 ∧ ok = o2 ∧ tm = l2) ∧
     ∃ (p x : Nat) (B : Int → Nat), i = (p : Int) - 1 ∧ xx = x ∧ sx = S x ∧ bb = dest T n S x ∧ InvX m .u8 .i32 T n tm bt ot ba oa bk ok f S B p x m'
   | _, _ => False
 let mu : LM := fun _ ls => match ls with | [_, _, _, .iv _ i] => (i + 1).toNat | _ => 0
 refine C_F78 (I0 := I)
  (X0 := fun _ ps ls m' => match ps, ls with
   | _, [.iv _ xx, .iv _ sx, .iv _ bb, .iv _ i] => ∃ (x : Nat) (B : Int → Nat), InvX m .u8 .i32 T n tm bt ot ba oa bk ok f S B 0 x m'
   | _, _ => False) (mu0 := mu) ?_ ?_
 ·intro bt' ot' lt' ct' bk' ok' lk' ck' ba' oa' la' ca' xx sx bb i k m' hI hmu
  obtain ⟨⟨rfl, rfl, rfl, rfl, rfl, rfl, rfl, rfl, rfl⟩, p, x, B, rfl, rfl, rfl, rfl, hJ⟩ := (show (_ ∧ _ ∧ _ ∧ _ ∧ _ ∧ _ ∧ _ ∧ _ ∧ _) ∧ ∃ (p x : Nat) (B : Int → Nat), _ ∧ _ ∧ _ ∧ _ ∧ InvX _ _ _ _ _ _ _ _ _ _ _ _ _ _ _ _ _ _ from hI)
  clear hI
  obtain ⟨L', hs, ho, hB, ex⟩ := hJ
  have hmu' : ((p : Int) - 1 + 1).toNat < k + 1 := hmu
  have leaf : ∀ {q x' : Nat} {B' : Int → Nat} {m2 : Mem}, p = q + 1 → InvX m .u8 .i32 T n tm bt ot ba oa bk ok f S B' q x' m2 →
    KF1 L0_F78 I mu (P0_F78 bt ot n ct' bk ok tm ck' ba oa n ca') k [.int .i64 x', .int .i32 (S x'), .int .i32 (dest T n S x'), .int .i64 ((q : Int) - 1)] m2 := fun {q _ _ _} hx h =>
   KF1_mk (And.intro (And.intro ⟨rfl, rfl, rfl, rfl, rfl, rfl, rfl, rfl, rfl⟩ ⟨q, _, _, rfl, rfl, rfl, rfl, h⟩) (show ((q : Int) - 1 + 1).toNat < k from by omega))
  clear_value I mu
  unfold R0_F78
  refine cond_of (fun hb => ?_) (fun hb => ?_)
  ·have hge : (p : Int) - 1 ≥ 0 := of_decide_eq_true hb
   obtain ⟨q, rfl⟩ : ∃ q, p = q + 1 := ⟨p - 1, by omega⟩
   have ex0 : ((q + 1 : Nat) : Int) - 1 = (q : Int) := by omega
   rw [ex0, Int.toNat_natCast]
   have hq : q < n := by have := ex.pn; omega
   have hxm := ex.xm
   have hdn := dest_n hr ex.xm
   have hk1 := L'.sa q hq
   have hr1 := L'.sro
   have hi64 : inR .i64 ((q : Int) - 1) := inR_i64 (by omega) (by omega)
   have hi2 : inR .i64 (dest T n S x : Int) := inR_i64 (by omega) (by omega)
   repeat ((with_reducible refine And.intro ?_ ?_); · first | omega | with_reducible assumption | exact hk1 | exact hr1)
   refine cond_of (fun hb1 => ?_) (fun hb1 => ?_)
   ·have hne : q ≠ dest T n S x := fun e => by rw [e] at hb1; simp at hb1
    repeat ((with_reducible refine And.intro ?_ ?_); · first | omega | with_reducible assumption | exact hk1 | exact hr1)
    intro m1 hm1
    subst hm1
    refine ⟨hi64, leaf rfl ⟨L'.stA hq _, hs.trans (SameK.st _ _ _ _), ho.st (.inr (.inr (InRow.mk hq))) _, fun c hc => by rw [L'.AtoK hq hc]; exact hB c hc, (ex.zero hr hne).congr (fun y hy => ?_) (fun _ _ => rfl)⟩⟩
    rw [st_val]
   ·have he : q = dest T n S x := by have := (bne_eq_false_iff_eq.1 hb1); omega
    repeat ((with_reducible refine And.intro ?_ ?_); · first | omega | with_reducible assumption | exact hk1 | exact hr1)
    intro m1 hm1
    subst hm1
    refine cond_of (fun hb2 => ?_) (fun hb2 => ?_)
    ·have hx0 : (x : Int) > 0 := of_decide_eq_true hb2
     obtain ⟨u, rfl⟩ : ∃ u, x = u + 1 := ⟨x - 1, by omega⟩
     have ex1 : ((u + 1 : Nat) : Int) - 1 = (u : Int) := by omega
     rw [ex1, Int.toNat_natCast]
     obtain ⟨huq, hAu, hBu, ex'⟩ := ex.putS hr hA he
     have hSu := (hr.l u (by omega)).lt
     obtain ⟨cv, hcv, hct⟩ := L'.letter (i := S u) (by omega)
     have hdu := dest_n hr (y := u) (by omega)
     have hk2 := L'.sa u (by omega)
     have hk3 := L'.tx.rd (S u) (by omega)
     have hk4 := L'.kr cv hct
     have hr2 := L'.kro
     have hi3 : inR .i64 (u : Int) := inR_i64 (by omega) (by omega)
     have hi4 : inR .i32 (dest T n S u : Int) := inR_i32 (by omega) (by omega)
     repeat ((with_reducible refine And.intro ?_ ?_); · first | omega | with_reducible assumption | exact hk1 | exact hk2 | exact hk3 | exact hk4 | exact hr1 | exact hr2)
     intro z2 hz2
     obtain rfl : z2 = (S u : Int) := by
      rw [← hz2, st_row_ne _ _ _ _ (by omega)]; exact hAu
     rw [Int.toNat_natCast]
     repeat ((with_reducible refine And.intro ?_ ?_); · first | omega | with_reducible assumption | exact hk1 | exact hk2 | exact hk3 | exact hk4 | exact hr1 | exact hr2)
     intro z3 hz3
     obtain rfl : z3 = (cv : Int) := hz3.symm.trans (((L'.stA hq _).tx.v (S u) (by omega)).trans hcv)
     rw [Int.toNat_natCast]
     repeat ((with_reducible refine And.intro ?_ ?_); · first | omega | with_reducible assumption | exact hk1 | exact hk2 | exact hk3 | exact hk4 | exact hr1 | exact hr2)
     intro z4 hz4
     obtain rfl : z4 = ((dest T n S u + 1 : Nat) : Int) := by
      rw [← hz4, L'.AtoK hq hct, hB cv hct, ← hcv, hBu]
     have ez : ((dest T n S u + 1 : Nat) : Int) - 1 = (dest T n S u : Int) := by omega
     rw [ez]
     repeat ((with_reducible refine And.intro ?_ ?_); · first | omega | with_reducible assumption | exact hk1 | exact hk2 | exact hk3 | exact hk4 | exact hr1 | exact hr2)
     intro m2 hm2
     subst hm2
     repeat ((with_reducible refine And.intro ?_ ?_); · first | omega | with_reducible assumption | exact hk1 | exact hk2 | exact hk3 | exact hk4 | exact hr1 | exact hr2)
     refine leaf rfl ⟨(L'.stA hq _).stK hct _, (hs.trans (SameK.st _ _ _ _)).trans (SameK.st _ _ _ _), (ho.st (.inr (.inr (InRow.mk hq))) _).st (.inr (.inl (InRow.mk hct))) _, fun c hc => ?_, ex'.congr (fun y hy => ?_) (fun _ _ => rfl)⟩
     ·rw [st_val, L'.AtoK hq hc, hcv]
      by_cases hcc : c = cv
      ·subst hcc; rw [if_pos rfl, updB_same]
      ·rw [if_neg hcc, updB_other _ (by omega)]; exact hB c hc
     ·rw [(L'.stA hq _).KtoA hy hct, st_val]
    ·have hx0 : ¬ (x : Int) > 0 := of_decide_eq_false hb2
     obtain rfl : x = 0 := by omega
     refine ⟨hi64, leaf rfl ⟨L'.stA hq _, hs.trans (SameK.st _ _ _ _), ho.st (.inr (.inr (InRow.mk hq))) _, fun c hc => by rw [L'.AtoK hq hc]; exact hB c hc, (ex.put0 he).congr (fun y hy => ?_) (fun _ _ => rfl)⟩⟩
     rw [st_val]
  ·have hge : ¬ (p : Int) - 1 ≥ 0 := of_decide_eq_false hb
   obtain rfl : p = 0 := by omega
   exact XF1_mk (show ∃ (x : Nat) (B : Int → Nat), InvX _ _ _ _ _ _ _ _ _ _ _ _ _ _ _ _ _ _ from ⟨x, B, L', hs, ho, hB, ex⟩)
 ·unfold M_F78
  refine bmax_97 L.hn htm L.t2 L.t1 hck L.tx L.kr L.kro L.akt L.fr fun m1 hs1 ho1 hb1 hd1 => ?_
  have ho1' : Out m m1 (WL f bk ok tm ba oa n) := ho1.mono fun x y h => h.elim .inl (fun h => .inr (.inl h))
  have L1 := L.keep hs1 ho1' (L.fr.done hs1 hd1)
  have hr0 : ∀ p, p < n → m1.val ba (oa + p) = m.val ba (oa + p) := fun x hx => ho1 _ _ (fun h => h.elim (fun h => (L.fr.not_in h).2.1 (InRow.mk hx)) (fun h => L.aka.not_row h (InRow.mk hx)))
  obtain ⟨x, hx⟩ : ∃ x, nlms T n = x + 1 := ⟨nlms T n - 1, by omega⟩
  obtain ⟨ex, hBx⟩ := Exp.start (A0 := fun q => m.val ba (oa + q)) hr hx (B := fun c => bs T n c + cc T n c) (fun _ _ => rfl)
  have e1 : ((nlms T n : Nat) : Int) - 1 = (x : Int) := by omega
  have hSx := (hr.l x (by omega)).lt
  obtain ⟨cv, hcv, hct⟩ := L1.letter (i := S x) (by omega)
  have hdx := dest_n hr (y := x) (by omega)
  rw [e1, Int.toNat_natCast]
  have hk1 := L1.sa x (by omega)
  have hk2 := L1.tx.rd (S x) (by omega)
  have hk3 := L1.kr cv hct
  have hr1 := L1.kro
  have hi1 : inR .i64 ((n : Int) - 1) := inR_i64 (by omega) (by omega)
  have hi2 : inR .i64 (x : Int) := inR_i64 (by omega) (by omega)
  have hi4 : inR .i32 (dest T n S x : Int) := inR_i32 (by omega) (by omega)
  repeat ((with_reducible refine And.intro ?_ ?_); · first | omega | with_reducible assumption | exact hk1 | exact hk2 | exact hk3 | exact hk4 | exact hr1 | exact hr2)
  intro z3 hz3
  obtain rfl : z3 = (S x : Int) := by rw [← hz3, hr0 x (by omega), hA x (by omega)]
  rw [Int.toNat_natCast]
  repeat ((with_reducible refine And.intro ?_ ?_); · first | omega | with_reducible assumption | exact hk1 | exact hk2 | exact hk3 | exact hk4 | exact hr1 | exact hr2)
  intro z4 hz4
  obtain rfl : z4 = (cv : Int) := hz4.symm.trans ((L1.tx.v (S x) (by omega)).trans hcv)
  rw [Int.toNat_natCast]
  repeat ((with_reducible refine And.intro ?_ ?_); · first | omega | with_reducible assumption | exact hk1 | exact hk2 | exact hk3 | exact hk4 | exact hr1 | exact hr2)
  intro z5 hz5
  obtain rfl : z5 = ((dest T n S x + 1 : Nat) : Int) := by
   rw [← hz5, hb1 cv hct, bs_succ, ← hcv]; exact congrArg Nat.cast hBx
  have ez : ((dest T n S x + 1 : Nat) : Int) - 1 = (dest T n S x : Int) := by omega
  rw [ez]
  repeat ((with_reducible refine And.intro ?_ ?_); · first | omega | with_reducible assumption | exact hk1 | exact hk2 | exact hk3 | exact hk4 | exact hr1 | exact hr2)
  intro m6 hm6
  subst hm6
  repeat ((with_reducible refine And.intro ?_ ?_); · first | omega | with_reducible assumption | exact hk1 | exact hk2 | exact hk3 | exact hk4 | exact hr1 | exact hr2)
  refine And.intro (And.intro ⟨rfl, rfl, rfl, rfl, rfl, rfl, rfl, rfl, htm⟩ ⟨n, x, _, rfl, rfl, rfl, rfl, L1.stK hct _, hs1.trans (SameK.st _ _ _ _), ho1'.st (.inr (.inl (InRow.mk hct))) _, fun e he => ?_, ex.congr (fun q hq => ?_) (fun _ _ => rfl)⟩) (fun z4 z5 z6 z7 m8 hX _ => ?_)
  ·rw [st_val, hcv]
   by_cases hec : e = cv
   ·subst hec; rw [if_pos rfl, updB_same, ← hcv, hBx]; rfl
   ·rw [if_neg hec, updB_other _ (by omega), hb1 e he, bs_succ]
  ·rw [L1.KtoA hq hct, hr0 q hq]
  ·obtain ⟨x, B, J⟩ := (show ∃ (x : Nat) (B : Int → Nat), InvX _ _ _ _ _ _ _ _ _ _ _ _ _ _ _ _ _ _ from hX)
   exact hK m8 J.hs J.ho J.L (J.ex.fin hr)
theorem expand_111 {w0 : World} {m : Mem} {T : Nat → Int} {n tm bt ot ct ba oa ca bk ok ck : Nat} {f : Value} {K : Value → Mem → Prop} (L : Lv m .i32 .i32 T n tm bt ot ba oa bk ok f) (htm : True)
  (hck : tm ≤ ck) {S : Nat → Nat} (hr : RowF T n S) (h1 : 1 ≤ nlms T n) (hA : ∀ u, u < nlms T n → m.val ba (oa + u) = (S u : Int))
  (hK : ∀ m', SameK m m' → Out m m' (WL f bk ok tm ba oa n) → Lv m' .i32 .i32 T n tm bt ot ba oa bk ok f → SeedsF T n (fun x => m'.val ba (oa + x)) → K (.tuple #[]) m') :
  callV Tryz.prog w0 111 [.slice (some ⟨bt, ot, none⟩) n ct, f, .slice (some ⟨bk, ok, none⟩) tm ck, .slice (some ⟨ba, oa, none⟩) n ca, .int .i64 (nlms T n)] m K := by
 have hn := L.hn
 have hmn : nlms T n ≤ n := cn_le_self _ _
 let I : LI := fun ps ls m' => match ps, ls with
   | [.sl b o l c, .sl b2 o2 l2 c2, .sl b' o' l' c'], [.iv _ xx, .iv _ sx, .iv _ bb, .iv _ i] => (bt = b ∧ ot = o ∧ n = l ∧ ba = b' ∧ oa = o' ∧ n = l' ∧ bk = b2 ∧ ok = o2 ∧ tm = l2) ∧
     ∃ (p x : Nat) (B : Int → Nat), i = (p : Int) - 1 ∧ xx = x ∧ sx = S x ∧ bb = dest T n S x ∧ InvX m .i32 .i32 T n tm bt ot ba oa bk ok f S B p x m'
   | _, _ => False
 let mu : LM := fun _ ls => match ls with | [_, _, _, .iv _ i] => (i + 1).toNat | _ => 0
 refine C_F111 (I0 := I)
  (X0 := fun _ ps ls m' => match ps, ls with
   | _, [.iv _ xx, .iv _ sx, .iv _ bb, .iv _ i] => ∃ (x : Nat) (B : Int → Nat), InvX m .i32 .i32 T n tm bt ot ba oa bk ok f S B 0 x m'
   | _, _ => False) (mu0 := mu) ?_ ?_
 ·intro bt' ot' lt' ct' bk' ok' lk' ck' ba' oa' la' ca' xx sx bb i k m' hI hmu
  obtain ⟨⟨rfl, rfl, rfl, rfl, rfl, rfl, rfl, rfl, rfl⟩, p, x, B, rfl, rfl, rfl, rfl, hJ⟩ := (show (_ ∧ _ ∧ _ ∧ _ ∧ _ ∧ _ ∧ _ ∧ _ ∧ _) ∧ ∃ (p x : Nat) (B : Int → Nat), _ ∧ _ ∧ _ ∧ _ ∧ InvX _ _ _ _ _ _ _ _ _ _ _ _ _ _ _ _ _ _ from hI)
  clear hI
  obtain ⟨L', hs, ho, hB, ex⟩ := hJ
  have hmu' : ((p : Int) - 1 + 1).toNat < k + 1 := hmu
  have leaf : ∀ {q x' : Nat} {B' : Int → Nat} {m2 : Mem}, p = q + 1 → InvX m .i32 .i32 T n tm bt ot ba oa bk ok f S B' q x' m2 →
    KF1 L0_F111 I mu (P0_F111 bt ot n ct' bk ok tm ck' ba oa n ca') k [.int .i64 x', .int .i32 (S x'), .int .i32 (dest T n S x'), .int .i64 ((q : Int) - 1)] m2 := fun {q _ _ _} hx h =>
   KF1_mk (And.intro (And.intro ⟨rfl, rfl, rfl, rfl, rfl, rfl, rfl, rfl, rfl⟩ ⟨q, _, _, rfl, rfl, rfl, rfl, h⟩) (show ((q : Int) - 1 + 1).toNat < k from by omega))
  clear_value I mu
  unfold R0_F111
  refine cond_of (fun hb => ?_) (fun hb => ?_)
  ·have hge : (p : Int) - 1 ≥ 0 := of_decide_eq_true hb
   obtain ⟨q, rfl⟩ : ∃ q, p = q + 1 := ⟨p - 1, by omega⟩
   have ex0 : ((q + 1 : Nat) : Int) - 1 = (q : Int) := by omega
   rw [ex0, Int.toNat_natCast]
   have hq : q < n := by have := ex.pn; omega
   have hxm := ex.xm
   have hdn := dest_n hr ex.xm
   have hk1 := L'.sa q hq
   have hr1 := L'.sro
   have hi64 : inR .i64 ((q : Int) - 1) := inR_i64 (by omega) (by omega)
   have hi2 : inR .i64 (dest T n S x : Int) := inR_i64 (by omega) (by omega)
   repeat ((with_reducible refine And.intro ?_ ?_); · first | omega | with_reducible assumption | exact hk1 | exact hr1)
   refine cond_of (fun hb1 => ?_) (fun hb1 => ?_)
   ·have hne : q ≠ dest T n S x := fun e => by rw [e] at hb1; simp at hb1
    repeat ((with_reducible refine And.intro ?_ ?_); · first | omega | with_reducible assumption | exact hk1 | exact hr1)
    intro m1 hm1
    subst hm1
    refine ⟨hi64, leaf rfl ⟨L'.stA hq _, hs.trans (SameK.st _ _ _ _), ho.st (.inr (.inr (InRow.mk hq))) _, fun c hc => by rw [L'.AtoK hq hc]; exact hB c hc, (ex.zero hr hne).congr (fun y hy => ?_) (fun _ _ => rfl)⟩⟩
    rw [st_val]
   ·have he : q = dest T n S x := by have := (bne_eq_false_iff_eq.1 hb1); omega
    repeat ((with_reducible refine And.intro ?_ ?_); · first | omega | with_reducible assumption | exact hk1 | exact hr1)
    intro m1 hm1
    subst hm1
    refine cond_of (fun hb2 => ?_) (fun hb2 => ?_)
    ·have hx0 : (x : Int) > 0 := of_decide_eq_true hb2
     obtain ⟨u, rfl⟩ : ∃ u, x = u + 1 := ⟨x - 1, by omega⟩
     have ex1 : ((u + 1 : Nat) : Int) - 1 = (u : Int) := by omega
     rw [ex1, Int.toNat_natCast]
     obtain ⟨huq, hAu, hBu, ex'⟩ := ex.putS hr hA he
     have hSu := (hr.l u (by omega)).lt
     obtain ⟨cv, hcv, hct⟩ := L'.letter (i := S u) (by omega)
     have hdu := dest_n hr (y := u) (by omega)
     have hk2 := L'.sa u (by omega)
     have hk3 := L'.tx.rd (S u) (by omega)
     have hk4 := L'.kr cv hct
     have hr2 := L'.kro
     have hi3 : inR .i64 (u : Int) := inR_i64 (by omega) (by omega)
     have hi4 : inR .i32 (dest T n S u : Int) := inR_i32 (by omega) (by omega)
     repeat ((with_reducible refine And.intro ?_ ?_); · first | omega | with_reducible assumption | exact hk1 | exact hk2 | exact hk3 | exact hk4 | exact hr1 | exact hr2)
     intro z2 hz2
     obtain rfl : z2 = (S u : Int) := by
      rw [← hz2, st_row_ne _ _ _ _ (by omega)]; exact hAu
     rw [Int.toNat_natCast]
     repeat ((with_reducible refine And.intro ?_ ?_); · first | omega | with_reducible assumption | exact hk1 | exact hk2 | exact hk3 | exact hk4 | exact hr1 | exact hr2)
     intro z3 hz3
     obtain rfl : z3 = (cv : Int) := hz3.symm.trans (((L'.stA hq _).tx.v (S u) (by omega)).trans hcv)
     rw [Int.toNat_natCast]
     repeat ((with_reducible refine And.intro ?_ ?_); · first | omega | with_reducible assumption | exact hk1 | exact hk2 | exact hk3 | exact hk4 | exact hr1 | exact hr2)
     intro z4 hz4
     obtain rfl : z4 = ((dest T n S u + 1 : Nat) : Int) := by
      rw [← hz4, L'.AtoK hq hct, hB cv hct, ← hcv, hBu]
     have ez : ((dest T n S u + 1 : Nat) : Int) - 1 = (dest T n S u : Int) := by omega
     rw [ez]
     repeat ((with_reducible refine And.intro ?_ ?_); · first | omega | with_reducible assumption | exact hk1 | exact hk2 | exact hk3 | exact hk4 | exact hr1 | exact hr2)
     intro m2 hm2
     subst hm2
     repeat ((with_reducible refine And.intro ?_ ?_); · first | omega | with_reducible assumption | exact hk1 | exact hk2 | exact hk3 | exact hk4 | exact hr1 | exact hr2)
     refine leaf rfl ⟨(L'.stA hq _).stK hct _, (hs.trans (SameK.st _ _ _ _)).trans (SameK.st _ _ _ _), (ho.st (.inr (.inr (InRow.mk hq))) _).st (.inr (.inl (InRow.mk hct))) _, fun c hc => ?_, ex'.congr (fun y hy => ?_) (fun _ _ => rfl)⟩
     ·rw [st_val, L'.AtoK hq hc, hcv]
      by_cases hcc : c = cv
      ·subst hcc; rw [if_pos rfl, updB_same]
      ·rw [if_neg hcc, updB_other _ (by omega)]; exact hB c hc
     ·rw [(L'.stA hq _).KtoA hy hct, st_val]
    ·have hx0 : ¬ (x : Int) > 0 := of_decide_eq_false hb2
     obtain rfl : x = 0 := by omega
     refine ⟨hi64, leaf rfl ⟨L'.stA hq _, hs.trans (SameK.st _ _ _ _), ho.st (.inr (.inr (InRow.mk hq))) _, fun c hc => by rw [L'.AtoK hq hc]; exact hB c hc, (ex.put0 he).congr (fun y hy => ?_) (fun _ _ => rfl)⟩⟩
     rw [st_val]
  ·have hge : ¬ (p : Int) - 1 ≥ 0 := of_decide_eq_false hb
   obtain rfl : p = 0 := by omega
   exact XF1_mk (show ∃ (x : Nat) (B : Int → Nat), InvX _ _ _ _ _ _ _ _ _ _ _ _ _ _ _ _ _ _ from ⟨x, B, L', hs, ho, hB, ex⟩)
 ·unfold M_F111
  refine bmax_124 L.hn htm L.t2 L.t1 hck L.tx L.kr L.kro L.akt L.fr fun m1 hs1 ho1 hb1 hd1 => ?_
  have ho1' : Out m m1 (WL f bk ok tm ba oa n) := ho1.mono fun x y h => h.elim .inl (fun h => .inr (.inl h))
  have L1 := L.keep hs1 ho1' (L.fr.done hs1 hd1)
  have hr0 : ∀ p, p < n → m1.val ba (oa + p) = m.val ba (oa + p) := fun x hx => ho1 _ _ (fun h => h.elim (fun h => (L.fr.not_in h).2.1 (InRow.mk hx)) (fun h => L.aka.not_row h (InRow.mk hx)))
  obtain ⟨x, hx⟩ : ∃ x, nlms T n = x + 1 := ⟨nlms T n - 1, by omega⟩
  obtain ⟨ex, hBx⟩ := Exp.start (A0 := fun q => m.val ba (oa + q)) hr hx (B := fun c => bs T n c + cc T n c) (fun _ _ => rfl)
  have e1 : ((nlms T n : Nat) : Int) - 1 = (x : Int) := by omega
  have hSx := (hr.l x (by omega)).lt
  obtain ⟨cv, hcv, hct⟩ := L1.letter (i := S x) (by omega)
  have hdx := dest_n hr (y := x) (by omega)
  rw [e1, Int.toNat_natCast]
  have hk1 := L1.sa x (by omega)
  have hk2 := L1.tx.rd (S x) (by omega)
  have hk3 := L1.kr cv hct
  have hr1 := L1.kro
  have hi1 : inR .i64 ((n : Int) - 1) := inR_i64 (by omega) (by omega)
  have hi2 : inR .i64 (x : Int) := inR_i64 (by omega) (by omega)
  have hi4 : inR .i32 (dest T n S x : Int) := inR_i32 (by omega) (by omega)
  repeat ((with_reducible refine And.intro ?_ ?_); · first | omega | with_reducible assumption | exact hk1 | exact hk2 | exact hk3 | exact hk4 | exact hr1 | exact hr2)
  intro z3 hz3
  obtain rfl : z3 = (S x : Int) := by rw [← hz3, hr0 x (by omega), hA x (by omega)]
  rw [Int.toNat_natCast]
  repeat ((with_reducible refine And.intro ?_ ?_); · first | omega | with_reducible assumption | exact hk1 | exact hk2 | exact hk3 | exact hk4 | exact hr1 | exact hr2)
  intro z4 hz4
  obtain rfl : z4 = (cv : Int) := hz4.symm.trans ((L1.tx.v (S x) (by omega)).trans hcv)
  rw [Int.toNat_natCast]
  repeat ((with_reducible refine And.intro ?_ ?_); · first | omega | with_reducible assumption | exact hk1 | exact hk2 | exact hk3 | exact hk4 | exact hr1 | exact hr2)
  intro z5 hz5
  obtain rfl : z5 = ((dest T n S x + 1 : Nat) : Int) := by
   rw [← hz5, hb1 cv hct, bs_succ, ← hcv]; exact congrArg Nat.cast hBx
  have ez : ((dest T n S x + 1 : Nat) : Int) - 1 = (dest T n S x : Int) := by omega
  rw [ez]
  repeat ((with_reducible refine And.intro ?_ ?_); · first | omega | with_reducible assumption | exact hk1 | exact hk2 | exact hk3 | exact hk4 | exact hr1 | exact hr2)
  intro m6 hm6
  subst hm6
  repeat ((with_reducible refine And.intro ?_ ?_); · first | omega | with_reducible assumption | exact hk1 | exact hk2 | exact hk3 | exact hk4 | exact hr1 | exact hr2)
  refine And.intro (And.intro ⟨rfl, rfl, rfl, rfl, rfl, rfl, rfl, rfl, rfl⟩ ⟨n, x, _, rfl, rfl, rfl, rfl, L1.stK hct _, hs1.trans (SameK.st _ _ _ _), ho1'.st (.inr (.inl (InRow.mk hct))) _, fun e he => ?_, ex.congr (fun q hq => ?_) (fun _ _ => rfl)⟩) (fun z4 z5 z6 z7 m8 hX _ => ?_)
  ·rw [st_val, hcv]
   by_cases hec : e = cv
   ·subst hec; rw [if_pos rfl, updB_same, ← hcv, hBx]; rfl
   ·rw [if_neg hec, updB_other _ (by omega), hb1 e he, bs_succ]
  ·rw [L1.KtoA hq hct, hr0 q hq]
  ·obtain ⟨x, B, J⟩ := (show ∃ (x : Nat) (B : Int → Nat), InvX _ _ _ _ _ _ _ _ _ _ _ _ _ _ _ _ _ _ from hX)
   exact hK m8 J.hs J.ho J.L (J.ex.fin hr)
end Go.Proofs.YtdhifgedhaapjaaGreatDoor
namespace Go.Proofs.YtdhifgedhaapjaaGreatDoor
open Go Sa
theorem wrap_u8 (z : Int) : IntKind.u8.wrap z = z % 256 := by
 show (if (false && decide (z % (256 : Int) ≥ (128 : Int))) = true then z % (256 : Int) - 256 else z % (256 : Int)) = z % 256
 rfl
theorem wrap_u32 (z : Int) : IntKind.u32.wrap z = z % 256 ^ 4 := by
 show (if (false && decide (z % (4294967296 : Int) ≥ (2147483648 : Int))) = true then z % (4294967296 : Int) - 4294967296 else z % (4294967296 : Int)) = z % 256 ^ 4
 rfl
theorem wrap_u64 (z : Int) : IntKind.u64.wrap z = z % 256 ^ 8 := by
 show (if (false && decide (z % (18446744073709551616 : Int) ≥ (9223372036854775808 : Int))) = true then z % (18446744073709551616 : Int) - 18446744073709551616 else z % (18446744073709551616 : Int)) = z % 256 ^ 8
 rfl
theorem sgn_i32 {z : Int} (h0 : 0 ≤ z) (h1 : z < 256 ^ 4) : IntKind.i32.wrap z = sgn (256 ^ 4) z := by
 have h2 : z < 4294967296 := h1
 show (if (true && decide (z % (4294967296 : Int) ≥ (2147483648 : Int))) = true then z % (4294967296 : Int) - 4294967296 else z % (4294967296 : Int)) = if z < 4294967296 / 2 then z else z - 4294967296
 rw [Int.emod_eq_of_lt h0 h2]
 by_cases h : z < 2147483648
 ·rw [if_neg (by simp; omega), if_pos (by omega)]
 ·rw [if_pos (by simp; omega), if_neg (by omega)]
theorem sgn_i64 {z : Int} (h0 : 0 ≤ z) (h1 : z < 256 ^ 8) : IntKind.i64.wrap z = sgn (256 ^ 8) z := by
 have h2 : z < 18446744073709551616 := h1
 show (if (true && decide (z % (18446744073709551616 : Int) ≥ (9223372036854775808 : Int))) = true then z % (18446744073709551616 : Int) - 18446744073709551616 else z % (18446744073709551616 : Int)) = if z < 18446744073709551616 / 2 then z else z - 18446744073709551616
 rw [Int.emod_eq_of_lt h0 h2]
 by_cases h : z < 9223372036854775808
 ·rw [if_neg (by simp; omega), if_pos (by omega)]
 ·rw [if_pos (by simp; omega), if_neg (by omega)]
theorem or_low (w : Nat) (hw : 8 ≤ w) (a b : Int) (hb0 : 0 ≤ b) (hb : b < 256) :
  ((BitVec.ofInt w (a * 256 % (2 ^ w : Nat)) ||| BitVec.ofInt w b).toNat : Int) = (256 * a + b) % (2 ^ w : Nat) := by
 obtain ⟨v, rfl⟩ : ∃ v, w = v + 8 := ⟨w - 8, by omega⟩
 obtain ⟨c, rfl⟩ : ∃ c : Nat, b = c := ⟨b.toNat, by omega⟩
 have hM : ((2 ^ (v + 8) : Nat) : Int) = 256 * ((2 ^ v : Nat) : Int) := by
  rw [Nat.pow_add, Int.natCast_mul, Int.mul_comm]; rfl
 have hp : (0 : Int) < ((2 ^ v : Nat) : Int) := Int.natCast_pos.2 (Nat.pow_pos (by decide))
 have hq : a * 256 % ((2 ^ (v + 8) : Nat) : Int) = 256 * (a % ((2 ^ v : Nat) : Int)) := by
  rw [hM, Int.mul_comm a 256, Int.mul_emod_mul_of_pos _ _ (by decide)]
 obtain ⟨q, hq'⟩ : ∃ q : Nat, a % ((2 ^ v : Nat) : Int) = q := ⟨(a % ((2 ^ v : Nat) : Int)).toNat, by have := Int.emod_nonneg a (Int.ne_of_gt hp); omega⟩
 have hql : (q : Int) < ((2 ^ v : Nat) : Int) := by rw [← hq']; exact Int.emod_lt_of_pos _ hp
 rw [hq, hq', BitVec.toNat_or, BitVec.toNat_ofInt, BitVec.toNat_ofInt]
 have e1 : (256 * (q : Int)) % ((2 ^ (v + 8) : Nat) : Int) = 256 * (q : Int) := Int.emod_eq_of_lt (by omega) (by omega)
 have e2 : (c : Int) % ((2 ^ (v + 8) : Nat) : Int) = c := Int.emod_eq_of_lt hb0 (by omega)
 rw [e1, e2]
 have e3 : (256 * (q : Int)).toNat = 2 ^ 8 * q := by omega
 rw [e3, Int.toNat_natCast, ← Nat.two_pow_add_eq_or_of_lt (show c < 2 ^ 8 by omega)]
 have e4 : (256 * a + (c : Int)) % ((2 ^ (v + 8) : Nat) : Int) = 256 * (q : Int) + c := by
  have e5 := Int.emod_add_mul_ediv a ((2 ^ v : Nat) : Int)
  rw [hq'] at e5
  have e6 : 256 * a + (c : Int) = (256 * (q : Int) + c) + ((2 ^ (v + 8) : Nat) : Int) * (a / ((2 ^ v : Nat) : Int)) := by
   rw [hM, Int.mul_assoc]; omega
  rw [e6, Int.add_mul_emod_self_left]
  exact Int.emod_eq_of_lt (by omega) (by omega)
 rw [e4]; omega
theorem step_u32 (cx c : Int) : orI .u32 (IntKind.wrap .u32 (cx * 2 ^ min (Int.toNat (8 : Int)) (IntKind.bits .u32))) (IntKind.wrap .u32 (IntKind.wrap .u8 (c + (1 : Int)))) = (256 * cx + (c + 1) % 256) % 256 ^ 4 := by
 have hc0 : 0 ≤ (c + 1) % 256 := by omega
 have hc1 : (c + 1) % 256 < 256 := by omega
 unfold orI
 rw [wrap_u8, wrap_u32, wrap_u32, wrap_u32, Int.emod_eq_of_lt hc0 (Int.lt_trans hc1 (by decide))]
 have := or_low 32 (by decide) cx ((c + 1) % 256) hc0 hc1
 have e : (((BitVec.ofInt (IntKind.bits .u32) (cx * 2 ^ min (Int.toNat (8 : Int)) (IntKind.bits .u32) % 256 ^ 4) ||| BitVec.ofInt (IntKind.bits .u32) ((c + 1) % 256)).toNat : Nat) : Int) = (256 * cx + (c + 1) % 256) % 256 ^ 4 := this
 rw [e, Int.emod_emod]
theorem step_u64 (cx c : Int) : orI .u64 (IntKind.wrap .u64 (cx * 2 ^ min (Int.toNat (8 : Int)) (IntKind.bits .u64))) (IntKind.wrap .u64 (IntKind.wrap .u8 (c + (1 : Int)))) = (256 * cx + (c + 1) % 256) % 256 ^ 8 := by
 have hc0 : 0 ≤ (c + 1) % 256 := by omega
 have hc1 : (c + 1) % 256 < 256 := by omega
 unfold orI
 rw [wrap_u8, wrap_u64, wrap_u64, wrap_u64, Int.emod_eq_of_lt hc0 (Int.lt_trans hc1 (by decide))]
 have := or_low 64 (by decide) cx ((c + 1) % 256) hc0 hc1
 have e : (((BitVec.ofInt (IntKind.bits .u64) (cx * 2 ^ min (Int.toNat (8 : Int)) (IntKind.bits .u64) % 256 ^ 8) ||| BitVec.ofInt (IntKind.bits .u64) ((c + 1) % 256)).toNat : Nat) : Int) = (256 * cx + (c + 1) % 256) % 256 ^ 8 := this
 rw [e, Int.emod_emod]
theorem one_u32 (c : Int) : IntKind.wrap .u32 (IntKind.wrap .u8 (c + (1 : Int))) = (c + 1) % 256 % 256 ^ 4 := by rw [wrap_u8, wrap_u32]
theorem one_u64 (c : Int) : IntKind.wrap .u64 (IntKind.wrap .u8 (c + (1 : Int))) = (c + 1) % 256 % 256 ^ 8 := by rw [wrap_u8, wrap_u64]
theorem not_bits (w : Nat) (x : Int) (h0 : 0 ≤ x) (h1 : x < (2 ^ w : Nat)) : ((BitVec.ofInt w ((2 ^ w : Nat) - 1) ^^^ BitVec.ofInt w x).toNat : Int) = (2 ^ w : Nat) - 1 - x := by
 obtain ⟨y, rfl⟩ : ∃ y : Nat, x = y := ⟨x.toNat, by omega⟩
 have e : BitVec.ofInt w (((2 ^ w : Nat) : Int) - 1) = BitVec.allOnes w := by
  apply BitVec.eq_of_toNat_eq
  rw [BitVec.toNat_ofInt, BitVec.toNat_allOnes, Int.emod_eq_of_lt (by omega) (by omega)]
  omega
 rw [e, BitVec.allOnes_xor, BitVec.toNat_not, BitVec.toNat_ofInt, Int.emod_eq_of_lt h0 h1]
 omega
theorem not_u32 {x : Int} (h0 : 0 ≤ x) (h1 : x < 256 ^ 4) : xorI .u32 x = 256 ^ 4 - 1 - x := by
 have := not_bits 32 x h0 h1
 unfold xorI
 rw [wrap_u32]
 have e : (((BitVec.ofInt (IntKind.bits .u32) (if IntKind.signed .u32 then -1 else IntKind.max .u32) ^^^ BitVec.ofInt (IntKind.bits .u32) x).toNat : Nat) : Int) = 256 ^ 4 - 1 - x := this
 rw [e]
 exact Int.emod_eq_of_lt (by omega) (by omega)
theorem not_u64 {x : Int} (h0 : 0 ≤ x) (h1 : x < 256 ^ 8) : xorI .u64 x = 256 ^ 8 - 1 - x := by
 have := not_bits 64 x h0 h1
 unfold xorI
 rw [wrap_u64]
 have e : (((BitVec.ofInt (IntKind.bits .u64) (if IntKind.signed .u64 then -1 else IntKind.max .u64) ^^^ BitVec.ofInt (IntKind.bits .u64) x).toNat : Nat) : Int) = 256 ^ 8 - 1 - x := this
 rw [e]
 exact Int.emod_eq_of_lt (by omega) (by omega)
structure InvZ (m0 : Mem) (kt ks : IntKind) (T : Nat → Int) (n tm bt ot ba oa bk ok : Nat) (f : Value) (K p : Nat) (en cx c0 : Int) (isS : Bool) (m : Mem) : Prop where
 L : Lv m kt ks T n tm bt ot ba oa bk ok f
 hs : SameK m0 m
 ho : Out m0 m (InRow ba oa n)
 it : It T n p c0 isS
 cr : 0 ≤ cx ∧ cx < 256 ^ K
 er : 0 ≤ en ∧ en ≤ n
 ln : LenInv T n K (fun q => m0.val ba (oa + q)) p en cx (fun q => m.val ba (oa + q))
end Go.Proofs.YtdhifgedhaapjaaGreatDoor
namespace Go.Proofs.YtdhifgedhaapjaaGreatDoor
open Go Sa
theorem length_73 {w0 : World} {m : Mem} {T : Nat → Int} {n tm bt ot ct ba oa ca bk ok : Nat} {f : Value} {nl : Int} {K : Value → Mem → Prop} (L : Lv m .u8 .i32 T n tm bt ot ba oa bk ok f)
  (hK : ∀ m', SameK m m' → Out m m' (InRow ba oa n) → Lv m' .u8 .i32 T n tm bt ot ba oa bk ok f → Coded T n 4 (fun q => m.val ba (oa + q)) (fun q => m'.val ba (oa + q)) → K (.tuple #[]) m') :
  callV Tryz.prog w0 73 [.slice (some ⟨bt, ot, none⟩) n ct, .slice (some ⟨ba, oa, none⟩) n ca, .int .i64 nl] m K := by
 have hn := L.hn
 let I : LI := fun ps ls m' => match ps, ls with
   | [.sl b o l c, .sl b' o' l' c'], [.iv _ en, .iv _ cx, .iv _ c0, .bv isS, .iv _ i] => (bt = b ∧ ot = o ∧ n = l ∧ ba = b' ∧ oa = o' ∧ n = l') ∧
     ∃ (p : Nat), i = (p : Int) - 1 ∧ InvZ m .u8 .i32 T n tm bt ot ba oa bk ok f 4 p en cx c0 isS m'
   | _, _ => False
 let mu : LM := fun _ ls => match ls with | [_, _, _, _, .iv _ i] => (i + 1).toNat | _ => 0
 refine C_F73 (I0 := I)
  (X0 := fun _ ps ls m' => ∃ (en cx c0 : Int) (isS : Bool), InvZ m .u8 .i32 T n tm bt ot ba oa bk ok f 4 0 en cx c0 isS m') (mu0 := mu) ?_ ?_
 ·intro bt' ot' lt' ct' ba' oa' la' ca' en cx c0 isS i k m' hI hmu
  obtain ⟨⟨rfl, rfl, rfl, rfl, rfl, rfl⟩, p, rfl, hJ⟩ := (show (_ ∧ _ ∧ _ ∧ _ ∧ _ ∧ _) ∧ ∃ (p : Nat), _ ∧ InvZ _ _ _ _ _ _ _ _ _ _ _ _ _ _ _ _ cx _ _ _ from hI)
  clear hI
  obtain ⟨L', hs, ho, it, cr, er, ln⟩ := hJ
  have hmu' : ((p : Int) - 1 + 1).toNat < k + 1 := hmu
  have leaf : ∀ {q : Nat} {en' cx' c' : Int} {b : Bool} {m2 : Mem}, p = q + 1 → InvZ m .u8 .i32 T n tm bt ot ba oa bk ok f 4 q en' cx' c' b m2 →
    KF1 L0_F73 I mu (P0_F73 bt ot n ct' ba oa n ca') k [.int .i64 en', .int .u32 cx', .int .u8 c', .bool b, .int .i64 ((q : Int) - 1)] m2 := fun {q _ _ _ _ _} hx h =>
   KF1_mk (And.intro (And.intro ⟨rfl, rfl, rfl, rfl, rfl, rfl⟩ ⟨q, rfl, h⟩) (show ((q : Int) - 1 + 1).toNat < k from by omega))
  clear_value I mu
  unfold R0_F73
  refine cond_of (fun hb => ?_) (fun hb => ?_)
  ·have hge : (p : Int) - 1 ≥ 0 := of_decide_eq_true hb
   obtain ⟨q, rfl⟩ : ∃ q, p = q + 1 := ⟨p - 1, by omega⟩
   have ex0 : ((q + 1 : Nat) : Int) - 1 = (q : Int) := by omega
   rw [ex0, Int.toNat_natCast]
   have hp := it.le
   have hq : q < n := by omega
   have hv := L'.tx.v q hq
   have hlo := L'.tx.lo q hq
   have hk1 := L'.tx.rd q hq
   have hr1 := L'.sro
   have hi64 : inR .i64 ((q : Int) - 1) := inR_i64 (by omega) (by omega)
   have hi65 : inR .i64 ((q : Int) + 1) := inR_i64 (by omega) (by omega)
   have hi66 : inR .i64 ((q : Int) + 1 + 1) := inR_i64 (by omega) (by omega)
   have hi67 : inR .i64 (en - ((q : Int) + 1)) := inR_i64 (by omega) (by omega)
   have hi68 : inR .i32 (en - ((q : Int) + 1)) := inR_i32 (by omega) (by omega)
   have sh : ((q : Int) + 1) / 2 ^ min (Int.toNat (1 : Int)) (IntKind.bits .i64) = (((q + 1) / 2 : Nat) : Int) := by
    show ((q : Int) + 1) / 2 ^ 1 = _
    omega
   rw [sh, Int.toNat_natCast]
   rw [step_u32, one_u32]
   have hcr : 0 ≤ (256 * cx + (c0 + 1) % 256) % 256 ^ 4 ∧ (256 * cx + (c0 + 1) % 256) % 256 ^ 4 < 256 ^ 4 := ⟨Int.emod_nonneg _ (by decide), Int.emod_lt_of_pos _ (by decide)⟩
   have hcr1 : 0 ≤ (T (q + 1) + 1) % 256 % 256 ^ 4 ∧ (T (q + 1) + 1) % 256 % 256 ^ 4 < 256 ^ 4 := ⟨Int.emod_nonneg _ (by decide), Int.emod_lt_of_pos _ (by decide)⟩
   have hct : q + 1 < n → c0 = T (q + 1) := it.lt
   have skip : ∀ {b : Bool}, It T n q (T q) b → ¬ Lms T n (q + 1) → InvZ m .u8 .i32 T n tm bt ot ba oa bk ok f 4 q en ((256 * cx + (c0 + 1) % 256) % 256 ^ 4) (T q) b m' :=
    fun it' hl => ⟨L', hs, ho, it', hcr, er, ln.skip hl hct⟩
   have put : ∀ {v : Int}, It T n q (T q) false → Lms T n (q + 1) → (en = 0 → v = 0) →
     (en ≠ 0 → v = if en - ((q : Int) + 1) ≤ 4 ∧ (n : Int) ≤ 256 ^ 4 - 1 - (256 * cx + (T (q + 1) + 1) % 256) % 256 ^ 4 then sgn (256 ^ 4) (256 ^ 4 - 1 - (256 * cx + (T (q + 1) + 1) % 256) % 256 ^ 4) else en - ((q : Int) + 1)) →
     InvZ m .u8 .i32 T n tm bt ot ba oa bk ok f 4 q ((q : Int) + 1 + 1) ((T (q + 1) + 1) % 256 % 256 ^ 4) (T q) false (m'.st ba (oa + (q + 1) / 2) v) := fun {v} it' hl h0 h1 => by
    have := hl.lt
    have hh : (q + 1) / 2 < n := by omega
    refine ⟨L'.stA hh _, hs.trans (SameK.st _ _ _ _), ho.st (InRow.mk hh) _, it', hcr1, by omega, (ln.down hl h0 h1).congr fun y => ?_⟩
    rw [st_val]
   repeat ((with_reducible refine And.intro ?_ ?_); · first | omega | with_reducible assumption | exact hk1 | exact hr1)
   intro z hz
   obtain rfl : z = T q := hz.symm.trans hv
   refine ⟨by decide, ?_⟩
   refine cond_of (fun hb1 => ?_) (fun hb1 => cond_of (fun hb2 => ?_) (fun hb2 => ?_))
   ·have hlt : T q < c0 := of_decide_eq_true hb1
    obtain ⟨it', hl⟩ := it.up hlo hlt
    exact ⟨hi64, leaf rfl (skip it' hl)⟩
   ·have hlt : ¬ T q < c0 := of_decide_eq_false hb1
    have hgt : T q > c0 := of_decide_eq_true hb2
    refine cond_of (fun hb3 => ?_) (fun hb3 => ?_)
    ·subst hb3
     obtain ⟨it', hl, hc0⟩ := it.down hgt
     have hq1 := hl.lt
     have hh : (q + 1) / 2 < n := by omega
     have hk2 := L'.sa _ hh
     subst hc0
     refine ⟨hi65, ?_⟩
     refine cond_of (fun hb4 => ?_) (fun hb4 => ?_)
     ·have he0 : en = 0 := eq_of_beq hb4
      repeat ((with_reducible refine And.intro ?_ ?_); · first | omega | with_reducible assumption | exact hk1 | exact hk2 | exact hr1)
      intro m1 hm1
      subst hm1
      refine ⟨hi66, hi64, leaf rfl (put it' hl (fun _ => rfl) fun h => absurd he0 h)⟩
     ·have he0 : en ≠ 0 := fun e => by rw [e] at hb4; exact absurd hb4 (by decide)
      rw [not_u32 hcr.1 hcr.2, show IntKind.wrap .u32 (n : Int) = (n : Int) from by rw [wrap_u32]; exact Int.emod_eq_of_lt (by omega) (by omega)]
      repeat ((with_reducible refine And.intro ?_ ?_); · first | omega | with_reducible assumption | exact hk1 | exact hk2 | exact hr1)
      refine cond_of (fun hb5 => ?_) (fun hb5 => ?_)
      ·have h5 : en - ((q : Int) + 1) ≤ 4 := of_decide_eq_true hb5
       refine cond_of (fun hb6 => ?_) (fun hb6 => ?_)
       ·have h6 : (n : Int) ≤ 256 ^ 4 - 1 - (256 * cx + (T (q + 1) + 1) % 256) % 256 ^ 4 := of_decide_eq_true hb6
        repeat ((with_reducible refine And.intro ?_ ?_); · first | omega | with_reducible assumption | exact hk1 | exact hk2 | exact hr1)
        intro m1 hm1
        subst hm1
        refine ⟨hi66, hi64, leaf rfl (put it' hl (fun h => absurd h he0) fun _ => ?_)⟩
        rw [if_pos ⟨h5, h6⟩]
        exact sgn_i32 (by omega) (by omega)
       ·have h6 : ¬ (n : Int) ≤ 256 ^ 4 - 1 - (256 * cx + (T (q + 1) + 1) % 256) % 256 ^ 4 := of_decide_eq_false hb6
        repeat ((with_reducible refine And.intro ?_ ?_); · first | omega | with_reducible assumption | exact hk1 | exact hk2 | exact hr1)
        intro m1 hm1
        subst hm1
        refine ⟨hi66, hi64, leaf rfl (put it' hl (fun h => absurd h he0) fun _ => ?_)⟩
        rw [if_neg fun h => h6 h.2]
      ·have h5 : ¬ en - ((q : Int) + 1) ≤ 4 := of_decide_eq_false hb5
       repeat ((with_reducible refine And.intro ?_ ?_); · first | omega | with_reducible assumption | exact hk1 | exact hk2 | exact hr1)
       intro m1 hm1
       subst hm1
       refine ⟨hi66, hi64, leaf rfl (put it' hl (fun h => absurd h he0) fun _ => ?_)⟩
       rw [if_neg fun h => h5 h.1]
    ·obtain ⟨it', hl⟩ := it.stay hlo hlt (fun _ => hb3)
     exact ⟨hi64, leaf rfl (skip it' hl)⟩
   ·have hlt : ¬ T q < c0 := of_decide_eq_false hb1
    have hgt : ¬ T q > c0 := of_decide_eq_false hb2
    obtain ⟨it', hl⟩ := it.stay hlo hlt (fun h => absurd h hgt)
    exact ⟨hi64, leaf rfl (skip it' hl)⟩
  ·have hge : ¬ (p : Int) - 1 ≥ 0 := of_decide_eq_false hb
   obtain rfl : p = 0 := by omega
   exact XF1_mk (show ∃ (en cx c0 : Int) (isS : Bool), InvZ _ _ _ _ _ _ _ _ _ _ _ _ _ _ _ _ _ _ _ _ from ⟨en, cx, c0, isS, L', hs, ho, it, cr, er, ln⟩)
 ·unfold M_F73
  have hi : inR .i64 ((n : Int) - 1) := inR_i64 (by omega) (by omega)
  have hp : (0 : Int) < 256 ^ 4 := by decide
  refine ⟨hi, And.intro ⟨rfl, rfl, rfl, rfl, rfl, rfl⟩ ⟨n, rfl, L, SameK.refl _, Out.refl _ _, It.start, ⟨Int.le_refl _, hp⟩, by omega, LenInv.start⟩, ?_⟩
  intro z1 z2 z3 z4 z5 m6 hX _
  obtain ⟨en, cx, c0, isS, J⟩ := (show ∃ (en cx c0 : Int) (isS : Bool), InvZ _ _ _ _ _ _ _ _ _ _ _ _ _ _ _ _ _ _ _ _ from hX)
  exact hK m6 J.hs J.ho J.L J.ln.fin
theorem length_108 {w0 : World} {m : Mem} {T : Nat → Int} {n tm bt ot ct ba oa ca bk ok : Nat} {f : Value} {nl : Int} {K : Value → Mem → Prop} (L : Lv m .i32 .i32 T n tm bt ot ba oa bk ok f)
  (hK : ∀ m', SameK m m' → Out m m' (InRow ba oa n) → Lv m' .i32 .i32 T n tm bt ot ba oa bk ok f → Coded T n 0 (fun q => m.val ba (oa + q)) (fun q => m'.val ba (oa + q)) → K (.tuple #[]) m') :
  callV Tryz.prog w0 108 [.slice (some ⟨bt, ot, none⟩) n ct, .slice (some ⟨ba, oa, none⟩) n ca, .int .i64 nl] m K := by
 have hn := L.hn
 let I : LI := fun ps ls m' => match ps, ls with
   | [.sl b o l c, .sl b' o' l' c'], [.iv _ en, .iv _ c0, .bv isS, .iv _ i] => (bt = b ∧ ot = o ∧ n = l ∧ ba = b' ∧ oa = o' ∧ n = l') ∧
     ∃ (p : Nat), i = (p : Int) - 1 ∧ InvZ m .i32 .i32 T n tm bt ot ba oa bk ok f 0 p en 0 c0 isS m'
   | _, _ => False
 let mu : LM := fun _ ls => match ls with | [_, _, _, .iv _ i] => (i + 1).toNat | _ => 0
 refine C_F108 (I0 := I)
  (X0 := fun _ ps ls m' => ∃ (en cx c0 : Int) (isS : Bool), InvZ m .i32 .i32 T n tm bt ot ba oa bk ok f 0 0 en cx c0 isS m') (mu0 := mu) ?_ ?_
 ·intro bt' ot' lt' ct' ba' oa' la' ca' en c0 isS i k m' hI hmu
  let cx : Int := 0
  obtain ⟨⟨rfl, rfl, rfl, rfl, rfl, rfl⟩, p, rfl, hJ⟩ := (show (_ ∧ _ ∧ _ ∧ _ ∧ _ ∧ _) ∧ ∃ (p : Nat), _ ∧ InvZ _ _ _ _ _ _ _ _ _ _ _ _ _ _ _ _ cx _ _ _ from hI)
  clear hI
  obtain ⟨L', hs, ho, it, cr, er, ln⟩ := hJ
  have hmu' : ((p : Int) - 1 + 1).toNat < k + 1 := hmu
  have leaf : ∀ {q : Nat} {en' cx' c' : Int} {b : Bool} {m2 : Mem}, p = q + 1 → InvZ m .i32 .i32 T n tm bt ot ba oa bk ok f 0 q en' cx' c' b m2 →
    KF1 L0_F108 I mu (P0_F108 bt ot n ct' ba oa n ca') k [.int .i64 en', .int .i32 c', .bool b, .int .i64 ((q : Int) - 1)] m2 := fun {q en' cx' c' b m2} hx h =>
   KF1_mk (And.intro (And.intro ⟨rfl, rfl, rfl, rfl, rfl, rfl⟩ ⟨q, rfl, by have h2 := h.cr; rw [Int.pow_zero] at h2; obtain rfl : cx' = 0 := (by omega); exact h⟩) (show ((q : Int) - 1 + 1).toNat < k from by omega))
  clear_value I mu
  clear_value cx
  unfold R0_F108
  refine cond_of (fun hb => ?_) (fun hb => ?_)
  ·have hge : (p : Int) - 1 ≥ 0 := of_decide_eq_true hb
   obtain ⟨q, rfl⟩ : ∃ q, p = q + 1 := ⟨p - 1, by omega⟩
   have ex0 : ((q + 1 : Nat) : Int) - 1 = (q : Int) := by omega
   rw [ex0, Int.toNat_natCast]
   have hp := it.le
   have hq : q < n := by omega
   have hv := L'.tx.v q hq
   have hlo := L'.tx.lo q hq
   have hk1 := L'.tx.rd q hq
   have hr1 := L'.sro
   have hi64 : inR .i64 ((q : Int) - 1) := inR_i64 (by omega) (by omega)
   have hi65 : inR .i64 ((q : Int) + 1) := inR_i64 (by omega) (by omega)
   have hi66 : inR .i64 ((q : Int) + 1 + 1) := inR_i64 (by omega) (by omega)
   have hi67 : inR .i64 (en - ((q : Int) + 1)) := inR_i64 (by omega) (by omega)
   have hi68 : inR .i32 (en - ((q : Int) + 1)) := inR_i32 (by omega) (by omega)
   have sh : ((q : Int) + 1) / 2 ^ min (Int.toNat (1 : Int)) (IntKind.bits .i64) = (((q + 1) / 2 : Nat) : Int) := by
    show ((q : Int) + 1) / 2 ^ 1 = _
    omega
   rw [sh, Int.toNat_natCast]
   have hcr : 0 ≤ (256 * cx + (c0 + 1) % 256) % 256 ^ 0 ∧ (256 * cx + (c0 + 1) % 256) % 256 ^ 0 < 256 ^ 0 := ⟨Int.emod_nonneg _ (by decide), Int.emod_lt_of_pos _ (by decide)⟩
   have hcr1 : 0 ≤ (T (q + 1) + 1) % 256 % 256 ^ 0 ∧ (T (q + 1) + 1) % 256 % 256 ^ 0 < 256 ^ 0 := ⟨Int.emod_nonneg _ (by decide), Int.emod_lt_of_pos _ (by decide)⟩
   have hct : q + 1 < n → c0 = T (q + 1) := it.lt
   have skip : ∀ {b : Bool}, It T n q (T q) b → ¬ Lms T n (q + 1) → InvZ m .i32 .i32 T n tm bt ot ba oa bk ok f 0 q en ((256 * cx + (c0 + 1) % 256) % 256 ^ 0) (T q) b m' :=
    fun it' hl => ⟨L', hs, ho, it', hcr, er, ln.skip hl hct⟩
   have put : ∀ {v : Int}, It T n q (T q) false → Lms T n (q + 1) → (en = 0 → v = 0) →
     (en ≠ 0 → v = if en - ((q : Int) + 1) ≤ 0 ∧ (n : Int) ≤ 256 ^ 0 - 1 - (256 * cx + (T (q + 1) + 1) % 256) % 256 ^ 0 then sgn (256 ^ 0) (256 ^ 0 - 1 - (256 * cx + (T (q + 1) + 1) % 256) % 256 ^ 0) else en - ((q : Int) + 1)) →
     InvZ m .i32 .i32 T n tm bt ot ba oa bk ok f 0 q ((q : Int) + 1 + 1) ((T (q + 1) + 1) % 256 % 256 ^ 0) (T q) false (m'.st ba (oa + (q + 1) / 2) v) := fun {v} it' hl h0 h1 => by
    have := hl.lt
    have hh : (q + 1) / 2 < n := by omega
    refine ⟨L'.stA hh _, hs.trans (SameK.st _ _ _ _), ho.st (InRow.mk hh) _, it', hcr1, by omega, (ln.down hl h0 h1).congr fun y => ?_⟩
    rw [st_val]
   repeat ((with_reducible refine And.intro ?_ ?_); · first | omega | with_reducible assumption | exact hk1 | exact hr1)
   intro z hz
   obtain rfl : z = T q := hz.symm.trans hv
   refine cond_of (fun hb1 => ?_) (fun hb1 => cond_of (fun hb2 => ?_) (fun hb2 => ?_))
   ·have hlt : T q < c0 := of_decide_eq_true hb1
    obtain ⟨it', hl⟩ := it.up hlo hlt
    exact ⟨hi64, leaf rfl (skip it' hl)⟩
   ·have hlt : ¬ T q < c0 := of_decide_eq_false hb1
    have hgt : T q > c0 := of_decide_eq_true hb2
    refine cond_of (fun hb3 => ?_) (fun hb3 => ?_)
    ·subst hb3
     obtain ⟨it', hl, hc0⟩ := it.down hgt
     have hq1 := hl.lt
     have hh : (q + 1) / 2 < n := by omega
     have hk2 := L'.sa _ hh
     subst hc0
     refine ⟨hi65, ?_⟩
     refine cond_of (fun hb4 => ?_) (fun hb4 => ?_)
     ·have he0 : en = 0 := eq_of_beq hb4
      repeat ((with_reducible refine And.intro ?_ ?_); · first | omega | with_reducible assumption | exact hk1 | exact hk2 | exact hr1)
      intro m1 hm1
      subst hm1
      refine ⟨hi66, hi64, leaf rfl (put it' hl (fun _ => rfl) fun h => absurd he0 h)⟩
     ·have he0 : en ≠ 0 := fun e => by rw [e] at hb4; exact absurd hb4 (by decide)
      repeat ((with_reducible refine And.intro ?_ ?_); · first | omega | with_reducible assumption | exact hk1 | exact hk2 | exact hr1)
      intro m1 hm1
      subst hm1
      refine ⟨hi66, hi64, leaf rfl (put it' hl (fun h => absurd h he0) fun _ => ?_)⟩
      rw [if_neg]
      rintro ⟨h5, h6⟩
      rcases ln.en with ⟨g1, _⟩ | ⟨e, g1, g2, _⟩
      ·exact he0 g1
      ·have := g2.2.1
       omega
    ·obtain ⟨it', hl⟩ := it.stay hlo hlt (fun _ => hb3)
     exact ⟨hi64, leaf rfl (skip it' hl)⟩
   ·have hlt : ¬ T q < c0 := of_decide_eq_false hb1
    have hgt : ¬ T q > c0 := of_decide_eq_false hb2
    obtain ⟨it', hl⟩ := it.stay hlo hlt (fun h => absurd h hgt)
    exact ⟨hi64, leaf rfl (skip it' hl)⟩
  ·have hge : ¬ (p : Int) - 1 ≥ 0 := of_decide_eq_false hb
   obtain rfl : p = 0 := by omega
   exact XF1_mk (show ∃ (en cx c0 : Int) (isS : Bool), InvZ _ _ _ _ _ _ _ _ _ _ _ _ _ _ _ _ _ _ _ _ from ⟨en, cx, c0, isS, L', hs, ho, it, cr, er, ln⟩)
 ·unfold M_F108
  have hi : inR .i64 ((n : Int) - 1) := inR_i64 (by omega) (by omega)
  have hp : (0 : Int) < 256 ^ 0 := by decide
  refine ⟨hi, And.intro ⟨rfl, rfl, rfl, rfl, rfl, rfl⟩ ⟨n, rfl, L, SameK.refl _, Out.refl _ _, It.start, ⟨Int.le_refl _, hp⟩, by omega, LenInv.start⟩, ?_⟩
  intro z1 z2 z3 z4 m6 hX _
  obtain ⟨en, cx, c0, isS, J⟩ := (show ∃ (en cx c0 : Int) (isS : Bool), InvZ _ _ _ _ _ _ _ _ _ _ _ _ _ _ _ _ _ _ _ _ from hX)
  exact hK m6 J.hs J.ho J.L J.ln.fin
end Go.Proofs.YtdhifgedhaapjaaGreatDoor

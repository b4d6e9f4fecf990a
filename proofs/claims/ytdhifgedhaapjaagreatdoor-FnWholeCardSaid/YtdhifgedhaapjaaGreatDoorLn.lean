/- The whole sorting, on one level: what it needs and what it leaves. -/
import Derived.Test.YtdhifgedhaapjaaGreatDoorLi
import Derived.Test.YtdhifgedhaapjaaGreatDoorLj
import Derived.Test.YtdhifgedhaapjaaGreatDoorLk
import Derived.Test.YtdhifgedhaapjaaGreatDoorLl
import Derived.Test.YtdhifgedhaapjaaGreatDoorLm
import Derived.Test.YtdhifgedhaapjaaGreatDoorLh
namespace Go.Proofs.YtdhifgedhaapjaaGreatDoor
open Go Sa
def WT (m : Mem) (ba oa n bp op lp : Nat) : Nat → Nat → Prop := fun x y => InRow ba oa n x y ∨ InRow bp op lp x y ∨ m.fresh x
structure SPre (m : Mem) (kt ks : IntKind) (T : Nat → Int) (n tm bt ot ct ba oa ca bp op lp cp : Nat) : Prop where
 hn : n ≤ 1000000
 t1 : 1 ≤ tm
 t2 : tm ≤ 1000000
 tl : tm ≤ lp
 lc : lp ≤ cp
 hct : n ≤ ct
 hca : n ≤ ca
 tx : Tx m kt bt ot n tm T
 sa : Rd m ks ba oa n
 sro : m.ro ba = false
 tp : Rd m ks bp op lp
 tro : m.ro bp = false
 aat : Apart ba oa n bt ot n
 apt : Apart bp op lp bt ot n
 apa : Apart bp op lp ba oa n
 z : ∀ x, x < n → m.val ba (oa + x) = 0
structure SPost (m : Mem) (T : Nat → Int) (n ba oa bp op lp : Nat) (m' : Mem) : Prop where
 hs : SameK m m'
 ho : Out m m' (WT m ba oa n bp op lp)
 tp : m'.val bp op = -1 ∨ ∀ i, i < lp → m'.val bp (op + i) = m.val bp (op + i)
 sa : SA T n (fun x => m'.val ba (oa + x))
structure RPre (m : Mem) (ks : IntKind) (U : Nat → Int) (n nl mx ba oa ca bp op lp cp : Nat) : Prop where
 hn : n ≤ 1000000
 h1 : 1 ≤ nl
 h2 : 2 * nl + 1 ≤ n
 m1 : 1 ≤ mx
 m2 : mx < nl
 l1 : 1 ≤ lp
 lc : lp ≤ cp
 hca : n ≤ ca
 tx : Tx m ks ba (oa + (n - nl)) nl mx U
 sa : Rd m ks ba oa n
 sro : m.ro ba = false
 tp : Rd m ks bp op lp
 tro : m.ro bp = false
 apa : Apart bp op lp ba oa n
structure RPost (m : Mem) (U : Nat → Int) (n nl ba oa bp op lp : Nat) (m' : Mem) : Prop where
 hs : SameK m m'
 ho : Out m m' (WT m ba oa n bp op lp)
 tp : m'.val bp op = -1 ∨ ∀ i, i < lp → m'.val bp (op + i) = m.val bp (op + i)
 sa : SA U nl (fun x => m'.val ba (oa + x))
structure SH (m : Mem) (ba oa n bp op lp : Nat) (m1 : Mem) : Prop where
 hs : SameK m m1
 ho : Out m m1 (WT m ba oa n bp op lp)
 z1 : ∀ x, x < n → m1.val ba (oa + x) = 0
theorem Rd.not_fresh {m : Mem} {k : IntKind} {b o l : Nat} (h : Rd m k b o l) (hl : 1 ≤ l) : ¬ m.fresh b := fun hf => by
 have := h 0 (by omega); rw [(hf _).1] at this; cases this
theorem Rd.ne_fresh {m : Mem} {k : IntKind} {b o l : Nat} (h : Rd m k b o l) (hl : 1 ≤ l) {b' : Nat} (hf : m.fresh b') : b ≠ b' := fun e => h.not_fresh hl (e ▸ hf)
theorem Tx.wt {m m' : Mem} {kt : IntKind} {T : Nat → Int} {n tm bt ot ba oa la bp op lp : Nat} (h : Tx m kt bt ot n tm T) (hs : SameK m m') (ho : Out m m' (WT m ba oa la bp op lp))
  (h1 : Apart ba oa la bt ot n) (h2 : Apart bp op lp bt ot n) : Tx m' kt bt ot n tm T :=
 h.keep hs fun i hi => ho _ _ (by
  rintro (h3 | h3 | h3)
  ·exact h1.not_row h3 (InRow.mk hi)
  ·exact h2.not_row h3 (InRow.mk hi)
  ·exact h.rd.not_fresh (by omega) h3)
theorem Out.wt {a b c : Mem} {ba oa n bp op lp : Nat} (hs : SameK a b) (h : Out a b (WT a ba oa n bp op lp)) (h' : Out b c (WT b ba oa n bp op lp)) : Out a c (WT a ba oa n bp op lp) :=
 h.trans (h'.mono fun x y hw => hw.imp id (.imp id fun hf => hs.fresh hf))
def FrIn (f : Value) (bp op tm : Nat) : Prop := f = .slice none 0 0 ∨ ∃ c, f = .slice (some ⟨bp, op, none⟩) tm c
theorem FrOK.back {m m' : Mem} {ks : IntKind} {T : Nat → Int} {n tm bt ot bk ok ba oa bp op lp : Nat} {f : Value} (h : FrOK m ks T n tm bt ot bk ok ba oa f) (hf : FrIn f bp op tm) (hs : SameK m m')
  (hl : tm ≤ lp) (h1 : 1 ≤ tm) (hv : m'.val bp op = -1 ∨ ∀ i, i < lp → m'.val bp (op + i) = m.val bp (op + i)) : FrOK m' ks T n tm bt ot bk ok ba oa f := by
 rcases hf with rfl | ⟨c, rfl⟩
 ·exact .nil
 ·cases h with
  | row hc hF hr ht hk ha hok =>
   refine .row hc (hs.rd hF) (hs.ro hr) ht hk ha fun h0 c' hc' => ?_
   rcases hv with hv | hv
   ·rw [hv] at h0; omega
   ·have e0 := hv 0 (by omega)
    rw [Nat.add_zero] at e0
    rw [hv c' (by omega)]
    exact hok (by rw [← e0]; exact h0) c' hc'
theorem Sa.SA.congr {T : Nat → Int} {n : Nat} {A A' : Nat → Int} (h : SA T n A) (hA : ∀ q, q < n → A' q = A q) : SA T n A' :=
 ⟨fun p hp => by rw [hA p hp]; exact h.a p hp, fun j hj => by obtain ⟨p, h1, h2⟩ := h.z j hj; exact ⟨p, h1, by rw [hA p h1]; exact h2⟩,
  fun p q i j h1 h2 => by rw [hA p (by omega), hA q h2]; exact h.e p q i j h1 h2⟩
theorem Sa.SA.nil {T : Nat → Int} {A : Nat → Int} : SA T 0 A := ⟨fun p hp => by omega, fun j hj => by omega, fun p q i j h1 h2 => by omega⟩
theorem Sa.SA.one {T : Nat → Int} {A : Nat → Int} (h : A 0 = 0) : SA T 1 A :=
 ⟨fun p hp => ⟨0, by obtain rfl : p = 0 := (by omega); exact h, by omega⟩, fun j hj => ⟨0, by omega, by rw [h]; omega⟩, fun p q i j h1 h2 => by omega⟩
theorem names_tx {m : Mem} {ks : IntKind} {T : Nat → Int} {n ba oa mx : Nat} {rk : Nat → Nat} (hid : Ids T n rk mx) (hr : Rd m ks ba oa n)
  (hv : ∀ k, Lms T n k → m.val ba (oa + (n - nlms T n) + rank T n k) = (rk k : Int) - 1) : Tx m ks ba (oa + (n - nlms T n)) (nlms T n) mx (fun x => m.val ba (oa + (n - nlms T n) + x)) := by
 have hm : nlms T n ≤ n := cn_le_self _ _
 refine ⟨fun i hi => ?_, fun _ _ => rfl, fun x hx => ?_, fun x hx => ?_⟩
 ·rw [Nat.add_assoc]; exact hr _ (by omega)
 ·obtain ⟨k, hk, rfl⟩ := rank_find hx
  have := hid.lo k hk
  simp only [hv k hk]; omega
 ·obtain ⟨k, hk, rfl⟩ := rank_find hx
  have := hid.hi k hk
  have := hid.lo k hk
  simp only [hv k hk]; omega
end Go.Proofs.YtdhifgedhaapjaaGreatDoor
namespace Go.Proofs.YtdhifgedhaapjaaGreatDoor
open Go Sa
def RecOK_76 (w0 : World) (n : Nat) : Prop := ∀ {m : Mem} {U : Nat → Int} {nl mx ba oa ca bp op lp cp : Nat} {K : Value → Mem → Prop}, RPre m .i32 U n nl mx ba oa ca bp op lp cp →
 (∀ m', RPost m U n nl ba oa bp op lp m' → K (.tuple #[]) m') → callV Tryz.prog w0 76 [.slice (some ⟨ba, oa, none⟩) n ca, .slice (some ⟨bp, op, none⟩) lp cp, .int .i64 nl, .int .i64 mx] m K
def SaisOK_99 (w0 : World) (n : Nat) : Prop := ∀ {m : Mem} {T : Nat → Int} {tm bt ot ct ba oa ca bp op lp cp : Nat} {K : Value → Mem → Prop}, SPre m .i32 .i32 T n tm bt ot ct ba oa ca bp op lp cp →
 (∀ m', SPost m T n ba oa bp op lp m' → K (.tuple #[]) m') → callV Tryz.prog w0 99 [.slice (some ⟨bt, ot, none⟩) n ct, .int .i64 tm, .slice (some ⟨ba, oa, none⟩) n ca, .slice (some ⟨bp, op, none⟩) lp cp] m K
theorem rec_76 {w0 : World} {n : Nat} (ih : ∀ n', n' < n → SaisOK_99 w0 n') : RecOK_76 w0 n := by
 intro m U nl mx ba oa ca bp op lp cp K R hK
 refine C_F76 ?_
 unfold M_F76
 have hn := R.hn
 have h1 := R.h1
 have h2 := R.h2
 have hm1 := R.m1
 have hm2 := R.m2
 have hca := R.hca
 have hlc := R.lc
 have hl1 := R.l1
 have e1 : Int.toNat ((n : Int) - (nl : Int)) = n - nl := by omega
 have e2 : n - (n - nl) = nl := by omega
 have e3 : n - nl - nl = n - 2 * nl := by omega
 have e4 : Int.toNat ((nl : Int) / (2 : Int)) = nl / 2 := by omega
 have e5 : ((nl : Int) / (2 : Int)) = ((nl / 2 : Nat) : Int) := by omega
 rw [e1, e2, Int.toNat_natCast, Int.toNat_natCast, e3, e4]
 have hi1 : inR .i64 ((n : Int) - (nl : Int)) := inR_i64 (by omega) (by omega)
 have hi2 : inR .i64 ((nl : Int) / (2 : Int)) := inR_i64 (by omega) (by omega)
 have tail : ∀ {m0 : Mem} {bq oq lq cq : Nat}, SameK m m0 → (∀ b o, ¬ m.fresh b → m0.val b o = m.val b o) → mx ≤ lq → lq ≤ cq → Rd m0 .i32 bq oq lq → m0.ro bq = false →
   Apart bq oq lq ba oa nl → Apart bq oq lq ba (oa + (n - nl)) nl → (∀ x y, InRow bq oq lq x y → WT m ba oa n bp op lp x y) →
   (∀ m5 : Mem, (m5.val bq oq = -1 ∨ ∀ i, i < lq → m5.val bq (oq + i) = m0.val bq (oq + i)) → Out m0 m5 (WT m0 ba oa nl bq oq lq) → m5.val bp op = -1 ∨ ∀ i, i < lp → m5.val bp (op + i) = m.val bp (op + i)) →
   (∀ i, i < nl → m0.kd ba (oa + i) = some .i32) ∧ m0.ro ba = false ∧ ∀ m3, m3 = Mem.fill m0 ba oa nl 0 → callV Tryz.prog w0 99 [.slice (some ⟨ba, oa + (n - nl), none⟩) nl (ca - (n - nl)), .int .i64 mx, .slice (some ⟨ba, oa, none⟩) nl ca, .slice (some ⟨bq, oq, none⟩) lq cq] m3 fun _ m5 => K (.tuple #[]) m5 := by
  intro m0 bq oq lq cq hs hval hlq hcq hq hqr ha1 ha2 hw htp
  have hsa := hs.rd R.sa
  have hsr := hs.ro R.sro
  refine ⟨fun i hi => hsa i (by omega), hsr, ?_⟩
  rintro m3 rfl
  have hnf : ∀ b o, ¬ m.fresh b → (b = ba → o < oa ∨ oa + nl ≤ o) → (Mem.fill m0 ba oa nl 0).val b o = m.val b o := fun b o h h' => by
   simp only [Mem.fill]
   rw [if_neg (by rintro ⟨rfl, g1, g2⟩; have := h' rfl; omega)]
   exact hval b o h
  have hbf := R.sa.not_fresh (by omega)
  refine ih nl (by omega) (T := U) ⟨by omega, hm1, by omega, hlq, hcq, by omega, by omega, ?_, fun i hi => hsa i (by omega), hsr, hq, hqr, .inr (.inl (by omega)), ha2, ha1, fun x hx => ?_⟩ fun m5 P => hK m5 ⟨?_, ?_, ?_, P.sa⟩
  ·refine ⟨hs.rd R.tx.rd, fun i hi => ?_, R.tx.lo, R.tx.hi⟩
   rw [hnf _ _ hbf (fun _ => by omega)]; exact R.tx.v i hi
  ·simp only [Mem.fill]; rw [if_pos ⟨trivial, by omega, by omega⟩]
  ·exact hs.trans P.hs
  ·have ho0 : Out m m0 (WT m ba oa n bp op lp) := fun x y hn => hval x y fun hf => hn (.inr (.inr hf))
   have ho1 : Out m (Mem.fill m0 ba oa nl 0) (WT m ba oa n bp op lp) := ho0.trans ((Out.fill m0 ba oa nl 0).mono fun x y hw => .inl ⟨hw.1, hw.2.1, by have := hw.2.2; omega⟩)
   refine ho1.trans (P.ho.mono fun x y hw' => ?_)
   rcases hw' with h | h | h
   ·exact .inl ⟨h.1, h.2.1, by have := h.2.2; omega⟩
   ·exact hw x y h
   ·exact .inr (.inr (hs.fresh h))
  ·have hap : ∀ i, i < lq → (Mem.fill m0 ba oa nl 0).val bq (oq + i) = m0.val bq (oq + i) := fun i hi => (Out.fill m0 ba oa nl 0).row (Apart.symm ha1) hi
   refine htp m5 ?_ ?_
   ·rcases P.tp with h | h
    ·exact .inl h
    ·exact .inr fun i hi => (h i hi).trans (hap i hi)
   ·exact (((Out.fill m0 ba oa nl 0).mono fun x y h => .inl h)).trans (P.ho.mono fun x y h => h)
 have fresh : ∀ {B L : Nat}, m.fresh B → mx ≤ L → (∀ i, i < nl → (Mem.new m B .i32 L (fun _ => 0)).kd ba (oa + i) = some .i32) ∧ (Mem.new m B .i32 L (fun _ => 0)).ro ba = false ∧ ∀ m3, m3 = Mem.fill (Mem.new m B .i32 L (fun _ => 0)) ba oa nl 0 → callV Tryz.prog w0 99 [.slice (some ⟨ba, oa + (n - nl), none⟩) nl (ca - (n - nl)), .int .i64 mx, .slice (some ⟨ba, oa, none⟩) nl ca, .slice (some ⟨B, 0, none⟩) L L] m3 fun _ m5 => K (.tuple #[]) m5 := by
  intro B L hB hL
  have hba := R.sa.ne_fresh (by omega) hB
  have hbp := R.tp.ne_fresh hl1 hB
  refine tail (SameK.new hB _ _ _) (fun b o hf => ?_) hL (Nat.le_refl _) (fun i hi => ?_) ?_ (.inl (Ne.symm hba)) (.inl (Ne.symm hba)) (fun x y h => .inr (.inr (h.1 ▸ hB))) fun m5 _ ho => .inr fun i hi => ?_
  ·have : b ≠ B := fun e => hf (e ▸ hB)
   simp only [Mem.new, this, if_false]
  ·simp only [Mem.new, if_true]; rw [if_pos (by omega)]
  ·simp only [Mem.new, if_true]
  ·have e : (Mem.new m B .i32 L (fun _ => 0)).val bp (op + i) = m.val bp (op + i) := by simp only [Mem.new, hbp, if_false]
   rw [← e]
   refine ho _ _ ?_
   rintro (h | h | h)
   ·exact R.apa.not_row (InRow.mk hi) ⟨h.1, h.2.1, by have := h.2.2; omega⟩
   ·exact hbp h.1
   ·exact R.tp.not_fresh hl1 ((SameK.new hB _ _ _).fresh h)
 refine ⟨by omega, by omega, hi1, by omega, by omega, by omega, by omega, hi1, by omega, by omega, by omega, ?_⟩
 refine cond_of (fun hb => ?_) (fun hb => ?_)
 ·have hlt : (lp : Int) < ((n - 2 * nl : Nat) : Int) := of_decide_eq_true hb
  refine cond_of (fun hb1 => ?_) (fun hb1 => ?_)
  ·refine ⟨by omega, by omega, hi2, ?_⟩
   refine cond_of (fun hb2 => ?_) (fun hb2 => ?_)
   ·have := of_decide_eq_true hb2
    refine ⟨by omega, by omega, hi2, by omega, by omega, by omega, ?_⟩
    rintro B hB m2 rfl
    exact fresh hB (by omega)
   ·have := of_decide_eq_false hb2
    refine ⟨by omega, by omega, by omega, ?_⟩
    rintro B hB m2 rfl
    exact fresh hB (by omega)
  ·have hge : ¬ ((n - 2 * nl : Nat) : Int) < (nl : Int) := of_decide_eq_false hb1
   refine tail (SameK.refl m) (fun _ _ _ => rfl) (by omega) (by omega) (fun i hi => ?_) R.sro (.inr (.inr (by omega))) (.inr (.inl (by omega))) (fun x y h => .inl ⟨h.1, by have := h.2.1; omega, by have := h.2.2; omega⟩) fun m5 _ ho => .inr fun i hi => ho _ _ ?_
   ·rw [Nat.add_assoc]; exact R.sa _ (by omega)
   ·rintro (h | h | h)
    ·exact R.apa.not_row (InRow.mk hi) ⟨h.1, h.2.1, by have := h.2.2; omega⟩
    ·exact R.apa.not_row (InRow.mk hi) ⟨h.1, by have := h.2.1; omega, by have := h.2.2; omega⟩
    ·exact R.tp.not_fresh hl1 h
 ·have hlt : ¬ (lp : Int) < ((n - 2 * nl : Nat) : Int) := of_decide_eq_false hb
  refine cond_of (fun hb1 => ?_) (fun hb1 => ?_)
  ·refine ⟨by omega, by omega, hi2, ?_⟩
   refine cond_of (fun hb2 => ?_) (fun hb2 => ?_)
   ·have := of_decide_eq_true hb2
    refine ⟨by omega, by omega, hi2, by omega, by omega, by omega, ?_⟩
    rintro B hB m2 rfl
    exact fresh hB (by omega)
   ·have := of_decide_eq_false hb2
    refine ⟨by omega, by omega, by omega, ?_⟩
    rintro B hB m2 rfl
    exact fresh hB (by omega)
  ·have hge : ¬ (lp : Int) < (nl : Int) := of_decide_eq_false hb1
   refine tail (SameK.refl m) (fun _ _ _ => rfl) (by omega) hlc R.tp R.tro (R.apa.sub (Nat.le_refl _) (Nat.le_refl _) (Nat.le_refl _) (by omega)) (R.apa.sub (Nat.le_refl _) (Nat.le_refl _) (by omega) (by omega)) (fun x y h => .inr (.inl h)) fun m5 h _ => h
end Go.Proofs.YtdhifgedhaapjaaGreatDoor
namespace Go.Proofs.YtdhifgedhaapjaaGreatDoor
open Go Sa
theorem sais_46 {w0 : World} {m : Mem} {T : Nat → Int} {n tm bt ot ct ba oa ca bp op lp cp : Nat} {K : Value → Mem → Prop} (S : SPre m .u8 .i32 T n tm bt ot ct ba oa ca bp op lp cp) (htm : tm = 256) (hrec : RecOK_76 w0 n)
  (hK : ∀ m', SPost m T n ba oa bp op lp m' → K (.tuple #[]) m') :
  callV Tryz.prog w0 46 [.slice (some ⟨bt, ot, none⟩) n ct, .int .i64 tm, .slice (some ⟨ba, oa, none⟩) n ca, .slice (some ⟨bp, op, none⟩) lp cp] m K := by
 refine C_F46 ?_
 unfold M_F46
 have hn := S.hn
 have ht1 := S.t1
 have ht2 := S.t2
 have hlp := S.tl
 have hlc := S.lc
 have hct := S.hct
 have hca := S.hca
 have hby : Bytes T n 4 := .inr fun i hi => ⟨S.tx.lo i hi, by have := S.tx.hi i hi; omega⟩
 refine cond_of (fun hb => ?_) (fun _ => ?_)
 ·simp at hb
 refine cond_of (fun hb => ?_) (fun _ => ?_)
 ·have := of_decide_eq_true hb; omega
 refine cond_of (fun hb => ?_) (fun hb0 => ?_)
 ·obtain rfl : n = 0 := by have := eq_of_beq hb; omega
  exact hK m ⟨SameK.refl m, Out.refl _ _, .inr fun _ _ => rfl, SA.nil⟩
 refine cond_of (fun hb => ?_) (fun hb1 => ?_)
 ·obtain rfl : n = 1 := by have := eq_of_beq hb; omega
  refine ⟨by omega, by omega, S.sa 0 (by omega), S.sro, ?_⟩
  rintro m1 rfl
  refine hK _ ⟨SameK.st _ _ _ _, (Out.refl m _).st (.inl (InRow.mk (by omega))) _, .inr fun i hi => ?_, SA.one ?_⟩
  ·exact ((Out.refl m _).st (InRow.mk (l := 1) (by omega)) _).row S.apa.symm hi
  ·exact st_same _ _ _ _
 have hn2 : 2 ≤ n := by
  rcases Nat.lt_or_ge n 2 with h | h
  ·rcases (show n = 0 ∨ n = 1 by omega) with rfl | rfl
   ·exact absurd hb0 (by decide)
   ·exact absurd hb1 (by decide)
  ·exact h
 have hi2 : inR .i64 ((2 : Int) * (tm : Int)) := inR_i64 (by omega) (by omega)
 have e1 : Int.toNat ((2 : Int) * (tm : Int)) = 2 * tm := by omega
 have e2 : 2 * tm - tm = tm := by omega
 rw [Int.toNat_natCast, e1, e2, show Int.toNat (0 : Int) = 0 by rfl, Nat.add_zero]
 refine ⟨hi2, ?_⟩
 have fin : ∀ m', SameK m m' → Out m m' (WT m ba oa n bp op lp) → SA T n (fun x => m'.val ba (oa + x)) →
   0 ≤ (0 : Int) ∧ (0 : Int) < (lp : Int) ∧ m'.kd bp op = some .i32 ∧ m'.ro bp = false ∧ ∀ m10, m10 = Mem.st m' bp op (-1 : Int) → K (.tuple #[]) m10 := by
  intro m' hs ho hsa
  refine ⟨by omega, by omega, hs.rd S.tp 0 (by omega), hs.ro S.tro, ?_⟩
  rintro m10 rfl
  refine hK _ ⟨hs.trans (SameK.st _ _ _ _), ho.st (.inr (.inl (InRow.mk (i := 0) (by omega)))) _, .inl (st_same _ _ _ _), hsa.congr fun q hq => ?_⟩
  exact st_apart (i := 0) S.apa _ (by omega) hq
 refine cond_of (fun hb2 => ?_) (fun hb2 => ?_)
 ·have hge : (lp : Int) ≥ (2 : Int) * (tm : Int) := of_decide_eq_true hb2
  refine ⟨by omega, by omega, hi2, by omega, by omega, by omega, by omega, by omega, by omega, S.tp 0 (by omega), S.tro, ?_⟩
  intro m1 hm1
  have hs1 : SameK m m1 := by rw [hm1]; exact SameK.st _ _ _ _
  have ho1 : Out m m1 (InRow bp op lp) := by rw [hm1]; exact (Out.refl m _).st (InRow.mk (i := 0) (by omega)) _
  have L1 : Lv m1 .u8 .i32 T n tm bt ot ba oa bp (op + tm) (.slice (some ⟨bp, op, none⟩) tm cp) := by
   refine ⟨hn, ht1, ht2, S.tx.keep hs1 fun i hi => ho1.row S.apt hi, hs1.rd S.sa, hs1.ro S.sro, fun i hi => ?_, hs1.ro S.tro, S.aat, S.apt.sub (by omega) (by omega) (by omega) (by omega), S.apa.sub (by omega) (by omega) (by omega) (by omega), ?_⟩
   ·rw [Nat.add_assoc]; exact hs1.rd S.tp _ (by omega)
   ·refine .row (by omega) ((hs1.rd S.tp).le hlp) (hs1.ro S.tro) (S.apt.sub (by omega) (by omega) (by omega) (by omega)) (.inr (.inl (by omega))) (S.apa.sub (by omega) (by omega) (by omega) (by omega)) fun h0 => ?_
    rw [hm1, st_same] at h0; omega
  have hW : ∀ x y, WL (.slice (some ⟨bp, op, none⟩) tm cp) bp (op + tm) tm ba oa n x y → WT m ba oa n bp op lp x y := by
   rintro x y (h | h | h)
   ·exact .inr (.inl ⟨h.1, h.2.1, by have := h.2.2; simp only at this; omega⟩)
   ·exact .inr (.inl ⟨h.1, by have := h.2.1; omega, by have := h.2.2; omega⟩)
   ·exact .inl h
  have hckx : tm ≤ cp - tm := by omega
  have hfr : FrIn (.slice (some ⟨bp, op, none⟩) tm cp) bp op tm := .inr ⟨cp, rfl⟩
  have H : SH m ba oa n bp op lp m1 := ⟨hs1, ho1.mono fun x y h => .inr (.inl h), fun x hx => by rw [ho1.row S.apa hx]; exact S.z x hx⟩
  clear hm1
  have L := L1
  refine place_70 L1 htm (by omega) hckx H.z1 fun m4 d hs4 ho4 L4 hcase hsd4 => ?_
  refine ⟨_, rfl, ?_⟩
  have hk4 := H.hs.trans hs4
  have hO4 := H.ho.trans (ho4.mono hW)
  refine cond_of (fun hb4 => ?_) (fun hb4 => ?_)
  ·have hle : nlms T n ≤ 1 := by have := of_decide_eq_true hb4; omega
   obtain rfl : d = 0 := by
    rcases hcase with h | h
    ·exact h.2
    ·omega
   have hsx := hsd4.full hle
   have Lx := L4
   have hkx := hk4
   have hoy2 := hO4
   refine indL_79 Lx htm hckx hn2 hsx fun my hsy hoy Ly hmid => ?_
   refine indS_80 Ly htm hckx hmid fun mz hsz hoz Lz hsa => ?_
   exact fin mz (hkx.trans (hsy.trans hsz)) (hoy2.trans ((hoy.trans hoz).mono hW)) hsa
  ·have hgt : 1 < nlms T n := by have := of_decide_eq_false hb4; omega
   obtain ⟨hd, hmin⟩ : Lms T n d ∧ ∀ j, Lms T n j → d ≤ j := by
    rcases hcase with h | h
    ·omega
    ·exact h.2
   refine subL_71 L4 htm hckx hd.2.1 hsd4 fun m5 hs5 ho5 L5 htops => ?_
   refine subS_72 L5 htm hckx hd hmin htops fun m6 hs6 ho6 L6 hsub => ?_
   refine length_73 L6 fun m7 hs7 ho7 L7 hcd => ?_
   obtain ⟨hrow, hval⟩ := hsub.row
   have hreg7 : ∀ u, u < nlms T n → m7.val ba (oa + (n - nlms T n) + u) = (((fun q => m6.val ba (oa + q)) (n - nlms T n + u)).toNat : Int) := fun u hu => by
    rw [Nat.add_assoc]
    refine (hcd.a2 (n - nlms T n + u) fun k hk e => ?_).trans (hval u hu)
    have := half_lt hk; omega
   refine assign_74 L7 hct hca (by omega) hrow hby hreg7 (fun u hu => hcd.a1 _ (hrow.l u hu)) fun m8 hs8 ho8 L8 hid hoth => ?_
   refine ⟨_, rfl, ?_⟩
   have hk8 := hk4.trans (hs5.trans (hs6.trans (hs7.trans hs8)))
   have hO8 := ((hO4.trans (ho5.mono hW)).trans (ho6.mono hW)).trans ((ho7.trans ho8).mono fun x y h => .inl h)
   have hmx := rid_le (P := fun u => pc T n ((fun q => m6.val ba (oa + q)) (n - nlms T n + u)).toNat) (nlms T n - 1)
   have hmx1 := rid_pos (P := fun u => pc T n ((fun q => m6.val ba (oa + q)) (n - nlms T n + u)).toNat) (nlms T n - 1)
   have hhalf := nlms_half (T := T) (n := n) (by omega)
   refine cond_of (fun hb8 => ?_) (fun hb8 => ?_)
   ·have hlt := of_decide_eq_true hb8
    obtain ⟨rk, hrk, ids⟩ := hrow.ids (by omega)
    have hrkA : ∀ k, Lms T n k → m8.val ba (oa + k / 2) = (rk k : Int) := fun k hk => by
     obtain ⟨u, hu, rfl⟩ := hrow.z k hk
     rw [hrk u hu]; exact hid u hu
    have hz8 : ∀ h, h < n - nlms T n → (∀ k, Lms T n k → k / 2 ≠ h) → m8.val ba (oa + h) = 0 := fun h hh hne =>
     (hoth h fun u hu => hne _ (hrow.l u hu)).trans ((hcd.a2 h hne).trans (hsub.lo h hh))
    refine map_75 L8 (by omega) ids.lo (fun k hk => Nat.le_trans (ids.hi k hk) (by omega)) hrkA hz8 fun m9 hs9 ho9 L9 hnames => ?_
    refine hrec (U := fun x => m9.val ba (oa + (n - nlms T n) + x)) ⟨L.hn, by omega, hhalf, hmx1, by omega, by omega, hlc, hca, names_tx ids L9.sa hnames, L9.sa, L9.sro, (hk8.trans hs9).rd S.tp, (hk8.trans hs9).ro S.tro, S.apa⟩ fun m10 P => ?_
    obtain ⟨S', hrowF, hS'⟩ := row_of_names ids (U := fun x => m9.val ba (oa + (n - nlms T n) + x)) hnames P.sa
    have hk10 := hk8.trans (hs9.trans P.hs)
    have hO10 : Out m m10 (WT m ba oa n bp op lp) := Out.wt (hk8.trans hs9) (hO8.trans (ho9.mono fun x y h => .inl h)) P.ho
    have L10 : Lv m10 .u8 .i32 T n tm bt ot ba oa _ _ _ := ⟨L9.hn, L9.t1, L9.t2, L9.tx.wt P.hs P.ho S.aat S.apt, P.hs.rd L9.sa, P.hs.ro L9.sro, P.hs.rd L9.kr, P.hs.ro L9.kro, L9.aat, L9.akt, L9.aka, L9.fr.back hfr P.hs hlp ht1 P.tp⟩
    refine unmap_77 L10 hca (by omega) (fun u hu => (hS' u hu).1) (fun u hu => (hS' u hu).2) fun m11 hs11 ho11 L11 hu11 => ?_
    refine expand_78 L11 htm hckx hrowF (by omega) hu11 fun m12 hs12 ho12 L12 hsx => ?_
    have Lx := L12
    have hkx := hk10.trans (hs11.trans hs12)
    have hoy2 := (hO10.trans (ho11.mono fun x y h => .inl h)).trans (ho12.mono hW)
    refine indL_79 Lx htm hckx hn2 hsx fun my hsy hoy Ly hmid => ?_
    refine indS_80 Ly htm hckx hmid fun mz hsz hoz Lz hsa => ?_
    exact fin mz (hkx.trans (hsy.trans hsz)) (hoy2.trans ((hoy.trans hoz).mono hW)) hsa
   ·have hge := of_decide_eq_false hb8
    have hrowF := hrow.full (by omega) (by omega)
    have e1 : Int.toNat ((n : Int) - (nlms T n : Int)) = n - nlms T n := by omega
    have e2 : n - (n - nlms T n) = nlms T n := by omega
    have hi1 : inR .i64 ((n : Int) - (nlms T n : Int)) := inR_i64 (by omega) (by omega)
    rw [e1, e2, Nat.min_eq_left (by omega : nlms T n ≤ n)]
    refine ⟨hi1, by omega, by omega, by omega, fun i hi => ⟨L8.sa i (by omega), by rw [Nat.add_assoc]; exact L8.sa _ (by omega)⟩, L8.sro, ?_⟩
    intro m9 hm9
    have hO9 : Out m8 m9 (InRow ba oa n) := fun x y hn => by
     rw [hm9]
     simp only [Mem.copy]
     rw [if_neg (by rintro ⟨rfl, g1, g2⟩; exact hn ⟨rfl, g1, by omega⟩)]
    have hs9 : SameK m8 m9 := by rw [hm9]; exact SameK.copy _ _ _ _ _ _
    have L9 := L8.keep hs9 (hO9.mono fun x y h => .inr (.inr h)) (L8.fr.keep L8.t1 hs9 fun x y hf => hO9 _ _ (L8.fr.not_in hf).2.1)
    have hreg8 : ∀ u, u < nlms T n → m8.val ba (oa + (n - nlms T n) + u) = (((fun q => m6.val ba (oa + q)) (n - nlms T n + u)).toNat : Int) := fun u hu => by
     rw [← hreg7 u hu, Nat.add_assoc]
     exact hoth (n - nlms T n + u) fun v hv e => by have := half_lt (hrow.l v hv); omega
    have hA9 : ∀ u, u < nlms T n → m9.val ba (oa + u) = (((fun q => m6.val ba (oa + q)) (n - nlms T n + u)).toNat : Int) := fun u hu => by
     rw [← hreg8 u hu, hm9]
     simp only [Mem.copy]
     rw [if_pos ⟨trivial, by omega, by omega⟩, show oa + u - oa = u by omega]
    refine expand_78 L9 htm hckx hrowF (by omega) hA9 fun m12 hs12 ho12 L12 hsx => ?_
    have Lx := L12
    have hkx := hk8.trans (hs9.trans hs12)
    have hoy2 := (hO8.trans (hO9.mono fun x y h => .inl h)).trans (ho12.mono hW)
    refine indL_79 Lx htm hckx hn2 hsx fun my hsy hoy Ly hmid => ?_
    refine indS_80 Ly htm hckx hmid fun mz hsz hoz Lz hsa => ?_
    exact fin mz (hkx.trans (hsy.trans hsz)) (hoy2.trans ((hoy.trans hoz).mono hW)) hsa
 ·refine ⟨by omega, by omega, ?_⟩
  have L1 : Lv m .u8 .i32 T n tm bt ot ba oa bp op (.slice none 0 0) :=
   ⟨hn, ht1, ht2, S.tx, S.sa, S.sro, S.tp.le hlp, S.tro, S.aat, S.apt.sub (by omega) (by omega) (by omega) (by omega), S.apa.sub (by omega) (by omega) (by omega) (by omega), .nil⟩
  have hW : ∀ x y, WL (.slice none 0 0) bp op tm ba oa n x y → WT m ba oa n bp op lp x y := by
   rintro x y (h | h | h)
   ·exact h.elim
   ·exact .inr (.inl ⟨h.1, by have := h.2.1; omega, by have := h.2.2; omega⟩)
   ·exact .inl h
  have hckx : tm ≤ cp := by omega
  have hfr : FrIn (.slice none 0 0) bp op tm := .inl rfl
  have H : SH m ba oa n bp op lp m := ⟨SameK.refl m, Out.refl _ _, S.z⟩
  have L := L1
  refine place_70 L1 htm (by omega) hckx H.z1 fun m4 d hs4 ho4 L4 hcase hsd4 => ?_
  refine ⟨_, rfl, ?_⟩
  have hk4 := H.hs.trans hs4
  have hO4 := H.ho.trans (ho4.mono hW)
  refine cond_of (fun hb4 => ?_) (fun hb4 => ?_)
  ·have hle : nlms T n ≤ 1 := by have := of_decide_eq_true hb4; omega
   obtain rfl : d = 0 := by
    rcases hcase with h | h
    ·exact h.2
    ·omega
   have hsx := hsd4.full hle
   have Lx := L4
   have hkx := hk4
   have hoy2 := hO4
   refine indL_79 Lx htm hckx hn2 hsx fun my hsy hoy Ly hmid => ?_
   refine indS_80 Ly htm hckx hmid fun mz hsz hoz Lz hsa => ?_
   exact fin mz (hkx.trans (hsy.trans hsz)) (hoy2.trans ((hoy.trans hoz).mono hW)) hsa
  ·have hgt : 1 < nlms T n := by have := of_decide_eq_false hb4; omega
   obtain ⟨hd, hmin⟩ : Lms T n d ∧ ∀ j, Lms T n j → d ≤ j := by
    rcases hcase with h | h
    ·omega
    ·exact h.2
   refine subL_71 L4 htm hckx hd.2.1 hsd4 fun m5 hs5 ho5 L5 htops => ?_
   refine subS_72 L5 htm hckx hd hmin htops fun m6 hs6 ho6 L6 hsub => ?_
   refine length_73 L6 fun m7 hs7 ho7 L7 hcd => ?_
   obtain ⟨hrow, hval⟩ := hsub.row
   have hreg7 : ∀ u, u < nlms T n → m7.val ba (oa + (n - nlms T n) + u) = (((fun q => m6.val ba (oa + q)) (n - nlms T n + u)).toNat : Int) := fun u hu => by
    rw [Nat.add_assoc]
    refine (hcd.a2 (n - nlms T n + u) fun k hk e => ?_).trans (hval u hu)
    have := half_lt hk; omega
   refine assign_74 L7 hct hca (by omega) hrow hby hreg7 (fun u hu => hcd.a1 _ (hrow.l u hu)) fun m8 hs8 ho8 L8 hid hoth => ?_
   refine ⟨_, rfl, ?_⟩
   have hk8 := hk4.trans (hs5.trans (hs6.trans (hs7.trans hs8)))
   have hO8 := ((hO4.trans (ho5.mono hW)).trans (ho6.mono hW)).trans ((ho7.trans ho8).mono fun x y h => .inl h)
   have hmx := rid_le (P := fun u => pc T n ((fun q => m6.val ba (oa + q)) (n - nlms T n + u)).toNat) (nlms T n - 1)
   have hmx1 := rid_pos (P := fun u => pc T n ((fun q => m6.val ba (oa + q)) (n - nlms T n + u)).toNat) (nlms T n - 1)
   have hhalf := nlms_half (T := T) (n := n) (by omega)
   refine cond_of (fun hb8 => ?_) (fun hb8 => ?_)
   ·have hlt := of_decide_eq_true hb8
    obtain ⟨rk, hrk, ids⟩ := hrow.ids (by omega)
    have hrkA : ∀ k, Lms T n k → m8.val ba (oa + k / 2) = (rk k : Int) := fun k hk => by
     obtain ⟨u, hu, rfl⟩ := hrow.z k hk
     rw [hrk u hu]; exact hid u hu
    have hz8 : ∀ h, h < n - nlms T n → (∀ k, Lms T n k → k / 2 ≠ h) → m8.val ba (oa + h) = 0 := fun h hh hne =>
     (hoth h fun u hu => hne _ (hrow.l u hu)).trans ((hcd.a2 h hne).trans (hsub.lo h hh))
    refine map_75 L8 (by omega) ids.lo (fun k hk => Nat.le_trans (ids.hi k hk) (by omega)) hrkA hz8 fun m9 hs9 ho9 L9 hnames => ?_
    refine hrec (U := fun x => m9.val ba (oa + (n - nlms T n) + x)) ⟨L.hn, by omega, hhalf, hmx1, by omega, by omega, hlc, hca, names_tx ids L9.sa hnames, L9.sa, L9.sro, (hk8.trans hs9).rd S.tp, (hk8.trans hs9).ro S.tro, S.apa⟩ fun m10 P => ?_
    obtain ⟨S', hrowF, hS'⟩ := row_of_names ids (U := fun x => m9.val ba (oa + (n - nlms T n) + x)) hnames P.sa
    have hk10 := hk8.trans (hs9.trans P.hs)
    have hO10 : Out m m10 (WT m ba oa n bp op lp) := Out.wt (hk8.trans hs9) (hO8.trans (ho9.mono fun x y h => .inl h)) P.ho
    have L10 : Lv m10 .u8 .i32 T n tm bt ot ba oa _ _ _ := ⟨L9.hn, L9.t1, L9.t2, L9.tx.wt P.hs P.ho S.aat S.apt, P.hs.rd L9.sa, P.hs.ro L9.sro, P.hs.rd L9.kr, P.hs.ro L9.kro, L9.aat, L9.akt, L9.aka, L9.fr.back hfr P.hs hlp ht1 P.tp⟩
    refine unmap_77 L10 hca (by omega) (fun u hu => (hS' u hu).1) (fun u hu => (hS' u hu).2) fun m11 hs11 ho11 L11 hu11 => ?_
    refine expand_78 L11 htm hckx hrowF (by omega) hu11 fun m12 hs12 ho12 L12 hsx => ?_
    have Lx := L12
    have hkx := hk10.trans (hs11.trans hs12)
    have hoy2 := (hO10.trans (ho11.mono fun x y h => .inl h)).trans (ho12.mono hW)
    refine indL_79 Lx htm hckx hn2 hsx fun my hsy hoy Ly hmid => ?_
    refine indS_80 Ly htm hckx hmid fun mz hsz hoz Lz hsa => ?_
    exact fin mz (hkx.trans (hsy.trans hsz)) (hoy2.trans ((hoy.trans hoz).mono hW)) hsa
   ·have hge := of_decide_eq_false hb8
    have hrowF := hrow.full (by omega) (by omega)
    have e1 : Int.toNat ((n : Int) - (nlms T n : Int)) = n - nlms T n := by omega
    have e2 : n - (n - nlms T n) = nlms T n := by omega
    have hi1 : inR .i64 ((n : Int) - (nlms T n : Int)) := inR_i64 (by omega) (by omega)
    rw [e1, e2, Nat.min_eq_left (by omega : nlms T n ≤ n)]
    refine ⟨hi1, by omega, by omega, by omega, fun i hi => ⟨L8.sa i (by omega), by rw [Nat.add_assoc]; exact L8.sa _ (by omega)⟩, L8.sro, ?_⟩
    intro m9 hm9
    have hO9 : Out m8 m9 (InRow ba oa n) := fun x y hn => by
     rw [hm9]
     simp only [Mem.copy]
     rw [if_neg (by rintro ⟨rfl, g1, g2⟩; exact hn ⟨rfl, g1, by omega⟩)]
    have hs9 : SameK m8 m9 := by rw [hm9]; exact SameK.copy _ _ _ _ _ _
    have L9 := L8.keep hs9 (hO9.mono fun x y h => .inr (.inr h)) (L8.fr.keep L8.t1 hs9 fun x y hf => hO9 _ _ (L8.fr.not_in hf).2.1)
    have hreg8 : ∀ u, u < nlms T n → m8.val ba (oa + (n - nlms T n) + u) = (((fun q => m6.val ba (oa + q)) (n - nlms T n + u)).toNat : Int) := fun u hu => by
     rw [← hreg7 u hu, Nat.add_assoc]
     exact hoth (n - nlms T n + u) fun v hv e => by have := half_lt (hrow.l v hv); omega
    have hA9 : ∀ u, u < nlms T n → m9.val ba (oa + u) = (((fun q => m6.val ba (oa + q)) (n - nlms T n + u)).toNat : Int) := fun u hu => by
     rw [← hreg8 u hu, hm9]
     simp only [Mem.copy]
     rw [if_pos ⟨trivial, by omega, by omega⟩, show oa + u - oa = u by omega]
    refine expand_78 L9 htm hckx hrowF (by omega) hA9 fun m12 hs12 ho12 L12 hsx => ?_
    have Lx := L12
    have hkx := hk8.trans (hs9.trans hs12)
    have hoy2 := (hO8.trans (hO9.mono fun x y h => .inl h)).trans (ho12.mono hW)
    refine indL_79 Lx htm hckx hn2 hsx fun my hsy hoy Ly hmid => ?_
    refine indS_80 Ly htm hckx hmid fun mz hsz hoz Lz hsa => ?_
    exact fin mz (hkx.trans (hsy.trans hsz)) (hoy2.trans ((hoy.trans hoz).mono hW)) hsa
theorem sais_99 {w0 : World} {m : Mem} {T : Nat → Int} {n tm bt ot ct ba oa ca bp op lp cp : Nat} {K : Value → Mem → Prop} (S : SPre m .i32 .i32 T n tm bt ot ct ba oa ca bp op lp cp) (htm : True) (hrec : RecOK_76 w0 n)
  (hK : ∀ m', SPost m T n ba oa bp op lp m' → K (.tuple #[]) m') :
  callV Tryz.prog w0 99 [.slice (some ⟨bt, ot, none⟩) n ct, .int .i64 tm, .slice (some ⟨ba, oa, none⟩) n ca, .slice (some ⟨bp, op, none⟩) lp cp] m K := by
 refine C_F99 ?_
 unfold M_F99
 have hn := S.hn
 have ht1 := S.t1
 have ht2 := S.t2
 have hlp := S.tl
 have hlc := S.lc
 have hct := S.hct
 have hca := S.hca
 have hby : Bytes T n 0 := .inl rfl
 refine cond_of (fun hb => ?_) (fun _ => ?_)
 ·simp at hb
 refine cond_of (fun hb => ?_) (fun _ => ?_)
 ·have := of_decide_eq_true hb; omega
 refine cond_of (fun hb => ?_) (fun hb0 => ?_)
 ·obtain rfl : n = 0 := by have := eq_of_beq hb; omega
  exact hK m ⟨SameK.refl m, Out.refl _ _, .inr fun _ _ => rfl, SA.nil⟩
 refine cond_of (fun hb => ?_) (fun hb1 => ?_)
 ·obtain rfl : n = 1 := by have := eq_of_beq hb; omega
  refine ⟨by omega, by omega, S.sa 0 (by omega), S.sro, ?_⟩
  rintro m1 rfl
  refine hK _ ⟨SameK.st _ _ _ _, (Out.refl m _).st (.inl (InRow.mk (by omega))) _, .inr fun i hi => ?_, SA.one ?_⟩
  ·exact ((Out.refl m _).st (InRow.mk (l := 1) (by omega)) _).row S.apa.symm hi
  ·exact st_same _ _ _ _
 have hn2 : 2 ≤ n := by
  rcases Nat.lt_or_ge n 2 with h | h
  ·rcases (show n = 0 ∨ n = 1 by omega) with rfl | rfl
   ·exact absurd hb0 (by decide)
   ·exact absurd hb1 (by decide)
  ·exact h
 have hi2 : inR .i64 ((2 : Int) * (tm : Int)) := inR_i64 (by omega) (by omega)
 have e1 : Int.toNat ((2 : Int) * (tm : Int)) = 2 * tm := by omega
 have e2 : 2 * tm - tm = tm := by omega
 rw [Int.toNat_natCast, e1, e2, show Int.toNat (0 : Int) = 0 by rfl, Nat.add_zero]
 refine ⟨hi2, ?_⟩
 have fin : ∀ m', SameK m m' → Out m m' (WT m ba oa n bp op lp) → SA T n (fun x => m'.val ba (oa + x)) →
   0 ≤ (0 : Int) ∧ (0 : Int) < (lp : Int) ∧ m'.kd bp op = some .i32 ∧ m'.ro bp = false ∧ ∀ m10, m10 = Mem.st m' bp op (-1 : Int) → K (.tuple #[]) m10 := by
  intro m' hs ho hsa
  refine ⟨by omega, by omega, hs.rd S.tp 0 (by omega), hs.ro S.tro, ?_⟩
  rintro m10 rfl
  refine hK _ ⟨hs.trans (SameK.st _ _ _ _), ho.st (.inr (.inl (InRow.mk (i := 0) (by omega)))) _, .inl (st_same _ _ _ _), hsa.congr fun q hq => ?_⟩
  exact st_apart (i := 0) S.apa _ (by omega) hq
 refine cond_of (fun hb2 => ?_) (fun hb2 => ?_)
 ·have hge : (lp : Int) ≥ (2 : Int) * (tm : Int) := of_decide_eq_true hb2
  refine ⟨by omega, by omega, hi2, by omega, by omega, by omega, by omega, by omega, by omega, S.tp 0 (by omega), S.tro, ?_⟩
  intro m1 hm1
  have hs1 : SameK m m1 := by rw [hm1]; exact SameK.st _ _ _ _
  have ho1 : Out m m1 (InRow bp op lp) := by rw [hm1]; exact (Out.refl m _).st (InRow.mk (i := 0) (by omega)) _
  have L1 : Lv m1 .i32 .i32 T n tm bt ot ba oa bp (op + tm) (.slice (some ⟨bp, op, none⟩) tm cp) := by
   refine ⟨hn, ht1, ht2, S.tx.keep hs1 fun i hi => ho1.row S.apt hi, hs1.rd S.sa, hs1.ro S.sro, fun i hi => ?_, hs1.ro S.tro, S.aat, S.apt.sub (by omega) (by omega) (by omega) (by omega), S.apa.sub (by omega) (by omega) (by omega) (by omega), ?_⟩
   ·rw [Nat.add_assoc]; exact hs1.rd S.tp _ (by omega)
   ·refine .row (by omega) ((hs1.rd S.tp).le hlp) (hs1.ro S.tro) (S.apt.sub (by omega) (by omega) (by omega) (by omega)) (.inr (.inl (by omega))) (S.apa.sub (by omega) (by omega) (by omega) (by omega)) fun h0 => ?_
    rw [hm1, st_same] at h0; omega
  have hW : ∀ x y, WL (.slice (some ⟨bp, op, none⟩) tm cp) bp (op + tm) tm ba oa n x y → WT m ba oa n bp op lp x y := by
   rintro x y (h | h | h)
   ·exact .inr (.inl ⟨h.1, h.2.1, by have := h.2.2; simp only at this; omega⟩)
   ·exact .inr (.inl ⟨h.1, by have := h.2.1; omega, by have := h.2.2; omega⟩)
   ·exact .inl h
  have hckx : tm ≤ cp - tm := by omega
  have hfr : FrIn (.slice (some ⟨bp, op, none⟩) tm cp) bp op tm := .inr ⟨cp, rfl⟩
  have H : SH m ba oa n bp op lp m1 := ⟨hs1, ho1.mono fun x y h => .inr (.inl h), fun x hx => by rw [ho1.row S.apa hx]; exact S.z x hx⟩
  clear hm1
  have L := L1
  refine place_105 L1 htm (by omega) hckx H.z1 fun m4 d hs4 ho4 L4 hcase hsd4 => ?_
  refine ⟨_, rfl, ?_⟩
  have hk4 := H.hs.trans hs4
  have hO4 := H.ho.trans (ho4.mono hW)
  refine cond_of (fun hb4 => ?_) (fun hb4 => ?_)
  ·have hle : nlms T n ≤ 1 := by have := of_decide_eq_true hb4; omega
   obtain rfl : d = 0 := by
    rcases hcase with h | h
    ·exact h.2
    ·omega
   have hsx := hsd4.full hle
   have Lx := L4
   have hkx := hk4
   have hoy2 := hO4
   refine indL_112 Lx htm hckx hn2 hsx fun my hsy hoy Ly hmid => ?_
   refine indS_113 Ly htm hckx hmid fun mz hsz hoz Lz hsa => ?_
   exact fin mz (hkx.trans (hsy.trans hsz)) (hoy2.trans ((hoy.trans hoz).mono hW)) hsa
  ·have hgt : 1 < nlms T n := by have := of_decide_eq_false hb4; omega
   obtain ⟨hd, hmin⟩ : Lms T n d ∧ ∀ j, Lms T n j → d ≤ j := by
    rcases hcase with h | h
    ·omega
    ·exact h.2
   refine subL_106 L4 htm hckx hd.2.1 hsd4 fun m5 hs5 ho5 L5 htops => ?_
   refine subS_107 L5 htm hckx hd hmin htops fun m6 hs6 ho6 L6 hsub => ?_
   refine length_108 L6 fun m7 hs7 ho7 L7 hcd => ?_
   obtain ⟨hrow, hval⟩ := hsub.row
   have hreg7 : ∀ u, u < nlms T n → m7.val ba (oa + (n - nlms T n) + u) = (((fun q => m6.val ba (oa + q)) (n - nlms T n + u)).toNat : Int) := fun u hu => by
    rw [Nat.add_assoc]
    refine (hcd.a2 (n - nlms T n + u) fun k hk e => ?_).trans (hval u hu)
    have := half_lt hk; omega
   refine assign_109 L7 hct hca (by omega) hrow hby hreg7 (fun u hu => hcd.a1 _ (hrow.l u hu)) fun m8 hs8 ho8 L8 hid hoth => ?_
   refine ⟨_, rfl, ?_⟩
   have hk8 := hk4.trans (hs5.trans (hs6.trans (hs7.trans hs8)))
   have hO8 := ((hO4.trans (ho5.mono hW)).trans (ho6.mono hW)).trans ((ho7.trans ho8).mono fun x y h => .inl h)
   have hmx := rid_le (P := fun u => pc T n ((fun q => m6.val ba (oa + q)) (n - nlms T n + u)).toNat) (nlms T n - 1)
   have hmx1 := rid_pos (P := fun u => pc T n ((fun q => m6.val ba (oa + q)) (n - nlms T n + u)).toNat) (nlms T n - 1)
   have hhalf := nlms_half (T := T) (n := n) (by omega)
   refine cond_of (fun hb8 => ?_) (fun hb8 => ?_)
   ·have hlt := of_decide_eq_true hb8
    obtain ⟨rk, hrk, ids⟩ := hrow.ids (by omega)
    have hrkA : ∀ k, Lms T n k → m8.val ba (oa + k / 2) = (rk k : Int) := fun k hk => by
     obtain ⟨u, hu, rfl⟩ := hrow.z k hk
     rw [hrk u hu]; exact hid u hu
    have hz8 : ∀ h, h < n - nlms T n → (∀ k, Lms T n k → k / 2 ≠ h) → m8.val ba (oa + h) = 0 := fun h hh hne =>
     (hoth h fun u hu => hne _ (hrow.l u hu)).trans ((hcd.a2 h hne).trans (hsub.lo h hh))
    refine map_75 L8 (by omega) ids.lo (fun k hk => Nat.le_trans (ids.hi k hk) (by omega)) hrkA hz8 fun m9 hs9 ho9 L9 hnames => ?_
    refine hrec (U := fun x => m9.val ba (oa + (n - nlms T n) + x)) ⟨L.hn, by omega, hhalf, hmx1, by omega, by omega, hlc, hca, names_tx ids L9.sa hnames, L9.sa, L9.sro, (hk8.trans hs9).rd S.tp, (hk8.trans hs9).ro S.tro, S.apa⟩ fun m10 P => ?_
    obtain ⟨S', hrowF, hS'⟩ := row_of_names ids (U := fun x => m9.val ba (oa + (n - nlms T n) + x)) hnames P.sa
    have hk10 := hk8.trans (hs9.trans P.hs)
    have hO10 : Out m m10 (WT m ba oa n bp op lp) := Out.wt (hk8.trans hs9) (hO8.trans (ho9.mono fun x y h => .inl h)) P.ho
    have L10 : Lv m10 .i32 .i32 T n tm bt ot ba oa _ _ _ := ⟨L9.hn, L9.t1, L9.t2, L9.tx.wt P.hs P.ho S.aat S.apt, P.hs.rd L9.sa, P.hs.ro L9.sro, P.hs.rd L9.kr, P.hs.ro L9.kro, L9.aat, L9.akt, L9.aka, L9.fr.back hfr P.hs hlp ht1 P.tp⟩
    refine unmap_110 L10 hca (by omega) (fun u hu => (hS' u hu).1) (fun u hu => (hS' u hu).2) fun m11 hs11 ho11 L11 hu11 => ?_
    refine expand_111 L11 htm hckx hrowF (by omega) hu11 fun m12 hs12 ho12 L12 hsx => ?_
    have Lx := L12
    have hkx := hk10.trans (hs11.trans hs12)
    have hoy2 := (hO10.trans (ho11.mono fun x y h => .inl h)).trans (ho12.mono hW)
    refine indL_112 Lx htm hckx hn2 hsx fun my hsy hoy Ly hmid => ?_
    refine indS_113 Ly htm hckx hmid fun mz hsz hoz Lz hsa => ?_
    exact fin mz (hkx.trans (hsy.trans hsz)) (hoy2.trans ((hoy.trans hoz).mono hW)) hsa
   ·have hge := of_decide_eq_false hb8
    have hrowF := hrow.full (by omega) (by omega)
    have e1 : Int.toNat ((n : Int) - (nlms T n : Int)) = n - nlms T n := by omega
    have e2 : n - (n - nlms T n) = nlms T n := by omega
    have hi1 : inR .i64 ((n : Int) - (nlms T n : Int)) := inR_i64 (by omega) (by omega)
    rw [e1, e2, Nat.min_eq_left (by omega : nlms T n ≤ n)]
    refine ⟨hi1, by omega, by omega, by omega, fun i hi => ⟨L8.sa i (by omega), by rw [Nat.add_assoc]; exact L8.sa _ (by omega)⟩, L8.sro, ?_⟩
    intro m9 hm9
    have hO9 : Out m8 m9 (InRow ba oa n) := fun x y hn => by
     rw [hm9]
     simp only [Mem.copy]
     rw [if_neg (by rintro ⟨rfl, g1, g2⟩; exact hn ⟨rfl, g1, by omega⟩)]
    have hs9 : SameK m8 m9 := by rw [hm9]; exact SameK.copy _ _ _ _ _ _
    have L9 := L8.keep hs9 (hO9.mono fun x y h => .inr (.inr h)) (L8.fr.keep L8.t1 hs9 fun x y hf => hO9 _ _ (L8.fr.not_in hf).2.1)
    have hreg8 : ∀ u, u < nlms T n → m8.val ba (oa + (n - nlms T n) + u) = (((fun q => m6.val ba (oa + q)) (n - nlms T n + u)).toNat : Int) := fun u hu => by
     rw [← hreg7 u hu, Nat.add_assoc]
     exact hoth (n - nlms T n + u) fun v hv e => by have := half_lt (hrow.l v hv); omega
    have hA9 : ∀ u, u < nlms T n → m9.val ba (oa + u) = (((fun q => m6.val ba (oa + q)) (n - nlms T n + u)).toNat : Int) := fun u hu => by
     rw [← hreg8 u hu, hm9]
     simp only [Mem.copy]
     rw [if_pos ⟨trivial, by omega, by omega⟩, show oa + u - oa = u by omega]
    refine expand_111 L9 htm hckx hrowF (by omega) hA9 fun m12 hs12 ho12 L12 hsx => ?_
    have Lx := L12
    have hkx := hk8.trans (hs9.trans hs12)
    have hoy2 := (hO8.trans (hO9.mono fun x y h => .inl h)).trans (ho12.mono hW)
    refine indL_112 Lx htm hckx hn2 hsx fun my hsy hoy Ly hmid => ?_
    refine indS_113 Ly htm hckx hmid fun mz hsz hoz Lz hsa => ?_
    exact fin mz (hkx.trans (hsy.trans hsz)) (hoy2.trans ((hoy.trans hoz).mono hW)) hsa
 ·refine ⟨by omega, by omega, ?_⟩
  have L1 : Lv m .i32 .i32 T n tm bt ot ba oa bp op (.slice none 0 0) :=
   ⟨hn, ht1, ht2, S.tx, S.sa, S.sro, S.tp.le hlp, S.tro, S.aat, S.apt.sub (by omega) (by omega) (by omega) (by omega), S.apa.sub (by omega) (by omega) (by omega) (by omega), .nil⟩
  have hW : ∀ x y, WL (.slice none 0 0) bp op tm ba oa n x y → WT m ba oa n bp op lp x y := by
   rintro x y (h | h | h)
   ·exact h.elim
   ·exact .inr (.inl ⟨h.1, by have := h.2.1; omega, by have := h.2.2; omega⟩)
   ·exact .inl h
  have hckx : tm ≤ cp := by omega
  have hfr : FrIn (.slice none 0 0) bp op tm := .inl rfl
  have H : SH m ba oa n bp op lp m := ⟨SameK.refl m, Out.refl _ _, S.z⟩
  have L := L1
  refine place_105 L1 htm (by omega) hckx H.z1 fun m4 d hs4 ho4 L4 hcase hsd4 => ?_
  refine ⟨_, rfl, ?_⟩
  have hk4 := H.hs.trans hs4
  have hO4 := H.ho.trans (ho4.mono hW)
  refine cond_of (fun hb4 => ?_) (fun hb4 => ?_)
  ·have hle : nlms T n ≤ 1 := by have := of_decide_eq_true hb4; omega
   obtain rfl : d = 0 := by
    rcases hcase with h | h
    ·exact h.2
    ·omega
   have hsx := hsd4.full hle
   have Lx := L4
   have hkx := hk4
   have hoy2 := hO4
   refine indL_112 Lx htm hckx hn2 hsx fun my hsy hoy Ly hmid => ?_
   refine indS_113 Ly htm hckx hmid fun mz hsz hoz Lz hsa => ?_
   exact fin mz (hkx.trans (hsy.trans hsz)) (hoy2.trans ((hoy.trans hoz).mono hW)) hsa
  ·have hgt : 1 < nlms T n := by have := of_decide_eq_false hb4; omega
   obtain ⟨hd, hmin⟩ : Lms T n d ∧ ∀ j, Lms T n j → d ≤ j := by
    rcases hcase with h | h
    ·omega
    ·exact h.2
   refine subL_106 L4 htm hckx hd.2.1 hsd4 fun m5 hs5 ho5 L5 htops => ?_
   refine subS_107 L5 htm hckx hd hmin htops fun m6 hs6 ho6 L6 hsub => ?_
   refine length_108 L6 fun m7 hs7 ho7 L7 hcd => ?_
   obtain ⟨hrow, hval⟩ := hsub.row
   have hreg7 : ∀ u, u < nlms T n → m7.val ba (oa + (n - nlms T n) + u) = (((fun q => m6.val ba (oa + q)) (n - nlms T n + u)).toNat : Int) := fun u hu => by
    rw [Nat.add_assoc]
    refine (hcd.a2 (n - nlms T n + u) fun k hk e => ?_).trans (hval u hu)
    have := half_lt hk; omega
   refine assign_109 L7 hct hca (by omega) hrow hby hreg7 (fun u hu => hcd.a1 _ (hrow.l u hu)) fun m8 hs8 ho8 L8 hid hoth => ?_
   refine ⟨_, rfl, ?_⟩
   have hk8 := hk4.trans (hs5.trans (hs6.trans (hs7.trans hs8)))
   have hO8 := ((hO4.trans (ho5.mono hW)).trans (ho6.mono hW)).trans ((ho7.trans ho8).mono fun x y h => .inl h)
   have hmx := rid_le (P := fun u => pc T n ((fun q => m6.val ba (oa + q)) (n - nlms T n + u)).toNat) (nlms T n - 1)
   have hmx1 := rid_pos (P := fun u => pc T n ((fun q => m6.val ba (oa + q)) (n - nlms T n + u)).toNat) (nlms T n - 1)
   have hhalf := nlms_half (T := T) (n := n) (by omega)
   refine cond_of (fun hb8 => ?_) (fun hb8 => ?_)
   ·have hlt := of_decide_eq_true hb8
    obtain ⟨rk, hrk, ids⟩ := hrow.ids (by omega)
    have hrkA : ∀ k, Lms T n k → m8.val ba (oa + k / 2) = (rk k : Int) := fun k hk => by
     obtain ⟨u, hu, rfl⟩ := hrow.z k hk
     rw [hrk u hu]; exact hid u hu
    have hz8 : ∀ h, h < n - nlms T n → (∀ k, Lms T n k → k / 2 ≠ h) → m8.val ba (oa + h) = 0 := fun h hh hne =>
     (hoth h fun u hu => hne _ (hrow.l u hu)).trans ((hcd.a2 h hne).trans (hsub.lo h hh))
    refine map_75 L8 (by omega) ids.lo (fun k hk => Nat.le_trans (ids.hi k hk) (by omega)) hrkA hz8 fun m9 hs9 ho9 L9 hnames => ?_
    refine hrec (U := fun x => m9.val ba (oa + (n - nlms T n) + x)) ⟨L.hn, by omega, hhalf, hmx1, by omega, by omega, hlc, hca, names_tx ids L9.sa hnames, L9.sa, L9.sro, (hk8.trans hs9).rd S.tp, (hk8.trans hs9).ro S.tro, S.apa⟩ fun m10 P => ?_
    obtain ⟨S', hrowF, hS'⟩ := row_of_names ids (U := fun x => m9.val ba (oa + (n - nlms T n) + x)) hnames P.sa
    have hk10 := hk8.trans (hs9.trans P.hs)
    have hO10 : Out m m10 (WT m ba oa n bp op lp) := Out.wt (hk8.trans hs9) (hO8.trans (ho9.mono fun x y h => .inl h)) P.ho
    have L10 : Lv m10 .i32 .i32 T n tm bt ot ba oa _ _ _ := ⟨L9.hn, L9.t1, L9.t2, L9.tx.wt P.hs P.ho S.aat S.apt, P.hs.rd L9.sa, P.hs.ro L9.sro, P.hs.rd L9.kr, P.hs.ro L9.kro, L9.aat, L9.akt, L9.aka, L9.fr.back hfr P.hs hlp ht1 P.tp⟩
    refine unmap_110 L10 hca (by omega) (fun u hu => (hS' u hu).1) (fun u hu => (hS' u hu).2) fun m11 hs11 ho11 L11 hu11 => ?_
    refine expand_111 L11 htm hckx hrowF (by omega) hu11 fun m12 hs12 ho12 L12 hsx => ?_
    have Lx := L12
    have hkx := hk10.trans (hs11.trans hs12)
    have hoy2 := (hO10.trans (ho11.mono fun x y h => .inl h)).trans (ho12.mono hW)
    refine indL_112 Lx htm hckx hn2 hsx fun my hsy hoy Ly hmid => ?_
    refine indS_113 Ly htm hckx hmid fun mz hsz hoz Lz hsa => ?_
    exact fin mz (hkx.trans (hsy.trans hsz)) (hoy2.trans ((hoy.trans hoz).mono hW)) hsa
   ·have hge := of_decide_eq_false hb8
    have hrowF := hrow.full (by omega) (by omega)
    have e1 : Int.toNat ((n : Int) - (nlms T n : Int)) = n - nlms T n := by omega
    have e2 : n - (n - nlms T n) = nlms T n := by omega
    have hi1 : inR .i64 ((n : Int) - (nlms T n : Int)) := inR_i64 (by omega) (by omega)
    rw [e1, e2, Nat.min_eq_left (by omega : nlms T n ≤ n)]
    refine ⟨hi1, by omega, by omega, by omega, fun i hi => ⟨L8.sa i (by omega), by rw [Nat.add_assoc]; exact L8.sa _ (by omega)⟩, L8.sro, ?_⟩
    intro m9 hm9
    have hO9 : Out m8 m9 (InRow ba oa n) := fun x y hn => by
     rw [hm9]
     simp only [Mem.copy]
     rw [if_neg (by rintro ⟨rfl, g1, g2⟩; exact hn ⟨rfl, g1, by omega⟩)]
    have hs9 : SameK m8 m9 := by rw [hm9]; exact SameK.copy _ _ _ _ _ _
    have L9 := L8.keep hs9 (hO9.mono fun x y h => .inr (.inr h)) (L8.fr.keep L8.t1 hs9 fun x y hf => hO9 _ _ (L8.fr.not_in hf).2.1)
    have hreg8 : ∀ u, u < nlms T n → m8.val ba (oa + (n - nlms T n) + u) = (((fun q => m6.val ba (oa + q)) (n - nlms T n + u)).toNat : Int) := fun u hu => by
     rw [← hreg7 u hu, Nat.add_assoc]
     exact hoth (n - nlms T n + u) fun v hv e => by have := half_lt (hrow.l v hv); omega
    have hA9 : ∀ u, u < nlms T n → m9.val ba (oa + u) = (((fun q => m6.val ba (oa + q)) (n - nlms T n + u)).toNat : Int) := fun u hu => by
     rw [← hreg8 u hu, hm9]
     simp only [Mem.copy]
     rw [if_pos ⟨trivial, by omega, by omega⟩, show oa + u - oa = u by omega]
    refine expand_111 L9 htm hckx hrowF (by omega) hA9 fun m12 hs12 ho12 L12 hsx => ?_
    have Lx := L12
    have hkx := hk8.trans (hs9.trans hs12)
    have hoy2 := (hO8.trans (hO9.mono fun x y h => .inl h)).trans (ho12.mono hW)
    refine indL_112 Lx htm hckx hn2 hsx fun my hsy hoy Ly hmid => ?_
    refine indS_113 Ly htm hckx hmid fun mz hsz hoz Lz hsa => ?_
    exact fin mz (hkx.trans (hsy.trans hsz)) (hoy2.trans ((hoy.trans hoz).mono hW)) hsa
end Go.Proofs.YtdhifgedhaapjaaGreatDoor
namespace Go.Proofs.YtdhifgedhaapjaaGreatDoor
open Go Sa
theorem saisOK_99 (w0 : World) : ∀ n, SaisOK_99 w0 n := by
 intro n
 induction n using Nat.strongRecOn with
 | ind n ih => intro m T tm bt ot ct ba oa ca bp op lp cp K S hK; exact sais_99 S trivial (rec_76 ih) hK
theorem recOK_76 (w0 : World) (n : Nat) : RecOK_76 w0 n := rec_76 fun n' _ => saisOK_99 w0 n'
end Go.Proofs.YtdhifgedhaapjaaGreatDoor
namespace Go.Proofs.YtdhifgedhaapjaaGreatDoor
open Go Sa
theorem sais8_46 {w0 : World} {m : Mem} {T : Nat → Int} {n bt ot ct ba oa ca bp op lp cp : Nat} {K : Value → Mem → Prop} (S : SPre m .u8 .i32 T n 256 bt ot ct ba oa ca bp op lp cp)
  (hK : ∀ m', SPost m T n ba oa bp op lp m' → K (.tuple #[]) m') :
  callV Tryz.prog w0 46 [.slice (some ⟨bt, ot, none⟩) n ct, .int .i64 (256 : Int), .slice (some ⟨ba, oa, none⟩) n ca, .slice (some ⟨bp, op, none⟩) lp cp] m K :=
 sais_46 S rfl (recOK_76 w0 n) hK
end Go.Proofs.YtdhifgedhaapjaaGreatDoor
namespace Go.Proofs.YtdhifgedhaapjaaGreatDoor
open Go Sa
theorem rowOK.keep {m m' : Mem} {k : IntKind} {sb : Option Addr} {n c : Nat} (h : rowOK m k sb n c) (hs : SameK m m') : rowOK m' k sb n c := by
 unfold rowOK at *
 split at h
 ·exact fun i hi => ⟨(h i hi).1, hs.1 _ _ _ (h i hi).2⟩
 ·exact h
theorem rowOK.same {m m' : Mem} {k : IntKind} {sb : Option Addr} {n c : Nat} (h : rowOK m k sb n c) {W : Nat → Nat → Prop} (ho : Out m m' W) (hW : ∀ {x y}, W x y → m.fresh x) {i : Nat} (hi : i < n) : elemV m' sb i = elemV m sb i := by
 unfold rowOK at h
 unfold elemV
 split at h
 ·exact ho _ _ fun hw => by have := (h i hi).2; rw [(hW hw _).1] at this; cases this
 ·rfl
def IntsOK (m0 m : Mem) (v : Value) (n : Nat) (A : Nat → Int) : Prop :=
 ∃ (sb : Option Addr) (c : Nat), v = .slice sb n c ∧ n ≤ c ∧ match sb with
  | none => n = 0 ∧ c = 0
  | some ⟨b, o, none⟩ => 1 ≤ n ∧ m0.fresh b ∧ m.ro b = false ∧ (∀ q, q < c → m.kd b (o + q) = some .i64) ∧ ∀ q, q < n → m.val b (o + q) = A q
  | some _ => False
theorem IntsOK.push {m0 m' : Mem} {v : Value} {n B : Nat} {A : Nat → Int} {K : Value → Mem → Prop} (h : IntsOK m0 m' v n A) (hs : SameK m0 (Mem.new m' B .i64 1 (fun _ => A n))) (ho : Out m0 (Mem.new m' B .i64 1 (fun _ => A n)) (fun x _ => m0.fresh x))
  (hB : m'.fresh B) (hn : n ≤ 1000000) (hK : ∀ v2 m2, SameK m0 m2 → Out m0 m2 (fun x _ => m0.fresh x) → IntsOK m0 m2 v2 (n + 1) A → K v2 m2) :
  apV (.slice 3 .i64) v (.slice (some ⟨B, 0, none⟩) 1 1) (Mem.new m' B .i64 1 (fun _ => A n)) K := by
 obtain ⟨sb, c, rfl, hnc, hsb⟩ := h
 have hsn : SameK m' (Mem.new m' B .i64 1 (fun _ => A n)) := SameK.new hB _ _ _
 have hB1 : rowOK (Mem.new m' B .i64 1 (fun _ => A n)) .i64 (some ⟨B, 0, none⟩) 1 1 := fun i hi => ⟨rfl, by simp only [Mem.new, if_true]; rw [if_pos (by omega)]⟩
 have hBv : elemV (Mem.new m' B .i64 1 (fun _ => A n)) (some ⟨B, 0, none⟩) 0 = A n := by simp only [elemV, Mem.new, if_true]
 have grow : ∀ (hrow : rowOK (Mem.new m' B .i64 1 (fun _ => A n)) .i64 sb n c) (hval : ∀ q, q < n → elemV (Mem.new m' B .i64 1 (fun _ => A n)) sb q = A q),
   c < n + 1 → ∀ B2 c2, (Mem.new m' B .i64 1 (fun _ => A n)).fresh B2 → n + 1 ≤ c2 → ∀ m2 : Mem, m2 = (Mem.new m' B .i64 1 (fun _ => A n)).new B2 .i64 c2 (fun i => if i < n then elemV (Mem.new m' B .i64 1 (fun _ => A n)) sb i else if i < n + 1 then elemV (Mem.new m' B .i64 1 (fun _ => A n)) (some ⟨B, 0, none⟩) (i - n) else 0) →
   K (.slice (some ⟨B2, 0, none⟩) (n + 1) c2) m2 := by
  intro hrow hval _ B2 c2 hB2 hc2 m2 hm2
  have hB20 := hs.fresh hB2
  subst hm2
  refine hK _ _ (hs.trans (SameK.new hB2 _ _ _)) (fun x y hx => ?_) ⟨some ⟨B2, 0, none⟩, c2, rfl, hc2, by omega, hB20, ?_, fun q hq => ?_, fun q hq => ?_⟩
  ·have : x ≠ B2 := fun e => hx (e ▸ hB20)
   rw [← ho x y hx]
   conv => lhs; simp only [Mem.new, this, if_false]
   simp only [Mem.new]
  ·simp only [Mem.new, if_true]
  ·simp only [Mem.new, if_true]; rw [if_pos (by omega)]
  ·conv => lhs; unfold Mem.new
   simp only [if_true, Nat.zero_add]
   by_cases hqn : q < n
   ·rw [if_pos hqn]; exact hval q hqn
   ·obtain rfl : q = n := by omega
    rw [if_neg hqn, if_pos (by omega), Nat.sub_self]; exact hBv
 cases sb with
 | none =>
  obtain ⟨rfl, rfl⟩ := hsb
  exact ⟨⟨rfl, rfl⟩, hB1, by omega, fun h => by omega, grow ⟨rfl, rfl⟩ fun q hq => by omega⟩
 | some a =>
  obtain ⟨b, o, pth⟩ := a
  cases pth with
  | some _ => exact hsb.elim
  | none =>
   obtain ⟨_, h1, h2, h3, h4⟩ := hsb
   have hbB : ∀ q, q < c → b ≠ B := fun q hq e => by have := h3 q hq; rw [e, (hB _).1] at this; cases this
   have hkd : ∀ q, q < c → (Mem.new m' B .i64 1 (fun _ => A n)).kd b (o + q) = some .i64 := fun q hq => hsn.1 _ _ _ (h3 q hq)
   have hvl : ∀ q, q < n → (Mem.new m' B .i64 1 (fun _ => A n)).val b (o + q) = A q := fun q hq => by
    have := hbB q (by omega)
    simp only [Mem.new, this, if_false]; exact h4 q hq
   refine ⟨fun i hi => ⟨rfl, hkd i (by omega)⟩, hB1, by omega, fun hroom => ⟨rfl, fun i hi => ?_, hsn.2.1 _ h2, ?_⟩, grow (fun i hi => ⟨rfl, hkd i (by omega)⟩) hvl⟩
   ·rw [Nat.add_assoc]; exact hkd (n + i) (by omega)
   ·intro m2 hm2
    subst hm2
    refine hK _ _ (hs.trans (SameK.refl _)) (fun x y hx => ?_) ⟨some ⟨b, o, none⟩, c, rfl, by omega, by omega, h1, hsn.2.1 _ h2, hkd, fun q hq => ?_⟩
    ·have : x ≠ b := fun e => hx (e ▸ h1)
     rw [← ho x y hx]
     simp only [Mem.put]
     rw [if_neg (fun h => this h.1)]
    ·simp only [Mem.put]
     by_cases hqn : q = n
     ·subst hqn
      rw [if_pos ⟨trivial, by omega, by omega⟩, Nat.sub_self]; exact hBv
     ·rw [if_neg (by omega)]; exact hvl q (by omega)
end Go.Proofs.YtdhifgedhaapjaaGreatDoor
namespace Go.Proofs.YtdhifgedhaapjaaGreatDoor
open Go Sa
theorem sais0_46 {w0 : World} {m : Mem} {n bt ot ct ba oa ca bp op lp cp : Nat} {tm : Int} {K : Value → Mem → Prop} (h0 : n = 0) (h : tm ≤ lp) (hK : K (.tuple #[]) m) :
  callV Tryz.prog w0 46 [.slice (some ⟨bt, ot, none⟩) n ct, .int .i64 tm, .slice (some ⟨ba, oa, none⟩) n ca, .slice (some ⟨bp, op, none⟩) lp cp] m K := by
 refine C_F46 ?_
 unfold M_F46
 refine cond_of (fun hb => ?_) (fun _ => ?_)
 ·simp at hb
 refine cond_of (fun hb => ?_) (fun _ => ?_)
 ·have := of_decide_eq_true hb; omega
 refine cond_of (fun _ => hK) (fun hb => ?_)
 subst h0
 exact absurd hb (by decide)
theorem text_30 {w0 : World} {m : Mem} {T : Nat → Int} {n bt ot ct ba oa ca : Nat} {K : Value → Mem → Prop} (hn : n ≤ 1000000) (hct : n ≤ ct) (hca : n ≤ ca) (tx : Tx m .u8 bt ot n 256 T) (sa : Rd m .i32 ba oa n) (sro : m.ro ba = false)
  (aat : Apart ba oa n bt ot n) (hz : ∀ x, x < n → m.val ba (oa + x) = 0)
  (hK : ∀ m', SameK m m' → Out m m' (fun x y => InRow ba oa n x y ∨ m.fresh x) → SA T n (fun x => m'.val ba (oa + x)) → K (.tuple #[]) m') :
  callV Tryz.prog w0 30 [.slice (some ⟨bt, ot, none⟩) n ct, .slice (some ⟨ba, oa, none⟩) n ca] m K := by
 refine C_F30 ?_
 unfold M_F30
 repeat ((with_reducible refine And.intro ?_ ?_); · first | omega | with_reducible assumption)
 have hi1 : inR .i64 (n : Int) := inR_i64 (by omega) (by omega)
 have hi2 : inR .i32 (n : Int) := inR_i32 (by omega) (by omega)
 repeat ((with_reducible refine And.intro ?_ ?_); · first | omega | with_reducible assumption)
 refine cond_of (fun hb => ?_) (fun _ => ?_)
 ·simp at hb
 refine cond_of (fun hb => ?_) (fun _ => ?_)
 ·simp at hb
 refine ⟨by omega, by omega, by omega, ?_⟩
 rintro B hB m2 rfl
 rw [show Int.toNat (512 : Int) = 512 by rfl]
 have hs := SameK.new hB .i32 512 (fun _ => 0)
 have hv : ∀ b o, b ≠ B → (Mem.new m B .i32 512 (fun _ => 0)).val b o = m.val b o := fun b o h => by simp only [Mem.new, h, if_false]
 rcases Nat.eq_zero_or_pos n with h0 | h0
 ·subst h0
  exact sais0_46 rfl (by omega) (hK _ hs (fun x y hn' => hv _ _ fun e => hn' (.inr (e ▸ hB))) SA.nil)
 have hbt := tx.rd.ne_fresh h0 hB
 have hba := sa.ne_fresh h0 hB
 refine sais8_46 (T := T) ⟨hn, by omega, by omega, by omega, by omega, hct, hca, tx.keep hs fun i hi => hv _ _ hbt, hs.rd sa, hs.ro sro, fun i hi => ?_, ?_, aat, .inl (Ne.symm hbt), .inl (Ne.symm hba), fun x hx => ?_⟩ fun m4 P => ?_
 ·simp only [Mem.new, if_true]; rw [if_pos (by omega)]
 ·simp only [Mem.new, if_true]
 ·rw [hv _ _ hba]; exact hz x hx
 ·refine hK m4 (hs.trans P.hs) (fun x y hn' => ?_) P.sa
  have hne : x ≠ B := fun e => hn' (.inr (e ▸ hB))
  rw [P.ho x y ?_, hv x y hne]
  rintro (h | h | h)
  ·exact hn' (.inl h)
  ·exact hne h.1
  ·exact hn' (.inr (hs.fresh h))
theorem zz_29 {w0 : World} {m : Mem} {T : Nat → Int} {n bt ot ct : Nat} {K : Value → Mem → Prop} (hn : n ≤ 1000000) (hct : n ≤ ct) (tx : Tx m .u8 bt ot n 256 T)
  (hK : ∀ B m', m.fresh B → SameK m m' → Out m m' (fun x _ => m.fresh x) → Rd m' .i32 B 0 n → SA T n (fun x => m'.val B (0 + x)) → K (.slice (some ⟨B, 0, none⟩) n n) m') :
  callV Tryz.prog w0 29 [.slice (some ⟨bt, ot, none⟩) n ct] m K := by
 refine C_F29 ?_
 unfold M_F29
 rw [Int.toNat_natCast]
 refine ⟨by omega, by omega, by omega, ?_⟩
 rintro B hB m2 rfl
 have hs := SameK.new hB .i32 n (fun _ => 0)
 have hv : ∀ b o, b ≠ B → (Mem.new m B .i32 n (fun _ => 0)).val b o = m.val b o := fun b o h => by simp only [Mem.new, h, if_false]
 have hrd : Rd (Mem.new m B .i32 n (fun _ => 0)) .i32 B 0 n := fun i hi => by simp only [Mem.new, if_true]; rw [if_pos (by omega)]
 refine text_30 (T := T) hn hct (Nat.le_refl _) (tx.keep hs fun i hi => hv _ _ (tx.rd.ne_fresh (by omega) hB)) hrd ?_ ?_ (fun x hx => ?_) fun m4 hs4 ho4 hsa => hK B m4 hB (hs.trans hs4) (fun x y hn' => ?_) (hs4.rd hrd) hsa
 ·simp only [Mem.new, if_true]
 ·rcases Nat.eq_zero_or_pos n with h0 | h0
  ·subst h0; unfold Apart; omega
  ·exact .inl (Ne.symm (tx.rd.ne_fresh h0 hB))
 ·simp only [Mem.new, if_true]
 ·have hne : x ≠ B := fun e => hn' (e ▸ hB)
  rw [ho4 x y ?_, hv x y hne]
  rintro (h | h)
  ·exact hne h.1
  ·exact hn' (hs.fresh h)
theorem arr_14 {w0 : World} {m : Mem} {T : Nat → Int} {n c : Nat} {sd : Option Addr} {K : Value → Mem → Prop} (hn : n ≤ 1000000) (hr : rowOK m .u8 sd n c) (hv : ∀ i, i < n → elemV m sd i = T i) (hT : ∀ i, i < n → 0 ≤ T i ∧ T i < 256)
  (hK : ∀ B m', m.fresh B → SameK m m' → Out m m' (fun x _ => m.fresh x) → Rd m' .i32 B 0 n → SA T n (fun x => m'.val B (0 + x)) → K (.slice (some ⟨B, 0, none⟩) n n) m') :
  callV Tryz.prog w0 14 [.slice sd n c] m K := by
 refine C_F14 ?_
 unfold M_F14
 rintro B1 hB1 m2 rfl
 have hs2 := SameK.new hB1 .u8 0 (fun _ => 0)
 have ho2 : Out m (Mem.new m B1 .u8 0 (fun _ => 0)) (fun x _ => m.fresh x) := fun x y hn' => by
  have : x ≠ B1 := fun e => hn' (e ▸ hB1)
  simp only [Mem.new, this, if_false]
 have hr2 : rowOK (Mem.new m B1 .u8 0 (fun _ => 0)) .u8 sd n c := hr.keep hs2
 have hv2 : ∀ i, i < n → elemV (Mem.new m B1 .u8 0 (fun _ => 0)) sd i = T i := fun i hi => (hr.same ho2 (fun h => h) hi).trans (hv i hi)
 have go : ∀ {B cc : Nat} {m4 : Mem}, SameK m m4 → Out m m4 (fun x _ => m.fresh x) → n ≤ cc → Tx m4 .u8 B 0 n 256 T →
   callV Tryz.prog w0 29 [.slice (some ⟨B, 0, none⟩) n cc] m4 fun v5 m6 => ∃ b7 o8 l9 c10, v5 = .slice (some ⟨b7, o8, none⟩) l9 c10 ∧ K (.slice (some ⟨b7, o8, none⟩) l9 c10) m6 := by
  intro B cc m4 hs ho hcc tx
  refine zz_29 hn hcc tx fun B' m' hB' hs' ho' hrd hsa => ⟨_, _, _, _, rfl, hK B' m' (hs.fresh hB') (hs.trans hs') (ho.trans (ho'.mono fun x y h => hs.fresh h)) hrd hsa⟩
 refine ⟨fun i hi => by omega, hr2, by omega, fun hroom => ?_, fun hgrow => ?_⟩
 ·obtain rfl : n = 0 := by omega
  refine ⟨rfl, fun i hi => by omega, by simp only [Mem.new, if_true], ?_⟩
  rintro m4 rfl
  refine go (hs2.trans (SameK.refl _)) (fun x y hn' => ?_) (by omega) ⟨fun i hi => by omega, fun i hi => by omega, fun i hi => by omega, fun i hi => by omega⟩
  rw [← ho2 x y hn']
  simp only [Mem.put]
  rw [if_neg (by omega)]
 ·intro B cc hB hcc m4 hm4
  subst hm4
  have hB0 : m.fresh B := hs2.fresh hB
  rw [Nat.zero_add] at hcc ⊢
  refine go (hs2.trans (SameK.new hB _ _ _)) (fun x y hn' => ?_) hcc ⟨fun i hi => ?_, fun i hi => ?_, fun i hi => (hT i hi).1, fun i hi => (hT i hi).2⟩
  ·have : x ≠ B := fun e => hn' (e ▸ hB0)
   rw [← ho2 x y hn']
   simp only [Mem.new, this, if_false]
  ·simp only [Mem.new, if_true]; rw [if_pos (by omega)]
  ·simp only [Mem.new, if_true]
   rw [if_neg (by omega), if_pos (by omega)]
   rw [Nat.zero_add, Nat.sub_zero]; exact hv2 i hi
theorem ints_13 {w0 : World} {m : Mem} {A : Nat → Int} {n bi oi ci : Nat} {K : Value → Mem → Prop} (hn : n ≤ 1000000) (hr : Rd m .i32 bi oi n) (hv : ∀ i, i < n → m.val bi (oi + i) = A i) (hA : ∀ i, i < n → 0 ≤ A i ∧ A i ≤ 1000000)
  (hK : ∀ v m', SameK m m' → Out m m' (fun x _ => m.fresh x) → IntsOK m m' v n A → K v m') :
  callV Tryz.prog w0 13 [.slice (some ⟨bi, oi, none⟩) n ci] m K := by
 let I : LI := fun ps ls m' => match ps, ls with
   | [.sl b o l c, .iv _ s7], [.vv out, .iv _ s8] => (bi = b ∧ oi = o ∧ n = l) ∧ ∃ t : Nat, s7 = n ∧ s8 = t ∧ t ≤ n ∧ SameK m m' ∧ Out m m' (fun x _ => m.fresh x) ∧ IntsOK m m' out t A
   | _, _ => False
 let mu : LM := fun _ ls => match ls with | [_, .iv _ i] => (n - i).toNat | _ => 0
 refine C_F13 (I0 := I)
  (X0 := fun _ ps ls m' => match ls with
   | [.vv out, _] => SameK m m' ∧ Out m m' (fun x _ => m.fresh x) ∧ IntsOK m m' out n A
   | _ => False) (mu0 := mu) ?_ ?_
 ·intro b6 o6 l6 c6 s7 out s8 k m' hI hmu
  obtain ⟨⟨rfl, rfl, rfl⟩, t, rfl, rfl, ht, hs, ho, hout⟩ := (show (_ ∧ _ ∧ _) ∧ ∃ t : Nat, _ ∧ _ ∧ _ ∧ _ ∧ _ ∧ IntsOK _ _ _ _ _ from hI)
  clear hI
  have hmu' : ((n : Int) - t).toNat < k + 1 := hmu
  have leaf : ∀ {v : Value} {m2 : Mem}, t < n → SameK m m2 → Out m m2 (fun x _ => m.fresh x) → IntsOK m m2 v (t + 1) A → KF1 L0_F13 I mu (P0_F13 bi oi n c6 n) k [v, .int .i64 ((t : Int) + 1)] m2 := fun h1 h2 h3 h4 =>
   KF1_mk (And.intro (And.intro ⟨rfl, rfl, rfl⟩ ⟨t + 1, rfl, by omega, h1, h2, h3, h4⟩) (show ((n : Int) - ((t : Int) + 1)).toNat < k from by omega))
  clear_value I mu
  unfold R0_F13
  refine cond_of (fun hb => ?_) (fun hb => ?_)
  ·have htn : t < n := by have := of_decide_eq_true hb; omega
   rw [Int.toNat_natCast]
   have hA' := hA t htn
   have hbf := hr.not_fresh (by omega)
   have hk1 := hs.rd hr t htn
   have hi1 : inR .i64 (A t) := inR_i64 (by omega) (by omega)
   have hi2 : inR .i64 ((t : Int) + 1) := inR_i64 (by omega) (by omega)
   refine ⟨by omega, by omega, hk1, fun z hz => ?_⟩
   obtain rfl : z = A t := by rw [← hz, ho _ _ hbf]; exact hv t htn
   repeat ((with_reducible refine And.intro ?_ ?_); · first | omega | with_reducible assumption | exact hk1)
   intro B hB m6 hm6
   subst hm6
   have hs6 := hs.trans (SameK.new hB .i64 1 (fun _ => A t))
   have hB0 := hs.fresh hB
   have ho6 : Out m (Mem.new m' B .i64 1 (fun _ => A t)) (fun x _ => m.fresh x) := fun x y hn' => by
    have : x ≠ B := fun e => hn' (e ▸ hB0)
    simp only [Mem.new, this, if_false]; exact ho x y hn'
   refine hout.push hs6 ho6 hB (by omega) fun v m8 h1 h2 h3 => ⟨hi2, leaf htn h1 h2 h3⟩
  ·have htn : ¬ t < n := by have := of_decide_eq_false hb; omega
   obtain rfl : t = n := by omega
   exact XF1_mk (show SameK _ _ ∧ Out _ _ _ ∧ IntsOK _ _ _ _ _ from ⟨hs, ho, hout⟩)
 ·unfold M_F13
  refine And.intro (And.intro ⟨rfl, rfl, rfl⟩ ⟨0, rfl, rfl, Nat.zero_le _, SameK.refl m, Out.refl _ _, ⟨none, 0, rfl, Nat.le_refl _, rfl, rfl⟩⟩) (fun z1 z2 m3 hX _ => ?_)
  obtain ⟨h1, h2, h3⟩ := (show SameK _ _ ∧ Out _ _ _ ∧ IntsOK _ _ _ _ _ from hX)
  exact hK z1 m3 h1 h2 h3
end Go.Proofs.YtdhifgedhaapjaaGreatDoor

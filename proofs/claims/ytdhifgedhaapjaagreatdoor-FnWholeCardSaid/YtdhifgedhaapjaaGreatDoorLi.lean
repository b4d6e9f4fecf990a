/- Words for rows of memory. -/
import Derived.Test.YtdhifgedhaapjaaGreatDoorLc
import Derived.Test.YtdhifgedhaapjaaGreatDoorLd
import Derived.Test.YtdhifgedhaapjaaGreatDoorLf
namespace Go.Proofs.YtdhifgedhaapjaaGreatDoor
open Go Sa
def Rd (m : Mem) (k : IntKind) (b o l : Nat) : Prop := ∀ i, i < l → m.kd b (o + i) = some k
def SameK (m m' : Mem) : Prop := (∀ b o k, m.kd b o = some k → m'.kd b o = some k) ∧ (∀ b, m.ro b = false → m'.ro b = false) ∧ ∀ b o v, m.ob b o = some v → m'.ob b o = some v
def InRow (b o l : Nat) : Nat → Nat → Prop := fun b' o' => b' = b ∧ o ≤ o' ∧ o' < o + l
def Out (m m' : Mem) (W : Nat → Nat → Prop) : Prop := ∀ b o, ¬ W b o → m'.val b o = m.val b o
def Apart (b o l b' o' l' : Nat) : Prop := b ≠ b' ∨ o + l ≤ o' ∨ o' + l' ≤ o
theorem SameK.refl (m : Mem) : SameK m m := ⟨fun _ _ _ h => h, fun _ h => h, fun _ _ _ h => h⟩
theorem SameK.trans {a b c : Mem} (h : SameK a b) (h' : SameK b c) : SameK a c := ⟨fun b o k hk => h'.1 b o k (h.1 b o k hk), fun b hb => h'.2.1 b (h.2.1 b hb), fun b o v hv => h'.2.2 b o v (h.2.2 b o v hv)⟩
theorem SameK.st (m : Mem) (b o : Nat) (v : Int) : SameK m (m.st b o v) := SameK.refl m
theorem SameK.fill (m : Mem) (b o n : Nat) (v : Int) : SameK m (m.fill b o n v) := SameK.refl m
theorem SameK.copy (m : Mem) (b o sb so n : Nat) : SameK m (m.copy b o sb so n) := SameK.refl m
theorem SameK.rd {m m' : Mem} (h : SameK m m') {k : IntKind} {b o l : Nat} (hr : Rd m k b o l) : Rd m' k b o l := fun i hi => h.1 _ _ _ (hr i hi)
theorem SameK.ro {m m' : Mem} (h : SameK m m') {b : Nat} (hr : m.ro b = false) : m'.ro b = false := h.2.1 b hr
theorem SameK.ob {m m' : Mem} (h : SameK m m') {b o : Nat} {v : Value} (hv : m.ob b o = some v) : m'.ob b o = some v := h.2.2 b o v hv
theorem SameK.new {m : Mem} {b : Nat} (hf : m.fresh b) (k : IntKind) (n : Nat) (f : Nat → Int) : SameK m (m.new b k n f) := by
 refine ⟨fun b' o k' h => ?_, fun b' h => ?_, fun _ _ _ h => h⟩
 ·have : b' ≠ b := by rintro rfl; rw [(hf o).1] at h; cases h
  simp only [Mem.new, this, if_false]; exact h
 ·simp only [Mem.new]
  split
  ·rfl
  ·exact h
theorem SameK.fresh {m m' : Mem} (h : SameK m m') {b : Nat} (hf : m'.fresh b) : m.fresh b := fun o => by
 constructor
 ·cases hk : m.kd b o with
  | none => rfl
  | some k => have := h.1 b o k hk; rw [(hf o).1] at this; cases this
 ·cases hk : m.ob b o with
  | none => rfl
  | some k => have := h.2.2 b o k hk; rw [(hf o).2] at this; cases this
theorem Rd.at {m : Mem} {k : IntKind} {b o l : Nat} (h : Rd m k b o l) {i : Nat} (hi : i < l) : m.kd b (o + i) = some k := h i hi
theorem Rd.le {m : Mem} {k : IntKind} {b o l l' : Nat} (h : Rd m k b o l) (hl : l' ≤ l) : Rd m k b o l' := fun i hi => h i (by omega)
theorem Out.refl (m : Mem) (W : Nat → Nat → Prop) : Out m m W := fun _ _ _ => rfl
theorem Out.trans {a b c : Mem} {W : Nat → Nat → Prop} (h : Out a b W) (h' : Out b c W) : Out a c W := fun x y hw => (h' x y hw).trans (h x y hw)
theorem Out.mono {a b : Mem} {W W' : Nat → Nat → Prop} (h : Out a b W) (hw : ∀ x y, W x y → W' x y) : Out a b W' := fun x y hn => h x y fun hx => hn (hw x y hx)
theorem Out.st {m m' : Mem} {W : Nat → Nat → Prop} (h : Out m m' W) {b o : Nat} (hw : W b o) (v : Int) : Out m (m'.st b o v) W := fun x y hn => by
 simp only [Mem.st]
 rw [if_neg (by rintro ⟨rfl, rfl⟩; exact hn hw)]
 exact h x y hn
theorem Out.fill (m : Mem) (b o n : Nat) (v : Int) : Out m (m.fill b o n v) (InRow b o n) := fun x y hn => by
 simp only [Mem.fill]
 rw [if_neg (by rintro ⟨rfl, h1, h2⟩; exact hn ⟨rfl, h1, h2⟩)]
theorem Out.row {m m' : Mem} {b o l b' o' l' : Nat} (h : Out m m' (InRow b o l)) (ha : Apart b o l b' o' l') {i : Nat} (hi : i < l') : m'.val b' (o' + i) = m.val b' (o' + i) :=
 h _ _ (by rintro ⟨rfl, h1, h2⟩; rcases ha with h | h | h <;> omega)
theorem InRow.mk {b o l i : Nat} (h : i < l) : InRow b o l b (o + i) := ⟨rfl, by omega, by omega⟩
theorem st_same (m : Mem) (b o : Nat) (v : Int) : (m.st b o v).val b o = v := by simp [Mem.st]
theorem st_row_ne (m : Mem) (b o : Nat) (v : Int) {i j : Nat} (h : i ≠ j) : (m.st b (o + j) v).val b (o + i) = m.val b (o + i) := by
 simp only [Mem.st]; rw [if_neg (by omega)]
theorem st_val (m : Mem) (b o : Nat) (v : Int) (i j : Nat) : (m.st b (o + j) v).val b (o + i) = if i = j then v else m.val b (o + i) := by
 simp only [Mem.st]
 by_cases h : i = j
 ·subst h; simp
 ·rw [if_neg (by omega), if_neg h]
theorem st_apart {m : Mem} {b o l b' o' l' : Nat} (ha : Apart b o l b' o' l') (v : Int) {i j : Nat} (hi : i < l) (hj : j < l') : (m.st b (o + i) v).val b' (o' + j) = m.val b' (o' + j) := by
 simp only [Mem.st]
 rw [if_neg]
 rintro ⟨rfl, h⟩
 rcases ha with h' | h' | h' <;> omega
theorem Apart.symm {b o l b' o' l' : Nat} (h : Apart b o l b' o' l') : Apart b' o' l' b o l := by
 rcases h with h | h | h
 ·exact .inl (Ne.symm h)
 ·exact .inr (.inr h)
 ·exact .inr (.inl h)
theorem Apart.sub {b o l b' o' l' x y x' y' : Nat} (h : Apart b o l b' o' l') (h1 : o ≤ x) (h2 : x + y ≤ o + l) (h3 : o' ≤ x') (h4 : x' + y' ≤ o' + l') : Apart b x y b' x' y' := by
 rcases h with h | h | h
 ·exact .inl h
 ·exact .inr (.inl (by omega))
 ·exact .inr (.inr (by omega))
theorem inR_i32 {z : Int} (h0 : -2147483648 ≤ z) (h1 : z ≤ 2147483647) : inR .i32 z := wrap_i32 h0 h1
theorem inR_i64 {z : Int} (h0 : -9223372036854775808 ≤ z) (h1 : z ≤ 9223372036854775807) : inR .i64 z := wrap_i64 h0 h1
structure Tx (m : Mem) (k : IntKind) (b o n : Nat) (tm : Int) (T : Nat → Int) : Prop where
 rd : Rd m k b o n
 v : ∀ i, i < n → m.val b (o + i) = T i
 lo : ∀ i, i < n → 0 ≤ T i
 hi : ∀ i, i < n → T i < tm
theorem Tx.keep {m m' : Mem} {k : IntKind} {b o n : Nat} {tm : Int} {T : Nat → Int} (h : Tx m k b o n tm T) (hk : SameK m m') (ho : ∀ i, i < n → m'.val b (o + i) = m.val b (o + i)) : Tx m' k b o n tm T :=
 ⟨hk.rd h.rd, fun i hi => (ho i hi).trans (h.v i hi), h.lo, h.hi⟩
structure InvF (m0 : Mem) (T : Nat → Int) (n b o l : Nat) (i : Int) (m : Mem) : Prop where
 hs : SameK m0 m
 ho : Out m0 m (InRow b o l)
 hi0 : 0 ≤ i
 hi1 : i ≤ n
 hcnt : ∀ c, c < l → m.val b (o + c) = cc T i.toNat c
/-! ### The slice of counts: nil, or a row -/
def FRow (f : Value) : Nat → Nat → Prop :=
 match f with
 | .slice (some a) l _ => InRow a.block a.off l
 | _ => fun _ _ => False
inductive FrOK (m : Mem) (ks : IntKind) (T : Nat → Int) (n tm bt ot bk ok ba oa : Nat) : Value → Prop where
 | nil : FrOK m ks T n tm bt ot bk ok ba oa (.slice none 0 0)
 | row {b o c : Nat} (hc : tm ≤ c) (hF : Rd m ks b o tm) (hr : m.ro b = false) (ht : Apart b o tm bt ot n) (hk : Apart b o tm bk ok tm) (ha : Apart b o tm ba oa n)
   (hok : 0 ≤ m.val b o → ∀ c, c < tm → m.val b (o + c) = cc T n c) : FrOK m ks T n tm bt ot bk ok ba oa (.slice (some ⟨b, o, none⟩) tm c)
def FrDone (f : Value) (T : Nat → Int) (n : Nat) (m : Mem) : Prop :=
 match f with
 | .slice (some a) l _ => ∀ c, c < l → m.val a.block (a.off + c) = cc T n c
 | _ => True
theorem FrOK.keep {m m' : Mem} {ks : IntKind} {T : Nat → Int} {n tm bt ot bk ok ba oa : Nat} {f : Value} (h : FrOK m ks T n tm bt ot bk ok ba oa f) (h1 : 1 ≤ tm) (hk : SameK m m')
  (ho : ∀ x y, FRow f x y → m'.val x y = m.val x y) : FrOK m' ks T n tm bt ot bk ok ba oa f := by
 cases h with
 | nil => exact .nil
 | row hc hF hr ht hk' ha hok =>
  refine .row hc (hk.rd hF) (hk.ro hr) ht hk' ha fun h0 c hcl => ?_
  rw [ho _ _ (InRow.mk hcl)]
  refine hok ?_ c hcl
  rw [← ho _ _ ⟨rfl, Nat.le_refl _, by omega⟩]
  exact h0
theorem FrOK.done {m m' : Mem} {ks : IntKind} {T : Nat → Int} {n tm bt ot bk ok ba oa : Nat} {f : Value} (h : FrOK m ks T n tm bt ot bk ok ba oa f) (hk : SameK m m')
  (hd : FrDone f T n m') : FrOK m' ks T n tm bt ot bk ok ba oa f := by
 cases h with
 | nil => exact .nil
 | row hc hF hr ht hk' ha hok => exact .row hc (hk.rd hF) (hk.ro hr) ht hk' ha fun _ => hd
theorem FrDone.keep {m m' : Mem} {T : Nat → Int} {n : Nat} {f : Value} (h : FrDone f T n m) (ho : ∀ x y, FRow f x y → m'.val x y = m.val x y) : FrDone f T n m' := by
 unfold FrDone at *
 split
 ·rename_i a l c
  intro c hc
  rw [ho _ _ (InRow.mk hc)]
  exact h c hc
 ·trivial
theorem FrOK.not_in {m : Mem} {ks : IntKind} {T : Nat → Int} {n tm bt ot bk ok ba oa : Nat} {f : Value} (h : FrOK m ks T n tm bt ot bk ok ba oa f) {x y : Nat} (hf : FRow f x y) :
  ¬ InRow bk ok tm x y ∧ ¬ InRow ba oa n x y ∧ ¬ InRow bt ot n x y := by
 cases h with
 | nil => exact hf.elim
 | row hc hF hr ht hk' ha hok =>
  obtain ⟨rfl, h1, h2⟩ := hf
  simp only at h1 h2
  refine ⟨?_, ?_, ?_⟩
  ·rintro ⟨rfl, h3, h4⟩; rcases hk' with h | h | h <;> omega
  ·rintro ⟨rfl, h3, h4⟩; rcases ha with h | h | h <;> omega
  ·rintro ⟨rfl, h3, h4⟩; rcases ht with h | h | h <;> omega
structure InvB (m0 : Mem) (f : Value) (T : Nat → Int) (n b o l b' o' : Nat) (d : Int) (total i : Int) (m : Mem) : Prop where
 hs : SameK m0 m
 ho : Out m0 m (fun x y => FRow f x y ∨ InRow b o l x y)
 hd : FrDone f T n m
 hi0 : 0 ≤ i
 hi1 : i ≤ l
 ht : total = bs T n i
 hb : ∀ c, c < i.toNat → m.val b (o + c) = bs T n (c + d)
 hf : ∀ c, i.toNat ≤ c → c < l → m.val b' (o' + c) = cc T n c
end Go.Proofs.YtdhifgedhaapjaaGreatDoor
namespace Go.Proofs.YtdhifgedhaapjaaGreatDoor
open Go Sa
theorem freq_104 {w0 : World} {m : Mem} {T : Nat → Int} {n bt ot ct bf of cf bk ok lk ck : Nat} {K : Value → Mem → Prop} (hn : n ≤ 1000000)
  {tm : Nat} (htm : tm = 256) (h1 : 1 ≤ tm) (hc : tm ≤ cf) (hT : Tx m .u8 bt ot n tm T) (hF : Rd m .i32 bf of tm) (hr : m.ro bf = false) (ha : Apart bf of tm bt ot n)
  (hok : 0 ≤ m.val bf of → ∀ c, c < tm → m.val bf (of + c) = cc T n c)
  (hK : ∀ m', SameK m m' → Out m m' (InRow bf of tm) → (∀ c, c < tm → m'.val bf (of + c) = cc T n c) → K (.slice (some ⟨bf, of, none⟩) tm cf) m') :
  callV Tryz.prog w0 104 [.slice (some ⟨bt, ot, none⟩) n ct, .slice (some ⟨bf, of, none⟩) tm cf, .slice (some ⟨bk, ok, none⟩) lk ck] m K := by
 refine C_F104 (I0 := fun ps ls m' => match ps, ls with
   | [.sl b o l c, .sl b' o' l' c', .iv _ x], [.iv _ i] => (b = bf ∧ o = of ∧ l = tm ∧ b' = bt ∧ o' = ot ∧ l' = n ∧ x = n) ∧ InvF m T n bf of tm i m'
   | _, _ => False)
  (X0 := fun _ ps ls m' => match ps, ls with
   | _, [.iv _ i] => i = n ∧ InvF m T n bf of tm i m'
   | _, _ => False) (mu0 := fun _ ls => match ls with | [.iv _ i] => (n - i).toNat | _ => 0) ?_ ?_
 ·intro bf' of' lf' cf' b24 o24 l24 c24 s25 s26 k m' hI hmu
  obtain ⟨⟨rfl, rfl, rfl, rfl, rfl, rfl, rfl⟩, hJ⟩ := (show (_ ∧ _ ∧ _ ∧ _ ∧ _ ∧ _ ∧ _) ∧ InvF _ _ _ _ _ _ _ _ from hI)
  clear hI
  obtain ⟨hs, ho, hi0, hi1, hcnt⟩ := hJ
  have hmu' : ((l24 : Int) - s26).toNat < k + 1 := hmu
  have hr' := hs.ro hr
  have hF' := hs.rd hF
  unfold R0_F104
  refine cond_of (fun hb => ?_) (fun hb => ?_)
  ·have hlt : s26 < l24 := of_decide_eq_true hb
   obtain ⟨j, rfl⟩ := Int.eq_ofNat_of_zero_le hi0
   have hj : j < l24 := by omega
   rw [Int.toNat_natCast] at *
   have hv : m'.val b24 (o24 + j) = T j := by rw [ho.row ha hj]; exact hT.v j hj
   have hlo := hT.lo j hj
   have hhi := hT.hi j hj
   obtain ⟨c, hcj⟩ := Int.eq_ofNat_of_zero_le hlo
   have hk1 : m'.kd b24 (o24 + j) = some .u8 := (hs.rd hT.rd) j hj
   have hcl : c < lf' := by omega
   have hcv := hcnt c hcl
   have hle := cn_le_self (fun i => T i = (c : Int)) j
   have hk2 := hF' c hcl
   have hcc : cc T j (c : Int) = cn (fun i => T i = (c : Int)) j := rfl
   refine ⟨by omega, by omega, hk1, fun z hz => ?_⟩
   obtain rfl : z = (c : Int) := by rw [← hz, hv, hcj]
   rw [Int.toNat_natCast]
   refine ⟨by omega, by omega, hk2, fun z2 hz2 => ?_⟩
   obtain rfl : z2 = (cc T j (c : Int) : Int) := by rw [← hz2, hcv]
   refine ⟨inR_i32 (by omega) (by omega), by omega, by omega, hk2, hr', fun m1 hm1 => ⟨inR_i64 (by omega) (by omega), ?_⟩⟩
   subst hm1
   refine KF1_mk (And.intro (And.intro ⟨rfl, rfl, rfl, rfl, rfl, rfl, rfl⟩ (InvF.mk (hs.trans (SameK.st _ _ _ _)) (ho.st (InRow.mk hcl) _) (by omega) (by omega) fun d hd => ?_)) (show ((l24 : Int) - ((j : Int) + 1)).toNat < k from ?_))
   ·rw [st_val, show ((j : Int) + 1).toNat = j + 1 by omega]
    by_cases hdc : d = c
    ·subst hdc
     rw [if_pos rfl]
     unfold cc
     rw [cn_succ_pos hcj]; omega
    ·rw [if_neg hdc, hcnt d hd]
     unfold cc
     rw [cn_succ_neg (by omega)]
   ·omega
  ·have hge : ¬ s26 < l24 := of_decide_eq_false hb
   exact XF1_mk (And.intro (by omega : s26 = l24) ⟨hs, ho, hi0, hi1, hcnt⟩)
 ·unfold M_F104
  have h0 := hF 0 (by omega)
  rw [show Int.toNat (0 : Int) = 0 by rfl]
  refine ⟨by omega, by omega, h0, fun z hz => cond_of (fun hb => ?_) (fun hb => ?_)⟩
  ·have hge : m.val bf (of + 0) ≥ 0 := hz ▸ of_decide_eq_true hb
   exact hK m (SameK.refl m) (Out.refl m _) (hok hge)
  ·subst htm; refine ⟨by omega, by omega, fun i hi => hF i (by omega), hr, fun mf hmf => ?_⟩
   subst hmf
   refine ⟨And.intro ⟨rfl, rfl, rfl, rfl, rfl, rfl, rfl⟩ (InvF.mk (SameK.fill _ _ _ _ _) (Out.fill _ _ _ _ _) (by omega) (by omega) fun c hc => ?_), fun z m2 hX _ => ?_⟩
   ·simp only [Mem.fill]
    rw [if_pos ⟨trivial, by omega, by omega⟩]; rfl
   ·obtain ⟨hz, hs, ho, _, _, hcnt⟩ := (show _ = _ ∧ InvF _ _ _ _ _ _ _ _ from hX)
    rw [hz, Int.toNat_natCast] at hcnt
    exact hK m2 hs ho hcnt
theorem freqn_104 {w0 : World} {m : Mem} {T : Nat → Int} {n bt ot ct bf of cf : Nat} {K : Value → Mem → Prop} (hn : n ≤ 1000000)
  {tm : Nat} (htm : tm = 256) (h1 : 1 ≤ tm) (hc : tm ≤ cf) (hT : Tx m .u8 bt ot n tm T) (hF : Rd m .i32 bf of tm) (hr : m.ro bf = false) (ha : Apart bf of tm bt ot n)
  (hK : ∀ m', SameK m m' → Out m m' (InRow bf of tm) → (∀ c, c < tm → m'.val bf (of + c) = cc T n c) → K (.slice (some ⟨bf, of, none⟩) tm cf) m') :
  callV Tryz.prog w0 104 [.slice (some ⟨bt, ot, none⟩) n ct, .slice none 0 0, .slice (some ⟨bf, of, none⟩) tm cf] m K := by
 refine C_F104n (I0 := fun ps ls m' => match ps, ls with
   | [.sl b o l c, .sl b' o' l' c', .iv _ x], [.iv _ i] => (b = bf ∧ o = of ∧ l = tm ∧ b' = bt ∧ o' = ot ∧ l' = n ∧ x = n) ∧ InvF m T n bf of tm i m'
   | _, _ => False)
  (X0 := fun _ ps ls m' => match ps, ls with
   | _, [.iv _ i] => i = n ∧ InvF m T n bf of tm i m'
   | _, _ => False) (mu0 := fun _ ls => match ls with | [.iv _ i] => (n - i).toNat | _ => 0) ?_ ?_
 ·intro bf' of' lf' cf' b24 o24 l24 c24 s25 s26 k m' hI hmu
  obtain ⟨⟨rfl, rfl, rfl, rfl, rfl, rfl, rfl⟩, hJ⟩ := (show (_ ∧ _ ∧ _ ∧ _ ∧ _ ∧ _ ∧ _) ∧ InvF _ _ _ _ _ _ _ _ from hI)
  clear hI
  obtain ⟨hs, ho, hi0, hi1, hcnt⟩ := hJ
  have hmu' : ((l24 : Int) - s26).toNat < k + 1 := hmu
  have hr' := hs.ro hr
  have hF' := hs.rd hF
  unfold R0_F104n
  refine cond_of (fun hb => ?_) (fun hb => ?_)
  ·have hlt : s26 < l24 := of_decide_eq_true hb
   obtain ⟨j, rfl⟩ := Int.eq_ofNat_of_zero_le hi0
   have hj : j < l24 := by omega
   rw [Int.toNat_natCast] at *
   have hv : m'.val b24 (o24 + j) = T j := by rw [ho.row ha hj]; exact hT.v j hj
   have hlo := hT.lo j hj
   have hhi := hT.hi j hj
   obtain ⟨c, hcj⟩ := Int.eq_ofNat_of_zero_le hlo
   have hk1 : m'.kd b24 (o24 + j) = some .u8 := (hs.rd hT.rd) j hj
   have hcl : c < lf' := by omega
   have hcv := hcnt c hcl
   have hle := cn_le_self (fun i => T i = (c : Int)) j
   have hk2 := hF' c hcl
   have hcc : cc T j (c : Int) = cn (fun i => T i = (c : Int)) j := rfl
   refine ⟨by omega, by omega, hk1, fun z hz => ?_⟩
   obtain rfl : z = (c : Int) := by rw [← hz, hv, hcj]
   rw [Int.toNat_natCast]
   refine ⟨by omega, by omega, hk2, fun z2 hz2 => ?_⟩
   obtain rfl : z2 = (cc T j (c : Int) : Int) := by rw [← hz2, hcv]
   refine ⟨inR_i32 (by omega) (by omega), by omega, by omega, hk2, hr', fun m1 hm1 => ⟨inR_i64 (by omega) (by omega), ?_⟩⟩
   subst hm1
   refine KF1_mk (And.intro (And.intro ⟨rfl, rfl, rfl, rfl, rfl, rfl, rfl⟩ (InvF.mk (hs.trans (SameK.st _ _ _ _)) (ho.st (InRow.mk hcl) _) (by omega) (by omega) fun d hd => ?_)) (show ((l24 : Int) - ((j : Int) + 1)).toNat < k from ?_))
   ·rw [st_val, show ((j : Int) + 1).toNat = j + 1 by omega]
    by_cases hdc : d = c
    ·subst hdc
     rw [if_pos rfl]
     unfold cc
     rw [cn_succ_pos hcj]; omega
    ·rw [if_neg hdc, hcnt d hd]
     unfold cc
     rw [cn_succ_neg (by omega)]
   ·omega
  ·have hge : ¬ s26 < l24 := of_decide_eq_false hb
   exact XF1_mk (And.intro (by omega : s26 = l24) ⟨hs, ho, hi0, hi1, hcnt⟩)
 ·unfold M_F104n
  subst htm; refine ⟨by omega, by omega, fun i hi => hF i (by omega), hr, fun mf hmf => ?_⟩
  subst hmf
  refine ⟨And.intro ⟨rfl, rfl, rfl, rfl, rfl, rfl, rfl⟩ (InvF.mk (SameK.fill _ _ _ _ _) (Out.fill _ _ _ _ _) (by omega) (by omega) fun c hc => ?_), fun z m2 hX _ => ?_⟩
  ·simp only [Mem.fill]
   rw [if_pos ⟨trivial, by omega, by omega⟩]; rfl
  ·obtain ⟨hz, hs, ho, _, _, hcnt⟩ := (show _ = _ ∧ InvF _ _ _ _ _ _ _ _ from hX)
   rw [hz, Int.toNat_natCast] at hcnt
   exact hK m2 hs ho hcnt
theorem freq_128 {w0 : World} {m : Mem} {T : Nat → Int} {n bt ot ct bf of cf bk ok lk ck : Nat} {K : Value → Mem → Prop} (hn : n ≤ 1000000)
  {tm : Nat} (htm : True) (h1 : 1 ≤ tm) (hc : tm ≤ cf) (hT : Tx m .i32 bt ot n tm T) (hF : Rd m .i32 bf of tm) (hr : m.ro bf = false) (ha : Apart bf of tm bt ot n)
  (hok : 0 ≤ m.val bf of → ∀ c, c < tm → m.val bf (of + c) = cc T n c)
  (hK : ∀ m', SameK m m' → Out m m' (InRow bf of tm) → (∀ c, c < tm → m'.val bf (of + c) = cc T n c) → K (.slice (some ⟨bf, of, none⟩) tm cf) m') :
  callV Tryz.prog w0 128 [.slice (some ⟨bt, ot, none⟩) n ct, .slice (some ⟨bf, of, none⟩) tm cf, .slice (some ⟨bk, ok, none⟩) lk ck] m K := by
 refine C_F128 (I0 := fun ps ls m' => match ps, ls with
   | [.sl b o l c, .sl b' o' l' c', .iv _ x], [.iv _ i] => (b = bf ∧ o = of ∧ l = tm ∧ b' = bt ∧ o' = ot ∧ l' = n ∧ x = n) ∧ InvF m T n bf of tm i m'
   | _, _ => False)
  (X0 := fun _ ps ls m' => match ps, ls with
   | _, [.iv _ i] => i = n ∧ InvF m T n bf of tm i m'
   | _, _ => False) (mu0 := fun _ ls => match ls with | [.iv _ i] => (n - i).toNat | _ => 0) ?_ ?_
 ·intro bf' of' lf' cf' b24 o24 l24 c24 s25 s26 k m' hI hmu
  obtain ⟨⟨rfl, rfl, rfl, rfl, rfl, rfl, rfl⟩, hJ⟩ := (show (_ ∧ _ ∧ _ ∧ _ ∧ _ ∧ _ ∧ _) ∧ InvF _ _ _ _ _ _ _ _ from hI)
  clear hI
  obtain ⟨hs, ho, hi0, hi1, hcnt⟩ := hJ
  have hmu' : ((l24 : Int) - s26).toNat < k + 1 := hmu
  have hr' := hs.ro hr
  have hF' := hs.rd hF
  unfold R0_F128
  refine cond_of (fun hb => ?_) (fun hb => ?_)
  ·have hlt : s26 < l24 := of_decide_eq_true hb
   obtain ⟨j, rfl⟩ := Int.eq_ofNat_of_zero_le hi0
   have hj : j < l24 := by omega
   rw [Int.toNat_natCast] at *
   have hv : m'.val b24 (o24 + j) = T j := by rw [ho.row ha hj]; exact hT.v j hj
   have hlo := hT.lo j hj
   have hhi := hT.hi j hj
   obtain ⟨c, hcj⟩ := Int.eq_ofNat_of_zero_le hlo
   have hk1 : m'.kd b24 (o24 + j) = some .i32 := (hs.rd hT.rd) j hj
   have hcl : c < lf' := by omega
   have hcv := hcnt c hcl
   have hle := cn_le_self (fun i => T i = (c : Int)) j
   have hk2 := hF' c hcl
   have hcc : cc T j (c : Int) = cn (fun i => T i = (c : Int)) j := rfl
   refine ⟨by omega, by omega, hk1, fun z hz => ?_⟩
   obtain rfl : z = (c : Int) := by rw [← hz, hv, hcj]
   rw [Int.toNat_natCast]
   refine ⟨by omega, by omega, hk2, fun z2 hz2 => ?_⟩
   obtain rfl : z2 = (cc T j (c : Int) : Int) := by rw [← hz2, hcv]
   refine ⟨inR_i32 (by omega) (by omega), by omega, by omega, hk2, hr', fun m1 hm1 => ⟨inR_i64 (by omega) (by omega), ?_⟩⟩
   subst hm1
   refine KF1_mk (And.intro (And.intro ⟨rfl, rfl, rfl, rfl, rfl, rfl, rfl⟩ (InvF.mk (hs.trans (SameK.st _ _ _ _)) (ho.st (InRow.mk hcl) _) (by omega) (by omega) fun d hd => ?_)) (show ((l24 : Int) - ((j : Int) + 1)).toNat < k from ?_))
   ·rw [st_val, show ((j : Int) + 1).toNat = j + 1 by omega]
    by_cases hdc : d = c
    ·subst hdc
     rw [if_pos rfl]
     unfold cc
     rw [cn_succ_pos hcj]; omega
    ·rw [if_neg hdc, hcnt d hd]
     unfold cc
     rw [cn_succ_neg (by omega)]
   ·omega
  ·have hge : ¬ s26 < l24 := of_decide_eq_false hb
   exact XF1_mk (And.intro (by omega : s26 = l24) ⟨hs, ho, hi0, hi1, hcnt⟩)
 ·unfold M_F128
  have h0 := hF 0 (by omega)
  rw [show Int.toNat (0 : Int) = 0 by rfl]
  refine ⟨by omega, by omega, h0, fun z hz => cond_of (fun hb => ?_) (fun hb => ?_)⟩
  ·have hge : m.val bf (of + 0) ≥ 0 := hz ▸ of_decide_eq_true hb
   exact hK m (SameK.refl m) (Out.refl m _) (hok hge)
  ·refine ⟨fun i hi => hF i (by omega), hr, fun mf hmf => ?_⟩
   subst hmf
   refine ⟨And.intro ⟨rfl, rfl, rfl, rfl, rfl, rfl, rfl⟩ (InvF.mk (SameK.fill _ _ _ _ _) (Out.fill _ _ _ _ _) (by omega) (by omega) fun c hc => ?_), fun z m2 hX _ => ?_⟩
   ·simp only [Mem.fill]
    rw [if_pos ⟨trivial, by omega, by omega⟩]; rfl
   ·obtain ⟨hz, hs, ho, _, _, hcnt⟩ := (show _ = _ ∧ InvF _ _ _ _ _ _ _ _ from hX)
    rw [hz, Int.toNat_natCast] at hcnt
    exact hK m2 hs ho hcnt
theorem freqn_128 {w0 : World} {m : Mem} {T : Nat → Int} {n bt ot ct bf of cf : Nat} {K : Value → Mem → Prop} (hn : n ≤ 1000000)
  {tm : Nat} (htm : True) (h1 : 1 ≤ tm) (hc : tm ≤ cf) (hT : Tx m .i32 bt ot n tm T) (hF : Rd m .i32 bf of tm) (hr : m.ro bf = false) (ha : Apart bf of tm bt ot n)
  (hK : ∀ m', SameK m m' → Out m m' (InRow bf of tm) → (∀ c, c < tm → m'.val bf (of + c) = cc T n c) → K (.slice (some ⟨bf, of, none⟩) tm cf) m') :
  callV Tryz.prog w0 128 [.slice (some ⟨bt, ot, none⟩) n ct, .slice none 0 0, .slice (some ⟨bf, of, none⟩) tm cf] m K := by
 refine C_F128n (I0 := fun ps ls m' => match ps, ls with
   | [.sl b o l c, .sl b' o' l' c', .iv _ x], [.iv _ i] => (b = bf ∧ o = of ∧ l = tm ∧ b' = bt ∧ o' = ot ∧ l' = n ∧ x = n) ∧ InvF m T n bf of tm i m'
   | _, _ => False)
  (X0 := fun _ ps ls m' => match ps, ls with
   | _, [.iv _ i] => i = n ∧ InvF m T n bf of tm i m'
   | _, _ => False) (mu0 := fun _ ls => match ls with | [.iv _ i] => (n - i).toNat | _ => 0) ?_ ?_
 ·intro bf' of' lf' cf' b24 o24 l24 c24 s25 s26 k m' hI hmu
  obtain ⟨⟨rfl, rfl, rfl, rfl, rfl, rfl, rfl⟩, hJ⟩ := (show (_ ∧ _ ∧ _ ∧ _ ∧ _ ∧ _ ∧ _) ∧ InvF _ _ _ _ _ _ _ _ from hI)
  clear hI
  obtain ⟨hs, ho, hi0, hi1, hcnt⟩ := hJ
  have hmu' : ((l24 : Int) - s26).toNat < k + 1 := hmu
  have hr' := hs.ro hr
  have hF' := hs.rd hF
  unfold R0_F128n
  refine cond_of (fun hb => ?_) (fun hb => ?_)
  ·have hlt : s26 < l24 := of_decide_eq_true hb
   obtain ⟨j, rfl⟩ := Int.eq_ofNat_of_zero_le hi0
   have hj : j < l24 := by omega
   rw [Int.toNat_natCast] at *
   have hv : m'.val b24 (o24 + j) = T j := by rw [ho.row ha hj]; exact hT.v j hj
   have hlo := hT.lo j hj
   have hhi := hT.hi j hj
   obtain ⟨c, hcj⟩ := Int.eq_ofNat_of_zero_le hlo
   have hk1 : m'.kd b24 (o24 + j) = some .i32 := (hs.rd hT.rd) j hj
   have hcl : c < lf' := by omega
   have hcv := hcnt c hcl
   have hle := cn_le_self (fun i => T i = (c : Int)) j
   have hk2 := hF' c hcl
   have hcc : cc T j (c : Int) = cn (fun i => T i = (c : Int)) j := rfl
   refine ⟨by omega, by omega, hk1, fun z hz => ?_⟩
   obtain rfl : z = (c : Int) := by rw [← hz, hv, hcj]
   rw [Int.toNat_natCast]
   refine ⟨by omega, by omega, hk2, fun z2 hz2 => ?_⟩
   obtain rfl : z2 = (cc T j (c : Int) : Int) := by rw [← hz2, hcv]
   refine ⟨inR_i32 (by omega) (by omega), by omega, by omega, hk2, hr', fun m1 hm1 => ⟨inR_i64 (by omega) (by omega), ?_⟩⟩
   subst hm1
   refine KF1_mk (And.intro (And.intro ⟨rfl, rfl, rfl, rfl, rfl, rfl, rfl⟩ (InvF.mk (hs.trans (SameK.st _ _ _ _)) (ho.st (InRow.mk hcl) _) (by omega) (by omega) fun d hd => ?_)) (show ((l24 : Int) - ((j : Int) + 1)).toNat < k from ?_))
   ·rw [st_val, show ((j : Int) + 1).toNat = j + 1 by omega]
    by_cases hdc : d = c
    ·subst hdc
     rw [if_pos rfl]
     unfold cc
     rw [cn_succ_pos hcj]; omega
    ·rw [if_neg hdc, hcnt d hd]
     unfold cc
     rw [cn_succ_neg (by omega)]
   ·omega
  ·have hge : ¬ s26 < l24 := of_decide_eq_false hb
   exact XF1_mk (And.intro (by omega : s26 = l24) ⟨hs, ho, hi0, hi1, hcnt⟩)
 ·unfold M_F128n
  refine ⟨fun i hi => hF i (by omega), hr, fun mf hmf => ?_⟩
  subst hmf
  refine ⟨And.intro ⟨rfl, rfl, rfl, rfl, rfl, rfl, rfl⟩ (InvF.mk (SameK.fill _ _ _ _ _) (Out.fill _ _ _ _ _) (by omega) (by omega) fun c hc => ?_), fun z m2 hX _ => ?_⟩
  ·simp only [Mem.fill]
   rw [if_pos ⟨trivial, by omega, by omega⟩]; rfl
  ·obtain ⟨hz, hs, ho, _, _, hcnt⟩ := (show _ = _ ∧ InvF _ _ _ _ _ _ _ _ from hX)
   rw [hz, Int.toNat_natCast] at hcnt
   exact hK m2 hs ho hcnt
end Go.Proofs.YtdhifgedhaapjaaGreatDoor
namespace Go.Proofs.YtdhifgedhaapjaaGreatDoor
open Go Sa
theorem bmax_97 {w0 : World} {m : Mem} {T : Nat → Int} {n bt ot ct bk ok ck ba oa : Nat} {f : Value} {K : Value → Mem → Prop} (hn : n ≤ 1000000)
  {tm : Nat} (htm : tm = 256) (htm2 : tm ≤ 1000000) (h1 : 1 ≤ tm) (hc : tm ≤ ck) (hT : Tx m .u8 bt ot n tm T) (hB : Rd m .i32 bk ok tm) (hr : m.ro bk = false) (ha : Apart bk ok tm bt ot n)
  (hf : FrOK m .i32 T n tm bt ot bk ok ba oa f)
  (hK : ∀ m', SameK m m' → Out m m' (fun x y => FRow f x y ∨ InRow bk ok tm x y) → (∀ c : Nat, c < tm → m'.val bk (ok + c) = bs T n (c + 1)) → FrDone f T n m' → K (.tuple #[]) m') :
  callV Tryz.prog w0 97 [.slice (some ⟨bt, ot, none⟩) n ct, f, .slice (some ⟨bk, ok, none⟩) tm ck] m K := by
 obtain ⟨bf, of, cf, hcf, hF, hap, hcall⟩ : ∃ bf of cf, tm ≤ cf ∧ Rd m .i32 bf of tm ∧ (bf = bk ∧ of = ok ∨ Apart bk ok tm bf of tm) ∧
   ∀ K' : Value → Mem → Prop, (∀ m', SameK m m' → Out m m' (fun x y => FRow f x y ∨ InRow bk ok tm x y) → (∀ c : Nat, c < tm → m'.val bf (of + c) = cc T n c) → FrDone f T n m' → K' (.slice (some ⟨bf, of, none⟩) tm cf) m') →
    callV Tryz.prog w0 104 [.slice (some ⟨bt, ot, none⟩) n ct, f, .slice (some ⟨bk, ok, none⟩) tm ck] m K' := by
  cases hf with
  | nil => exact ⟨bk, ok, ck, hc, hB, .inl ⟨rfl, rfl⟩, fun K' hK' => freqn_104 hn htm h1 hc hT hB hr ha fun m' h1 h2 h3 => hK' m' h1 (h2.mono fun _ _ h => .inr h) h3 trivial⟩
  | row hcf hF hrf hat hak haa hok => exact ⟨_, _, _, hcf, hF, .inr hak.symm, fun K' hK' => freq_104 hn htm h1 hcf hT hF hrf hat hok fun m' h1 h2 h3 => hK' m' h1 (h2.mono fun _ _ h => .inl h) h3 h3⟩
 refine C_F97 (I0 := fun ps ls m' => match ps, ls with
   | [.sl b o l c, .sl b' o' l' c', .iv _ x], [.iv _ t, .iv _ i] => (b = bk ∧ o = ok ∧ l = tm ∧ b' = bf ∧ o' = of ∧ l' = tm ∧ x = tm) ∧ InvB m f T n bk ok tm bf of 1 t i m'
   | _, _ => False)
  (X0 := fun _ ps ls m' => match ps, ls with
   | _, [.iv _ t, .iv _ i] => i = tm ∧ InvB m f T n bk ok tm bf of 1 t i m'
   | _, _ => False) (mu0 := fun _ ls => match ls with | [_, .iv _ i] => (tm - i).toNat | _ => 0) ?_ ?_
 ·intro bk' ok' lk' ck' b17 o17 l17 c17 s18 total s19 k m' hI hmu
  obtain ⟨⟨rfl, rfl, rfl, rfl, rfl, rfl, rfl⟩, hJ⟩ := (show (_ ∧ _ ∧ _ ∧ _ ∧ _ ∧ _ ∧ _) ∧ InvB _ _ _ _ _ _ _ _ _ _ _ _ _ from hI)
  clear hI
  obtain ⟨hs, ho, hd, hi0, hi1, htot, hb, hfr⟩ := hJ
  have hmu' : ((l17 : Int) - s19).toNat < k + 1 := hmu
  have hr' := hs.ro hr
  have hB' := hs.rd hB
  have hF' := hs.rd hF
  unfold R0_F97
  refine cond_of (fun hb2 => ?_) (fun hb2 => ?_)
  ·have hlt : s19 < l17 := of_decide_eq_true hb2
   obtain ⟨j, rfl⟩ := Int.eq_ofNat_of_zero_le hi0
   have hj : j < l17 := by omega
   rw [Int.toNat_natCast] at *
   have hv := hfr j (Nat.le_refl j) hj
   have hk1 := hF' j hj
   have hk2 := hB' j hj
   have hsum := bs_succ (T := T) (n := n) (j : Int)
   have hle := bs_le (T := T) (n := n) ((j : Int) + 1)
   have hle2 := bs_le (T := T) (n := n) (j : Int)
   have hi1' : inR .i32 (total + (cc T n (j : Int) : Int)) := inR_i32 (by omega) (by omega)
   have hi2' : inR .i64 ((j : Int) + 1) := inR_i64 (by omega) (by omega)
   refine ⟨by omega, by omega, hk1, fun z hz => ?_⟩
   obtain rfl : z = (cc T n (j : Int) : Int) := by rw [← hz, hv]
   repeat ((with_reducible refine And.intro ?_ ?_); · first | omega | assumption)
   intro m1 hm1
   subst hm1
   repeat ((with_reducible refine And.intro ?_ ?_); · first | omega | assumption)
   refine KF1_mk (And.intro (And.intro ⟨rfl, rfl, rfl, rfl, rfl, rfl, rfl⟩ (InvB.mk (hs.trans (SameK.st _ _ _ _)) (ho.st (.inr (InRow.mk hj)) _) ?_ (by omega) (by omega) (by omega) (fun c hc => ?_) (fun c hc1 hc2 => ?_))) (show ((l17 : Int) - ((j : Int) + 1)).toNat < k from by omega))
   ·refine hd.keep fun x y hxy => ?_
    have := (hf.not_in hxy).1
    simp only [Mem.st]
    rw [if_neg (by rintro ⟨rfl, rfl⟩; exact this (InRow.mk hj))]
   ·rw [st_val]
    by_cases hcj : c = j
    ·subst hcj; rw [if_pos rfl]; first | omega | (rw [htot]; simp)
    ·rw [if_neg hcj]; exact hb c (by omega)
   ·have hne : c ≠ j := by omega
    have hkeep : (m'.st bk' (ok' + j) (total + (cc T n (j : Int) : Int))).val b17 (o17 + c) = m'.val b17 (o17 + c) := by
     rcases hap with ⟨rfl, rfl⟩ | hap
     ·exact st_row_ne _ _ _ _ hne
     ·exact st_apart hap _ hj hc2
    rw [hkeep]
    exact hfr c (by omega) hc2
  ·have hge : ¬ s19 < l17 := of_decide_eq_false hb2
   exact XF1_mk (And.intro (by omega : s19 = l17) ⟨hs, ho, hd, hi0, hi1, htot, hb, hfr⟩)
 ·unfold M_F97
  refine hcall _ fun m1 hs1 ho1 hcnt hd1 => ⟨_, _, _, _, rfl, by omega, by omega, by omega, by omega, And.intro ⟨rfl, rfl, htm.symm, rfl, rfl, htm.symm, by omega⟩ (InvB.mk hs1 ho1 hd1 (by omega) (by omega) ?_ (fun c hc => by omega) (fun c _ hc => hcnt c hc)), ?_⟩
  ·have : bs T n 0 = 0 := cn_zero n fun i hi h => by have := hT.lo i hi; omega
   omega
  ·intro z7 z8 m9 hX _
   obtain ⟨hz, hs, ho, hd, _, _, _, hb, _⟩ := (show _ = _ ∧ InvB _ _ _ _ _ _ _ _ _ _ _ _ _ from hX)
   rw [hz, Int.toNat_natCast] at hb
   exact hK m9 hs ho hb hd
theorem bmin_98 {w0 : World} {m : Mem} {T : Nat → Int} {n bt ot ct bk ok ck ba oa : Nat} {f : Value} {K : Value → Mem → Prop} (hn : n ≤ 1000000)
  {tm : Nat} (htm : tm = 256) (htm2 : tm ≤ 1000000) (h1 : 1 ≤ tm) (hc : tm ≤ ck) (hT : Tx m .u8 bt ot n tm T) (hB : Rd m .i32 bk ok tm) (hr : m.ro bk = false) (ha : Apart bk ok tm bt ot n)
  (hf : FrOK m .i32 T n tm bt ot bk ok ba oa f)
  (hK : ∀ m', SameK m m' → Out m m' (fun x y => FRow f x y ∨ InRow bk ok tm x y) → (∀ c : Nat, c < tm → m'.val bk (ok + c) = bs T n (c + 0)) → FrDone f T n m' → K (.tuple #[]) m') :
  callV Tryz.prog w0 98 [.slice (some ⟨bt, ot, none⟩) n ct, f, .slice (some ⟨bk, ok, none⟩) tm ck] m K := by
 obtain ⟨bf, of, cf, hcf, hF, hap, hcall⟩ : ∃ bf of cf, tm ≤ cf ∧ Rd m .i32 bf of tm ∧ (bf = bk ∧ of = ok ∨ Apart bk ok tm bf of tm) ∧
   ∀ K' : Value → Mem → Prop, (∀ m', SameK m m' → Out m m' (fun x y => FRow f x y ∨ InRow bk ok tm x y) → (∀ c : Nat, c < tm → m'.val bf (of + c) = cc T n c) → FrDone f T n m' → K' (.slice (some ⟨bf, of, none⟩) tm cf) m') →
    callV Tryz.prog w0 104 [.slice (some ⟨bt, ot, none⟩) n ct, f, .slice (some ⟨bk, ok, none⟩) tm ck] m K' := by
  cases hf with
  | nil => exact ⟨bk, ok, ck, hc, hB, .inl ⟨rfl, rfl⟩, fun K' hK' => freqn_104 hn htm h1 hc hT hB hr ha fun m' h1 h2 h3 => hK' m' h1 (h2.mono fun _ _ h => .inr h) h3 trivial⟩
  | row hcf hF hrf hat hak haa hok => exact ⟨_, _, _, hcf, hF, .inr hak.symm, fun K' hK' => freq_104 hn htm h1 hcf hT hF hrf hat hok fun m' h1 h2 h3 => hK' m' h1 (h2.mono fun _ _ h => .inl h) h3 h3⟩
 refine C_F98 (I0 := fun ps ls m' => match ps, ls with
   | [.sl b o l c, .sl b' o' l' c', .iv _ x], [.iv _ t, .iv _ i] => (b = bk ∧ o = ok ∧ l = tm ∧ b' = bf ∧ o' = of ∧ l' = tm ∧ x = tm) ∧ InvB m f T n bk ok tm bf of 0 t i m'
   | _, _ => False)
  (X0 := fun _ ps ls m' => match ps, ls with
   | _, [.iv _ t, .iv _ i] => i = tm ∧ InvB m f T n bk ok tm bf of 0 t i m'
   | _, _ => False) (mu0 := fun _ ls => match ls with | [_, .iv _ i] => (tm - i).toNat | _ => 0) ?_ ?_
 ·intro bk' ok' lk' ck' b17 o17 l17 c17 s18 total s19 k m' hI hmu
  obtain ⟨⟨rfl, rfl, rfl, rfl, rfl, rfl, rfl⟩, hJ⟩ := (show (_ ∧ _ ∧ _ ∧ _ ∧ _ ∧ _ ∧ _) ∧ InvB _ _ _ _ _ _ _ _ _ _ _ _ _ from hI)
  clear hI
  obtain ⟨hs, ho, hd, hi0, hi1, htot, hb, hfr⟩ := hJ
  have hmu' : ((l17 : Int) - s19).toNat < k + 1 := hmu
  have hr' := hs.ro hr
  have hB' := hs.rd hB
  have hF' := hs.rd hF
  unfold R0_F98
  refine cond_of (fun hb2 => ?_) (fun hb2 => ?_)
  ·have hlt : s19 < l17 := of_decide_eq_true hb2
   obtain ⟨j, rfl⟩ := Int.eq_ofNat_of_zero_le hi0
   have hj : j < l17 := by omega
   rw [Int.toNat_natCast] at *
   have hv := hfr j (Nat.le_refl j) hj
   have hk1 := hF' j hj
   have hk2 := hB' j hj
   have hsum := bs_succ (T := T) (n := n) (j : Int)
   have hle := bs_le (T := T) (n := n) ((j : Int) + 1)
   have hle2 := bs_le (T := T) (n := n) (j : Int)
   have hi1' : inR .i32 (total + (cc T n (j : Int) : Int)) := inR_i32 (by omega) (by omega)
   have hi2' : inR .i64 ((j : Int) + 1) := inR_i64 (by omega) (by omega)
   refine ⟨by omega, by omega, hk1, fun z hz => ?_⟩
   obtain rfl : z = (cc T n (j : Int) : Int) := by rw [← hz, hv]
   repeat ((with_reducible refine And.intro ?_ ?_); · first | omega | assumption)
   intro m1 hm1
   subst hm1
   repeat ((with_reducible refine And.intro ?_ ?_); · first | omega | assumption)
   refine KF1_mk (And.intro (And.intro ⟨rfl, rfl, rfl, rfl, rfl, rfl, rfl⟩ (InvB.mk (hs.trans (SameK.st _ _ _ _)) (ho.st (.inr (InRow.mk hj)) _) ?_ (by omega) (by omega) (by omega) (fun c hc => ?_) (fun c hc1 hc2 => ?_))) (show ((l17 : Int) - ((j : Int) + 1)).toNat < k from by omega))
   ·refine hd.keep fun x y hxy => ?_
    have := (hf.not_in hxy).1
    simp only [Mem.st]
    rw [if_neg (by rintro ⟨rfl, rfl⟩; exact this (InRow.mk hj))]
   ·rw [st_val]
    by_cases hcj : c = j
    ·subst hcj; rw [if_pos rfl]; first | omega | (rw [htot]; simp)
    ·rw [if_neg hcj]; exact hb c (by omega)
   ·have hne : c ≠ j := by omega
    have hkeep : (m'.st bk' (ok' + j) total).val b17 (o17 + c) = m'.val b17 (o17 + c) := by
     rcases hap with ⟨rfl, rfl⟩ | hap
     ·exact st_row_ne _ _ _ _ hne
     ·exact st_apart hap _ hj hc2
    rw [hkeep]
    exact hfr c (by omega) hc2
  ·have hge : ¬ s19 < l17 := of_decide_eq_false hb2
   exact XF1_mk (And.intro (by omega : s19 = l17) ⟨hs, ho, hd, hi0, hi1, htot, hb, hfr⟩)
 ·unfold M_F98
  refine hcall _ fun m1 hs1 ho1 hcnt hd1 => ⟨_, _, _, _, rfl, by omega, by omega, by omega, by omega, And.intro ⟨rfl, rfl, htm.symm, rfl, rfl, htm.symm, by omega⟩ (InvB.mk hs1 ho1 hd1 (by omega) (by omega) ?_ (fun c hc => by omega) (fun c _ hc => hcnt c hc)), ?_⟩
  ·have : bs T n 0 = 0 := cn_zero n fun i hi h => by have := hT.lo i hi; omega
   omega
  ·intro z7 z8 m9 hX _
   obtain ⟨hz, hs, ho, hd, _, _, _, hb, _⟩ := (show _ = _ ∧ InvB _ _ _ _ _ _ _ _ _ _ _ _ _ from hX)
   rw [hz, Int.toNat_natCast] at hb
   exact hK m9 hs ho hb hd
theorem bmax_124 {w0 : World} {m : Mem} {T : Nat → Int} {n bt ot ct bk ok ck ba oa : Nat} {f : Value} {K : Value → Mem → Prop} (hn : n ≤ 1000000)
  {tm : Nat} (htm : True) (htm2 : tm ≤ 1000000) (h1 : 1 ≤ tm) (hc : tm ≤ ck) (hT : Tx m .i32 bt ot n tm T) (hB : Rd m .i32 bk ok tm) (hr : m.ro bk = false) (ha : Apart bk ok tm bt ot n)
  (hf : FrOK m .i32 T n tm bt ot bk ok ba oa f)
  (hK : ∀ m', SameK m m' → Out m m' (fun x y => FRow f x y ∨ InRow bk ok tm x y) → (∀ c : Nat, c < tm → m'.val bk (ok + c) = bs T n (c + 1)) → FrDone f T n m' → K (.tuple #[]) m') :
  callV Tryz.prog w0 124 [.slice (some ⟨bt, ot, none⟩) n ct, f, .slice (some ⟨bk, ok, none⟩) tm ck] m K := by
 obtain ⟨bf, of, cf, hcf, hF, hap, hcall⟩ : ∃ bf of cf, tm ≤ cf ∧ Rd m .i32 bf of tm ∧ (bf = bk ∧ of = ok ∨ Apart bk ok tm bf of tm) ∧
   ∀ K' : Value → Mem → Prop, (∀ m', SameK m m' → Out m m' (fun x y => FRow f x y ∨ InRow bk ok tm x y) → (∀ c : Nat, c < tm → m'.val bf (of + c) = cc T n c) → FrDone f T n m' → K' (.slice (some ⟨bf, of, none⟩) tm cf) m') →
    callV Tryz.prog w0 128 [.slice (some ⟨bt, ot, none⟩) n ct, f, .slice (some ⟨bk, ok, none⟩) tm ck] m K' := by
  cases hf with
  | nil => exact ⟨bk, ok, ck, hc, hB, .inl ⟨rfl, rfl⟩, fun K' hK' => freqn_128 hn htm h1 hc hT hB hr ha fun m' h1 h2 h3 => hK' m' h1 (h2.mono fun _ _ h => .inr h) h3 trivial⟩
  | row hcf hF hrf hat hak haa hok => exact ⟨_, _, _, hcf, hF, .inr hak.symm, fun K' hK' => freq_128 hn htm h1 hcf hT hF hrf hat hok fun m' h1 h2 h3 => hK' m' h1 (h2.mono fun _ _ h => .inl h) h3 h3⟩
 refine C_F124 (I0 := fun ps ls m' => match ps, ls with
   | [.sl b o l c, .sl b' o' l' c', .iv _ x], [.iv _ t, .iv _ i] => (b = bk ∧ o = ok ∧ l = tm ∧ b' = bf ∧ o' = of ∧ l' = tm ∧ x = tm) ∧ InvB m f T n bk ok tm bf of 1 t i m'
   | _, _ => False)
  (X0 := fun _ ps ls m' => match ps, ls with
   | _, [.iv _ t, .iv _ i] => i = tm ∧ InvB m f T n bk ok tm bf of 1 t i m'
   | _, _ => False) (mu0 := fun _ ls => match ls with | [_, .iv _ i] => (tm - i).toNat | _ => 0) ?_ ?_
 ·intro bk' ok' lk' ck' b17 o17 l17 c17 s18 total s19 k m' hI hmu
  obtain ⟨⟨rfl, rfl, rfl, rfl, rfl, rfl, rfl⟩, hJ⟩ := (show (_ ∧ _ ∧ _ ∧ _ ∧ _ ∧ _ ∧ _) ∧ InvB _ _ _ _ _ _ _ _ _ _ _ _ _ from hI)
  clear hI
  obtain ⟨hs, ho, hd, hi0, hi1, htot, hb, hfr⟩ := hJ
  have hmu' : ((l17 : Int) - s19).toNat < k + 1 := hmu
  have hr' := hs.ro hr
  have hB' := hs.rd hB
  have hF' := hs.rd hF
  unfold R0_F124
  refine cond_of (fun hb2 => ?_) (fun hb2 => ?_)
  ·have hlt : s19 < l17 := of_decide_eq_true hb2
   obtain ⟨j, rfl⟩ := Int.eq_ofNat_of_zero_le hi0
   have hj : j < l17 := by omega
   rw [Int.toNat_natCast] at *
   have hv := hfr j (Nat.le_refl j) hj
   have hk1 := hF' j hj
   have hk2 := hB' j hj
   have hsum := bs_succ (T := T) (n := n) (j : Int)
   have hle := bs_le (T := T) (n := n) ((j : Int) + 1)
   have hle2 := bs_le (T := T) (n := n) (j : Int)
   have hi1' : inR .i32 (total + (cc T n (j : Int) : Int)) := inR_i32 (by omega) (by omega)
   have hi2' : inR .i64 ((j : Int) + 1) := inR_i64 (by omega) (by omega)
   refine ⟨by omega, by omega, hk1, fun z hz => ?_⟩
   obtain rfl : z = (cc T n (j : Int) : Int) := by rw [← hz, hv]
   repeat ((with_reducible refine And.intro ?_ ?_); · first | omega | assumption)
   intro m1 hm1
   subst hm1
   repeat ((with_reducible refine And.intro ?_ ?_); · first | omega | assumption)
   refine KF1_mk (And.intro (And.intro ⟨rfl, rfl, rfl, rfl, rfl, rfl, rfl⟩ (InvB.mk (hs.trans (SameK.st _ _ _ _)) (ho.st (.inr (InRow.mk hj)) _) ?_ (by omega) (by omega) (by omega) (fun c hc => ?_) (fun c hc1 hc2 => ?_))) (show ((l17 : Int) - ((j : Int) + 1)).toNat < k from by omega))
   ·refine hd.keep fun x y hxy => ?_
    have := (hf.not_in hxy).1
    simp only [Mem.st]
    rw [if_neg (by rintro ⟨rfl, rfl⟩; exact this (InRow.mk hj))]
   ·rw [st_val]
    by_cases hcj : c = j
    ·subst hcj; rw [if_pos rfl]; first | omega | (rw [htot]; simp)
    ·rw [if_neg hcj]; exact hb c (by omega)
   ·have hne : c ≠ j := by omega
    have hkeep : (m'.st bk' (ok' + j) (total + (cc T n (j : Int) : Int))).val b17 (o17 + c) = m'.val b17 (o17 + c) := by
     rcases hap with ⟨rfl, rfl⟩ | hap
     ·exact st_row_ne _ _ _ _ hne
     ·exact st_apart hap _ hj hc2
    rw [hkeep]
    exact hfr c (by omega) hc2
  ·have hge : ¬ s19 < l17 := of_decide_eq_false hb2
   exact XF1_mk (And.intro (by omega : s19 = l17) ⟨hs, ho, hd, hi0, hi1, htot, hb, hfr⟩)
 ·unfold M_F124
  refine hcall _ fun m1 hs1 ho1 hcnt hd1 => ⟨_, _, _, _, rfl, And.intro ⟨rfl, rfl, rfl, rfl, rfl, rfl, rfl⟩ (InvB.mk hs1 ho1 hd1 (by omega) (by omega) ?_ (fun c hc => by omega) (fun c _ hc => hcnt c hc)), ?_⟩
  ·have : bs T n 0 = 0 := cn_zero n fun i hi h => by have := hT.lo i hi; omega
   omega
  ·intro z7 z8 m9 hX _
   obtain ⟨hz, hs, ho, hd, _, _, _, hb, _⟩ := (show _ = _ ∧ InvB _ _ _ _ _ _ _ _ _ _ _ _ _ from hX)
   rw [hz, Int.toNat_natCast] at hb
   exact hK m9 hs ho hb hd
theorem bmin_125 {w0 : World} {m : Mem} {T : Nat → Int} {n bt ot ct bk ok ck ba oa : Nat} {f : Value} {K : Value → Mem → Prop} (hn : n ≤ 1000000)
  {tm : Nat} (htm : True) (htm2 : tm ≤ 1000000) (h1 : 1 ≤ tm) (hc : tm ≤ ck) (hT : Tx m .i32 bt ot n tm T) (hB : Rd m .i32 bk ok tm) (hr : m.ro bk = false) (ha : Apart bk ok tm bt ot n)
  (hf : FrOK m .i32 T n tm bt ot bk ok ba oa f)
  (hK : ∀ m', SameK m m' → Out m m' (fun x y => FRow f x y ∨ InRow bk ok tm x y) → (∀ c : Nat, c < tm → m'.val bk (ok + c) = bs T n (c + 0)) → FrDone f T n m' → K (.tuple #[]) m') :
  callV Tryz.prog w0 125 [.slice (some ⟨bt, ot, none⟩) n ct, f, .slice (some ⟨bk, ok, none⟩) tm ck] m K := by
 obtain ⟨bf, of, cf, hcf, hF, hap, hcall⟩ : ∃ bf of cf, tm ≤ cf ∧ Rd m .i32 bf of tm ∧ (bf = bk ∧ of = ok ∨ Apart bk ok tm bf of tm) ∧
   ∀ K' : Value → Mem → Prop, (∀ m', SameK m m' → Out m m' (fun x y => FRow f x y ∨ InRow bk ok tm x y) → (∀ c : Nat, c < tm → m'.val bf (of + c) = cc T n c) → FrDone f T n m' → K' (.slice (some ⟨bf, of, none⟩) tm cf) m') →
    callV Tryz.prog w0 128 [.slice (some ⟨bt, ot, none⟩) n ct, f, .slice (some ⟨bk, ok, none⟩) tm ck] m K' := by
  cases hf with
  | nil => exact ⟨bk, ok, ck, hc, hB, .inl ⟨rfl, rfl⟩, fun K' hK' => freqn_128 hn htm h1 hc hT hB hr ha fun m' h1 h2 h3 => hK' m' h1 (h2.mono fun _ _ h => .inr h) h3 trivial⟩
  | row hcf hF hrf hat hak haa hok => exact ⟨_, _, _, hcf, hF, .inr hak.symm, fun K' hK' => freq_128 hn htm h1 hcf hT hF hrf hat hok fun m' h1 h2 h3 => hK' m' h1 (h2.mono fun _ _ h => .inl h) h3 h3⟩
 refine C_F125 (I0 := fun ps ls m' => match ps, ls with
   | [.sl b o l c, .sl b' o' l' c', .iv _ x], [.iv _ t, .iv _ i] => (b = bk ∧ o = ok ∧ l = tm ∧ b' = bf ∧ o' = of ∧ l' = tm ∧ x = tm) ∧ InvB m f T n bk ok tm bf of 0 t i m'
   | _, _ => False)
  (X0 := fun _ ps ls m' => match ps, ls with
   | _, [.iv _ t, .iv _ i] => i = tm ∧ InvB m f T n bk ok tm bf of 0 t i m'
   | _, _ => False) (mu0 := fun _ ls => match ls with | [_, .iv _ i] => (tm - i).toNat | _ => 0) ?_ ?_
 ·intro bk' ok' lk' ck' b17 o17 l17 c17 s18 total s19 k m' hI hmu
  obtain ⟨⟨rfl, rfl, rfl, rfl, rfl, rfl, rfl⟩, hJ⟩ := (show (_ ∧ _ ∧ _ ∧ _ ∧ _ ∧ _ ∧ _) ∧ InvB _ _ _ _ _ _ _ _ _ _ _ _ _ from hI)
  clear hI
  obtain ⟨hs, ho, hd, hi0, hi1, htot, hb, hfr⟩ := hJ
  have hmu' : ((l17 : Int) - s19).toNat < k + 1 := hmu
  have hr' := hs.ro hr
  have hB' := hs.rd hB
  have hF' := hs.rd hF
  unfold R0_F125
  refine cond_of (fun hb2 => ?_) (fun hb2 => ?_)
  ·have hlt : s19 < l17 := of_decide_eq_true hb2
   obtain ⟨j, rfl⟩ := Int.eq_ofNat_of_zero_le hi0
   have hj : j < l17 := by omega
   rw [Int.toNat_natCast] at *
   have hv := hfr j (Nat.le_refl j) hj
   have hk1 := hF' j hj
   have hk2 := hB' j hj
   have hsum := bs_succ (T := T) (n := n) (j : Int)
   have hle := bs_le (T := T) (n := n) ((j : Int) + 1)
   have hle2 := bs_le (T := T) (n := n) (j : Int)
   have hi1' : inR .i32 (total + (cc T n (j : Int) : Int)) := inR_i32 (by omega) (by omega)
   have hi2' : inR .i64 ((j : Int) + 1) := inR_i64 (by omega) (by omega)
   refine ⟨by omega, by omega, hk1, fun z hz => ?_⟩
   obtain rfl : z = (cc T n (j : Int) : Int) := by rw [← hz, hv]
   repeat ((with_reducible refine And.intro ?_ ?_); · first | omega | assumption)
   intro m1 hm1
   subst hm1
   repeat ((with_reducible refine And.intro ?_ ?_); · first | omega | assumption)
   refine KF1_mk (And.intro (And.intro ⟨rfl, rfl, rfl, rfl, rfl, rfl, rfl⟩ (InvB.mk (hs.trans (SameK.st _ _ _ _)) (ho.st (.inr (InRow.mk hj)) _) ?_ (by omega) (by omega) (by omega) (fun c hc => ?_) (fun c hc1 hc2 => ?_))) (show ((l17 : Int) - ((j : Int) + 1)).toNat < k from by omega))
   ·refine hd.keep fun x y hxy => ?_
    have := (hf.not_in hxy).1
    simp only [Mem.st]
    rw [if_neg (by rintro ⟨rfl, rfl⟩; exact this (InRow.mk hj))]
   ·rw [st_val]
    by_cases hcj : c = j
    ·subst hcj; rw [if_pos rfl]; first | omega | (rw [htot]; simp)
    ·rw [if_neg hcj]; exact hb c (by omega)
   ·have hne : c ≠ j := by omega
    have hkeep : (m'.st bk' (ok' + j) total).val b17 (o17 + c) = m'.val b17 (o17 + c) := by
     rcases hap with ⟨rfl, rfl⟩ | hap
     ·exact st_row_ne _ _ _ _ hne
     ·exact st_apart hap _ hj hc2
    rw [hkeep]
    exact hfr c (by omega) hc2
  ·have hge : ¬ s19 < l17 := of_decide_eq_false hb2
   exact XF1_mk (And.intro (by omega : s19 = l17) ⟨hs, ho, hd, hi0, hi1, htot, hb, hfr⟩)
 ·unfold M_F125
  refine hcall _ fun m1 hs1 ho1 hcnt hd1 => ⟨_, _, _, _, rfl, And.intro ⟨rfl, rfl, rfl, rfl, rfl, rfl, rfl⟩ (InvB.mk hs1 ho1 hd1 (by omega) (by omega) ?_ (fun c hc => by omega) (fun c _ hc => hcnt c hc)), ?_⟩
  ·have : bs T n 0 = 0 := cn_zero n fun i hi h => by have := hT.lo i hi; omega
   omega
  ·intro z7 z8 m9 hX _
   obtain ⟨hz, hs, ho, hd, _, _, _, hb, _⟩ := (show _ = _ ∧ InvB _ _ _ _ _ _ _ _ _ _ _ _ _ from hX)
   rw [hz, Int.toNat_natCast] at hb
   exact hK m9 hs ho hb hd
end Go.Proofs.YtdhifgedhaapjaaGreatDoor
namespace Go.Proofs.YtdhifgedhaapjaaGreatDoor
open Go Sa
def WL (f : Value) (bk ok tm ba oa n : Nat) : Nat → Nat → Prop := fun x y => FRow f x y ∨ InRow bk ok tm x y ∨ InRow ba oa n x y
structure Lv (m : Mem) (kt ks : IntKind) (T : Nat → Int) (n tm bt ot ba oa bk ok : Nat) (f : Value) : Prop where
 hn : n ≤ 1000000
 t1 : 1 ≤ tm
 t2 : tm ≤ 1000000
 tx : Tx m kt bt ot n tm T
 sa : Rd m ks ba oa n
 sro : m.ro ba = false
 kr : Rd m ks bk ok tm
 kro : m.ro bk = false
 aat : Apart ba oa n bt ot n
 akt : Apart bk ok tm bt ot n
 aka : Apart bk ok tm ba oa n
 fr : FrOK m ks T n tm bt ot bk ok ba oa f
theorem Apart.not_row {b o l b' o' l' x y : Nat} (h : Apart b o l b' o' l') (h1 : InRow b o l x y) : ¬ InRow b' o' l' x y := by
 rintro ⟨rfl, h2, h3⟩
 obtain ⟨rfl, h4, h5⟩ := h1
 rcases h with h | h | h <;> omega
theorem Lv.keep {m m' : Mem} {kt ks : IntKind} {T : Nat → Int} {n tm bt ot ba oa bk ok : Nat} {f : Value} (h : Lv m kt ks T n tm bt ot ba oa bk ok f) (hs : SameK m m')
  (ho : Out m m' (WL f bk ok tm ba oa n)) (hf : FrOK m' ks T n tm bt ot bk ok ba oa f) : Lv m' kt ks T n tm bt ot ba oa bk ok f :=
 ⟨h.hn, h.t1, h.t2, h.tx.keep hs fun i hi => ho _ _ (by
   rintro (h1 | h1 | h1)
   ·exact (h.fr.not_in h1).2.2 (InRow.mk hi)
   ·exact h.akt.not_row h1 (InRow.mk hi)
   ·exact h.aat.not_row h1 (InRow.mk hi)), hs.rd h.sa, hs.ro h.sro, hs.rd h.kr, hs.ro h.kro, h.aat, h.akt, h.aka, hf⟩
theorem Lv.stA {m : Mem} {kt ks : IntKind} {T : Nat → Int} {n tm bt ot ba oa bk ok : Nat} {f : Value} (h : Lv m kt ks T n tm bt ot ba oa bk ok f) {x : Nat} (hx : x < n) (v : Int) :
  Lv (m.st ba (oa + x) v) kt ks T n tm bt ot ba oa bk ok f :=
 h.keep (SameK.st _ _ _ _) ((Out.refl m _).st (.inr (.inr (InRow.mk hx))) v) (h.fr.keep h.t1 (SameK.st _ _ _ _) fun x' y' hf => by
  simp only [Mem.st]
  rw [if_neg (by rintro ⟨rfl, rfl⟩; exact (h.fr.not_in hf).2.1 (InRow.mk hx))])
theorem Lv.stK {m : Mem} {kt ks : IntKind} {T : Nat → Int} {n tm bt ot ba oa bk ok : Nat} {f : Value} (h : Lv m kt ks T n tm bt ot ba oa bk ok f) {x : Nat} (hx : x < tm) (v : Int) :
  Lv (m.st bk (ok + x) v) kt ks T n tm bt ot ba oa bk ok f :=
 h.keep (SameK.st _ _ _ _) ((Out.refl m _).st (.inr (.inl (InRow.mk hx))) v) (h.fr.keep h.t1 (SameK.st _ _ _ _) fun x' y' hf => by
  simp only [Mem.st]
  rw [if_neg (by rintro ⟨rfl, rfl⟩; exact (h.fr.not_in hf).1 (InRow.mk hx))])
section
variable {m : Mem} {kt ks : IntKind} {T : Nat → Int} {n tm bt ot ba oa bk ok : Nat} {f : Value}
theorem Lv.AtoK (h : Lv m kt ks T n tm bt ot ba oa bk ok f) {x c : Nat} (hx : x < n) (hc : c < tm) (v : Int) : (m.st ba (oa + x) v).val bk (ok + c) = m.val bk (ok + c) := st_apart h.aka.symm v hx hc
theorem Lv.KtoA (h : Lv m kt ks T n tm bt ot ba oa bk ok f) {x c : Nat} (hx : x < n) (hc : c < tm) (v : Int) : (m.st bk (ok + c) v).val ba (oa + x) = m.val ba (oa + x) := st_apart h.aka v hc hx
theorem Lv.letter (h : Lv m kt ks T n tm bt ot ba oa bk ok f) {i : Nat} (hi : i < n) : ∃ c : Nat, T i = c ∧ c < tm := by
 have h1 := h.tx.lo i hi
 have h2 := h.tx.hi i hi
 exact ⟨(T i).toNat, by omega, by omega⟩
end
structure InvP (m0 : Mem) (kt ks : IntKind) (T : Nat → Int) (n tm bt ot ba oa bk ok : Nat) (f : Value) (p num : Nat) (B : Int → Nat) (lastB c0 : Int) (isS : Bool) (m : Mem) : Prop where
 L : Lv m kt ks T n tm bt ot ba oa bk ok f
 hs : SameK m0 m
 ho : Out m0 m (WL f bk ok tm ba oa n)
 it : It T n p c0 isS
 hB : ∀ c : Nat, c < tm → m.val bk (ok + c) = B c
 pl : PlInv T n p B (fun x => m.val ba (oa + x)) num lastB
def Bk (m : Mem) (bk ok tm : Nat) (B : Int → Nat) (cB : Nat) (b : Int) : Prop := ∀ c : Nat, c < tm → (if c = cB then b else m.val bk (ok + c)) = B c
theorem Bk.hand {m : Mem} {bk ok tm : Nat} {B : Int → Nat} {cB : Nat} {b : Int} (h : Bk m bk ok tm B cB b) (hc : cB < tm) : b = B cB := by
 have := h cB hc
 rw [if_pos rfl] at this; exact this
theorem Bk.swap {m m' : Mem} {bk ok tm : Nat} {B : Int → Nat} {cB : Nat} {b : Int} (h : Bk m bk ok tm B cB b) (hc : cB < tm) {c : Nat} (v : Nat)
  (hm : ∀ d, d < tm → m'.val bk (ok + d) = if d = cB then b else m.val bk (ok + d)) : Bk m' bk ok tm (updB B c v) c v := by
 intro d hd
 by_cases hdc : d = c
 ·subst hdc; rw [if_pos rfl, updB_same]
 ·rw [if_neg hdc, updB_other _ (by omega), hm d hd]; exact h d hd
theorem Bk.keep {m m' : Mem} {bk ok tm : Nat} {B : Int → Nat} {cB : Nat} {b : Int} (h : Bk m bk ok tm B cB b) (v : Nat) (hm : ∀ d, d < tm → m'.val bk (ok + d) = m.val bk (ok + d)) :
  Bk m' bk ok tm (updB B cB v) cB v := by
 intro d hd
 by_cases hdc : d = cB
 ·subst hdc; rw [if_pos rfl, updB_same]
 ·rw [if_neg hdc, updB_other _ (by omega), hm d hd]
  have := h d hd
  rw [if_neg hdc] at this; exact this
theorem Bk.same {m m' : Mem} {bk ok tm : Nat} {B : Int → Nat} {cB : Nat} {b : Int} (h : Bk m bk ok tm B cB b) (hm : ∀ d, d < tm → m'.val bk (ok + d) = m.val bk (ok + d)) :
  Bk m' bk ok tm B cB b := by
 intro d hd
 rw [hm d hd]; exact h d hd
structure InvSL (m0 : Mem) (kt ks : IntKind) (T : Nat → Int) (n tm bt ot ba oa bk ok : Nat) (f : Value) (d x : Nat) (G : Nat → Option Nat) (B : Int → Nat) (cB : Nat) (b : Int) (m : Mem) : Prop where
 L : Lv m kt ks T n tm bt ot ba oa bk ok f
 hs : SameK m0 m
 ho : Out m0 m (WL f bk ok tm ba oa n)
 hx : x ≤ n
 li : LInv T n (d + 1) (fun i j => lel (pl T n i) (pl T n j)) x G B
 rel : RelL T n x G (fun p => m.val ba (oa + p))
 hc : cB < tm
 hB : Bk m bk ok tm B cB b
structure InvSS (m0 : Mem) (kt ks : IntKind) (T : Nat → Int) (n tm bt ot ba oa bk ok : Nat) (f : Value) (d x top : Nat) (G : Nat → Option Nat) (B : Int → Nat) (cB : Nat) (b : Int) (m : Mem) : Prop where
 L : Lv m kt ks T n tm bt ot ba oa bk ok f
 hs : SameK m0 m
 ho : Out m0 m (WL f bk ok tm ba oa n)
 hx : x ≤ n
 hz : ∀ p j, G p = some j → ¬ St T n j → Top T n d j
 li : SInv T n d (fun i j => lel (pc T n i) (pc T n j)) x G B
 rel : RelS T n x top G (fun p => m.val ba (oa + p))
 hc : cB < tm
 hB : Bk m bk ok tm B cB b
end Go.Proofs.YtdhifgedhaapjaaGreatDoor
namespace Go.Proofs.YtdhifgedhaapjaaGreatDoor
open Go Sa
theorem place_70 {w0 : World} {m : Mem} {T : Nat → Int} {n tm bt ot ct ba oa ca bk ok ck : Nat} {f : Value} {K : Value → Mem → Prop} (L : Lv m .u8 .i32 T n tm bt ot ba oa bk ok f) (htm : tm = 256)
  (h1 : 1 ≤ n) (hck : tm ≤ ck) (hz : ∀ x, x < n → m.val ba (oa + x) = 0)
  (hK : ∀ m' d, SameK m m' → Out m m' (WL f bk ok tm ba oa n) → Lv m' .u8 .i32 T n tm bt ot ba oa bk ok f → ((nlms T n ≤ 1 ∧ d = 0) ∨ (1 < nlms T n ∧ Lms T n d ∧ ∀ j, Lms T n j → d ≤ j)) →
   Seeds T n d (fun x => m'.val ba (oa + x)) → K (.int .i64 (nlms T n)) m') :
  callV Tryz.prog w0 70 [.slice (some ⟨bt, ot, none⟩) n ct, .slice (some ⟨ba, oa, none⟩) n ca, f, .slice (some ⟨bk, ok, none⟩) tm ck] m K := by
 have hn := L.hn
 refine C_F70 (I0 := fun ps ls m' => match ps, ls with
   | [.sl b o l c, .sl b' o' l' c', .sl b2 o2 l2 c2], [.iv _ num, .iv _ lastB, .iv _ c0, .bv isS, .iv _ i] => (bt = b ∧ ot = o ∧ n = l ∧ ba = b' ∧ oa = o' ∧ n = l' ∧ bk = b2 ∧ ok = o2 ∧ tm = l2) ∧
     ∃ (p N : Nat) (B : Int → Nat), i = (p : Int) - 1 ∧ num = N ∧ InvP m .u8 .i32 T n tm bt ot ba oa bk ok f p N B lastB c0 isS m'
   | _, _ => False)
  (X0 := fun _ ps ls m' => match ps, ls with
   | _, [.iv _ num, .iv _ lastB, .iv _ c0, .bv isS, .iv _ i] => ∃ (N : Nat) (B : Int → Nat), num = N ∧ InvP m .u8 .i32 T n tm bt ot ba oa bk ok f 0 N B lastB c0 isS m'
   | _, _ => False) (mu0 := fun _ ls => match ls with | [_, _, _, _, .iv _ i] => (i + 1).toNat | _ => 0) ?_ ?_
 ·intro bt' ot' lt' ct' ba' oa' la' ca' bk' ok' lk' ck' num lastB c0 isS i k m' hI hmu
  obtain ⟨⟨rfl, rfl, rfl, rfl, rfl, rfl, rfl, rfl, rfl⟩, p, N, B, rfl, rfl, hJ⟩ := (show (_ ∧ _ ∧ _ ∧ _ ∧ _ ∧ _ ∧ _ ∧ _ ∧ _) ∧ ∃ (p N : Nat) (B : Int → Nat), _ ∧ _ ∧ InvP _ _ _ _ _ _ _ _ _ _ _ _ _ _ _ _ _ _ _ _ from hI)
  clear hI
  obtain ⟨L', hs, ho, it, hB, pl⟩ := hJ
  have hmu' : ((p : Int) - 1 + 1).toNat < k + 1 := hmu
  have hp := it.le
  unfold R0_F70
  refine cond_of (fun hb => ?_) (fun hb => ?_)
  ·have hge : (p : Int) - 1 ≥ 0 := of_decide_eq_true hb
   obtain ⟨q, rfl⟩ : ∃ q, p = q + 1 := ⟨p - 1, by omega⟩
   have e1 : ((q + 1 : Nat) : Int) - 1 = q := by omega
   rw [e1] at hge ⊢
   rw [Int.toNat_natCast]
   have hq : q < n := by omega
   have hv := L'.tx.v q hq
   have hlo := L'.tx.lo q hq
   have hk1 := L'.tx.rd q hq
   have e2 : (q : Int) - 1 = ((q : Nat) : Int) - 1 := rfl
   have leaf : ∀ {N' : Nat} {B' : Int → Nat} {l : Int} {b : Bool} {m2 : Mem}, InvP m .u8 .i32 T n tm bt ot ba oa bk ok f q N' B' l (T q) b m2 →
     KF1 L0_F70 (fun ps ls m' => match ps, ls with
   | [.sl b o l c, .sl b' o' l' c', .sl b2 o2 l2 c2], [.iv _ num, .iv _ lastB, .iv _ c0, .bv isS, .iv _ i] => (bt = b ∧ ot = o ∧ n = l ∧ ba = b' ∧ oa = o' ∧ n = l' ∧ bk = b2 ∧ ok = o2 ∧ tm = l2) ∧
     ∃ (p N : Nat) (B : Int → Nat), i = (p : Int) - 1 ∧ num = N ∧ InvP m .u8 .i32 T n tm bt ot ba oa bk ok f p N B lastB c0 isS m'
   | _, _ => False) (fun _ ls => match ls with | [_, _, _, _, .iv _ i] => (i + 1).toNat | _ => 0)
     (P0_F70 bt ot n ct' ba oa n ca' bk ok tm ck') k [.int .i64 N', .int .i32 l, .int .u8 (T q), .bool b, .int .i64 ((q : Int) - 1)] m2 := fun h =>
    KF1_mk (And.intro (And.intro ⟨rfl, rfl, rfl, rfl, rfl, rfl, rfl, rfl, rfl⟩ ⟨q, _, _, rfl, rfl, h⟩) (show ((q : Int) - 1 + 1).toNat < k from by omega))
   have hi64 : inR .i64 ((q : Int) - 1) := inR_i64 (by omega) (by omega)
   refine ⟨by omega, by omega, hk1, fun z hz => ?_⟩
   obtain rfl : z = T q := by rw [← hz, hv]
   refine cond_of (fun hb1 => ?_) (fun hb1 => cond_of (fun hb2 => ?_) (fun hb2 => ?_))
   ·have hlt : T q < c0 := of_decide_eq_true hb1
    obtain ⟨it', hl⟩ := it.up hlo hlt
    exact ⟨hi64, leaf ⟨L', hs, ho, it', hB, pl.skip hl⟩⟩
   ·have hlt : ¬ T q < c0 := of_decide_eq_false hb1
    have hgt : T q > c0 := of_decide_eq_true hb2
    refine cond_of (fun hb3 => ?_) (fun hb3 => ?_)
    ·subst hb3
     obtain ⟨it', hl, hc0⟩ := it.down hgt
     have hq1 := hl.lt
     obtain ⟨c, hc, hct⟩ := L'.letter (i := q + 1) (by omega)
     obtain ⟨g1, g2, pl'⟩ := pl.step hl
     rw [hc0, hc, Int.toNat_natCast]
     have hBc := hB c hct
     rw [hc] at g1 g2 pl'
     obtain ⟨x, hx⟩ : ∃ x, B c = x + 1 := ⟨B c - 1, by omega⟩
     rw [hx] at g1 g2 pl' hBc
     rw [Nat.add_sub_cancel] at pl'
     have e3 : m'.val bk (ok + c) - 1 = (x : Int) := by rw [hBc]; omega
     have hxn : x < n := by omega
     have hk2 := L'.kr c hct
     have hk3 := L'.sa x hxn
     have hkr := L'.kro
     have hr1 := L'.sro
     have hsr := L'.sro
     have hiKS : inR .i32 (x : Int) := inR_i32 (by omega) (by omega)
     have hiKS2 : inR .i32 ((q : Int) + 1) := inR_i32 (by omega) (by omega)
     have hi642 : inR .i64 ((q : Int) + 1) := inR_i64 (by omega) (by omega)
     have hN : N ≤ n := by rw [pl.nm]; exact cn_le_self _ _
     have hi643 : inR .i64 ((N : Int) + 1) := inR_i64 (by omega) (by omega)
     refine ⟨by omega, by omega, hk2, fun z2 hz2 => ?_⟩
     rw [show z2 - 1 = (x : Int) by rw [← hz2]; exact e3, Int.toNat_natCast]
     refine ⟨hiKS, by omega, by omega, hk2, hkr, fun m1 hm1 => ?_⟩
     subst hm1
     repeat ((with_reducible refine And.intro ?_ ?_); · first | omega | assumption | exact hk1 | exact hk2 | exact hk3 | exact hk4 | exact hr1 | exact hr2)
     intro m2 hm2
     subst hm2
     repeat ((with_reducible refine And.intro ?_ ?_); · first | omega | assumption | exact hk1 | exact hk2 | exact hk3 | exact hk4 | exact hr1 | exact hr2)
     refine leaf (N' := N + 1) (B' := updB B c x) ⟨(L'.stK hct _).stA hxn _, (hs.trans (SameK.st _ _ _ _)).trans (SameK.st _ _ _ _), (ho.st (.inr (.inl (InRow.mk hct))) _).st (.inr (.inr (InRow.mk hxn))) _, it', fun d hd => ?_, pl'.congr (fun y hy => ?_) (fun i _ => rfl)⟩
     ·rw [(L'.stK hct _).AtoK hxn hd, st_val]
      by_cases hdc : d = c
      ·subst hdc; rw [if_pos rfl, updB_same]
      ·rw [if_neg hdc, updB_other _ (by omega)]; exact hB d hd
     ·rw [st_val, L'.KtoA hy hct]
      by_cases hyx : y = x
      ·simp only [hyx, if_true]; omega
      ·simp only [hyx, if_false]
    ·obtain ⟨it', hl⟩ := it.stay hlo hlt (fun _ => hb3)
     exact ⟨hi64, leaf ⟨L', hs, ho, it', hB, pl.skip hl⟩⟩
   ·have hlt : ¬ T q < c0 := of_decide_eq_false hb1
    have hgt : ¬ T q > c0 := of_decide_eq_false hb2
    obtain ⟨it', hl⟩ := it.stay hlo hlt (fun h => absurd h hgt)
    exact ⟨hi64, leaf ⟨L', hs, ho, it', hB, pl.skip hl⟩⟩
  ·have hge : ¬ (p : Int) - 1 ≥ 0 := of_decide_eq_false hb
   obtain rfl : p = 0 := by omega
   exact XF1_mk (show ∃ (N : Nat) (B : Int → Nat), _ = _ ∧ InvP _ _ _ _ _ _ _ _ _ _ _ _ _ _ _ _ _ _ _ _ from ⟨N, B, rfl, L', hs, ho, it, hB, pl⟩)
 ·unfold M_F70
  refine bmax_97 L.hn htm L.t2 L.t1 hck L.tx L.kr L.kro L.akt L.fr fun m1 hs1 ho1 hb1 hd1 => ?_
  have ho1' : Out m m1 (WL f bk ok tm ba oa n) := ho1.mono fun x y h => h.elim .inl (fun h => .inr (.inl h))
  have L1 := L.keep hs1 ho1' (L.fr.done hs1 hd1)
  have hz1 : ∀ x, x < n → m1.val ba (oa + x) = 0 := fun x hx => by
   rw [ho1 _ _ (fun h => h.elim (fun h => (L.fr.not_in h).2.1 (InRow.mk hx)) (fun h => L.aka.not_row h (InRow.mk hx)))]
   exact hz x hx
  have hi : inR .i64 ((n : Int) - 1) := inR_i64 (by omega) (by omega)
  repeat' (with_reducible apply And.intro)
  all_goals first
   | omega
   | exact hi
   | skip
  ·refine And.intro ⟨rfl, rfl, rfl, rfl, rfl, rfl, rfl, rfl, htm⟩ ⟨n, 0, fun c => bs T n c + cc T n c, rfl, rfl, L1, hs1, ho1', It.start, fun c hc => ?_, PlInv.start hz1 (fun i _ => rfl)⟩
   rw [hb1 c hc, bs_succ]
  ·intro z3 z4 z5 z6 z7 m8 hX _
   obtain ⟨N, B, rfl, L8, hs8, ho8, it8, hB8, pl8⟩ := (show ∃ (N : Nat) (B : Int → Nat), _ = _ ∧ InvP _ _ _ _ _ _ _ _ _ _ _ _ _ _ _ _ _ _ _ _ from hX)
   obtain ⟨hN, hsd⟩ := pl8.fin
   refine cond_of (fun hb => ?_) (fun hb => ?_)
   ·have hgt : (N : Int) > 1 := of_decide_eq_true hb
    obtain ⟨x, j, rfl, hx, hj, hmin, hsd'⟩ := pl8.drop (by omega)
    rw [Int.toNat_natCast]
    refine ⟨by omega, by omega, L8.sa x hx, L8.sro, fun m9 hm9 => ?_⟩
    subst hm9
    rw [hN]
    refine hK _ j (hs8.trans (SameK.st _ _ _ _)) (ho8.st (.inr (.inr (InRow.mk hx))) _) (L8.stA hx _) (.inr ⟨by omega, hj, hmin⟩) (hsd'.congr fun y hy => ?_)
    rw [st_val]
   ·have hgt : ¬ (N : Int) > 1 := of_decide_eq_false hb
    rw [hN]
    exact hK m8 0 hs8 ho8 L8 (.inl ⟨by omega, rfl⟩) hsd
theorem place_105 {w0 : World} {m : Mem} {T : Nat → Int} {n tm bt ot ct ba oa ca bk ok ck : Nat} {f : Value} {K : Value → Mem → Prop} (L : Lv m .i32 .i32 T n tm bt ot ba oa bk ok f) (htm : True)
  (h1 : 1 ≤ n) (hck : tm ≤ ck) (hz : ∀ x, x < n → m.val ba (oa + x) = 0)
  (hK : ∀ m' d, SameK m m' → Out m m' (WL f bk ok tm ba oa n) → Lv m' .i32 .i32 T n tm bt ot ba oa bk ok f → ((nlms T n ≤ 1 ∧ d = 0) ∨ (1 < nlms T n ∧ Lms T n d ∧ ∀ j, Lms T n j → d ≤ j)) →
   Seeds T n d (fun x => m'.val ba (oa + x)) → K (.int .i64 (nlms T n)) m') :
  callV Tryz.prog w0 105 [.slice (some ⟨bt, ot, none⟩) n ct, .slice (some ⟨ba, oa, none⟩) n ca, f, .slice (some ⟨bk, ok, none⟩) tm ck] m K := by
 have hn := L.hn
 refine C_F105 (I0 := fun ps ls m' => match ps, ls with
   | [.sl b o l c, .sl b' o' l' c', .sl b2 o2 l2 c2], [.iv _ num, .iv _ lastB, .iv _ c0, .bv isS, .iv _ i] => (bt = b ∧ ot = o ∧ n = l ∧ ba = b' ∧ oa = o' ∧ n = l' ∧ bk = b2 ∧ ok = o2 ∧ tm = l2) ∧
     ∃ (p N : Nat) (B : Int → Nat), i = (p : Int) - 1 ∧ num = N ∧ InvP m .i32 .i32 T n tm bt ot ba oa bk ok f p N B lastB c0 isS m'
   | _, _ => False)
  (X0 := fun _ ps ls m' => match ps, ls with
   | _, [.iv _ num, .iv _ lastB, .iv _ c0, .bv isS, .iv _ i] => ∃ (N : Nat) (B : Int → Nat), num = N ∧ InvP m .i32 .i32 T n tm bt ot ba oa bk ok f 0 N B lastB c0 isS m'
   | _, _ => False) (mu0 := fun _ ls => match ls with | [_, _, _, _, .iv _ i] => (i + 1).toNat | _ => 0) ?_ ?_
 ·intro bt' ot' lt' ct' ba' oa' la' ca' bk' ok' lk' ck' num lastB c0 isS i k m' hI hmu
  obtain ⟨⟨rfl, rfl, rfl, rfl, rfl, rfl, rfl, rfl, rfl⟩, p, N, B, rfl, rfl, hJ⟩ := (show (_ ∧ _ ∧ _ ∧ _ ∧ _ ∧ _ ∧ _ ∧ _ ∧ _) ∧ ∃ (p N : Nat) (B : Int → Nat), _ ∧ _ ∧ InvP _ _ _ _ _ _ _ _ _ _ _ _ _ _ _ _ _ _ _ _ from hI)
  clear hI
  obtain ⟨L', hs, ho, it, hB, pl⟩ := hJ
  have hmu' : ((p : Int) - 1 + 1).toNat < k + 1 := hmu
  have hp := it.le
  unfold R0_F105
  refine cond_of (fun hb => ?_) (fun hb => ?_)
  ·have hge : (p : Int) - 1 ≥ 0 := of_decide_eq_true hb
   obtain ⟨q, rfl⟩ : ∃ q, p = q + 1 := ⟨p - 1, by omega⟩
   have e1 : ((q + 1 : Nat) : Int) - 1 = q := by omega
   rw [e1] at hge ⊢
   rw [Int.toNat_natCast]
   have hq : q < n := by omega
   have hv := L'.tx.v q hq
   have hlo := L'.tx.lo q hq
   have hk1 := L'.tx.rd q hq
   have e2 : (q : Int) - 1 = ((q : Nat) : Int) - 1 := rfl
   have leaf : ∀ {N' : Nat} {B' : Int → Nat} {l : Int} {b : Bool} {m2 : Mem}, InvP m .i32 .i32 T n tm bt ot ba oa bk ok f q N' B' l (T q) b m2 →
     KF1 L0_F105 (fun ps ls m' => match ps, ls with
   | [.sl b o l c, .sl b' o' l' c', .sl b2 o2 l2 c2], [.iv _ num, .iv _ lastB, .iv _ c0, .bv isS, .iv _ i] => (bt = b ∧ ot = o ∧ n = l ∧ ba = b' ∧ oa = o' ∧ n = l' ∧ bk = b2 ∧ ok = o2 ∧ tm = l2) ∧
     ∃ (p N : Nat) (B : Int → Nat), i = (p : Int) - 1 ∧ num = N ∧ InvP m .i32 .i32 T n tm bt ot ba oa bk ok f p N B lastB c0 isS m'
   | _, _ => False) (fun _ ls => match ls with | [_, _, _, _, .iv _ i] => (i + 1).toNat | _ => 0)
     (P0_F105 bt ot n ct' ba oa n ca' bk ok tm ck') k [.int .i64 N', .int .i32 l, .int .i32 (T q), .bool b, .int .i64 ((q : Int) - 1)] m2 := fun h =>
    KF1_mk (And.intro (And.intro ⟨rfl, rfl, rfl, rfl, rfl, rfl, rfl, rfl, rfl⟩ ⟨q, _, _, rfl, rfl, h⟩) (show ((q : Int) - 1 + 1).toNat < k from by omega))
   have hi64 : inR .i64 ((q : Int) - 1) := inR_i64 (by omega) (by omega)
   refine ⟨by omega, by omega, hk1, fun z hz => ?_⟩
   obtain rfl : z = T q := by rw [← hz, hv]
   refine cond_of (fun hb1 => ?_) (fun hb1 => cond_of (fun hb2 => ?_) (fun hb2 => ?_))
   ·have hlt : T q < c0 := of_decide_eq_true hb1
    obtain ⟨it', hl⟩ := it.up hlo hlt
    exact ⟨hi64, leaf ⟨L', hs, ho, it', hB, pl.skip hl⟩⟩
   ·have hlt : ¬ T q < c0 := of_decide_eq_false hb1
    have hgt : T q > c0 := of_decide_eq_true hb2
    refine cond_of (fun hb3 => ?_) (fun hb3 => ?_)
    ·subst hb3
     obtain ⟨it', hl, hc0⟩ := it.down hgt
     have hq1 := hl.lt
     obtain ⟨c, hc, hct⟩ := L'.letter (i := q + 1) (by omega)
     obtain ⟨g1, g2, pl'⟩ := pl.step hl
     rw [hc0, hc, Int.toNat_natCast]
     have hBc := hB c hct
     rw [hc] at g1 g2 pl'
     obtain ⟨x, hx⟩ : ∃ x, B c = x + 1 := ⟨B c - 1, by omega⟩
     rw [hx] at g1 g2 pl' hBc
     rw [Nat.add_sub_cancel] at pl'
     have e3 : m'.val bk (ok + c) - 1 = (x : Int) := by rw [hBc]; omega
     have hxn : x < n := by omega
     have hk2 := L'.kr c hct
     have hk3 := L'.sa x hxn
     have hkr := L'.kro
     have hr1 := L'.sro
     have hsr := L'.sro
     have hiKS : inR .i32 (x : Int) := inR_i32 (by omega) (by omega)
     have hiKS2 : inR .i32 ((q : Int) + 1) := inR_i32 (by omega) (by omega)
     have hi642 : inR .i64 ((q : Int) + 1) := inR_i64 (by omega) (by omega)
     have hN : N ≤ n := by rw [pl.nm]; exact cn_le_self _ _
     have hi643 : inR .i64 ((N : Int) + 1) := inR_i64 (by omega) (by omega)
     refine ⟨by omega, by omega, hk2, fun z2 hz2 => ?_⟩
     rw [show z2 - 1 = (x : Int) by rw [← hz2]; exact e3, Int.toNat_natCast]
     refine ⟨hiKS, by omega, by omega, hk2, hkr, fun m1 hm1 => ?_⟩
     subst hm1
     repeat ((with_reducible refine And.intro ?_ ?_); · first | omega | assumption | exact hk1 | exact hk2 | exact hk3 | exact hk4 | exact hr1 | exact hr2)
     intro m2 hm2
     subst hm2
     repeat ((with_reducible refine And.intro ?_ ?_); · first | omega | assumption | exact hk1 | exact hk2 | exact hk3 | exact hk4 | exact hr1 | exact hr2)
     refine leaf (N' := N + 1) (B' := updB B c x) ⟨(L'.stK hct _).stA hxn _, (hs.trans (SameK.st _ _ _ _)).trans (SameK.st _ _ _ _), (ho.st (.inr (.inl (InRow.mk hct))) _).st (.inr (.inr (InRow.mk hxn))) _, it', fun d hd => ?_, pl'.congr (fun y hy => ?_) (fun i _ => rfl)⟩
     ·rw [(L'.stK hct _).AtoK hxn hd, st_val]
      by_cases hdc : d = c
      ·subst hdc; rw [if_pos rfl, updB_same]
      ·rw [if_neg hdc, updB_other _ (by omega)]; exact hB d hd
     ·rw [st_val, L'.KtoA hy hct]
      by_cases hyx : y = x
      ·simp only [hyx, if_true]; omega
      ·simp only [hyx, if_false]
    ·obtain ⟨it', hl⟩ := it.stay hlo hlt (fun _ => hb3)
     exact ⟨hi64, leaf ⟨L', hs, ho, it', hB, pl.skip hl⟩⟩
   ·have hlt : ¬ T q < c0 := of_decide_eq_false hb1
    have hgt : ¬ T q > c0 := of_decide_eq_false hb2
    obtain ⟨it', hl⟩ := it.stay hlo hlt (fun h => absurd h hgt)
    exact ⟨hi64, leaf ⟨L', hs, ho, it', hB, pl.skip hl⟩⟩
  ·have hge : ¬ (p : Int) - 1 ≥ 0 := of_decide_eq_false hb
   obtain rfl : p = 0 := by omega
   exact XF1_mk (show ∃ (N : Nat) (B : Int → Nat), _ = _ ∧ InvP _ _ _ _ _ _ _ _ _ _ _ _ _ _ _ _ _ _ _ _ from ⟨N, B, rfl, L', hs, ho, it, hB, pl⟩)
 ·unfold M_F105
  refine bmax_124 L.hn htm L.t2 L.t1 hck L.tx L.kr L.kro L.akt L.fr fun m1 hs1 ho1 hb1 hd1 => ?_
  have ho1' : Out m m1 (WL f bk ok tm ba oa n) := ho1.mono fun x y h => h.elim .inl (fun h => .inr (.inl h))
  have L1 := L.keep hs1 ho1' (L.fr.done hs1 hd1)
  have hz1 : ∀ x, x < n → m1.val ba (oa + x) = 0 := fun x hx => by
   rw [ho1 _ _ (fun h => h.elim (fun h => (L.fr.not_in h).2.1 (InRow.mk hx)) (fun h => L.aka.not_row h (InRow.mk hx)))]
   exact hz x hx
  have hi : inR .i64 ((n : Int) - 1) := inR_i64 (by omega) (by omega)
  repeat' (with_reducible apply And.intro)
  all_goals first
   | omega
   | exact hi
   | skip
  ·refine And.intro ⟨rfl, rfl, rfl, rfl, rfl, rfl, rfl, rfl, rfl⟩ ⟨n, 0, fun c => bs T n c + cc T n c, rfl, rfl, L1, hs1, ho1', It.start, fun c hc => ?_, PlInv.start hz1 (fun i _ => rfl)⟩
   rw [hb1 c hc, bs_succ]
  ·intro z3 z4 z5 z6 z7 m8 hX _
   obtain ⟨N, B, rfl, L8, hs8, ho8, it8, hB8, pl8⟩ := (show ∃ (N : Nat) (B : Int → Nat), _ = _ ∧ InvP _ _ _ _ _ _ _ _ _ _ _ _ _ _ _ _ _ _ _ _ from hX)
   obtain ⟨hN, hsd⟩ := pl8.fin
   refine cond_of (fun hb => ?_) (fun hb => ?_)
   ·have hgt : (N : Int) > 1 := of_decide_eq_true hb
    obtain ⟨x, j, rfl, hx, hj, hmin, hsd'⟩ := pl8.drop (by omega)
    rw [Int.toNat_natCast]
    refine ⟨by omega, by omega, L8.sa x hx, L8.sro, fun m9 hm9 => ?_⟩
    subst hm9
    rw [hN]
    refine hK _ j (hs8.trans (SameK.st _ _ _ _)) (ho8.st (.inr (.inr (InRow.mk hx))) _) (L8.stA hx _) (.inr ⟨by omega, hj, hmin⟩) (hsd'.congr fun y hy => ?_)
    rw [st_val]
   ·have hgt : ¬ (N : Int) > 1 := of_decide_eq_false hb
    rw [hN]
    exact hK m8 0 hs8 ho8 L8 (.inl ⟨by omega, rfl⟩) hsd
end Go.Proofs.YtdhifgedhaapjaaGreatDoor

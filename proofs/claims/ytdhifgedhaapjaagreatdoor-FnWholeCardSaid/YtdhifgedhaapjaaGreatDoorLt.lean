/- A buffer that is read: Read, ReadFull, readInt. -/
import Derived.Test.YtdhifgedhaapjaaGreatDoorLs
set_option maxRecDepth 100000
namespace Go.Proofs.YtdhifgedhaapjaaGreatDoor
open Go Sa
structure RdAt (z m : Mem) (B : Nat) (S : List Int) : Prop where
 ext : Ext z m
 fB : z.fresh B
 ro : m.ro B = false
 ko : m.kd B 1 = some .i64
 kl : m.kd B 2 = some .i8
 ob : ∃ g o len c r : Nat, m.ob B 0 = some (.slice (some ⟨g, o, none⟩) len c) ∧ m.val B 1 = (r : Int) ∧ r ≤ len ∧ len ≤ c ∧ len ≤ 1000000000 ∧ S.length = len - r ∧ ∀ i, i < S.length → z.kd g (o + r + i) = some .u8 ∧ z.val g (o + r + i) = S.getD i 0
 rg : ∀ x ∈ S, 0 ≤ x ∧ x < 256
structure Chg (m m' : Mem) (B p o : Nat) (W : List Int) : Prop where
 kd : m'.kd = m.kd
 ro : m'.ro = m.ro
 ob : ∀ x y, x ≠ B → m'.ob x y = m.ob x y
 val : ∀ x y, x ≠ B → m'.val x y = (m.wr p o W).val x y
theorem Chg.refl (m : Mem) (B p o : Nat) : Chg m m B p o [] := ⟨rfl, rfl, fun _ _ _ => rfl, fun _ _ _ => by rw [wr_nil]⟩
theorem Chg.nil_right {m m1 m2 : Mem} {B p o p' o' : Nat} {W : List Int} (h : Chg m m1 B p o W) (h2 : Chg m1 m2 B p' o' []) : Chg m m2 B p o W :=
 ⟨h2.kd.trans h.kd, h2.ro.trans h.ro, fun x y hx => (h2.ob x y hx).trans (h.ob x y hx), fun x y hx => by
  rw [h2.val x y hx, wr_nil]; exact h.val x y hx⟩
theorem Chg.at_ {m m' : Mem} {B p o : Nat} {W : List Int} (h : Chg m m' B p o W) (hp : p ≠ B) : At m' p o W := fun i hi => by
 rw [h.val _ _ hp]; exact At.wr m p o W i hi
theorem Chg.other {m m' : Mem} {B p o : Nat} {W : List Int} (h : Chg m m' B p o W) {x : Nat} (hx : x ≠ B) (hp : x ≠ p) (y : Nat) : m'.val x y = m.val x y := by
 rw [h.val _ _ hx]; exact wr_other _ _ _ _ fun e => absurd e hp
theorem Chg.ext {a m m' : Mem} {B p o : Nat} {W : List Int} (h : Chg m m' B p o W) (e : Ext a m) (hB : a.fresh B) (hp : a.fresh p) : Ext a m' :=
 ⟨fun x y k hk => by rw [h.kd]; exact e.kd _ _ _ hk, fun x y k hk => by rw [h.other (kd_ne hk hB) (kd_ne hk hp)]; exact e.val _ _ _ hk, fun x y v hv => by rw [h.ob _ _ (ob_ne hv hB)]; exact e.ob _ _ _ hv, fun x hx => by rw [h.ro]; exact e.ro _ hx⟩
theorem Bf.chg {m m' : Mem} {B b p o : Nat} {W : List Int} (hb : Bf m b) (h : Chg m m' B p o W) (hne : b ≠ B) (hW : ∀ x ∈ W, 0 ≤ x ∧ x < 256) : Bf m' b := by
 by_cases hp : b = p
 ·subst hp
  have h1 := hb.wr o hW
  exact ⟨fun i hi => by rw [h.kd]; exact hb.kd i hi, by rw [h.ro]; exact hb.ro, fun i hi => by rw [h.val _ _ hne]; exact h1.rg i hi⟩
 ·exact ⟨fun i hi => by rw [h.kd]; exact hb.kd i hi, by rw [h.ro]; exact hb.ro, fun i hi => by rw [h.other hne hp]; exact hb.rg i hi⟩
theorem lst_take (S : List Int) (k : Nat) : lst (fun i => S.getD i 0) (min S.length k) = S.take k := by
 apply List.ext_getElem?
 intro i
 rcases Nat.lt_or_ge i (min S.length k) with hlt | hge
 ·rw [lst_getElem? hlt, List.getElem?_take, if_pos (by omega), List.getD_eq_getElem?_getD, List.getElem?_eq_getElem (by omega)]
  rfl
 ·rw [List.getElem?_eq_none (by rw [lst_length]; exact hge), List.getElem?_eq_none (by rw [List.length_take]; omega)]
theorem read_145 {w0 : World} {z m : Mem} {B p o k cp : Nat} {S : List Int} {ev : Value} {K : Value → Mem → Prop} (h : RdAt z m B S) (h4 : z.ob 4 0 = some ev) (hk1 : 1 ≤ k) (hp : ∀ i, i < k → m.kd p (o + i) = some .u8) (hr : m.ro p = false) (hne : p ≠ B)
  (hzp : z.fresh p)
  (h0 : S = [] → ∀ m', RdAt z m' B [] → Chg m m' B p o [] → K (.tuple #[.int .i64 (0 : Int), ev]) m')
  (h1 : S ≠ [] → ∀ m', RdAt z m' B (S.drop k) → Chg m m' B p o (S.take k) → K (.tuple #[.int .i64 (min S.length k : Nat), .nilIface]) m') :
  callV Tryz.prog w0 145 [.pointer (some ⟨B, 0, none⟩), .slice (some ⟨p, o, none⟩) k cp] m K := by
 obtain ⟨g, o', len, c, r, hob, hv, hrl, hlc, hln, hSl, hcell⟩ := h.ob
 refine C_F145 ?_
 unfold M_F145
 refine ⟨h.kl, h.ro, ?_⟩
 rintro m1 rfl
 have hv1 : (m.st B (0 + 2) 0).val B 1 = (r : Int) := by simp only [Mem.st]; rw [if_neg (by omega)]; exact hv
 refine C_F149 ?_
 unfold M_F149
 refine ⟨_, _, _, _, hob, h.ko, fun z16 hz16 => ?_⟩
 obtain rfl : z16 = r := hz16.symm.trans hv1
 refine ⟨_, rfl, cond_of (fun hb => ?_) (fun hb => ?_)⟩
 ·have hle := of_decide_eq_true hb
  have hS : S = [] := by
   apply List.eq_nil_of_length_eq_zero
   omega
  refine C_F146 ?_
  unfold M_F146
  refine ⟨_, _, _, _, hob, by omega, by omega, rfl, by show (m.ob B 0).isSome = true; rw [hob]; rfl, h.ro, ?_⟩
  rintro m19 rfl
  refine ⟨h.ko, h.ro, ?_⟩
  rintro m20 rfl
  refine ⟨h.kl, h.ro, ?_⟩
  rintro m21 rfl
  have e1 : Ext z ((((m.st B (0 + 2) 0).so B (0 + 0) (.slice (some ⟨g, o', none⟩) (Int.toNat 0) c)).st B (0 + 1) 0).st B (0 + 2) 0) := (((h.ext.st h.fB _ _).so h.fB _ _).st h.fB _ _).st h.fB _ _
  refine cond_of (fun hb => ?_) (fun _ => ⟨ev, e1.ob _ _ _ h4, h0 hS _ ⟨e1, h.fB, h.ro, h.ko, h.kl, ⟨g, o', 0, c, 0, ?_, ?_, by omega, by omega, by omega, rfl, fun i hi => by simp at hi⟩, by simp⟩ ⟨rfl, rfl, fun x y hx => ?_, fun x y hx => ?_⟩⟩)
  ·have : (k : Int) = 0 := by simpa using hb
   omega
  ·simp [Mem.so, Mem.st]
  ·simp [Mem.so, Mem.st]
  ·simp only [Mem.so, Mem.st]
   rw [if_neg (fun e => hx e.1)]
  ·rw [wr_nil]
   simp only [Mem.so, Mem.st]
   rw [if_neg (fun e => hx e.1), if_neg (fun e => hx e.1), if_neg (fun e => hx e.1)]
 ·have hlt : r < len := by have := of_decide_eq_false hb; omega
  have hS : S ≠ [] := fun e => by rw [e] at hSl; simp at hSl; omega
  have hSW := lst_take S k
  have hWl : (S.take k).length = min S.length k := by rw [List.length_take]; omega
  have e1 : Ext z (m.st B (0 + 2) 0) := h.ext.st h.fB _ _
  refine ⟨(m.st B (0 + 2) 0).drop p, Ext.drop _ _, fun m' => m' = (m.st B (0 + 2) 0).wr p o (S.take k), ?_, g, o', len, c, ?_, ?_, fun z46 hz46 => ?_⟩
  ·rintro m2 rfl
   exact (Ext.drop _ _).wr (Mem.drop_fresh _ _) _ _
  ·rw [Mem.drop_ob hne.symm]; exact hob
  ·rw [Mem.drop_kd hne.symm]; exact h.ko
  obtain rfl : z46 = r := hz46.symm.trans hv1
  have hoff : (o' + if Int.toNat (r : Int) = c then 0 else Int.toNat (r : Int)) = o' + r := by
   rw [Int.toNat_natCast, if_neg (by omega)]
  rw [hoff, Int.toNat_natCast, show min (len - r) k = min S.length k by rw [hSl]]
  refine ⟨by omega, by omega, hlc, ((min S.length k : Nat) : Int), ⟨fun i hi => ⟨hp i (by omega), e1.kd _ _ _ (hcell i (by omega)).1⟩, hr, ?_⟩, ?_⟩
  ·rintro m48 rfl
   refine ⟨rfl, ?_⟩
   rw [copy_wr (T := fun i => S.getD i 0) (fun i hi => (e1.val _ _ _ (hcell i (by omega)).1).trans (hcell i (by omega)).2), hSW]
  rintro m10 rfl
  have hv10 : ((m.st B (0 + 2) 0).wr p o (S.take k)).val B 1 = (r : Int) := by
   rw [wr_other _ _ _ _ fun e => absurd e.symm hne]; exact hv1
  refine ⟨h.ko, fun z49 hz49 => ?_⟩
  obtain rfl : z49 = r := hz49.symm.trans hv10
  refine ⟨inR_i64 (by omega) (by omega), h.ko, h.ro, ?_⟩
  rintro m50 rfl
  have hpos : 0 < min S.length k := by omega
  refine cond_of (fun _ => ⟨h.kl, h.ro, ?_⟩) (fun hb => by have := of_decide_eq_false hb; omega)
  rintro m51 rfl
  have e2 := ((e1.wr hzp o (S.take k)).st h.fB (0 + 1) ((r : Int) + ((min S.length k : Nat) : Int))).st h.fB (0 + 2) (-1)
  refine h1 hS _ ⟨e2, h.fB, h.ro, h.ko, h.kl, ⟨g, o', len, c, r + min S.length k, hob, ?_, by omega, hlc, hln, by rw [List.length_drop]; omega, fun i hi => ?_⟩, fun x hx => h.rg x (List.mem_of_mem_drop hx)⟩ ⟨rfl, rfl, fun x y hx => rfl, fun x y hx => ?_⟩
  ·simp [Mem.st]
  ·rw [List.length_drop] at hi
   have hmin : min S.length k = k := by omega
   have := hcell (k + i) (by omega)
   rw [hmin, show o' + (r + k) + i = o' + r + (k + i) by omega]
   refine ⟨this.1, this.2.trans ?_⟩
   rw [List.getD_eq_getElem?_getD, List.getD_eq_getElem?_getD, List.getElem?_drop]
  ·show (if x = B ∧ y = 0 + 2 then _ else if x = B ∧ y = 0 + 1 then _ else ((m.st B (0 + 2) 0).wr p o (S.take k)).val x y) = _
   rw [if_neg (fun e => hx e.1), if_neg (fun e => hx e.1)]
   simp only [Mem.wr, Mem.st]
   split
   ·rfl
   ·rw [if_neg (fun e => hx e.1)]
inductive Fl (z m : Mem) (B p o k : Nat) (S : List Int) (ev : Value) : Nat → Value → Mem → Prop
 | a : Fl z m B p o k S ev 0 .nilIface m
 | b (m1 : Mem) : k ≤ S.length → RdAt z m1 B (S.drop k) → Chg m m1 B p o (S.take k) → Fl z m B p o k S ev k .nilIface m1
 | c (m1 : Mem) : S.length < k → 0 < S.length → RdAt z m1 B [] → Chg m m1 B p o S → Fl z m B p o k S ev S.length .nilIface m1
 | d (m1 : Mem) : S.length < k → RdAt z m1 B [] → Chg m m1 B p o S → Fl z m B p o k S ev S.length ev m1
theorem least_52 {w0 : World} {z m : Mem} {B p o k cp : Nat} {S : List Int} {ea ub : Addr} {K : Value → Mem → Prop} (h : RdAt z m B S) (h4 : z.ob 4 0 = some (.iface 154 (.pointer (some ea)))) (h5 : z.ob 5 0 = some (.iface 154 (.pointer (some ub))))
  (hk9 : k ≤ 1000000000) (hkc : k ≤ cp) (hp : ∀ i, i < k → m.kd p (o + i) = some .u8) (hr : m.ro p = false) (hne : p ≠ B) (hzp : z.fresh p)
  (ok : k ≤ S.length → ∀ m', RdAt z m' B (S.drop k) → Chg m m' B p o (S.take k) → K (.tuple #[.int .i64 k, .nilIface]) m')
  (bad : S.length < k → ∀ m' v (y : Int), isI v = true → isN v = false → RdAt z m' B [] → Chg m m' B p o S → K (.tuple #[.int .i64 y, v]) m') :
  callV Tryz.prog w0 52 [.iface 48 (.pointer (some ⟨B, 0, none⟩)), .slice (some ⟨p, o, none⟩) k cp, .int .i64 k] m K := by
 refine C_F52 (I0 := fun ps ls m1 => ps = P0_F52 B 0 p o k cp k ∧ ∃ (n : Nat) (e : Value), ls = [.iv .i64 n, .vv e] ∧ Fl z m B p o k S (.iface 154 (.pointer (some ea))) n e m1)
  (X0 := fun _ _ ls m1 => ∃ (n : Nat) (e : Value), ls = [.iv .i64 n, .vv e] ∧ Fl z m B p o k S (.iface 154 (.pointer (some ea))) n e m1 ∧ (k ≤ n ∨ isN e = false))
  (mu0 := fun _ ls => match ls with | [.iv _ n, .vv e] => cond (isN e) (k - n.toNat + 1) 0 | _ => 0) ?_ ?_
 ·rintro b_r o_r b_buf o_buf l_buf c_buf mn n_ err k0 m1 ⟨hps, n, e, hls, hf⟩ hmu
  obtain ⟨⟨rfl, rfl⟩, ⟨rfl, rfl, rfl, rfl⟩, rfl⟩ : (b_r = B ∧ o_r = 0) ∧ (b_buf = p ∧ o_buf = o ∧ l_buf = k ∧ c_buf = cp) ∧ mn = k := by
   unfold P0_F52 at hps
   simpa using hps
  obtain ⟨rfl, rfl⟩ : n_ = n ∧ err = e := by simpa using hls
  have hmu' : cond (isN err) (l_buf - n + 1) 0 < k0 + 1 := hmu
  unfold R0_F52
  refine cond_of (fun hb => ?_) (fun hb => XF1_mk ⟨n, err, rfl, hf, .inl (by have := of_decide_eq_false hb; omega)⟩)
  have hlt : n < l_buf := by have := of_decide_eq_true hb; omega
  cases hf with
  | a =>
   refine ⟨rfl, cond_of (fun _ => ?_) (fun hb => by cases hb)⟩
   have hmu2 : l_buf < k0 := by
    have : l_buf - 0 + 1 < k0 + 1 := hmu'
    omega
   by_cases hS : S = []
   ·subst hS
    refine ⟨z, h.ext, fun m' => RdAt z m' b_r [] ∧ Chg m m' b_r b_buf o_buf [], fun m2 h2 => h2.1.ext, by omega, by omega, hkc, (0 : Int), .iface 154 (.pointer (some ea)), ?_, fun m12 h12 => ⟨inR_i64 (by omega) (by omega), ?_⟩⟩
    ·rw [show (o_buf + if Int.toNat ((0 : Nat) : Int) = c_buf then 0 else Int.toNat ((0 : Nat) : Int)) = o_buf by split <;> rfl]
     exact read_145 h h4 (by omega) hp hr hne hzp (fun _ m' g1 g2 => ⟨_, _, rfl, rfl, g1, g2⟩) (fun e => absurd rfl e)
    ·refine KF1_mk ⟨⟨rfl, 0, _, rfl, .d m12 (by simpa using hlt) h12.1 h12.2⟩, ?_⟩
     show (0 : Nat) < k0
     omega
   ·refine ⟨z, h.ext, fun m' => RdAt z m' b_r (S.drop l_buf) ∧ Chg m m' b_r b_buf o_buf (S.take l_buf), fun m2 h2 => h2.1.ext, by omega, by omega, hkc, ((min S.length l_buf : Nat) : Int), .nilIface, ?_, fun m12 h12 => ⟨inR_i64 (by omega) (by omega), ?_⟩⟩
    ·rw [show (o_buf + if Int.toNat ((0 : Nat) : Int) = c_buf then 0 else Int.toNat ((0 : Nat) : Int)) = o_buf by split <;> rfl]
     exact read_145 h h4 (by omega) hp hr hne hzp (fun e => absurd e hS) (fun _ m' g1 g2 => ⟨_, _, rfl, rfl, g1, g2⟩)
    ·have hpos : 0 < S.length := List.length_pos_iff.2 hS
     rw [show (((0 : Nat) : Int) + ((min S.length l_buf : Nat) : Int)) = ((min S.length l_buf : Nat) : Int) by omega]
     have hf2 : Fl z m b_r b_buf o_buf l_buf S (.iface 154 (.pointer (some ea))) (min S.length l_buf) .nilIface m12 := by
      rcases Nat.lt_or_ge S.length l_buf with hc | hc
      ·rw [Nat.min_eq_left (by omega)]
       refine .c m12 hc hpos ?_ ?_
       ·have := h12.1
        rwa [List.drop_eq_nil_of_le (by omega)] at this
       ·have := h12.2
        rwa [List.take_of_length_le (by omega)] at this
      ·rw [Nat.min_eq_right hc]
       exact .b m12 hc h12.1 h12.2
     refine KF1_mk ⟨⟨rfl, _, _, rfl, hf2⟩, ?_⟩
     show l_buf - ((min S.length l_buf : Nat) : Int).toNat + 1 < k0
     omega
  | b _ hkS hrd hch => omega
  | c _ hSk hpos hrd hch =>
   refine ⟨rfl, cond_of (fun _ => ?_) (fun hb => by cases hb)⟩
   refine ⟨z, hrd.ext, fun m' => RdAt z m' b_r [] ∧ Chg m m' b_r b_buf o_buf S, fun m2 h2 => h2.1.ext, by omega, by omega, hkc, (0 : Int), .iface 154 (.pointer (some ea)), ?_, fun m12 h12 => ⟨inR_i64 (by omega) (by omega), ?_⟩⟩
   ·rw [Int.toNat_natCast, if_neg (by omega)]
    refine read_145 hrd h4 (by omega) (fun i hi => ?_) (by rw [hch.ro]; exact hr) hne hzp (fun _ m' g1 g2 => ⟨_, _, rfl, rfl, g1, hch.nil_right g2⟩) (fun e => absurd rfl e)
    rw [hch.kd, Nat.add_assoc]
    exact hp _ (by omega)
   ·rw [show ((S.length : Int) + (0 : Int)) = (S.length : Int) by omega]
    refine KF1_mk ⟨⟨rfl, S.length, _, rfl, .d m12 hSk h12.1 h12.2⟩, ?_⟩
    show (0 : Nat) < k0
    have : l_buf - S.length + 1 < k0 + 1 := hmu'
    omega
  | d _ hSk hrd hch =>
   exact ⟨rfl, cond_of (fun hb => by cases hb) (fun _ => XF1_mk ⟨_, _, rfl, .d m1 hSk hrd hch, .inr rfl⟩)⟩
 ·unfold M_F52
  refine cond_of (fun hb => by have := of_decide_eq_true hb; omega) (fun _ => ⟨⟨rfl, 0, .nilIface, rfl, .a⟩, ?_⟩)
  rintro z2 z3 m4 ⟨n, e, hls, hf, hx⟩ _
  obtain ⟨rfl, rfl⟩ : z2 = n ∧ z3 = e := by simpa using hls
  cases hf with
  | a =>
   rcases hx with hx | hx
   ·obtain rfl : k = 0 := by omega
    refine cond_of (fun _ => ?_) (fun hb => by have := of_decide_eq_false hb; omega)
    exact ok (by omega) _ (by rw [List.drop_zero]; exact h) (by rw [List.take_zero]; exact Chg.refl _ _ _ _)
   ·cases hx
  | b _ hkS hrd hch => exact cond_of (fun _ => ok hkS _ hrd hch) (fun hb => by have := of_decide_eq_false hb; omega)
  | c _ hSk hpos hrd hch =>
   rcases hx with hx | hx
   ·omega
   ·cases hx
  | d _ hSk hrd hch =>
   refine cond_of (fun hb => by have := of_decide_eq_true hb; omega) (fun _ => cond_of (fun _ => ?_) (fun _ => bad hSk _ _ _ rfl rfl hrd hch))
   exact ⟨_, hrd.ext.ob _ _ _ h4, rfl, ⟨154, ea, rfl, rfl⟩, _, hrd.ext.ob _ _ _ h5, bad hSk _ _ _ rfl rfl hrd hch⟩
theorem full_37 {w0 : World} {z m : Mem} {B p o k cp : Nat} {S : List Int} {ea ub : Addr} {K : Value → Mem → Prop} (h : RdAt z m B S) (h4 : z.ob 4 0 = some (.iface 154 (.pointer (some ea)))) (h5 : z.ob 5 0 = some (.iface 154 (.pointer (some ub))))
  (hk9 : k ≤ 1000000000) (hkc : k ≤ cp) (hp : ∀ i, i < k → m.kd p (o + i) = some .u8) (hr : m.ro p = false) (hne : p ≠ B) (hzp : z.fresh p)
  (ok : k ≤ S.length → ∀ m', RdAt z m' B (S.drop k) → Chg m m' B p o (S.take k) → K (.tuple #[.int .i64 k, .nilIface]) m')
  (bad : S.length < k → ∀ m' v (y : Int), isI v = true → isN v = false → RdAt z m' B [] → Chg m m' B p o S → K (.tuple #[.int .i64 y, v]) m') :
  callV Tryz.prog w0 37 [.iface 48 (.pointer (some ⟨B, 0, none⟩)), .slice (some ⟨p, o, none⟩) k cp] m K := by
 refine C_F37 ?_
 unfold M_F37
 exact least_52 h h4 h5 hk9 hkc hp hr hne hzp (fun h1 m' h2 h3 => ⟨_, _, rfl, ok h1 m' h2 h3⟩) (fun h1 m' v y h2 h3 h4 h5 => ⟨_, _, rfl, bad h1 m' v y h2 h3 h4 h5⟩)
theorem rint_36 {w0 : World} {z m : Mem} {B b : Nat} {S : List Int} {ea ub : Addr} {K : Value → Mem → Prop} (h : RdAt z m B S) (h4 : z.ob 4 0 = some (.iface 154 (.pointer (some ea)))) (h5 : z.ob 5 0 = some (.iface 154 (.pointer (some ub))))
  (hb : Bf m b) (hne : b ≠ B) (hzb : z.fresh b)
  {v : Nat} (hv : v ≤ 1000000) (hI : 10 ≤ S.length → I10 (S.take 10) v)
  (ok : 10 ≤ S.length → ∀ m', RdAt z m' B (S.drop 10) → Chg m m' B b 0 (S.take 10) → Bf m' b → K (.tuple #[.int .i64 v, .nilIface]) m')
  (bad : S.length < 10 → ∀ m' v (y : Int), isI v = true → isN v = false → K (.tuple #[.int .i64 y, v]) m') :
  callV Tryz.prog w0 36 [.iface 48 (.pointer (some ⟨B, 0, none⟩)), .slice (some ⟨b, 0, none⟩) 16384 16384] m K := by
 refine C_F36 ?_
 unfold M_F36
 refine ⟨by omega, by omega, by omega, ?_⟩
 refine full_37 (k := 10) h h4 h5 (by omega) (by omega) (fun i hi => by show m.kd b (0 + i) = _; rw [Nat.zero_add]; exact hb.kd _ (by omega)) hb.ro hne hzb (fun hl m' g1 g2 => ?_) (fun hl m' v y g0 g1 g2 g3 => ?_)
 ·have hI := hI hl
  have hb' := hb.chg g2 hne fun x hx => h.rg x (List.mem_of_mem_take hx)
  have hl3 := uv_len3 (x := 2 * v) (by omega)
  refine ⟨_, _, rfl, int_51 (v := v) (fun i hi => by rw [Nat.zero_add]; exact hb'.kd i hi) (by omega) hv (by omega) ?_ fun z8 => ⟨_, _, rfl, ok hl m' g1 g2 hb'⟩⟩
  obtain ⟨t, ht⟩ := hI.pre
  have := g2.at_ hne
  rw [← ht] at this
  exact this.left
 ·have hb' := hb.chg g3 hne h.rg
  exact ⟨_, _, rfl, any_51 (fun i hi => by rw [Nat.zero_add]; exact hb'.kd i hi) (by omega) fun z1 z2 => ⟨_, _, rfl, bad hl m' v _ g0 g1⟩⟩
/-! ### what stays -/
structure Kp (m m' : Mem) (D : Nat → Nat → Prop) : Prop where
 kd : ∀ x y k, m.kd x y = some k → m'.kd x y = some k
 val : ∀ x y k, m.kd x y = some k → ¬ D x y → m'.val x y = m.val x y
 ob : ∀ x y v, m.ob x y = some v → ¬ D x y → m'.ob x y = some v
 ro : ∀ x, m.ro x = false → m'.ro x = false
theorem Kp.trans {m m1 m2 : Mem} {D E F : Nat → Nat → Prop} (h : Kp m m1 D) (k : Kp m1 m2 E) (hD : ∀ x y, D x y → F x y) (hE : ∀ x y, E x y → F x y) : Kp m m2 F :=
 ⟨fun x y i hi => k.kd _ _ _ (h.kd _ _ _ hi), fun x y i hi hF => (k.val _ _ _ (h.kd _ _ _ hi) fun e => hF (hE _ _ e)).trans (h.val _ _ _ hi fun e => hF (hD _ _ e)),
  fun x y v hv hF => k.ob _ _ _ (h.ob _ _ _ hv fun e => hF (hD _ _ e)) fun e => hF (hE _ _ e), fun x hx => k.ro _ (h.ro _ hx)⟩
theorem Kp.of_ext {m m' : Mem} (e : Ext m m') (D : Nat → Nat → Prop) : Kp m m' D := ⟨e.kd, fun x y k hk _ => e.val x y k hk, fun x y v hv _ => e.ob x y v hv, e.ro⟩
theorem Chg.kp {m m' : Mem} {B p o : Nat} {W : List Int} (h : Chg m m' B p o W) : Kp m m' (fun x y => x = B ∨ (x = p ∧ o ≤ y ∧ y < o + W.length)) :=
 ⟨fun x y k hk => by rw [h.kd]; exact hk, fun x y k _ hD => by
  rw [h.val _ _ fun e => hD (.inl e), wr_other _ _ _ _ fun e => Classical.byContradiction fun hn => hD (.inr ⟨e, by omega, by omega⟩)], fun x y v hv hD => by rw [h.ob _ _ fun e => hD (.inl e)]; exact hv, fun x hx => by rw [h.ro]; exact hx⟩
theorem Kp.wr (m : Mem) (b o : Nat) (L : List Int) : Kp m (m.wr b o L) (fun x y => x = b ∧ o ≤ y ∧ y < o + L.length) :=
 ⟨fun _ _ _ h => h, fun x y k _ hD => wr_other _ _ _ _ fun e => Classical.byContradiction fun hn => hD ⟨e, by omega, by omega⟩, fun _ _ _ h _ => h, fun _ h => h⟩
theorem Kp.ext {a m m' : Mem} {D : Nat → Nat → Prop} (h : Kp m m' D) (e : Ext a m) (hD : ∀ x y, D x y → a.kd x y = none ∧ a.ob x y = none) : Ext a m' :=
 ⟨fun x y k hk => h.kd _ _ _ (e.kd _ _ _ hk), fun x y k hk => (h.val _ _ _ (e.kd _ _ _ hk) fun d => by rw [(hD _ _ d).1] at hk; cases hk).trans (e.val _ _ _ hk),
  fun x y v hv => h.ob _ _ _ (e.ob _ _ _ hv) fun d => (by rw [(hD _ _ d).2] at hv; cases hv), fun x hx => h.ro _ (e.ro _ hx)⟩
theorem RdAt.grow {z m m' : Mem} {B : Nat} {S : List Int} (h : RdAt z m B S) (e : Ext m m') : RdAt z m' B S := by
 obtain ⟨g, o', len, c, r, hob, hv, h1, h2, h3, h4, h5⟩ := h.ob
 exact ⟨h.ext.trans e, h.fB, e.ro _ h.ro, e.kd _ _ _ h.ko, e.kd _ _ _ h.kl, ⟨g, o', len, c, r, e.ob _ _ _ hob, (e.val _ _ _ h.ko).trans hv, h1, h2, h3, h4, h5⟩, h.rg⟩
theorem RdAt.wr {z m : Mem} {B : Nat} {S : List Int} (h : RdAt z m B S) {b : Nat} (hb : z.fresh b) (hne : b ≠ B) (o : Nat) (L : List Int) : RdAt z (m.wr b o L) B S := by
 obtain ⟨g, o', len, c, r, hob, hv, h1, h2, h3, h4, h5⟩ := h.ob
 exact ⟨h.ext.wr hb o L, h.fB, h.ro, h.ko, h.kl, ⟨g, o', len, c, r, hob, by rw [wr_other _ _ _ _ fun e => absurd e.symm hne]; exact hv, h1, h2, h3, h4, h5⟩, h.rg⟩
theorem Bf.grow {m m' : Mem} {b : Nat} (h : Bf m b) (e : Ext m m') : Bf m' b :=
 ⟨fun i hi => e.kd _ _ _ (h.kd i hi), e.ro _ h.ro, fun i hi => by rw [e.val _ _ _ (h.kd i hi)]; exact h.rg i hi⟩
theorem Bf.wr_ne {m : Mem} {b p : Nat} (h : Bf m b) (hne : b ≠ p) (o : Nat) (L : List Int) : Bf (m.wr p o L) b :=
 ⟨h.kd, h.ro, fun i hi => by rw [wr_other _ _ _ _ fun e => absurd e hne]; exact h.rg i hi⟩
theorem pre_cases {S h s : List Int} (hp : S <+: h ++ s) : S.length < h.length ∨ ∃ S', S = h ++ S' ∧ S' <+: s := by
 rcases Nat.lt_or_ge S.length h.length with hl | hl
 ·exact .inl hl
 ·obtain ⟨t, ht⟩ := hp
  refine .inr ?_
  have h1 : h <+: S := List.prefix_of_prefix_length_le ⟨s, rfl⟩ ⟨t, ht⟩ hl
  obtain ⟨S', rfl⟩ := h1
  refine ⟨S', rfl, t, ?_⟩
  rw [List.append_assoc] at ht
  exact List.append_cancel_left ht
theorem rslice_38 {w0 : World} {z m : Mem} {B b ba oa ca len' j k maxI : Nat} {S hd s1 : List Int} {A : Nat → Nat} {ea ub : Addr} {K : Value → Mem → Prop} (h : RdAt z m B S) (h4 : z.ob 4 0 = some (.iface 154 (.pointer (some ea)))) (h5 : z.ob 5 0 = some (.iface 154 (.pointer (some ub))))
  (hb : Bf m b) (hne : b ≠ B) (hzb : z.fresh b) (hk : ∀ i, i < len' → m.kd ba (oa + i) = some .i32) (hro : m.ro ba = false) (e1 : ba ≠ B) (e2 : ba ≠ b) (hzba : z.fresh ba)
  (hA : ∀ i, A i < maxI) (hmax : maxI ≤ 1000000) (hkl : k ≤ len') (hl0 : 0 < len') (hl6 : len' ≤ 1000000) (hI : I10 hd (10 + (body A j k).length)) (h16 : 10 + (body A j k).length ≤ 16384) (hpre : S <+: hd ++ (body A j k ++ s1))
  (ok : ∀ S' m', S = hd ++ (body A j k ++ S') → RdAt z m' B S' → Bf m' b → (∀ i, i < k → m'.val ba (oa + i) = (A (j + i) : Nat)) → Kp m m' (fun x y => x = B ∨ x = b ∨ (x = ba ∧ oa ≤ y ∧ y < oa + k)) → K (.tuple #[.int .i64 k, .nilIface]) m')
  (bad : S.length < 10 + (body A j k).length → ∀ m' v (y : Int), isI v = true → isN v = false → K (.tuple #[.int .i64 y, v]) m') :
  callV Tryz.prog w0 38 [.iface 48 (.pointer (some ⟨B, 0, none⟩)), .slice (some ⟨b, 0, none⟩) 16384 16384, .agg #[.slice (some ⟨ba, oa, none⟩) len' ca, .slice none 0 0], .int .u64 maxI] m K := by
 let Mid : Nat → Mem → Prop := fun B1 m10 => (∃ S', S = hd ++ (body A j k ++ S') ∧ RdAt z m10 B S') ∧ Bf m10 b ∧ At m10 b 10 (body A j k) ∧ m10.ob B1 0 = some (.slice (some ⟨ba, oa, none⟩) len' ca) ∧ Kp m m10 (fun x _ => x = B ∨ x = b)
 refine C_F38 (I0 := fun ps ls m1 => ∃ (B1 : Nat) (m10 : Mem) (q : Nat), ps = P0_F38 b 0 16384 16384 maxI B1 0 (10 + (body A j k).length : Nat) len' ∧ ls = [.iv .i64 q, .vv .nilIface, .iv .i64 (10 + (body A j q).length : Nat)] ∧ q ≤ k ∧
   m1 = m10.wr ba oa (lst (fun i => (A (j + i) : Nat)) q) ∧ Mid B1 m10)
  (X0 := fun i _ ls m1 => i = 0 ∧ ∃ (B1 : Nat) (m10 : Mem) (p : Int), ls = [.iv .i64 k, .vv .nilIface, .iv .i64 p] ∧ m1 = m10.wr ba oa (lst (fun i => (A (j + i) : Nat)) k) ∧ Mid B1 m10)
  (mu0 := fun ps ls => match ps, ls with | [_, _, _, .iv _ size, _], [_, _, .iv _ p] => (size - p).toNat | _, _ => 0) ?_ ?_
 ·rintro b_buf o_buf l_buf c_buf mxI bd6 od6 size len n_ err p k0 m1 ⟨B1, m10, q, hps, hls, hqk, rfl, hM⟩ hmu
  obtain ⟨⟨S', hS', hrd⟩, hbf, hat, hob, hkp⟩ := id hM
  obtain ⟨⟨rfl, rfl, rfl, rfl⟩, rfl, ⟨rfl, rfl⟩, rfl, rfl⟩ : (b_buf = b ∧ o_buf = 0 ∧ l_buf = 16384 ∧ c_buf = 16384) ∧ mxI = maxI ∧ (bd6 = B1 ∧ od6 = 0) ∧ size = (10 + (body A j k).length : Nat) ∧ len = len' := by
   unfold P0_F38 at hps
   simpa using hps
  obtain ⟨rfl, rfl, rfl⟩ : n_ = q ∧ err = .nilIface ∧ p = (10 + (body A j q).length : Nat) := by simpa using hls
  have hmu' : (((10 + (body A j k).length : Nat) : Int) - ((10 + (body A j q).length : Nat) : Int)).toNat < k0 + 1 := hmu
  have split : ∀ q, q < k → ∃ rest, body A j k = body A j q ++ (uv (A (j + q)) ++ rest) := fun q hq => by
   obtain ⟨d, rfl⟩ : ∃ d, k = q + (d + 1) := ⟨k - q - 1, by omega⟩
   refine ⟨body A (j + q + 1) d, ?_⟩
   rw [← body_head]
   unfold body
   rw [← List.flatMap_append, List.range'_append_1]
  unfold R0_F38
  refine cond_of (fun hb => ?_) (fun hb => ?_)
  ·have hlt := of_decide_eq_true hb
   have hq : q < k := by
    rcases Nat.lt_or_ge q k with hq | hq
    ·exact hq
    ·obtain rfl : q = k := by omega
     omega
   obtain ⟨rest, hsp⟩ := split q hq
   have hlen : (body A j k).length = (body A j q).length + ((uv (A (j + q))).length + rest.length) := by rw [hsp, List.length_append, List.length_append]
   have hpos := uv_pos (A (j + q))
   have hAq := hA (j + q)
   have hatq : At (m10.wr ba oa (lst (fun i => (A (j + i) : Nat)) q)) b_buf (10 + (body A j q).length) (uv (A (j + q))) := by
    rw [hsp] at hat
    exact (hat.right.left).keep fun e => absurd e.symm e2
   have hbf' := hbf.wr_ne e2.symm oa (lst (fun i => (A (j + i) : Nat)) q)
   have p28 : A (j + q) < 2 ^ 28 := by
    have : (2 : Nat) ^ 28 = 268435456 := by decide
    omega
   rw [Int.toNat_natCast, if_neg (by omega), Nat.zero_add]
   refine ⟨by omega, by omega, by omega, get_53 (v := A (j + q)) (fun i hi => hbf'.kd _ (by omega)) (by omega) p28 (by omega) hatq ⟨_, _, rfl, ?_⟩⟩
   refine cond_of (fun hb => by have := of_decide_eq_true hb; omega) (fun _ => cond_of (fun hb => by have := of_decide_eq_true hb; omega) (fun _ => ?_))
   refine C_F54 ?_
   unfold M_F54
   rw [show IntKind.wrap .i64 ((A (j + q) : Nat) : Int) = ((A (j + q) : Nat) : Int) from wrap_i64 (by omega) (by omega), Int.toNat_natCast]
   refine ⟨_, _, _, _, hob, _, _, _, _, hob, wrap_i32 (by omega) (by omega), by omega, by omega, hkp.kd _ _ _ (hk q (by omega)), hkp.ro _ hro, ?_⟩
   rintro m29 rfl
   refine ⟨inR_i64 (by omega) (by omega), inR_i64 (by omega) (by omega), ?_⟩
   rw [show ((q : Int) + 1) = ((q + 1 : Nat) : Int) by omega, show (((10 + (body A j q).length : Nat) : Int) + ((uv (A (j + q))).length : Int)) = ((10 + (body A j (q + 1)).length : Nat) : Int) by rw [body_succ, List.length_append]; omega]
   refine KF1_mk ⟨⟨_, m10, q + 1, rfl, rfl, by omega, ?_, hM⟩, ?_⟩
   ·have := wr_snoc m10 ba oa (lst (fun i => (A (j + i) : Nat)) q) (A (j + q) : Nat)
    rw [lst_length] at this
    rw [this]
    congr 1
    rw [lst_add]
    rfl
   ·show (((10 + (body A j k).length : Nat) : Int) - ((10 + (body A j (q + 1)).length : Nat) : Int)).toNat < k0
    rw [body_succ, List.length_append]
    omega
  ·have hge := of_decide_eq_false hb
   have hq : q = k := by
    rcases Nat.lt_or_ge q k with hq | hq
    ·obtain ⟨rest, hsp⟩ := split q hq
     have hlen : (body A j k).length = (body A j q).length + ((uv (A (j + q))).length + rest.length) := by rw [hsp, List.length_append, List.length_append]
     have hpos := uv_pos (A (j + q))
     omega
    ·omega
   subst hq
   exact XF1_mk ⟨rfl, bd6, m10, _, rfl, rfl, hM⟩
 ·unfold M_F38
  rintro B1 hB1 m2 hm2
  have e12 : Ext m m2 := hm2 ▸ Ext.newC m hB1 _
  have q0 : m2.ob B1 0 = some (.slice (some ⟨ba, oa, none⟩) len' ca) := by rw [hm2]; simp [Mem.newC, Value.obj?]
  have q1 : m2.ob B1 1 = some (.slice none 0 0) := by rw [hm2]; simp [Mem.newC, Value.obj?]
  have nB : B1 ≠ B := (kd_ne h.ko hB1).symm
  clear hm2
  have hpc := pre_cases hpre
  have hI' : 10 ≤ S.length → I10 (S.take 10) (10 + (body A j k).length) := fun hl => by
   rcases hpc with hc | ⟨S', rfl, _⟩
   ·rw [hI.len] at hc; omega
   ·have : (hd ++ S').take 10 = hd := by rw [← hI.len]; simp
    rw [this]; exact hI
  refine rint_36 (h.grow e12) h4 h5 (hb.grow e12) hne hzb (v := 10 + (body A j k).length) (by omega) hI' (fun hl m4 g1 g2 g3 => ⟨_, _, rfl, rfl, cond_of (fun hb => by cases hb) (fun _ => cond_of (fun hb => ?_) (fun _ => cond_of (fun hb => by have := of_decide_eq_true hb; omega) (fun _ => ?_)))⟩) (fun hl m' v y g1 g2 => ⟨_, _, rfl, g1, cond_of (fun _ => bad (by omega) m' v _ g1 g2) (fun hb => by rw [g2] at hb; cases hb)⟩)
  ·simp at hb
  obtain ⟨S1, rfl, hp1⟩ : ∃ S', S = hd ++ S' ∧ S' <+: body A j k ++ s1 := by
   rcases hpc with hc | hc
   ·rw [hI.len] at hc; omega
   ·exact hc
  have hd10 : (hd ++ S1).drop 10 = S1 := by rw [← hI.len]; simp
  rw [hd10] at g1
  rw [Int.toNat_natCast, show (0 + if Int.toNat (10 : Int) = 16384 then 0 else Int.toNat (10 : Int)) = 10 from rfl, show 10 + (body A j k).length - Int.toNat (10 : Int) = (body A j k).length by show 10 + (body A j k).length - 10 = _; omega]
  refine ⟨by omega, by omega, by omega, full_37 (k := (body A j k).length) g1 h4 h5 (by omega) (by show _ ≤ 16384 - 10; omega) (fun i hi => g3.kd _ (by omega)) g3.ro hne hzb (fun hl2 m10 f1 f2 => ?_) (fun hl2 m' v y f0 f1 f2 f3 => ⟨_, _, rfl, f0, cond_of (fun _ => bad (by rw [List.length_append, hI.len]; omega) m' v _ f0 f1) (fun hb => by rw [f1] at hb; cases hb)⟩)⟩
  obtain ⟨S', rfl, hp2⟩ : ∃ S', S1 = body A j k ++ S' ∧ S' <+: s1 := by
   rcases pre_cases hp1 with hc | hc
   ·omega
   ·exact hc
  have hdk : (body A j k ++ S').drop (body A j k).length = S' := by simp
  have htk : (body A j k ++ S').take (body A j k).length = body A j k := by simp
  rw [hdk] at f1
  rw [htk] at f2
  have k1 : Kp m m4 (fun x _ => x = B ∨ x = b) := (Kp.of_ext e12 _).trans g2.kp (fun x y h => h) (fun x y h => h.elim .inl fun e => .inr e.1)
  have k2 : Kp m m10 (fun x _ => x = B ∨ x = b) := k1.trans f2.kp (fun x y h => h) (fun x y h => h.elim .inl fun e => .inr e.1)
  have p0 : m10.ob B1 0 = some (.slice (some ⟨ba, oa, none⟩) len' ca) := by rw [f2.ob _ _ nB, g2.ob _ _ nB]; exact q0
  have p1 : m10.ob B1 1 = some (.slice none 0 0) := by rw [f2.ob _ _ nB, g2.ob _ _ nB]; exact q1
  refine ⟨_, _, rfl, rfl, cond_of (fun hb => by cases hb) (fun _ => len_33 p0 p1 (by omega) ⟨_, rfl, ⟨B1, m10, 0, rfl, by rw [body_zero]; rfl, by omega, (wr_nil _ _ _).symm, ⟨S', rfl, f1⟩, g3.chg f2 hne (body_rg _ _ _), f2.at_ hne, p0, k2⟩, ?_, ?_⟩)⟩
  ·rintro z16 z17 z18 m19 ⟨_, B1, m10, p, hls, rfl, ⟨S'', hS'', hrd⟩, hbf, hat, hob, hkp⟩ _
   obtain ⟨rfl, rfl, rfl⟩ : z16 = k ∧ z17 = .nilIface ∧ z18 = p := by simpa using hls
   refine ok S'' _ hS'' (hrd.wr hzba e1 _ _) (hbf.wr_ne e2.symm _ _) (fun i hi => ?_) (hkp.trans (Kp.wr _ _ _ _) (fun x y h => h.elim .inl fun e => .inr (.inl e)) (fun x y h => .inr (.inr ?_)))
   ·rw [At.wr _ _ _ _ i (by rw [lst_length]; exact hi), lst_getD (T := fun i => ((A (j + i) : Nat) : Int)) hi]
   ·rw [lst_length] at h; exact h
  ·rintro z20 z21 z22 m23 ⟨h, _⟩ _
   cases h
end Go.Proofs.YtdhifgedhaapjaaGreatDoor
set_option maxRecDepth 100000
namespace Go.Proofs.YtdhifgedhaapjaaGreatDoor
open Go Sa
def Tl20 (I0 : LI) (X0 : LX) (K : Value → Mem → Prop) (w0 : World) (b_x b_r B1 : Nat) (z5 : Int) (m22 : Mem) : Prop :=
 ∃ (b154 o155 l156 c157 : Nat), m22.ob b_x (0 + 0) = some (.slice (some ⟨b154, o155, none⟩) l156 c157) ∧ callV Tryz.prog w0 37 [(.iface 48 (.pointer (some ⟨b_r, 0, none⟩))), (.slice (some ⟨b154, o155, none⟩) l156 c157)] m22 fun v158 m159 => ∃ (z160 : Int) (v161 : Value), v158 = (.tuple #[(.int .i64 z160), v161]) ∧ isI v161 = true ∧
  cond (!isN v161) (K v161 m159) (∃ (b162 o163 l164 c165 : Nat), (m159.ob b_x (0 + 1) = some (.slice (some ⟨b162, o163, none⟩) l164 c165) ∧ m159.ob b_x ((0 + 1) + 1) = some (.slice none 0 0) ∧ True) ∧
   ∀ B166, Mem.fresh m159 B166 → ∀ m167, m167 = Mem.newC m159 B166 [.slice none 0 0, .slice none 0 0] → oneC (.slice (some ⟨b162, o163, none⟩) l164 c165) = true ∧ (m167.ob B166 0).isSome = true ∧ m167.ro B166 = false ∧ ∀ m168, m168 = Mem.so m167 B166 0 (.slice (some ⟨b162, o163, none⟩) l164 c165) →
    oneC (.slice none 0 0) = true ∧ (m168.ob B166 (0 + 1)).isSome = true ∧ m168.ro B166 = false ∧ ∀ m169, m169 = Mem.so m168 B166 (0 + 1) (.slice none 0 0) →
     (I0 (P0_F20 b_r 0 B1 0 (Int.toNat (16384 : Int)) (Int.toNat (16384 : Int)) z5 B166 0) [.vv .nilIface] m169) ∧
     ((∀ (z170 : Value) (m171 : Mem), X0 0 (P0_F20 b_r 0 B1 0 (Int.toNat (16384 : Int)) (Int.toNat (16384 : Int)) z5 B166 0) [.vv z170] m171 → ∀ _ : Env, K .nilIface m171)) ∧
     ((∀ (z172 : Value) (m173 : Mem), X0 1 (P0_F20 b_r 0 B1 0 (Int.toNat (16384 : Int)) (Int.toNat (16384 : Int)) z5 B166 0) [.vv z172] m173 → ∀ _ : Env, K z172 m173)))
def Al20 (Tl E : Mem → Prop) (b_x : Nat) (z5 : Int) (m4 : Mem) : Prop :=
 0 ≤ z5 ∧ z5 ≤ z5 ∧ z5 ≤ 1000000000 ∧
  ∀ B14, Mem.fresh m4 B14 → ∀ m15, m15 = Mem.new m4 B14 .u8 (Int.toNat z5) (fun _ => 0) → oneC (.slice (some ⟨B14, 0, none⟩) (Int.toNat z5) (Int.toNat z5)) = true ∧ (m15.ob b_x (0 + 0)).isSome = true ∧ m15.ro b_x = false ∧ ∀ m16, m16 = Mem.so m15 b_x (0 + 0) (.slice (some ⟨B14, 0, none⟩) (Int.toNat z5) (Int.toNat z5)) →
   oneC (.slice none 0 0) = true ∧ (m16.ob b_x ((0 + 1) + 0)).isSome = true ∧ m16.ro b_x = false ∧ ∀ m17, m17 = Mem.so m16 b_x ((0 + 1) + 0) (.slice none 0 0) → oneC (.slice none 0 0) = true ∧ (m17.ob b_x ((0 + 1) + 1)).isSome = true ∧ m17.ro b_x = false ∧ ∀ m18, m18 = Mem.so m17 b_x ((0 + 1) + 1) (.slice none 0 0) →
    m18.kd 0 0 = some .i64 ∧ ∀ z19, m18.val 0 0 = z19 → cond (decide (z5 ≤ z19)) (0 ≤ z5 ∧ z5 ≤ z5 ∧ z5 ≤ 1000000000 ∧
     ∀ B20, Mem.fresh m18 B20 → ∀ m21, m21 = Mem.new m18 B20 .i32 (Int.toNat z5) (fun _ => 0) → oneC (.slice (some ⟨B20, 0, none⟩) (Int.toNat z5) (Int.toNat z5)) = true ∧ (m21.ob b_x ((0 + 1) + 0)).isSome = true ∧ m21.ro b_x = false ∧ ∀ m22, m22 = Mem.so m21 b_x ((0 + 1) + 0) (.slice (some ⟨B20, 0, none⟩) (Int.toNat z5) (Int.toNat z5)) → Tl m22) (E m18)
structure LpR (z : Mem) (B b bx bd cd ba ca bv n : Nat) (T : Nat → Int) (A : Nat → Nat) (j : Nat) (S : List Int) (m : Mem) : Prop where
 rd : RdAt z m B S
 bf : Bf m b
 x0 : m.ob bx 0 = some (.slice (some ⟨bd, 0, none⟩) n cd)
 x1 : m.ob bx 1 = some (.slice (some ⟨ba, 0, none⟩) n ca)
 x2 : m.ob bx 2 = some (.slice none 0 0)
 by_ : By m bd 0 n T
 ak : ∀ i, i < n → m.kd ba i = some .i32
 av : ∀ i, i < j → m.val ba i = (A i : Nat)
 ra : m.ro ba = false
 hj : j ≤ n
 v0 : ∃ o c, m.ob bv 0 = some (.slice (some ⟨ba, o, none⟩) (n - j) c) ∧ n - j ≤ c ∧ (j < n → o = j)
 v1 : m.ob bv 1 = some (.slice none 0 0)
 rv : m.ro bv = false
structure NeR (z : Mem) (B b bx bd ba bv n : Nat) : Prop where
 zb : z.fresh b
 za : z.fresh ba
 zv : z.fresh bv
 bB : b ≠ B
 aB : ba ≠ B
 ab : 0 < n → ba ≠ b
 xB : bx ≠ B
 xb : bx ≠ b
 xa : bx ≠ ba
 vB : bv ≠ B
 vb : bv ≠ b
 va : 0 < n → bv ≠ ba
 vx : bv ≠ bx
 dB : bd ≠ B
 db : 0 < n → bd ≠ b
 da : 0 < n → bd ≠ ba
structure Rows20 (z : Mem) (B b bx bd cd ba ca n : Nat) (S : List Int) (m : Mem) : Prop where
 rd : RdAt z m B S
 bf : Bf m b
 x0 : m.ob bx 0 = some (.slice (some ⟨bd, 0, none⟩) n cd)
 x1 : m.ob bx 1 = some (.slice (some ⟨ba, 0, none⟩) n ca)
 x2 : m.ob bx 2 = some (.slice none 0 0)
 dk : ∀ i, i < n → m.kd bd i = some .u8
 rd' : m.ro bd = false
 ak : ∀ i, i < n → m.kd ba i = some .i32
 ra : m.ro ba = false
 hcd : n ≤ cd
 hca : n ≤ ca
 zb : z.fresh b
 za : z.fresh ba
 zd : z.fresh bd
 bB : b ≠ B
 aB : ba ≠ B
 ab : 0 < n → ba ≠ b
 xB : bx ≠ B
 xb : bx ≠ b
 xa : bx ≠ ba
 dB : bd ≠ B
 db : 0 < n → bd ≠ b
 da : 0 < n → bd ≠ ba
theorem RdAt.same {z m m' : Mem} {B : Nat} {S : List Int} (h : RdAt z m B S) (ez : Ext z m') (hk : m'.kd = m.kd) (hv : m'.val = m.val) (hr : m'.ro = m.ro) (hb : m'.ob B 0 = m.ob B 0) : RdAt z m' B S := by
 obtain ⟨g, o', len, c', r, a1, a2, a3, a4, a5, a6, a7⟩ := h.ob
 exact ⟨ez, h.fB, by rw [hr]; exact h.ro, by rw [hk]; exact h.ko, by rw [hk]; exact h.kl, ⟨g, o', len, c', r, by rw [hb]; exact a1, by rw [hv]; exact a2, a3, a4, a5, a6, a7⟩, h.rg⟩
theorem Bf.same {m m' : Mem} {b : Nat} (h : Bf m b) (hk : m'.kd = m.kd) (hv : m'.val = m.val) (hr : m'.ro = m.ro) : Bf m' b :=
 ⟨fun i hi => by rw [hk]; exact h.kd i hi, by rw [hr]; exact h.ro, fun i hi => by rw [hv]; exact h.rg i hi⟩
section
variable {z : Mem} {B b bx n : Nat} {T : Nat → Int} {A : Nat → Nat} {ea ub : Addr} {K : Value → Mem → Prop} {w0 : World} {hd s S : List Int}
structure Out20 (z : Mem) (B bx n : Nat) (T : Nat → Int) (A : Nat → Nat) (full : List Int) (S : List Int) (K : Value → Mem → Prop) : Prop where
 ok : S.length = full.length → ∀ m' bd cd ba ca, IxOK m' bx 0 bd 0 cd ba 0 ca n T (fun i => (A i : Nat)) → RdAt z m' B [] → K .nilIface m'
 bad : S.length < full.length → ∀ m' v, isI v = true → isN v = false → K v m'
def I20 (z : Mem) (B bx n : Nat) (T : Nat → Int) (A : Nat → Nat) (full S : List Int) : LI := fun ps ls m1 =>
 ∃ b bd cd ba ca bv j Sj sj, ps = P0_F20 B 0 b 0 16384 16384 n bv 0 ∧ (∃ v, ls = [.vv v]) ∧ Sas A n j sj ∧ Sj <+: sj ∧ S.length + sj.length = full.length + Sj.length ∧ n ≤ cd ∧ n ≤ ca ∧ NeR z B b bx bd ba bv n ∧ LpR z B b bx bd cd ba ca bv n T A j Sj m1
def X20 (z : Mem) (B bx n : Nat) (T : Nat → Int) (A : Nat → Nat) (full S : List Int) : LX := fun i _ ls m1 =>
 (i = 0 ∧ S.length = full.length ∧ ∃ bd cd ba ca, IxOK m1 bx 0 bd 0 cd ba 0 ca n T (fun i => (A i : Nat)) ∧ RdAt z m1 B []) ∨ (i = 1 ∧ S.length < full.length ∧ ∃ v, ls = [.vv v] ∧ isI v = true ∧ isN v = false)
def mu20 : LMm := fun ps _ m1 => match ps with
 | [_, _, _, .pt bv o] => (match m1.ob bv o with
  | some (.slice _ l _) => l
  | _ => 0)
 | _ => 0
theorem round_20 (h4 : z.ob 4 0 = some (.iface 154 (.pointer (some ea)))) (h5 : z.ob 5 0 = some (.iface 154 (.pointer (some ub)))) (hn : n ≤ 1000000) (hA : 0 < n → ∀ i, A i < n) (hSA : SA T n (fun i => (A i : Nat))) {full S : List Int}
  (b_r o_r b_buf o_buf l_buf c_buf : Nat) (n_ : Int) (ba oa : Nat) (s4 : Value) (k0 : Nat) (m1 : Mem) (hI : I20 z B bx n T A full S (P0_F20 b_r o_r b_buf o_buf l_buf c_buf n_ ba oa) [.vv s4] m1)
  (hmu : mu20 (P0_F20 b_r o_r b_buf o_buf l_buf c_buf n_ ba oa) [.vv s4] m1 < k0 + 1) :
  R0_F20 (I20 z B bx n T A full S) (X20 z B bx n T A full S) mu20 w0 b_r o_r b_buf o_buf l_buf c_buf n_ ba oa s4 k0 m1 := by
 obtain ⟨b, bd, cd, bA, ca, bv, j, Sj, sj, hps, _, hsas, hpre, hlen, hcd, hca, ne, lp⟩ := hI
 obtain ⟨⟨rfl, rfl⟩, ⟨rfl, rfl, rfl, rfl⟩, rfl, rfl, rfl⟩ : (b_r = B ∧ o_r = 0) ∧ (b_buf = b ∧ o_buf = 0 ∧ l_buf = 16384 ∧ c_buf = 16384) ∧ n_ = n ∧ ba = bv ∧ oa = 0 := by
  unfold P0_F20 at hps
  simpa using hps
 obtain ⟨o, c, hv0, hc, ho⟩ := lp.v0
 have hj := lp.hj
 have hmu' : n - j < k0 + 1 := by
  have : (match m1.ob ba 0 with
   | some (.slice _ l _) => l
   | _ => 0) < k0 + 1 := hmu
  rw [hv0] at this
  exact this
 unfold R0_F20
 refine len_33 hv0 lp.v1 (by omega) ⟨_, rfl, cond_of (fun hb => ?_) (fun hb => ?_)⟩
 ·have hlt : j < n := by have := of_decide_eq_true hb; omega
  obtain rfl := ho hlt
  cases hsas with
  | nil => omega
  | cons _ k h s1 h1 h2 h3 h4' h5' =>
  rw [List.append_assoc] at hpre hlen
  rw [show IntKind.wrap .u64 (n : Int) = (n : Int) by rw [wrapU64]; omega]
  refine ⟨bA, o, n - o, c, ⟨hv0, lp.v1, trivial⟩, rslice_38 lp.rd h4 h5 lp.bf ne.bB ne.zb (fun i hi => lp.ak _ (by omega)) lp.ra ne.aB (ne.ab (by omega)) ne.za (hA (by omega)) hn (by omega) (by omega) (by omega) h3 h4' hpre (fun S' m2 hS' hrd hbf hvl hkp => ?_) (fun hl m' v y g1 g2 => ⟨_, _, rfl, g1, cond_of (fun _ => XF1_mk (.inr ⟨rfl, ?_, v, rfl, g1, g2⟩)) (fun hb => by rw [g2] at hb; cases hb)⟩)⟩
  ·refine ⟨_, _, rfl, rfl, cond_of (fun hb => by cases hb) (fun _ => ?_)⟩
   have nD : ∀ {x : Nat} (y : Nat), x ≠ b_r → x ≠ b_buf → x ≠ bA → ¬ (x = b_r ∨ x = b_buf ∨ (x = bA ∧ o ≤ y ∧ y < o + k)) := fun y e1 e2 e3 e => by
    rcases e with e | e | e
    ·exact e1 e
    ·exact e2 e
    ·exact e3 e.1
   have hv0' := hkp.ob _ _ _ hv0 (nD 0 ne.vB ne.vb (ne.va (by omega)))
   have hv1' := hkp.ob _ _ _ lp.v1 (nD 1 ne.vB ne.vb (ne.va (by omega)))
   refine len_33 hv0' hv1' (by omega) ⟨_, rfl, ?_⟩
   refine slice_35 hv0' (by omega) (by omega) fun m3 e3 => ?_
   rw [show n - o - k = n - (o + k) by omega]
   have q0 := e3.ob _ _ _ hv0'
   have q1 := e3.ob _ _ _ hv1'
   have qr := e3.ro _ (hkp.ro _ lp.rv)
   refine ⟨_, _, _, _, rfl, rfl, by rw [q0]; rfl, qr, ?_⟩
   rintro m100 rfl
   have q1' : (m3.so ba 0 (.slice (some ⟨bA, o + (if k = c then 0 else k), none⟩) (n - (o + k)) (c - k))).ob ba 1 = some (.slice none 0 0) := by
    simp only [Mem.so]; rw [if_neg (by omega)]; exact q1
   refine ⟨rfl, by rw [q1']; rfl, qr, ?_⟩
   rintro m101 hm101
   have s0 : m101.ob ba 0 = some (.slice (some ⟨bA, o + (if k = c then 0 else k), none⟩) (n - (o + k)) (c - k)) := by rw [hm101]; simp [Mem.so]
   have s1' : m101.ob ba 1 = some (.slice none 0 0) := by rw [hm101]; simp [Mem.so]
   have sob : ∀ x y, x ≠ ba → m101.ob x y = m3.ob x y := fun x y hx => by
    rw [hm101]; simp only [Mem.so]
    rw [if_neg (fun e => hx e.1), if_neg (fun e => hx e.1)]
   have skd : m101.kd = m3.kd := by rw [hm101]; rfl
   have svl : m101.val = m3.val := by rw [hm101]; rfl
   have sro : m101.ro = m3.ro := by rw [hm101]; rfl
   have hrd3 := hrd.grow e3
   have hrd4 : RdAt z m101 b_r S' := by
    obtain ⟨g, o', len, c', r, a1, a2, a3, a4, a5, a6, a7⟩ := hrd3.ob
    refine ⟨?_, hrd3.fB, by rw [sro]; exact hrd3.ro, by rw [skd]; exact hrd3.ko, by rw [skd]; exact hrd3.kl, ⟨g, o', len, c', r, by rw [sob _ _ ne.vB.symm]; exact a1, by rw [svl]; exact a2, a3, a4, a5, a6, a7⟩, hrd3.rg⟩
    rw [hm101]
    exact (hrd3.ext.so ne.zv _ _).so ne.zv _ _
   have hbf3 := hbf.grow e3
   have keep : ∀ x y v, x ≠ b_r → x ≠ b_buf → x ≠ bA → x ≠ ba → m1.ob x y = some v → m101.ob x y = some v := fun x y v e1 e2 e3' e4 hx => by
    rw [sob _ _ e4]
    exact e3.ob _ _ _ (hkp.ob _ _ _ hx (nD y e1 e2 e3'))
   have kk : ∀ x y i, m1.kd x y = some i → m101.kd x y = some i := fun x y i hi => by rw [skd]; exact e3.kd _ _ _ (hkp.kd _ _ _ hi)
   have vv : ∀ x y i, m1.kd x y = some i → ¬ (x = b_r ∨ x = b_buf ∨ (x = bA ∧ o ≤ y ∧ y < o + k)) → m101.val x y = m1.val x y := fun x y i hi hD => by
    rw [svl, e3.val _ _ _ (hkp.kd _ _ _ hi)]; exact hkp.val _ _ _ hi hD
   refine KFm1_mk ⟨⟨b_buf, bd, cd, bA, ca, ba, o + k, S', s1, rfl, ⟨_, rfl⟩, h5', ?_, ?_, hcd, hca, ne, ?_⟩, ?_⟩
   ·rw [hS'] at hpre
    obtain ⟨t, ht⟩ := hpre
    refine ⟨t, ?_⟩
    rw [List.append_assoc, List.append_assoc] at ht
    exact List.append_cancel_left (List.append_cancel_left ht)
   ·rw [hS'] at hlen
    simp only [List.length_append] at hlen
    omega
   ·exact
    {rd := hrd4
     bf := ⟨fun i hi => by rw [skd]; exact hbf3.kd i hi, by rw [sro]; exact hbf3.ro, fun i hi => by rw [svl]; exact hbf3.rg i hi⟩
     x0 := keep _ _ _ ne.xB ne.xb ne.xa ne.vx.symm lp.x0
     x1 := keep _ _ _ ne.xB ne.xb ne.xa ne.vx.symm lp.x1
     x2 := keep _ _ _ ne.xB ne.xb ne.xa ne.vx.symm lp.x2
     by_ := ⟨fun i hi => kk _ _ _ (lp.by_.kd i hi), fun i hi => (vv _ _ _ (lp.by_.kd i hi) (nD _ ne.dB (ne.db (by omega)) (ne.da (by omega)))).trans (lp.by_.val i hi), lp.by_.rg⟩
     ak := fun i hi => kk _ _ _ (lp.ak i hi)
     av := fun i hi => by
      rcases Nat.lt_or_ge i o with hio | hio
      ·rw [vv _ _ _ (lp.ak i (by omega)) fun e => ?_]
       ·exact lp.av i hio
       ·rcases e with e | e | e
        ·exact ne.aB e
        ·exact (ne.ab (by omega)) e
        ·omega
      ·have hk2 := hkp.kd _ _ _ (lp.ak i (by omega))
       have := hvl (i - o) (by omega)
       rw [show o + (i - o) = i by omega] at this
       rw [svl, e3.val _ _ _ hk2]
       exact this
     ra := by rw [sro]; exact e3.ro _ (hkp.ro _ lp.ra)
     hj := h2
     v0 := ⟨_, _, s0, by omega, fun hlt => by rw [if_neg (by omega)]⟩
     v1 := s1'
     rv := by rw [sro]; exact qr }
   ·show (match m101.ob ba 0 with
     | some (.slice _ l _) => l
     | _ => 0) < k0
    rw [s0]
    show n - (o + k) < k0
    omega
  ·simp only [List.length_append, h3.len] at hlen hl
   omega
 ·have hz : n - j = 0 := by have := of_decide_eq_false hb; omega
  obtain rfl : j = n := by omega
  have hs0 : sj = [] ∧ Sj = [] := by
   cases hsas with
   | nil => exact ⟨rfl, by simpa using hpre⟩
   | cons _ k h s1 h1 h2 _ _ _ => omega
  obtain ⟨rfl, rfl⟩ := hs0
  refine XF1_mk (.inl ⟨rfl, by simpa using hlen, bd, cd, bA, ca, ⟨lp.x0, lp.x1, lp.x2, lp.by_, fun i hi => by rw [Nat.zero_add]; exact lp.ak i hi, fun i hi => by rw [Nat.zero_add]; exact lp.av i hi, hSA, hcd, hca, hn⟩, lp.rd⟩)
theorem tail_20 (h4 : z.ob 4 0 = some (.iface 154 (.pointer (some ea)))) (h5 : z.ob 5 0 = some (.iface 154 (.pointer (some ub)))) (hn : n ≤ 1000000) {full S S1 : List Int} {bd cd ba ca : Nat} {m : Mem}
  (hs : Sas A n 0 s) (hpre : S1 <+: lst T n ++ s) (hlen : S.length + (lst T n ++ s).length = full.length + S1.length) (hT : ∀ i, i < n → 0 ≤ T i ∧ T i < 256) (h : Rows20 z B b bx bd cd ba ca n S1 m) (out : Out20 z B bx n T A full S K) :
  Tl20 (I20 z B bx n T A full S) (X20 z B bx n T A full S) K w0 bx B b n m := by
 refine ⟨bd, 0, n, cd, h.x0, full_37 h.rd h4 h5 (by omega) h.hcd (fun i hi => by rw [Nat.zero_add]; exact h.dk i hi) h.rd' h.dB h.zd (fun hl m2 g1 g2 => ?_) (fun hl m' v y g0 g1 g2 g3 => ⟨_, _, rfl, g0, cond_of (fun _ => out.bad ?_ m' v g0 g1) (fun hb => by rw [g1] at hb; cases hb)⟩)⟩
 ·obtain ⟨S2, rfl, hp2⟩ : ∃ S', S1 = lst T n ++ S' ∧ S' <+: s := by
   rcases pre_cases hpre with hc | hc
   ·rw [lst_length] at hc; omega
   ·exact hc
  have hdk : (lst T n ++ S2).drop n = S2 := by
   have : (lst T n ++ S2).drop (lst T n).length = S2 := by simp
   rwa [lst_length] at this
  have htk : (lst T n ++ S2).take n = lst T n := by
   have : (lst T n ++ S2).take (lst T n).length = lst T n := by simp
   rwa [lst_length] at this
  rw [hdk] at g1
  rw [htk] at g2
  refine ⟨_, _, rfl, rfl, cond_of (fun hb => by cases hb) (fun _ => ?_)⟩
  have y0 : m2.ob bx 0 = some (.slice (some ⟨bd, 0, none⟩) n cd) := by rw [g2.ob _ _ h.xB]; exact h.x0
  have y1 : m2.ob bx 1 = some (.slice (some ⟨ba, 0, none⟩) n ca) := by rw [g2.ob _ _ h.xB]; exact h.x1
  have y2 : m2.ob bx 2 = some (.slice none 0 0) := by rw [g2.ob _ _ h.xB]; exact h.x2
  refine ⟨ba, 0, n, ca, ⟨y1, y2, trivial⟩, ?_⟩
  rintro B3 hB3 m3 hm3
  have e3 : Ext m2 m3 := hm3 ▸ Ext.newC m2 hB3 _
  have p0 : m3.ob B3 0 = some (.slice none 0 0) := by rw [hm3]; simp [Mem.newC, Value.obj?]
  have p1 : m3.ob B3 1 = some (.slice none 0 0) := by rw [hm3]; simp [Mem.newC, Value.obj?]
  have pr : m3.ro B3 = false := by rw [hm3]; simp [Mem.newC]
  clear hm3
  have zv : z.fresh B3 := g1.ext.fresh hB3
  have vx : B3 ≠ bx := (ob_ne y0 hB3).symm
  have vB : B3 ≠ B := (kd_ne g1.ko hB3).symm
  have vb : B3 ≠ b := (kd_ne (by rw [g2.kd]; exact h.bf.kd 0 (by omega)) hB3).symm
  refine ⟨rfl, by rw [p0]; rfl, pr, ?_⟩
  rintro m4 rfl
  have p1' : (m3.so B3 0 (.slice (some ⟨ba, 0, none⟩) n ca)).ob B3 1 = some (.slice none 0 0) := by
   simp only [Mem.so]; rw [if_neg (by omega)]; exact p1
  refine ⟨rfl, by rw [p1']; rfl, pr, ?_⟩
  rintro m5 hm5
  have s0 : m5.ob B3 0 = some (.slice (some ⟨ba, 0, none⟩) n ca) := by rw [hm5]; simp [Mem.so]
  have s1' : m5.ob B3 1 = some (.slice none 0 0) := by rw [hm5]; simp [Mem.so]
  have e5 : Ext m2 m5 := by
   rw [hm5]
   exact (e3.so hB3 _ _).so hB3 _ _
  have r5 : m5.ro B3 = false := by rw [hm5]; exact pr
  clear hm5
  have hdat := g2.at_ h.dB
  have hbf2 := h.bf.chg g2 h.bB fun x hx => lst_rg hT x hx
  refine ⟨⟨b, bd, cd, ba, ca, B3, 0, S2, s, rfl, ⟨_, rfl⟩, hs, hp2, ?_, h.hcd, h.hca, ⟨h.zb, h.za, zv, h.bB, h.aB, h.ab, h.xB, h.xb, h.xa, vB, vb, ?_, vx, h.dB, h.db, h.da⟩,
   {rd := g1.grow e5
    bf := hbf2.grow e5
    x0 := e5.ob _ _ _ y0
    x1 := e5.ob _ _ _ y1
    x2 := e5.ob _ _ _ y2
    by_ := ⟨fun i hi => e5.kd _ _ _ (by rw [g2.kd, Nat.zero_add]; exact h.dk i hi), fun i hi => by
     have hk : m2.kd bd (0 + i) = some .u8 := by rw [g2.kd, Nat.zero_add]; exact h.dk i hi
     rw [e5.val _ _ _ hk, hdat i (by rw [lst_length]; exact hi), lst_getD hi], hT⟩
    ak := fun i hi => e5.kd _ _ _ (by rw [g2.kd]; exact h.ak i hi)
    av := fun i hi => by omega
    ra := e5.ro _ (by rw [g2.ro]; exact h.ra)
    hj := by omega
    v0 := ⟨0, ca, s0, by have := h.hca; omega, fun _ => rfl⟩
    v1 := s1'
    rv := r5 }⟩, ?_, ?_⟩
  ·simp only [List.length_append] at hlen ⊢
   omega
  ·exact fun h0 => (kd_ne (by rw [g2.kd]; exact h.ak 0 h0) hB3).symm
  ·rintro z170 m171 (⟨_, hl', bd', cd', ba', ca', hx, hr⟩ | ⟨h, _⟩) _
   ·exact out.ok hl' m171 bd' cd' ba' ca' hx hr
   ·cases h
  ·rintro z172 m173 (⟨h, _⟩ | ⟨_, hl', v, hls, g1, g2⟩) _
   ·cases h
   ·obtain rfl : z172 = v := by simpa using hls
    exact out.bad hl' m173 _ g1 g2
 ·simp only [List.length_append, lst_length] at hlen
  omega
theorem al_20 {Tl E : Mem → Prop} {m : Mem} {B : Nat} (hn : n ≤ 1000000) (g0 : z.kd 0 0 = some .i64) (g1 : z.val 0 0 = 2147483647) (hrd : RdAt z m B S) (hbf : Bf m b) (hbB : b ≠ B) (hzb : z.fresh b) {v0 v1 v2 : Value} (h0 : m.ob bx 0 = some v0) (h1 : m.ob bx 1 = some v1) (h2 : m.ob bx 2 = some v2) (hr : m.ro bx = false) (hzx : z.fresh bx)
  (xB : bx ≠ B) (xb : bx ≠ b) (hT : ∀ m' bd ba, Rows20 z B b bx bd n ba n n S m' → Tl m') : Al20 Tl E bx n m := by
 unfold Al20
 rw [Int.toNat_natCast]
 refine ⟨by omega, by omega, by omega, ?_⟩
 rintro B14 hB14 m15 hm15
 have e15 : Ext m m15 := hm15 ▸ Ext.new m hB14 _ _ _
 have k15 : ∀ i, i < n → m15.kd B14 i = some .u8 := fun i hi => by rw [hm15]; simp only [Mem.new, if_true]; rw [if_pos hi]
 have r15 : m15.ro B14 = false := by rw [hm15]; simp [Mem.new]
 clear hm15
 have x14 : bx ≠ B14 := ob_ne h0 hB14
 have zd : z.fresh B14 := hrd.ext.fresh hB14
 have dB : B14 ≠ B := (kd_ne hrd.ko hB14).symm
 have db : B14 ≠ b := (kd_ne (hbf.kd 0 (by omega)) hB14).symm
 have hrd15 := hrd.grow e15
 have hbf15 := hbf.grow e15
 have hr15 := e15.ro _ hr
 have q0 := e15.ob _ _ _ h0
 have q1 := e15.ob _ _ _ h1
 have q2 := e15.ob _ _ _ h2
 refine ⟨rfl, by show (m15.ob bx 0).isSome = true; rw [q0]; rfl, hr15, ?_⟩
 rintro m16 hm16
 have q1' : m16.ob bx 1 = some v1 := by rw [hm16]; simp only [Mem.so]; rw [if_neg (by omega)]; exact q1
 have q2' : m16.ob bx 2 = some v2 := by rw [hm16]; simp only [Mem.so]; rw [if_neg (by omega)]; exact q2
 refine ⟨rfl, by show (m16.ob bx 1).isSome = true; rw [q1']; rfl, by rw [hm16]; exact hr15, ?_⟩
 rintro m17 hm17
 have q2'' : m17.ob bx 2 = some v2 := by rw [hm17]; simp only [Mem.so]; rw [if_neg (by omega)]; exact q2'
 refine ⟨rfl, by show (m17.ob bx 2).isSome = true; rw [q2'']; rfl, by rw [hm17, hm16]; exact hr15, ?_⟩
 rintro m18 hm18
 have k18 : m18.kd = m15.kd := by rw [hm18, hm17, hm16]; rfl
 have w18 : m18.val = m15.val := by rw [hm18, hm17, hm16]; rfl
 have o18 : m18.ro = m15.ro := by rw [hm18, hm17, hm16]; rfl
 have b18 : ∀ x y, x ≠ bx → m18.ob x y = m15.ob x y := fun x y hx => by
  rw [hm18, hm17, hm16]; simp only [Mem.so]
  rw [if_neg (fun e => hx e.1), if_neg (fun e => hx e.1), if_neg (fun e => hx e.1)]
 have p0 : m18.ob bx 0 = some (.slice (some ⟨B14, 0, none⟩) n n) := by rw [hm18, hm17, hm16]; simp [Mem.so]
 have p1 : m18.ob bx 1 = some (.slice none 0 0) := by rw [hm18, hm17, hm16]; simp [Mem.so]
 have p2 : m18.ob bx 2 = some (.slice none 0 0) := by rw [hm18, hm17, hm16]; simp [Mem.so]
 have ez : Ext z m18 := by
  rw [hm18, hm17, hm16]
  exact (((hrd15.ext.so hzx _ _).so hzx _ _).so hzx _ _)
 have hrd18 : RdAt z m18 B S := by
  obtain ⟨g, o', len, c', r, a1, a2, a3, a4, a5, a6, a7⟩ := hrd15.ob
  exact ⟨ez, hrd15.fB, by rw [o18]; exact hrd15.ro, by rw [k18]; exact hrd15.ko, by rw [k18]; exact hrd15.kl, ⟨g, o', len, c', r, by rw [b18 _ _ xB.symm]; exact a1, by rw [w18]; exact a2, a3, a4, a5, a6, a7⟩, hrd15.rg⟩
 have hbf18 : Bf m18 b := ⟨fun i hi => by rw [k18]; exact hbf15.kd i hi, by rw [o18]; exact hbf15.ro, fun i hi => by rw [w18]; exact hbf15.rg i hi⟩
 clear hm18 hm17 hm16
 refine ⟨ez.kd _ _ _ g0, fun z19 hz19 => ?_⟩
 obtain rfl : z19 = 2147483647 := by rw [← hz19, ez.val _ _ _ g0, g1]
 refine cond_of (fun _ => ⟨by omega, by omega, by omega, ?_⟩) (fun hb => by have := of_decide_eq_false hb; omega)
 rintro B20 hB20 m21 hm21
 have e21 : Ext m18 m21 := hm21 ▸ Ext.new m18 hB20 _ _ _
 have k21 : ∀ i, i < n → m21.kd B20 i = some .i32 := fun i hi => by rw [hm21]; simp only [Mem.new, if_true]; rw [if_pos hi]
 have r21 : m21.ro B20 = false := by rw [hm21]; simp [Mem.new]
 clear hm21
 have s0 := e21.ob _ _ _ p0
 have s1 := e21.ob _ _ _ p1
 have s2 := e21.ob _ _ _ p2
 have za : z.fresh B20 := ez.fresh hB20
 refine ⟨rfl, by show (m21.ob bx 1).isSome = true; rw [s1]; rfl, e21.ro _ (by rw [o18]; exact hr15), ?_⟩
 rintro m22 hm22
 have hrd21 := hrd18.grow e21
 have hbf21 := hbf18.grow e21
 have k22 : m22.kd = m21.kd := by rw [hm22]; rfl
 have w22 : m22.val = m21.val := by rw [hm22]; rfl
 have o22 : m22.ro = m21.ro := by rw [hm22]; rfl
 have b22 : ∀ x y, x ≠ bx → m22.ob x y = m21.ob x y := fun x y hx => by
  rw [hm22]; simp only [Mem.so]
  rw [if_neg (fun e => hx e.1)]
 refine hT m22 B14 B20
  {rd := by
    obtain ⟨g, o', len, c', r, a1, a2, a3, a4, a5, a6, a7⟩ := hrd21.ob
    refine ⟨?_, hrd21.fB, by rw [o22]; exact hrd21.ro, by rw [k22]; exact hrd21.ko, by rw [k22]; exact hrd21.kl, ⟨g, o', len, c', r, by rw [b22 _ _ xB.symm]; exact a1, by rw [w22]; exact a2, a3, a4, a5, a6, a7⟩, hrd21.rg⟩
    rw [hm22]
    exact hrd21.ext.so hzx _ _
   bf := ⟨fun i hi => by rw [k22]; exact hbf21.kd i hi, by rw [o22]; exact hbf21.ro, fun i hi => by rw [w22]; exact hbf21.rg i hi⟩
   x0 := by rw [hm22]; simp only [Mem.so]; rw [if_neg (by omega)]; exact s0
   x1 := by rw [hm22]; simp [Mem.so]
   x2 := by rw [hm22]; simp only [Mem.so]; rw [if_neg (by omega)]; exact s2
   dk := fun i hi => by rw [k22]; exact e21.kd _ _ _ (by rw [k18]; exact k15 i hi)
   rd' := by rw [o22]; exact e21.ro _ (by rw [o18]; exact r15)
   ak := fun i hi => by rw [k22]; exact k21 i hi
   ra := by rw [o22]; exact r21
   hcd := Nat.le_refl _
   hca := Nat.le_refl _
   zb := hzb
   za := za
   zd := zd
   bB := hbB
   aB := (kd_ne hrd18.ko hB20).symm
   ab := fun _ => (kd_ne (hbf18.kd 0 (by omega)) hB20).symm
   xB := xB
   xb := xb
   xa := ob_ne p0 hB20
   dB := dB
   db := fun _ => db
   da := fun h0 => kd_ne (by rw [k18]; exact k15 0 h0) hB20 }
theorem read_20 {m : Mem} {bd ba e : Nat} (h4 : z.ob 4 0 = some (.iface 154 (.pointer (some ea)))) (h5 : z.ob 5 0 = some (.iface 154 (.pointer (some ub)))) (g0 : z.kd 0 0 = some .i64) (g1 : z.val 0 0 = 2147483647) (hn : n ≤ 1000000) (he : e ≤ 1000000)
  (hA : 0 < n → ∀ i, A i < n) (hSA : SA T n (fun i => (A i : Nat))) (hT : ∀ i, i < n → 0 ≤ T i ∧ T i < 256) (hI : I10 hd n) (hs : Sas A n 0 s) (hpre : S <+: hd ++ (lst T n ++ s)) (hrd : RdAt z m B S)
  (x0 : m.ob bx 0 = some (.slice (some ⟨bd, 0, none⟩) e e)) (x1 : m.ob bx 1 = some (.slice (some ⟨ba, 0, none⟩) e e)) (x2 : m.ob bx 2 = some (.slice none 0 0)) (rx : m.ro bx = false) (dk : ∀ i, i < e → m.kd bd i = some .u8) (rd : m.ro bd = false)
  (ak : ∀ i, i < e → m.kd ba i = some .i32) (ra : m.ro ba = false) (zx : z.fresh bx) (zd : z.fresh bd) (za : z.fresh ba) (xa : bx ≠ ba) (xB : bx ≠ B) (dB : bd ≠ B) (aB : ba ≠ B) (da : 0 < e → bd ≠ ba)
  (out : Out20 z B bx n T A (hd ++ (lst T n ++ s)) S K) : callV Tryz.prog w0 20 [.pointer (some ⟨bx, 0, none⟩), .iface 48 (.pointer (some ⟨B, 0, none⟩))] m K := by
 refine C_F20 (I0 := I20 z B bx n T A (hd ++ (lst T n ++ s)) S) (X0 := X20 z B bx n T A (hd ++ (lst T n ++ s)) S) (mu0 := mu20) ?_ ?_
 ·intro b_r o_r b_buf o_buf l_buf c_buf n_ ba oa s4 k0 m1 hI hmu
  exact round_20 h4 h5 hn hA hSA b_r o_r b_buf o_buf l_buf c_buf n_ ba oa s4 k0 m1 hI hmu
 unfold M_F20
 refine ⟨by omega, by omega, by omega, ?_⟩
 rintro b hb m2 hm2
 have e2 : Ext m m2 := hm2 ▸ Ext.new m hb _ _ _
 have hbf : Bf m2 b := by
  rw [hm2]
  refine ⟨fun i hi => ?_, ?_, fun i _ => ?_⟩ <;> simp only [Mem.new, if_true]
  ·rw [if_pos (show i < Int.toNat (16384 : Int) from hi)]
  ·omega
 clear hm2
 have bB : b ≠ B := (kd_ne hrd.ko hb).symm
 have xb : bx ≠ b := ob_ne x0 hb
 have zb : z.fresh b := hrd.ext.fresh hb
 have hpc := pre_cases hpre
 have hI' : 10 ≤ S.length → I10 (S.take 10) n := fun hl => by
  rcases hpc with hc | ⟨S', rfl, _⟩
  ·rw [hI.len] at hc; omega
  ·have : (hd ++ S').take 10 = hd := by rw [← hI.len]; simp
   rw [this]; exact hI
 have htot : (hd ++ (lst T n ++ s)).length = 10 + (lst T n ++ s).length := by rw [List.length_append, hI.len]
 refine rint_36 (hrd.grow e2) h4 h5 hbf bB zb (v := n) hn hI' (fun hl m4 f1 f2 f3 => ⟨_, _, rfl, rfl, cond_of (fun hb => by cases hb) (fun _ => cond_of (fun hb => ?_) (fun _ => cond_of (fun hb => by have := of_decide_eq_true hb; omega) (fun _ => ?_)))⟩) (fun hl m' v y p1 p2 => ⟨_, _, rfl, p1, cond_of (fun _ => out.bad (by omega) m' v p1 p2) (fun hb => by rw [p2] at hb; cases hb)⟩)
 ·simp at hb
 obtain ⟨S1, rfl, hp1⟩ : ∃ S', S = hd ++ S' ∧ S' <+: lst T n ++ s := by
  rcases hpc with hc | hc
  ·rw [hI.len] at hc; omega
  ·exact hc
 have hd10 : (hd ++ S1).drop 10 = S1 := by rw [← hI.len]; simp
 rw [hd10] at f1
 have hlen : (hd ++ S1).length + (lst T n ++ s).length = (hd ++ (lst T n ++ s)).length + S1.length := by
  simp only [List.length_append]; omega
 have y0 : m4.ob bx 0 = some (.slice (some ⟨bd, 0, none⟩) e e) := by rw [f2.ob _ _ xB]; exact e2.ob _ _ _ x0
 have y1 : m4.ob bx 1 = some (.slice (some ⟨ba, 0, none⟩) e e) := by rw [f2.ob _ _ xB]; exact e2.ob _ _ _ x1
 have y2 : m4.ob bx 2 = some (.slice none 0 0) := by rw [f2.ob _ _ xB]; exact e2.ob _ _ _ x2
 have ry : m4.ro bx = false := by rw [f2.ro]; exact e2.ro _ rx
 have al : ∀ E : Mem → Prop, Al20 (Tl20 (I20 z B bx n T A (hd ++ (lst T n ++ s)) (hd ++ S1)) (X20 z B bx n T A (hd ++ (lst T n ++ s)) (hd ++ S1)) K w0 bx B b n) E bx n m4 := fun E =>
  al_20 hn g0 g1 f1 f3 bB zb y0 y1 y2 ry zx xB xb fun m' bd ba hr => tail_20 h4 h5 hn hs hp1 hlen hT hr out
 have gz := f1.ext.kd _ _ _ g0
 have gv := (f1.ext.val _ _ _ g0).trans g1
 refine ⟨inR_i64 (by omega) (by omega), bd, 0, e, e, y0, cond_of (fun _ => al _) (fun hb1 => ⟨bd, 0, e, e, y0, cond_of (fun _ => al _) (fun hb2 => ⟨ba, 0, e, e, y1, gz, fun z257 hz => cond_of (fun _ => al _) (fun _ => ?_)⟩)⟩)⟩
 have hne : n ≤ e := by have := of_decide_eq_false hb2; omega
 refine ⟨y2, bd, 0, e, e, y0, by omega, by omega, by omega, rfl, by show (m4.ob bx 0).isSome = true; rw [y0]; rfl, ry, ?_⟩
 rw [Int.toNat_natCast, show (0 + if Int.toNat (0 : Int) = e then 0 else Int.toNat (0 : Int)) = 0 by split <;> rfl, show n - Int.toNat (0 : Int) = n from rfl, show e - Int.toNat (0 : Int) = e from rfl]
 rintro m5 hm5
 have k5 : m5.kd = m4.kd := by rw [hm5]; rfl
 have w5 : m5.val = m4.val := by rw [hm5]; rfl
 have o5 : m5.ro = m4.ro := by rw [hm5]; rfl
 have b5 : ∀ x y, x ≠ bx → m5.ob x y = m4.ob x y := fun x y hx => by
  rw [hm5]; simp only [Mem.so]
  rw [if_neg (fun e => hx e.1)]
 have t0 : m5.ob bx 0 = some (.slice (some ⟨bd, 0, none⟩) n e) := by rw [hm5]; simp [Mem.so]
 have t1 : m5.ob bx 1 = some (.slice (some ⟨ba, 0, none⟩) e e) := by rw [hm5]; simp only [Mem.so]; rw [if_neg (by omega)]; exact y1
 have t2 : m5.ob bx 2 = some (.slice none 0 0) := by rw [hm5]; simp only [Mem.so]; rw [if_neg (by omega)]; exact y2
 have ez5 : Ext z m5 := by rw [hm5]; exact f1.ext.so zx _ _
 clear hm5
 refine slice_35 (i := 0) (j := n) t1 (by omega) hne fun m6 e6 => ?_
 rw [show (0 + if 0 = e then 0 else 0) = 0 by split <;> rfl, Nat.sub_zero, Nat.sub_zero]
 have r6 : m6.ro bx = false := e6.ro _ (by rw [o5]; exact ry)
 refine ⟨_, _, _, _, rfl, rfl, by show (m6.ob bx 1).isSome = true; rw [e6.ob _ _ _ t1]; rfl, r6, ?_⟩
 rintro m7 hm7
 have u2 : m7.ob bx 2 = some (.slice none 0 0) := by rw [hm7]; simp only [Mem.so]; rw [if_neg (by omega)]; exact e6.ob _ _ _ t2
 refine ⟨rfl, by show (m7.ob bx 2).isSome = true; rw [u2]; rfl, by rw [hm7]; exact r6, ?_⟩
 rintro m8 hm8
 have k8 : m8.kd = m6.kd := by rw [hm8, hm7]; rfl
 have w8 : m8.val = m6.val := by rw [hm8, hm7]; rfl
 have o8 : m8.ro = m6.ro := by rw [hm8, hm7]; rfl
 have b8 : ∀ x y, x ≠ bx → m8.ob x y = m6.ob x y := fun x y hx => by
  rw [hm8, hm7]; simp only [Mem.so]
  rw [if_neg (fun e => hx e.1), if_neg (fun e => hx e.1)]
 refine tail_20 h4 h5 hn hs hp1 hlen hT
  {rd := (f1.same ez5 k5 w5 o5 (b5 _ _ xB.symm)).grow e6 |>.same (by rw [hm8, hm7]; exact ((ez5.trans e6).so zx _ _).so zx _ _) k8 w8 o8 (b8 _ _ xB.symm)
   bf := ((f3.same k5 w5 o5).grow e6).same k8 w8 o8
   x0 := by rw [hm8, hm7]; simp only [Mem.so]; rw [if_neg (by omega), if_neg (by omega)]; exact e6.ob _ _ _ t0
   x1 := by rw [hm8, hm7]; simp [Mem.so]
   x2 := by rw [hm8, hm7]; simp [Mem.so]
   dk := fun i hi => by rw [k8]; exact e6.kd _ _ _ (by rw [k5, f2.kd]; exact e2.kd _ _ _ (dk i (by omega)))
   rd' := by rw [o8]; exact e6.ro _ (by rw [o5, f2.ro]; exact e2.ro _ rd)
   ak := fun i hi => by rw [k8]; exact e6.kd _ _ _ (by rw [k5, f2.kd]; exact e2.kd _ _ _ (ak i (by omega)))
   ra := by rw [o8]; exact e6.ro _ (by rw [o5, f2.ro]; exact e2.ro _ ra)
   hcd := hne
   hca := hne
   zb := zb
   za := za
   zd := zd
   bB := bB
   aB := aB
   ab := fun h0 => kd_ne (ak 0 (by omega)) hb
   xB := xB
   xb := xb
   xa := xa
   dB := dB
   db := fun h0 => kd_ne (dk 0 (by omega)) hb
   da := fun h0 => da (by omega) } out
end
end Go.Proofs.YtdhifgedhaapjaaGreatDoor

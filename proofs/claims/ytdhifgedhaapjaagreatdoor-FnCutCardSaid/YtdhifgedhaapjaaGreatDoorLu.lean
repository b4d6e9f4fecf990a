/- Saved and Loaded: the bytes of an index, and what is read of them, whole or cut short. -/
import Derived.Test.YtdhifgedhaapjaaGreatDoorLt
import Derived.Test.YtdhifgedhaapjaaGreatDoorLq
import Derived.Test.YtdhifgedhaapjaaGreatDoorRows
import Derived.Test.YtdhifgedhaapjaaGreatDoorCards
import Derived.Test.YtdhifgedhaapjaaGreatDoorTie
import Derived.Test.YtdhifgedhaapjaaGreatDoorLp
import Derived.ProofKit
import Derived.LaidMore
import Derived.OpenShut
import Derived.OpenVars
import Derived.Stop.Joined
import Derived.SevenTiedAt
import Derived.Stop.LaidErr
set_option maxRecDepth 100000
namespace Go.Proofs.YtdhifgedhaapjaaGreatDoor
open Go Sa
theorem IxOK.drop {m : Mem} {bx ox bd od cd ba oa ca n : Nat} {T A : Nat → Int} (h : IxOK m bx ox bd od cd ba oa ca n T A) {B : Nat} (h1 : bx ≠ B) (h2 : bd ≠ B) (h3 : ba ≠ B) : IxOK (m.drop B) bx ox bd od cd ba oa ca n T A :=
 ⟨by rw [Mem.drop_ob h1]; exact h.f0, by rw [Mem.drop_ob h1]; exact h.f1, by rw [Mem.drop_ob h1]; exact h.f2, ⟨fun i hi => by rw [Mem.drop_kd h2]; exact h.by_.kd i hi, h.by_.val, h.by_.rg⟩, fun i hi => by rw [Mem.drop_kd h3]; exact h.ak i hi, h.av, h.sa, h.hcd, h.hca, h.hn⟩
theorem Ext.drop_r {a m : Mem} (e : Ext a m) {B : Nat} (hB : a.fresh B) : Ext a (m.drop B) :=
 ⟨fun x y k hk => by rw [Mem.drop_kd (kd_ne hk hB)]; exact e.kd _ _ _ hk, fun x y k hk => e.val _ _ _ hk, fun x y v hv => by rw [Mem.drop_ob (ob_ne hv hB)]; exact e.ob _ _ _ hv, e.ro⟩
theorem body_congr {A A' : Nat → Nat} {j k : Nat} (h : ∀ i, i < j + k → A i = A' i) : body A j k = body A' j k := by
 unfold body
 have key : ∀ l : List Nat, (∀ i ∈ l, i < j + k) → l.flatMap (fun i => uv (A i)) = l.flatMap (fun i => uv (A' i)) := fun l hl => by
  induction l with
  | nil => rfl
  | cons x l ih =>
   rw [List.flatMap_cons, List.flatMap_cons, ih (fun i hi => hl i (by simp [hi])), h x (hl x (by simp))]
 exact key _ fun i hi => by rw [List.mem_range'_1] at hi; omega
theorem Sas.congr {A A' : Nat → Nat} {n : Nat} (h : ∀ i, i < n → A i = A' i) {j : Nat} {s : List Int} (hs : Sas A n j s) : Sas A' n j s := by
 induction hs with
 | nil => exact .nil
 | cons j k hd s h1 h2 h3 h4 _ ih =>
  have e := body_congr (A := A) (A' := A') (j := j) (k := k) fun i hi => h i (by omega)
  rw [e] at h3 h4 ⊢
  exact .cons j k hd s h1 h2 h3 h4 ih
theorem Sas.len {A : Nat → Nat} (hA : ∀ i, A i < 2097152) {n j : Nat} {s : List Int} (hs : Sas A n j s) : s.length ≤ 13 * (n - j) := by
 induction hs with
 | nil => simp
 | cons j k hd s h1 h2 h3 h4 _ ih =>
  have := body_len hA j k
  simp only [List.length_append, h3.len]
  omega
structure FileOK (L : List Int) (T : Nat → Int) (n : Nat) (hd s : List Int) (A : Nat → Nat) : Prop where
 eq : L = hd ++ (lst T n ++ s)
 hI : I10 hd n
 hs : Sas A n 0 s
 hA : 0 < n → ∀ i, A i < n
 sa : SA T n (fun i => (A i : Nat))
 hT : ∀ i, i < n → 0 ≤ T i ∧ T i < 256
 len : L.length ≤ 10 + n + 13 * n
theorem FileOK.rg {L : List Int} {T : Nat → Int} {n : Nat} {hd s : List Int} {A : Nat → Nat} (h : FileOK L T n hd s A) : ∀ x ∈ L, 0 ≤ x ∧ x < 256 := fun x hx => by
 rw [h.eq, List.mem_append, List.mem_append] at hx
 rcases hx with hx | hx | hx
 ·exact h.hI.rg x hx
 ·exact lst_rg h.hT x hx
 ·exact h.hs.rg x hx
section
variable {sd : Option Addr} {n cd : Nat} {T : Nat → Int} {w0 : World} {m : Mem}
theorem saved_6 {K : Value → Mem → Prop} (hd : Dt m sd n cd T) (hn : n ≤ 1000000) (g0 : m.kd 0 0 = some .i64) (g1 : m.val 0 0 = 2147483647)
  (hK : ∀ b c L hd' s A m', Ext m m' → FileOK L T n hd' s A → By m' b 0 L.length (fun i => L.getD i 0) → L.length ≤ c → c ≤ 9223372036854775807 → K (.tuple #[.slice (some ⟨b, 0, none⟩) L.length c, .bool true]) m') :
  callV Tryz.prog w0 6 [.slice sd n cd] m K := by
 refine C_F6 ?_
 unfold M_F6
 rintro B1 hB1 m2 hm2
 have e2 : Ext m m2 := hm2 ▸ Ext.newC m hB1 _
 have b0 : m2.ob B1 0 = some (.slice none 0 0) := by rw [hm2]; simp [Mem.newC, Value.obj?]
 have b1 : m2.kd B1 1 = some .i64 := by rw [hm2]; simp [Mem.newC, Value.kd?]
 have b2 : m2.kd B1 2 = some .i8 := by rw [hm2]; simp [Mem.newC, Value.kd?]
 have bv : m2.val B1 1 = 0 := by rw [hm2]; simp [Mem.newC, Value.num?]
 have br : m2.ro B1 = false := by rw [hm2]; simp [Mem.newC]
 clear hm2
 refine exact_16 (hd.ext e2) hn fun Bd m4 hBd e4 hby hro4 => ⟨Bd, 0, n, n, rfl, ?_⟩
 have e24 := e2.trans e4
 refine new_15 hby (Nat.le_refl _) hn (e24.kd _ _ _ g0) ((e24.val _ _ _ g0).trans g1) fun bx ba A m18 hbx hba hxa rx ra e18 hx => ⟨bx, 0, rfl, ?_⟩
 have e := e4.trans e18
 have nd : Bd ≠ B1 := (kd_ne b1 hBd).symm
 have nx : bx ≠ B1 := (kd_ne (e4.kd _ _ _ b1) hbx).symm
 have na : ba ≠ B1 := (kd_ne (e4.kd _ _ _ b1) hba).symm
 have hbuf : Buf0 (m18.drop B1) m18 B1 := ⟨Ext.drop _ _, Mem.drop_fresh _ _, e.ro _ br, e.kd _ _ _ b1, (e.val _ _ _ b1).trans bv, e.kd _ _ _ b2, e.ob _ _ _ b0⟩
 have ez : Ext m (m18.drop B1) := (e2.trans e).drop_r hB1
 refine write_17 (.inl ⟨rfl, hbuf⟩) (hx.drop nx nd na) fun m' hd' s hI hs hbuf' => ?_
 have hAe : ∀ i, i < n → (A i).toNat = (if i < n then (A i).toNat else 0) := fun i hi => by rw [if_pos hi]
 have hAn : 0 < n → ∀ i, (if i < n then (A i).toNat else 0) < n := fun h0 i => by
  split
  ·rename_i hi
   obtain ⟨p, hp, hpn⟩ := hx.place hi
   rw [hp]; omega
  ·exact h0
 have hs' := hs.congr hAe
 have hA2 : ∀ i, (fun i => if i < n then (A i).toNat else 0) i < 2097152 := fun i => by
  rcases Nat.eq_zero_or_pos n with h0 | h0
  ·subst h0; simp
  ·have := hAn h0 i
   simp only
   omega
 have hsl := hs'.len hA2
 have hf : FileOK (hd' ++ lst T n ++ s) T n hd' s (fun i => if i < n then (A i).toNat else 0) := by
  refine ⟨List.append_assoc _ _ _, hI, hs', hAn, ?_, hby.rg, ?_⟩
  ·refine hx.sa.congr fun i hi => ?_
   obtain ⟨p, hp, hpn⟩ := hx.place hi
   simp only [if_pos hi]
   rw [hp]; omega
  ·simp only [List.length_append, hI.len, lst_length]
   omega
 rcases hbuf' with ⟨hnil, _⟩ | ⟨g, c, hg⟩
 ·have := congrArg List.length hnil
  simp only [List.length_append, hI.len, List.length_nil] at this
  omega
 ·refine ⟨g, 0, (hd' ++ lst T n ++ s).length, c, fun w1 => ?_, rfl, hK g c _ hd' s _ m' (ez.trans hg.ext) hf ⟨fun i hi => by rw [Nat.zero_add]; exact hg.kg i (by have := hg.hc; omega), hg.vg, fun i hi => ?_⟩ hg.hc hg.hm⟩
  ·refine C_F18 ?_
   unfold M_F18
   refine ⟨g, 0, _, c, hg.ob, hg.ko, fun z hz => ?_⟩
   obtain rfl : z = 0 := hz.symm.trans hg.vo
   refine ⟨by omega, by omega, hg.hc, ?_⟩
   rw [show (0 + if Int.toNat 0 = c then 0 else Int.toNat 0) = 0 by split <;> rfl]
   rfl
  ·apply hf.rg
   rw [List.getD_eq_getElem?_getD, List.getElem?_eq_getElem hi]
   simp
theorem ap_new {B l xc : Nat} {sx : Option Addr} {S : Nat → Int} {K : Value → Mem → Prop} (hs : Dt m sx l xc S) (hr : m.ro B = false) (hl : l ≤ 1000000000)
  (hK : ∀ b o c m', Ext m m' → Dt m' (some ⟨b, o, none⟩) l c S → K (.slice (some ⟨b, o, none⟩) l c) m') : apV (.slice 5 .u8) (.slice (some ⟨B, 0, none⟩) 0 0) (.slice sx l xc) m K := by
 refine ⟨fun i hi => by omega, hs.row, by omega, fun h0 => ?_, fun h0 => ?_⟩
 ·refine ⟨rfl, fun i hi => by omega, hr, ?_⟩
  rintro m4 rfl
  have hz : l = 0 := by omega
  subst hz
  have : m.put B (0 + 0) 0 (elemV m sx) = m := by
   unfold Mem.put
   cases m
   simp only [Mem.mk.injEq, true_and, and_true]
   funext b' o'
   rw [if_neg (by omega)]
  rw [this]
  exact hK B 0 0 m (Ext.refl _) ⟨fun h => by omega, fun e => (by cases e), Nat.le_refl _⟩
 ·rintro B4 c4 hB4 hc4 m4 hm4
  have e4 : Ext m m4 := hm4 ▸ Ext.new m hB4 _ _ _
  rw [Nat.zero_add] at *
  refine hK B4 0 c4 m4 e4 (Dt.of ⟨fun i hi => ?_, fun i hi => ?_, fun i hi => ?_⟩ hc4)
  ·rw [hm4]; simp only [Mem.new, if_true]; rw [if_pos (by omega)]
  ·rw [hm4]
   simp only [Mem.new, if_true]
   rw [if_neg (by omega), if_pos (by omega), show 0 + i - 0 = i by omega]
   exact hs.elem hi
  ·obtain ⟨_, _, _, hb⟩ := hs.at_ (by omega)
   exact hb.rg i hi
theorem lookup_got {bx ox bd od ca' ba oa cb : Nat} {A : Nat → Int} {bs os ls cs : Nat} {S : Nat → Int} {nn : Int} {K : Value → Mem → Prop} (hx : IxOK m bx ox bd od ca' ba oa cb n T A) (hs : Dt m (some ⟨bs, os, none⟩) ls cs S) (hnn : -9223372036854775808 ≤ nn)
  (hK : ∀ v m', Ext m m' → GotOK m' v (allP T S n ls) nn → K v m') : callV Tryz.prog w0 22 [.pointer (some ⟨bx, ox, none⟩), .slice (some ⟨bs, os, none⟩) ls cs, .int .i64 nn] m K := by
 refine lookup_22 hx hs hnn (fun h => hK _ _ (Ext.refl _) ⟨0, fun _ => 0, ?_, by simp [lst], by simp [lst], .inl ⟨rfl, rfl⟩⟩) fun h0 hne i k hik hp => ?_
 ·rcases h with h | h
  ·have : allP T S n ls = [] := by unfold allP; rw [if_pos h]
   rw [this]
   have := many_le 0 nn
   simpa using (Nat.le_zero.1 this).symm
  ·subst h
   unfold many
   simp
 ·obtain ⟨g1, g2, g3⟩ := got_of (m := m) (m' := m) (nn := nn) hx.sa h0 hik hp
  refine ⟨fun hz m5 e5 => hK _ _ e5 ⟨0, fun _ => 0, by rw [g1, hz], by simp [lst], by simp [lst], .inl ⟨rfl, rfl⟩⟩, fun hz B5 m5 hB5 e5 hr hv => ?_⟩
  exact hK _ _ e5 ⟨many k nn, _, g1.symm, g2, g3, .inr ⟨hz, B5, 0, _, rfl, fun q hq => (hv q hq).1, fun q hq => (hv q hq).2⟩⟩
theorem loaded_7 {bs os cap le ce ls cs : Nat} {se ss : Option Addr} {TE SW : Nat → Int} {nn : Int} {S L hd' s : List Int} {A : Nat → Nat} {ea ub : Addr} {K : Value → Mem → Prop} (hn : n ≤ 20000) (hby : By m bs os S.length (fun i => S.getD i 0)) (hcap : S.length ≤ cap)
  (he : Dt m se le ce TE) (hle : le ≤ 20000) (hw : Dt m ss ls cs SW) (hls : ls ≤ 1000000)
  (h4 : m.ob 4 0 = some (.iface 154 (.pointer (some ea)))) (h5 : m.ob 5 0 = some (.iface 154 (.pointer (some ub)))) (g0 : m.kd 0 0 = some .i64) (g1 : m.val 0 0 = 2147483647) (hf : FileOK L T n hd' s A) (hpre : S <+: L) (hnn : -9223372036854775808 ≤ nn)
  (bad : S.length < L.length → ∀ m', K (.tuple #[.slice none 0 0, .slice none 0 0, .int .i64 (0 : Int), .bool false]) m')
  (ok : S.length = L.length → ∀ b o c v m', Ext m m' → Dt m' (some ⟨b, o, none⟩) n c T → GotOK m' v (allP T SW n ls) nn → K (.tuple #[.slice (some ⟨b, o, none⟩) n c, v, .int .i64 (0 : Int), .bool true]) m') :
  callV Tryz.prog w0 7 [.slice (some ⟨bs, os, none⟩) S.length cap, .slice se le ce, .slice ss ls cs, .int .i64 nn] m K := by
 have hSL : S.length ≤ L.length := hpre.length_le
 have hLl := hf.len
 refine C_F7 ?_
 unfold M_F7
 rintro B1 hB1 m2 hm2
 have e2 : Ext m m2 := hm2 ▸ Ext.new m hB1 _ _ _
 have r2 : m2.ro B1 = false := by rw [hm2]; simp [Mem.new]
 clear hm2
 refine ap_new (Dt.of (hby.ext e2) hcap) r2 (by omega) fun bk ok_ ck m4 e4 hk => ?_
 have e04 := e2.trans e4
 refine C_F19 ?_
 unfold M_F19
 rintro B hB m6 hm6
 have e6 : Ext m4 m6 := hm6 ▸ Ext.newC m4 hB _
 have b0 : m6.ob B 0 = some (.slice (some ⟨bk, ok_, none⟩) S.length ck) := by rw [hm6]; simp [Mem.newC, Value.obj?]
 have b1 : m6.kd B 1 = some .i64 := by rw [hm6]; simp [Mem.newC, Value.kd?]
 have b2 : m6.kd B 2 = some .i8 := by rw [hm6]; simp [Mem.newC, Value.kd?]
 have bv : m6.val B 1 = 0 := by rw [hm6]; simp [Mem.newC, Value.num?]
 have br : m6.ro B = false := by rw [hm6]; simp [Mem.newC]
 clear hm6
 have hrd6 : RdAt m4 m6 B S := by
  refine ⟨e6, hB, br, b1, b2, ⟨bk, ok_, S.length, ck, 0, b0, bv, by omega, hk.le, by omega, rfl, fun i hi => ?_⟩, fun x hx => hf.rg x (hpre.subset hx)⟩
  obtain ⟨b', o', e', hb'⟩ := hk.at_ (by omega)
  cases e'
  rw [Nat.add_zero]
  exact ⟨hb'.kd i hi, hb'.val i hi⟩
 have e06 := e04.trans e6
 refine ⟨B, 0, rfl, exact_16 (he.ext e06) (by omega) fun Bd m14 hBd e14 hbyE hro14 => ⟨Bd, 0, le, le, rfl, ?_⟩⟩
 have e014 := e06.trans e14
 refine new_15 hbyE (Nat.le_refl _) (by omega) (e014.kd _ _ _ g0) ((e014.val _ _ _ g0).trans g1) fun bx ba A' m43 hbx hba hxa rx ra e43 hx => ⟨bx, 0, rfl, ?_⟩
 have e643 := e14.trans e43
 have hrd := hrd6.grow e643
 have z14 : Ext m4 m14 := e6.trans e14
 have ez := z14.trans e43
 have e043 := e014.trans e43
 have k14 := e14.kd _ _ _ b1
 refine read_20 (z := m4) (T := T) (A := A) (n := n) (hd := hd') (s := s) (S := S) (e := le) (e04.ob _ _ _ h4) (e04.ob _ _ _ h5) (e04.kd _ _ _ g0) ((e04.val _ _ _ g0).trans g1) (by omega) (by omega) hf.hA hf.sa hf.hT hf.hI hf.hs (by rw [← hf.eq]; exact hpre) hrd hx.f0 hx.f1 hx.f2 rx
  (fun i hi => by have := hx.by_.kd i hi; rwa [Nat.zero_add] at this) (e43.ro _ hro14) (fun i hi => by have := hx.ak i hi; rwa [Nat.zero_add] at this) ra (z14.fresh hbx) (e6.fresh hBd) (z14.fresh hba) hxa (kd_ne k14 hbx).symm (kd_ne b1 hBd).symm (kd_ne k14 hba).symm (fun h0 => kd_ne (hbyE.kd 0 h0) hba)
  ⟨fun hl m47 bd' cd' ba' ca' hx' hrd' => ⟨rfl, cond_of (fun hb => by cases hb) (fun _ => ?_)⟩, fun hl m47 v i1 i2 => ⟨i1, cond_of (fun _ => bad (by rw [hf.eq]; exact hl) m47) (fun hb => by rw [i2] at hb; cases hb)⟩⟩
 rintro B48 hB48 m49 hm49
 have e49 : Ext m47 m49 := hm49 ▸ Ext.new m47 hB48 _ _ _
 have r49 : m49.ro B48 = false := by rw [hm49]; simp [Mem.new]
 clear hm49
 have hx49 := hx'.ext e49
 refine C_F21 ?_
 unfold M_F21
 refine ⟨bd', 0, n, cd', hx49.f0, bd', 0, n, cd', rfl, ap_new (Dt.of hx49.by_ hx49.hcd) r49 (by omega) fun b o c m57 e57 hb57 => ?_⟩
 rintro B58 hB58 m59 hm59
 have e59 : Ext m57 m59 := hm59 ▸ Ext.new m57 hB58 _ _ _
 have r59 : m59.ro B58 = false := by rw [hm59]; simp [Mem.new]
 clear hm59
 have e4759 := (e49.trans e57).trans e59
 have em47 := e04.trans hrd'.ext
 refine ap_new (hw.ext (em47.trans e4759)) r59 (by omega) fun bw ow cw m61 e61 hw61 => ?_
 refine lookup_got (hx'.ext (e4759.trans e61)) hw61 hnn fun v62 m63 e63 hg => ?_
 have e4763 := (e4759.trans e61).trans e63
 obtain ⟨g, o', len, c', r, a1, a2, a3, a4, a5, a6, a7⟩ := (hrd'.grow e4763).ob
 refine C_F23 ?_
 unfold M_F23
 refine ⟨g, o', len, c', a1, e4763.kd _ _ _ hrd'.ko, fun z hz => ?_⟩
 have hz0 : (len : Int) - z = 0 := by
  rw [← hz]
  show (len : Int) - m63.val B 1 = 0
  rw [a2]
  simp at a6
  omega
 rw [hz0]
 exact ⟨inR_i64 (by omega) (by omega), _, rfl, ok (by rw [hf.eq]; exact hl) b o c v62 m63 (em47.trans e4763) (hb57.ext ((e59.trans e61).trans e63)) hg⟩
theorem loaded_7n {bs os cap : Nat} {S L hd' s : List Int} {A : Nat → Nat} {ea ub : Addr} {K : Value → Mem → Prop} (hn : n ≤ 20000) (hby : By m bs os S.length (fun i => S.getD i 0)) (hcap : S.length ≤ cap)
  (h4 : m.ob 4 0 = some (.iface 154 (.pointer (some ea)))) (h5 : m.ob 5 0 = some (.iface 154 (.pointer (some ub)))) (g0 : m.kd 0 0 = some .i64) (g1 : m.val 0 0 = 2147483647) (hf : FileOK L T n hd' s A) (hpre : S <+: L) (hlt : S.length < L.length)
  (bad : ∀ m', K (.tuple #[.slice none 0 0, .slice none 0 0, .int .i64 (0 : Int), .bool false]) m') :
  callV Tryz.prog w0 7 [.slice (some ⟨bs, os, none⟩) S.length cap, .slice none 0 0, .slice none 0 0, .int .i64 (-1 : Int)] m K :=
 loaded_7 (TE := fun _ => 0) (SW := fun _ => 0) hn hby hcap ⟨fun h => by omega, fun _ => ⟨rfl, rfl⟩, Nat.le_refl _⟩ (by omega) ⟨fun h => by omega, fun _ => ⟨rfl, rfl⟩, Nat.le_refl _⟩ (by omega) h4 h5 g0 g1 hf hpre (by omega) (fun _ m' => bad m') (fun h => by omega)
theorem fnCut_3 {nn : Int} {ea ub : Addr} {K : Value → Mem → Prop} (hd : Dt m sd n cd T) (hnn : nn ≤ 9223372036854775807) (h4 : m.ob 4 0 = some (.iface 154 (.pointer (some ea)))) (h5 : m.ob 5 0 = some (.iface 154 (.pointer (some ub))))
  (g0 : m.kd 0 0 = some .i64) (g1 : m.val 0 0 = 2147483647) (hK : ∀ m', K (.bool true) m') : callV Tryz.prog w0 3 [.slice sd n cd, .int .i64 nn] m K := by
 refine C_F3 ?_
 unfold M_F3
 refine cond_of (fun _ => hK _) fun _ => cond_of (fun _ => hK _) fun h1 => cond_of (fun _ => hK _) fun h2 => ?_
 have h1 := of_decide_eq_false h1
 have h2 := of_decide_eq_false h2
 refine saved_6 hd (by omega) g0 g1 fun b c L hd' s A m' e hf hby hLc hc => ⟨_, _, _, _, _, rfl, cond_of (fun hb => by cases hb) (fun _ => cond_of (fun hb => ?_) (fun _ => ?_))⟩
 ·have hz : (L.length : Int) = 0 := by simpa using hb
  have := hf.eq
  have := congrArg List.length this
  simp only [List.length_append, hf.hI.len] at this
  omega
 have hpos : 0 < L.length := by
  have := congrArg List.length hf.eq
  simp only [List.length_append, hf.hI.len] at this
  omega
 have hm0 := Int.emod_nonneg nn (show (L.length : Int) ≠ 0 by omega)
 have hm1 := Int.emod_lt_of_pos nn (show 0 < (L.length : Int) by omega)
 obtain ⟨q, hq⟩ : ∃ q : Nat, nn % (L.length : Int) = q := ⟨(nn % (L.length : Int)).toNat, by omega⟩
 rw [hq] at hm0 hm1 ⊢
 refine ⟨by omega, by omega, by omega, by omega, ?_⟩
 rw [Int.toNat_natCast]
 have hlen : (L.take q).length = q := by rw [List.length_take]; omega
 have := loaded_7n (T := T) (n := n) (w0 := w0) (m := m') (S := L.take q) (L := L) (bs := b) (os := 0) (cap := c) (K := fun v12 _ => ∃ (s47 : Option Addr) (l48 c49 : Nat) (s50 : Option Addr) (l51 c52 : Nat) (z53 : Int) (z54 : Bool), v12 = (.tuple #[(.slice s47 l48 c49), (.slice s50 l51 c52), (.int .i64 z53), (.bool z54)]) ∧ z54 = false)
  (by omega) ⟨fun i hi => hby.kd i (by omega), fun i hi => ?_, fun i hi => ?_⟩ (by omega) (e.ob _ _ _ h4) (e.ob _ _ _ h5) (e.kd _ _ _ g0) ((e.val _ _ _ g0).trans g1) hf (List.take_prefix _ _) (by omega) (fun _ => ⟨_, _, _, _, _, _, _, _, rfl, rfl⟩)
 ·rw [hlen] at this
  refine this.mono fun v m2 ⟨a1, a2, a3, a4, a5, a6, a7, a8, h1, h2⟩ => ⟨a1, a2, a3, a4, a5, a6, a7, a8, h1, ?_⟩
  subst h2
  exact hK _
 ·rw [hlen] at hi
  rw [hby.val i (by omega), List.getD_eq_getElem?_getD, List.getD_eq_getElem?_getD, List.getElem?_take, if_pos hi]
 ·rw [hlen] at hi
  have := hby.rg i (by omega)
  rw [List.getD_eq_getElem?_getD, List.getElem?_take, if_pos hi, ← List.getD_eq_getElem?_getD]
  exact this
end
end Go.Proofs.YtdhifgedhaapjaaGreatDoor
namespace Go.Proofs.YtdhifgedhaapjaaGreatDoor
open Go Sa Go.ChangeShapes Go.WideShapes Go.ChangeAt Go.RowKit
theorem own : ownKnob Tryz.prog.godebug = none := by kernel_rfl
theorem laidOut : laidOutB Tryz.prog = true := by kernel_rfl
theorem cells5 : Tryz.prog.cellsOf 5 = 1 := by kernel_rfl
theorem gMax : Tryz.prog.globalNamed "loop.example/pub-suffixroads/pub/suffixarray.maxData32" = some 0 := by kernel_rfl
theorem tMax : (Tryz.prog.globals[0]?).map (·.type) = some 3 := by kernel_rfl
def memW (W : World) : Mem where
 kd b o := Value.kd? (W.cell? ⟨b, o, none⟩)
 ro _ := true
 val b o := Value.num? (W.cell? ⟨b, o, none⟩)
 ob b o := Value.obj? (W.cell? ⟨b, o, none⟩)
theorem memW_holds (W : World) : Holds W W (memW W) := by
 refine ⟨fun b o k hk => ?_, fun b o k _ hr => absurd hr (by simp [memW]), fun b o v hv => ?_, fun b o v _ hr => absurd hr (by simp [memW]), fun b o v hv => ?_, rfl, rfl, rfl, Nat.le_refl _, fun _ _ => rfl, fun _ _ => .inl rfl⟩
 ·simp only [memW] at hk ⊢
  generalize W.cell? ⟨b, o, none⟩ = c at *
  match c, hk with
  | some (.int k' z), hk => simp only [Value.kd?] at hk; cases hk; rfl
 ·simp only [memW] at hv
  generalize W.cell? ⟨b, o, none⟩ = c at *
  match c, hv with
  | some v', hv =>
   cases v' <;> simp only [Value.obj?] at hv <;> first | (cases hv; done) | exact hv
 ·simp only [memW] at hv ⊢
  generalize W.cell? ⟨b, o, none⟩ = c at *
  match c, hv with
  | some v', hv =>
   cases v' <;> simp only [Value.obj?] at hv <;> first | (cases hv; done) | rfl
theorem spot_none {w : World} {a : Addr} {v : Value} (h : w.cell? a = some v) : a.spot = none := by
 unfold World.cell? at h
 split at h
 ·cases hs : a.spot with
  | none => rfl
  | some x => rw [hs] at h; simp at h
 ·cases h
theorem dt_of {W : World} {a : Addr} {len cap : Nat} {zs : List Int} (hz : len ≤ zs.length) (hc : ∀ i, i < zs.length → W.cell? (a.add i) = some (.int .u8 (zs.getD i 0))) (hw : ∀ n ∈ zs, (Lit.int .u8 n).wf = true) (hcap : len ≤ cap) :
  Dt (memW W) (some a) len cap (fun i => zs.getD i 0) := by
 refine ⟨fun hn => ?_, fun e => (by cases e), hcap⟩
 have h0 := hc 0 (by omega)
 have hs : a.spot = none := spot_none (by simpa [Addr.add] using h0)
 obtain ⟨b, o, sp⟩ := a
 simp only at hs
 subst hs
 refine ⟨b, o, rfl, fun i hi => ?_, fun i hi => ?_, fun i hi => ?_⟩
 ·have := hc i (by omega)
  rw [add_ofNat] at this
  simp only [memW, this, Value.kd?]
 ·have := hc i (by omega)
  rw [add_ofNat] at this
  simp only [memW, this, Value.num?]
 ·have hm : zs.getD i 0 ∈ zs := by
   rw [List.getD_eq_getElem?_getD, List.getElem?_eq_getElem (by omega)]
   simp
  have h := hw _ hm
  show 0 ≤ zs.getD i 0 ∧ zs.getD i 0 < 256
  generalize zs.getD i 0 = y at *
  simp [Lit.wf, IntKind.min, IntKind.max, IntKind.signed, IntKind.bits] at h
  omega
theorem dt_nil (W : World) : Dt (memW W) none 0 0 (fun _ => 0) := ⟨fun h => by omega, fun _ => ⟨rfl, rfl⟩, Nat.le_refl _⟩
theorem dt_arg {H : Type} {enc : TypeId × Value → H} {W : World} {base : Nat} {sp : Nat → Bool} {held : Bool} {a0 : Option Addr} {len0 cap0 : Nat} {d0 : DataW H} {p : List MemPlace}
  (h0 : DataW.Trod enc Tryz.prog W base sp held 22 (.slice a0 len0 cap0) d0 p) : ∃ T, Dt (memW W) a0 len0 cap0 T := by
 obtain ⟨fuel, hf⟩ := h0
 rcases open_ints Tryz.underlying22 Tryz.underlying5 cells5 hf with ⟨hcs, hx⟩ | ⟨a, len', cap', zs, hcs, _, hl, hm, hz, hx, hcell, hwz⟩
 ·simp [Value.cells] at hcs
  obtain ⟨rfl, rfl, rfl⟩ := hcs
  exact ⟨_, dt_nil W⟩
 ·simp [Value.cells] at hcs
  obtain ⟨rfl, rfl, rfl⟩ := hcs
  exact ⟨_, dt_of (by split at hz <;> omega) hcell hwz hl⟩
theorem maxD_of {W : World} (h : laidMetH Tryz.prog [("loop.example/pub-suffixroads/pub/suffixarray.maxData32", Rows.laid_loop_example_pub_suffixroads_pub_suffixarray_maxData32)] W) : W.cell? ⟨0, 0, none⟩ = some (.int .i64 2147483647) := by
 rw [MakeChecks.laidMetH_plain _ _ _ (by kernel_rfl)] at h
 obtain ⟨ps, ⟨g0, t0, cs0, f0, p0, q0, hg0, ht0, hv0, hd0, _⟩, _⟩ := h
 obtain rfl := Option.some.inj (gMax.symm.trans hg0)
 obtain rfl := Option.some.inj (tMax.symm.trans ht0)
 obtain ⟨k, e1, e2, _⟩ := DataW.trod_int Tryz.underlying3 hd0
 have hk : k = 2147483647 := by
  have h2 := e2.symm
  simp [Rows.laid_loop_example_pub_suffixroads_pub_suffixarray_maxData32] at h2
  exact h2.1
 subst hk
 have := World.var?_cell hg0 hv0 0
 obtain ⟨l⟩ := cs0
 simp only at e1
 subst e1
 simpa using this
end Go.Proofs.YtdhifgedhaapjaaGreatDoor
namespace Go.Proofs.YtdhifgedhaapjaaGreatDoor
open Go Sa Go.ChangeShapes Go.WideShapes Go.ChangeAt Go.RowKit
theorem gEOF : Tryz.prog.globalNamed "io.EOF" = some 4 := by kernel_rfl
theorem gUEOF : Tryz.prog.globalNamed "io.ErrUnexpectedEOF" = some 5 := by kernel_rfl
theorem tEOF : (Tryz.prog.globals[4]?).map (·.type) = some 44 := by kernel_rfl
theorem tUEOF : (Tryz.prog.globals[5]?).map (·.type) = some 44 := by kernel_rfl
theorem star : "*" ++ "errors.errorString" = "*errors.errorString" := by decide
theorem row154 (u : TypeId) (h : Tryz.prog.typeName? 3 u = some "*errors.errorString") : u = 154 :=
 typeName_ptr_named (nm := "errors.errorString") (by rw [star]; kernel_rfl) (by kernel_rfl) (by decide) u (by rw [star]; exact h)
theorem five_of {W : World} (h : laidMetH Tryz.prog Rows.fnCutRow.laid W) : W.cell? ⟨0, 0, none⟩ = some (.int .i64 2147483647) ∧ (∃ a, W.cell? ⟨4, 0, none⟩ = some (.iface 154 (.pointer (some a)))) ∧ ∃ a, W.cell? ⟨5, 0, none⟩ = some (.iface 154 (.pointer (some a))) := by
 rw [MakeChecks.laidMetH_plain _ _ _ (by kernel_rfl)] at h
 have h1 := laidMet.tail h
 have h2 := laidMet.tail h1
 have h3 := laidMet.tail h2
 obtain ⟨a1, _, v1, _⟩ := laid_sentinel h1 gEOF tEOF Tryz.underlying44 row154 Tryz.underlying154 Tryz.underlying174 rfl rfl Tryz.underlying9 (by kernel_rfl) (by kernel_rfl)
 obtain ⟨a2, _, v2, _⟩ := laid_sentinel h2 gUEOF tUEOF Tryz.underlying44 row154 Tryz.underlying154 Tryz.underlying174 rfl rfl Tryz.underlying9 (by kernel_rfl) (by kernel_rfl)
 refine ⟨?_, ⟨a1, by simpa using World.var?_cell gEOF v1 0⟩, ⟨a2, by simpa using World.var?_cell gUEOF v2 0⟩⟩
 obtain ⟨ps, ⟨g0, t0, cs0, f0, p0, q0, hg0, ht0, hv0, hd0, _⟩, _⟩ := h3
 obtain rfl := Option.some.inj (gMax.symm.trans hg0)
 obtain rfl := Option.some.inj (tMax.symm.trans ht0)
 obtain ⟨k, e1, e2, _⟩ := DataW.trod_int Tryz.underlying3 hd0
 have hk : k = 2147483647 := by
  have h2 := e2.symm
  simp [Rows.laid_loop_example_pub_suffixroads_pub_suffixarray_maxData32] at h2
  exact h2.1
 subst hk
 have := World.var?_cell hg0 hv0 0
 obtain ⟨l⟩ := cs0
 simp only at e1
 subst e1
 simpa using this
theorem five_met (os : Os) (args : Array Value) : laidMetH Tryz.prog Rows.fnCutRow.laid ((World.doorLaid Tryz.prog 108 os).forCall (fun _ _ => 0) ⟨#[], args, []⟩).memory :=
 laidMetH_of_parts3 (fuel := 8) (laidMet_of_run' 8 (by kernel_rfl) (by kernel_rfl)) (by kernel_rfl) (by kernel_rfl)
end Go.Proofs.YtdhifgedhaapjaaGreatDoor

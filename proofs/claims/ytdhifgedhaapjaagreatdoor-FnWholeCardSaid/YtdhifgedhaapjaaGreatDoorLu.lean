/- Saved and Loaded: the bytes of an index, and what is read of them, whole or cut short. -/
import Derived.Test.YtdhifgedhaapjaaGreatDoorLt
import Derived.Test.YtdhifgedhaapjaaGreatDoorLq
import Derived.Test.YtdhifgedhaapjaaGreatDoorLn
import Derived.Test.YtdhifgedhaapjaaGreatDoorLp
import Derived.Test.YtdhifgedhaapjaaGreatDoorRows
import Derived.Test.YtdhifgedhaapjaaGreatDoorCards
import Derived.Test.YtdhifgedhaapjaaGreatDoorTie
import Derived.ProofKit
import Derived.LaidMore
import Derived.OpenShut
import Derived.OpenVars
import Derived.Stop.Joined
import Derived.SevenTiedAt
import Derived.Stop.LaidErr
set_option maxRecDepth 100000
namespace Go.Proofs.YtdhifgedhaapjaaGreatDoor
open Go Sa
theorem IxOK.drop {m : Mem} {bx ox bd od cd ba oa ca n : Nat} {T A : Nat → Int} (h : IxOK m bx ox bd od cd ba oa ca n T A) {B : Nat} (h1 : bx ≠ B) (h2 : bd ≠ B) (h3 : ba ≠ B) : IxOK (m.drop B) bx ox bd od cd ba oa ca n T A :=
 ⟨by rw [Mem.drop_ob h1]; exact h.f0, by rw [Mem.drop_ob h1]; exact h.f1, by rw [Mem.drop_ob h1]; exact h.f2, ⟨fun i hi => by rw [Mem.drop_kd h2]; exact h.by_.kd i hi, h.by_.val, h.by_.rg⟩, fun i hi => by rw [Mem.drop_kd h3]; exact h.ak i hi, h.av, h.sa, h.hcd, h.hca, h.hn⟩
theorem Ext.drop_r {a m : Mem} (e : Ext a m) {B : Nat} (hB : a.fresh B) : Ext a (m.drop B) :=
 ⟨fun x y k hk => by rw [Mem.drop_kd (kd_ne hk hB)]; exact e.kd _ _ _ hk, fun x y k hk => e.val _ _ _ hk, fun x y v hv => by rw [Mem.drop_ob (ob_ne hv hB)]; exact e.ob _ _ _ hv, e.ro⟩
theorem body_congr {A A' : Nat → Nat} {j k : Nat} (h : ∀ i, i < j + k → A i = A' i) : body A j k = body A' j k := by
 unfold body
 have key : ∀ l : List Nat, (∀ i ∈ l, i < j + k) → l.flatMap (fun i => uv (A i)) = l.flatMap (fun i => uv (A' i)) := fun l hl => by
  induction l with
  | nil => rfl
  | cons x l ih =>
   rw [List.flatMap_cons, List.flatMap_cons, ih (fun i hi => hl i (by simp [hi])), h x (hl x (by simp))]
 exact key _ fun i hi => by rw [List.mem_range'_1] at hi; omega
theorem Sas.congr {A A' : Nat → Nat} {n : Nat} (h : ∀ i, i < n → A i = A' i) {j : Nat} {s : List Int} (hs : Sas A n j s) : Sas A' n j s := by
 induction hs with
 | nil => exact .nil
 | cons j k hd s h1 h2 h3 h4 _ ih =>
  have e := body_congr (A := A) (A' := A') (j := j) (k := k) fun i hi => h i (by omega)
  rw [e] at h3 h4 ⊢
  exact .cons j k hd s h1 h2 h3 h4 ih
theorem Sas.len {A : Nat → Nat} (hA : ∀ i, A i < 2097152) {n j : Nat} {s : List Int} (hs : Sas A n j s) : s.length ≤ 13 * (n - j) := by
 induction hs with
 | nil => simp
 | cons j k hd s h1 h2 h3 h4 _ ih =>
  have := body_len hA j k
  simp only [List.length_append, h3.len]
  omega
structure FileOK (L : List Int) (T : Nat → Int) (n : Nat) (hd s : List Int) (A : Nat → Nat) : Prop where
 eq : L = hd ++ (lst T n ++ s)
 hI : I10 hd n
 hs : Sas A n 0 s
 hA : 0 < n → ∀ i, A i < n
 sa : SA T n (fun i => (A i : Nat))
 hT : ∀ i, i < n → 0 ≤ T i ∧ T i < 256
 len : L.length ≤ 10 + n + 13 * n
theorem FileOK.rg {L : List Int} {T : Nat → Int} {n : Nat} {hd s : List Int} {A : Nat → Nat} (h : FileOK L T n hd s A) : ∀ x ∈ L, 0 ≤ x ∧ x < 256 := fun x hx => by
 rw [h.eq, List.mem_append, List.mem_append] at hx
 rcases hx with hx | hx | hx
 ·exact h.hI.rg x hx
 ·exact lst_rg h.hT x hx
 ·exact h.hs.rg x hx
section
variable {sd : Option Addr} {n cd : Nat} {T : Nat → Int} {w0 : World} {m : Mem}
theorem saved_6 {K : Value → Mem → Prop} (hd : Dt m sd n cd T) (hn : n ≤ 1000000) (g0 : m.kd 0 0 = some .i64) (g1 : m.val 0 0 = 2147483647)
  (hK : ∀ b c L hd' s A m', Ext m m' → FileOK L T n hd' s A → By m' b 0 L.length (fun i => L.getD i 0) → L.length ≤ c → c ≤ 9223372036854775807 → K (.tuple #[.slice (some ⟨b, 0, none⟩) L.length c, .bool true]) m') :
  callV Tryz.prog w0 6 [.slice sd n cd] m K := by
 refine C_F6 ?_
 unfold M_F6
 rintro B1 hB1 m2 hm2
 have e2 : Ext m m2 := hm2 ▸ Ext.newC m hB1 _
 have b0 : m2.ob B1 0 = some (.slice none 0 0) := by rw [hm2]; simp [Mem.newC, Value.obj?]
 have b1 : m2.kd B1 1 = some .i64 := by rw [hm2]; simp [Mem.newC, Value.kd?]
 have b2 : m2.kd B1 2 = some .i8 := by rw [hm2]; simp [Mem.newC, Value.kd?]
 have bv : m2.val B1 1 = 0 := by rw [hm2]; simp [Mem.newC, Value.num?]
 have br : m2.ro B1 = false := by rw [hm2]; simp [Mem.newC]
 clear hm2
 refine exact_16 (hd.ext e2) hn fun Bd m4 hBd e4 hby hro4 => ⟨Bd, 0, n, n, rfl, ?_⟩
 have e24 := e2.trans e4
 refine new_15 hby (Nat.le_refl _) hn (e24.kd _ _ _ g0) ((e24.val _ _ _ g0).trans g1) fun bx ba A m18 hbx hba hxa rx ra e18 hx => ⟨bx, 0, rfl, ?_⟩
 have e := e4.trans e18
 have nd : Bd ≠ B1 := (kd_ne b1 hBd).symm
 have nx : bx ≠ B1 := (kd_ne (e4.kd _ _ _ b1) hbx).symm
 have na : ba ≠ B1 := (kd_ne (e4.kd _ _ _ b1) hba).symm
 have hbuf : Buf0 (m18.drop B1) m18 B1 := ⟨Ext.drop _ _, Mem.drop_fresh _ _, e.ro _ br, e.kd _ _ _ b1, (e.val _ _ _ b1).trans bv, e.kd _ _ _ b2, e.ob _ _ _ b0⟩
 have ez : Ext m (m18.drop B1) := (e2.trans e).drop_r hB1
 refine write_17 (.inl ⟨rfl, hbuf⟩) (hx.drop nx nd na) fun m' hd' s hI hs hbuf' => ?_
 have hAe : ∀ i, i < n → (A i).toNat = (if i < n then (A i).toNat else 0) := fun i hi => by rw [if_pos hi]
 have hAn : 0 < n → ∀ i, (if i < n then (A i).toNat else 0) < n := fun h0 i => by
  split
  ·rename_i hi
   obtain ⟨p, hp, hpn⟩ := hx.place hi
   rw [hp]; omega
  ·exact h0
 have hs' := hs.congr hAe
 have hA2 : ∀ i, (fun i => if i < n then (A i).toNat else 0) i < 2097152 := fun i => by
  rcases Nat.eq_zero_or_pos n with h0 | h0
  ·subst h0; simp
  ·have := hAn h0 i
   simp only
   omega
 have hsl := hs'.len hA2
 have hf : FileOK (hd' ++ lst T n ++ s) T n hd' s (fun i => if i < n then (A i).toNat else 0) := by
  refine ⟨List.append_assoc _ _ _, hI, hs', hAn, ?_, hby.rg, ?_⟩
  ·refine hx.sa.congr fun i hi => ?_
   obtain ⟨p, hp, hpn⟩ := hx.place hi
   simp only [if_pos hi]
   rw [hp]; omega
  ·simp only [List.length_append, hI.len, lst_length]
   omega
 rcases hbuf' with ⟨hnil, _⟩ | ⟨g, c, hg⟩
 ·have := congrArg List.length hnil
  simp only [List.length_append, hI.len, List.length_nil] at this
  omega
 ·refine ⟨g, 0, (hd' ++ lst T n ++ s).length, c, fun w1 => ?_, rfl, hK g c _ hd' s _ m' (ez.trans hg.ext) hf ⟨fun i hi => by rw [Nat.zero_add]; exact hg.kg i (by have := hg.hc; omega), hg.vg, fun i hi => ?_⟩ hg.hc hg.hm⟩
  ·refine C_F18 ?_
   unfold M_F18
   refine ⟨g, 0, _, c, hg.ob, hg.ko, fun z hz => ?_⟩
   obtain rfl : z = 0 := hz.symm.trans hg.vo
   refine ⟨by omega, by omega, hg.hc, ?_⟩
   rw [show (0 + if Int.toNat 0 = c then 0 else Int.toNat 0) = 0 by split <;> rfl]
   rfl
  ·apply hf.rg
   rw [List.getD_eq_getElem?_getD, List.getElem?_eq_getElem hi]
   simp
theorem ap_new {B l xc : Nat} {sx : Option Addr} {S : Nat → Int} {K : Value → Mem → Prop} (hs : Dt m sx l xc S) (hr : m.ro B = false) (hl : l ≤ 1000000000)
  (hK : ∀ b o c m', Ext m m' → Dt m' (some ⟨b, o, none⟩) l c S → K (.slice (some ⟨b, o, none⟩) l c) m') : apV (.slice 5 .u8) (.slice (some ⟨B, 0, none⟩) 0 0) (.slice sx l xc) m K := by
 refine ⟨fun i hi => by omega, hs.row, by omega, fun h0 => ?_, fun h0 => ?_⟩
 ·refine ⟨rfl, fun i hi => by omega, hr, ?_⟩
  rintro m4 rfl
  have hz : l = 0 := by omega
  subst hz
  have : m.put B (0 + 0) 0 (elemV m sx) = m := by
   unfold Mem.put
   cases m
   simp only [Mem.mk.injEq, true_and, and_true]
   funext b' o'
   rw [if_neg (by omega)]
  rw [this]
  exact hK B 0 0 m (Ext.refl _) ⟨fun h => by omega, fun e => (by cases e), Nat.le_refl _⟩
 ·rintro B4 c4 hB4 hc4 m4 hm4
  have e4 : Ext m m4 := hm4 ▸ Ext.new m hB4 _ _ _
  rw [Nat.zero_add] at *
  refine hK B4 0 c4 m4 e4 (Dt.of ⟨fun i hi => ?_, fun i hi => ?_, fun i hi => ?_⟩ hc4)
  ·rw [hm4]; simp only [Mem.new, if_true]; rw [if_pos (by omega)]
  ·rw [hm4]
   simp only [Mem.new, if_true]
   rw [if_neg (by omega), if_pos (by omega), show 0 + i - 0 = i by omega]
   exact hs.elem hi
  ·obtain ⟨_, _, _, hb⟩ := hs.at_ (by omega)
   exact hb.rg i hi
theorem lookup_got {bx ox bd od ca' ba oa cb : Nat} {A : Nat → Int} {bs os ls cs : Nat} {S : Nat → Int} {nn : Int} {K : Value → Mem → Prop} (hx : IxOK m bx ox bd od ca' ba oa cb n T A) (hs : Dt m (some ⟨bs, os, none⟩) ls cs S) (hnn : -9223372036854775808 ≤ nn)
  (hK : ∀ v m', Ext m m' → GotOK m' v (allP T S n ls) nn → K v m') : callV Tryz.prog w0 22 [.pointer (some ⟨bx, ox, none⟩), .slice (some ⟨bs, os, none⟩) ls cs, .int .i64 nn] m K := by
 refine lookup_22 hx hs hnn (fun h => hK _ _ (Ext.refl _) ⟨0, fun _ => 0, ?_, by simp [lst], by simp [lst], .inl ⟨rfl, rfl⟩⟩) fun h0 hne i k hik hp => ?_
 ·rcases h with h | h
  ·have : allP T S n ls = [] := by unfold allP; rw [if_pos h]
   rw [this]
   have := many_le 0 nn
   simpa using (Nat.le_zero.1 this).symm
  ·subst h
   unfold many
   simp
 ·obtain ⟨g1, g2, g3⟩ := got_of (m := m) (m' := m) (nn := nn) hx.sa h0 hik hp
  refine ⟨fun hz m5 e5 => hK _ _ e5 ⟨0, fun _ => 0, by rw [g1, hz], by simp [lst], by simp [lst], .inl ⟨rfl, rfl⟩⟩, fun hz B5 m5 hB5 e5 hr hv => ?_⟩
  exact hK _ _ e5 ⟨many k nn, _, g1.symm, g2, g3, .inr ⟨hz, B5, 0, _, rfl, fun q hq => (hv q hq).1, fun q hq => (hv q hq).2⟩⟩
theorem loaded_7 {bs os cap le ce ls cs : Nat} {se ss : Option Addr} {TE SW : Nat → Int} {nn : Int} {S L hd' s : List Int} {A : Nat → Nat} {ea ub : Addr} {K : Value → Mem → Prop} (hn : n ≤ 20000) (hby : By m bs os S.length (fun i => S.getD i 0)) (hcap : S.length ≤ cap)
  (he : Dt m se le ce TE) (hle : le ≤ 20000) (hw : Dt m ss ls cs SW) (hls : ls ≤ 1000000)
  (h4 : m.ob 4 0 = some (.iface 154 (.pointer (some ea)))) (h5 : m.ob 5 0 = some (.iface 154 (.pointer (some ub)))) (g0 : m.kd 0 0 = some .i64) (g1 : m.val 0 0 = 2147483647) (hf : FileOK L T n hd' s A) (hpre : S <+: L) (hnn : -9223372036854775808 ≤ nn)
  (bad : S.length < L.length → ∀ m', K (.tuple #[.slice none 0 0, .slice none 0 0, .int .i64 (0 : Int), .bool false]) m')
  (ok : S.length = L.length → ∀ b o c v m', Ext m m' → Dt m' (some ⟨b, o, none⟩) n c T → GotOK m' v (allP T SW n ls) nn → K (.tuple #[.slice (some ⟨b, o, none⟩) n c, v, .int .i64 (0 : Int), .bool true]) m') :
  callV Tryz.prog w0 7 [.slice (some ⟨bs, os, none⟩) S.length cap, .slice se le ce, .slice ss ls cs, .int .i64 nn] m K := by
 have hSL : S.length ≤ L.length := hpre.length_le
 have hLl := hf.len
 refine C_F7 ?_
 unfold M_F7
 rintro B1 hB1 m2 hm2
 have e2 : Ext m m2 := hm2 ▸ Ext.new m hB1 _ _ _
 have r2 : m2.ro B1 = false := by rw [hm2]; simp [Mem.new]
 clear hm2
 refine ap_new (Dt.of (hby.ext e2) hcap) r2 (by omega) fun bk ok_ ck m4 e4 hk => ?_
 have e04 := e2.trans e4
 refine C_F19 ?_
 unfold M_F19
 rintro B hB m6 hm6
 have e6 : Ext m4 m6 := hm6 ▸ Ext.newC m4 hB _
 have b0 : m6.ob B 0 = some (.slice (some ⟨bk, ok_, none⟩) S.length ck) := by rw [hm6]; simp [Mem.newC, Value.obj?]
 have b1 : m6.kd B 1 = some .i64 := by rw [hm6]; simp [Mem.newC, Value.kd?]
 have b2 : m6.kd B 2 = some .i8 := by rw [hm6]; simp [Mem.newC, Value.kd?]
 have bv : m6.val B 1 = 0 := by rw [hm6]; simp [Mem.newC, Value.num?]
 have br : m6.ro B = false := by rw [hm6]; simp [Mem.newC]
 clear hm6
 have hrd6 : RdAt m4 m6 B S := by
  refine ⟨e6, hB, br, b1, b2, ⟨bk, ok_, S.length, ck, 0, b0, bv, by omega, hk.le, by omega, rfl, fun i hi => ?_⟩, fun x hx => hf.rg x (hpre.subset hx)⟩
  obtain ⟨b', o', e', hb'⟩ := hk.at_ (by omega)
  cases e'
  rw [Nat.add_zero]
  exact ⟨hb'.kd i hi, hb'.val i hi⟩
 have e06 := e04.trans e6
 refine ⟨B, 0, rfl, exact_16 (he.ext e06) (by omega) fun Bd m14 hBd e14 hbyE hro14 => ⟨Bd, 0, le, le, rfl, ?_⟩⟩
 have e014 := e06.trans e14
 refine new_15 hbyE (Nat.le_refl _) (by omega) (e014.kd _ _ _ g0) ((e014.val _ _ _ g0).trans g1) fun bx ba A' m43 hbx hba hxa rx ra e43 hx => ⟨bx, 0, rfl, ?_⟩
 have e643 := e14.trans e43
 have hrd := hrd6.grow e643
 have z14 : Ext m4 m14 := e6.trans e14
 have ez := z14.trans e43
 have e043 := e014.trans e43
 have k14 := e14.kd _ _ _ b1
 refine read_20 (z := m4) (T := T) (A := A) (n := n) (hd := hd') (s := s) (S := S) (e := le) (e04.ob _ _ _ h4) (e04.ob _ _ _ h5) (e04.kd _ _ _ g0) ((e04.val _ _ _ g0).trans g1) (by omega) (by omega) hf.hA hf.sa hf.hT hf.hI hf.hs (by rw [← hf.eq]; exact hpre) hrd hx.f0 hx.f1 hx.f2 rx
  (fun i hi => by have := hx.by_.kd i hi; rwa [Nat.zero_add] at this) (e43.ro _ hro14) (fun i hi => by have := hx.ak i hi; rwa [Nat.zero_add] at this) ra (z14.fresh hbx) (e6.fresh hBd) (z14.fresh hba) hxa (kd_ne k14 hbx).symm (kd_ne b1 hBd).symm (kd_ne k14 hba).symm (fun h0 => kd_ne (hbyE.kd 0 h0) hba)
  ⟨fun hl m47 bd' cd' ba' ca' hx' hrd' => ⟨rfl, cond_of (fun hb => by cases hb) (fun _ => ?_)⟩, fun hl m47 v i1 i2 => ⟨i1, cond_of (fun _ => bad (by rw [hf.eq]; exact hl) m47) (fun hb => by rw [i2] at hb; cases hb)⟩⟩
 rintro B48 hB48 m49 hm49
 have e49 : Ext m47 m49 := hm49 ▸ Ext.new m47 hB48 _ _ _
 have r49 : m49.ro B48 = false := by rw [hm49]; simp [Mem.new]
 clear hm49
 have hx49 := hx'.ext e49
 refine C_F21 ?_
 unfold M_F21
 refine ⟨bd', 0, n, cd', hx49.f0, bd', 0, n, cd', rfl, ap_new (Dt.of hx49.by_ hx49.hcd) r49 (by omega) fun b o c m57 e57 hb57 => ?_⟩
 rintro B58 hB58 m59 hm59
 have e59 : Ext m57 m59 := hm59 ▸ Ext.new m57 hB58 _ _ _
 have r59 : m59.ro B58 = false := by rw [hm59]; simp [Mem.new]
 clear hm59
 have e4759 := (e49.trans e57).trans e59
 have em47 := e04.trans hrd'.ext
 refine ap_new (hw.ext (em47.trans e4759)) r59 (by omega) fun bw ow cw m61 e61 hw61 => ?_
 refine lookup_got (hx'.ext (e4759.trans e61)) hw61 hnn fun v62 m63 e63 hg => ?_
 have e4763 := (e4759.trans e61).trans e63
 obtain ⟨g, o', len, c', r, a1, a2, a3, a4, a5, a6, a7⟩ := (hrd'.grow e4763).ob
 refine C_F23 ?_
 unfold M_F23
 refine ⟨g, o', len, c', a1, e4763.kd _ _ _ hrd'.ko, fun z hz => ?_⟩
 have hz0 : (len : Int) - z = 0 := by
  rw [← hz]
  show (len : Int) - m63.val B 1 = 0
  rw [a2]
  simp at a6
  omega
 rw [hz0]
 exact ⟨inR_i64 (by omega) (by omega), _, rfl, ok (by rw [hf.eq]; exact hl) b o c v62 m63 (em47.trans e4763) (hb57.ext ((e59.trans e61).trans e63)) hg⟩
theorem loaded_7n {bs os cap : Nat} {S L hd' s : List Int} {A : Nat → Nat} {ea ub : Addr} {K : Value → Mem → Prop} (hn : n ≤ 20000) (hby : By m bs os S.length (fun i => S.getD i 0)) (hcap : S.length ≤ cap)
  (h4 : m.ob 4 0 = some (.iface 154 (.pointer (some ea)))) (h5 : m.ob 5 0 = some (.iface 154 (.pointer (some ub)))) (g0 : m.kd 0 0 = some .i64) (g1 : m.val 0 0 = 2147483647) (hf : FileOK L T n hd' s A) (hpre : S <+: L) (hlt : S.length < L.length)
  (bad : ∀ m', K (.tuple #[.slice none 0 0, .slice none 0 0, .int .i64 (0 : Int), .bool false]) m') :
  callV Tryz.prog w0 7 [.slice (some ⟨bs, os, none⟩) S.length cap, .slice none 0 0, .slice none 0 0, .int .i64 (-1 : Int)] m K :=
 loaded_7 (TE := fun _ => 0) (SW := fun _ => 0) hn hby hcap ⟨fun h => by omega, fun _ => ⟨rfl, rfl⟩, Nat.le_refl _⟩ (by omega) ⟨fun h => by omega, fun _ => ⟨rfl, rfl⟩, Nat.le_refl _⟩ (by omega) h4 h5 g0 g1 hf hpre (by omega) (fun _ m' => bad m') (fun h => by omega)
theorem fnCut_3 {nn : Int} {ea ub : Addr} {K : Value → Mem → Prop} (hd : Dt m sd n cd T) (hnn : nn ≤ 9223372036854775807) (h4 : m.ob 4 0 = some (.iface 154 (.pointer (some ea)))) (h5 : m.ob 5 0 = some (.iface 154 (.pointer (some ub))))
  (g0 : m.kd 0 0 = some .i64) (g1 : m.val 0 0 = 2147483647) (hK : ∀ m', K (.bool true) m') : callV Tryz.prog w0 3 [.slice sd n cd, .int .i64 nn] m K := by
 refine C_F3 ?_
 unfold M_F3
 refine cond_of (fun _ => hK _) fun _ => cond_of (fun _ => hK _) fun h1 => cond_of (fun _ => hK _) fun h2 => ?_
 have h1 := of_decide_eq_false h1
 have h2 := of_decide_eq_false h2
 refine saved_6 hd (by omega) g0 g1 fun b c L hd' s A m' e hf hby hLc hc => ⟨_, _, _, _, _, rfl, cond_of (fun hb => by cases hb) (fun _ => cond_of (fun hb => ?_) (fun _ => ?_))⟩
 ·have hz : (L.length : Int) = 0 := by simpa using hb
  have := hf.eq
  have := congrArg List.length this
  simp only [List.length_append, hf.hI.len] at this
  omega
 have hpos : 0 < L.length := by
  have := congrArg List.length hf.eq
  simp only [List.length_append, hf.hI.len] at this
  omega
 have hm0 := Int.emod_nonneg nn (show (L.length : Int) ≠ 0 by omega)
 have hm1 := Int.emod_lt_of_pos nn (show 0 < (L.length : Int) by omega)
 obtain ⟨q, hq⟩ : ∃ q : Nat, nn % (L.length : Int) = q := ⟨(nn % (L.length : Int)).toNat, by omega⟩
 rw [hq] at hm0 hm1 ⊢
 refine ⟨by omega, by omega, by omega, by omega, ?_⟩
 rw [Int.toNat_natCast]
 have hlen : (L.take q).length = q := by rw [List.length_take]; omega
 have := loaded_7n (T := T) (n := n) (w0 := w0) (m := m') (S := L.take q) (L := L) (bs := b) (os := 0) (cap := c) (K := fun v12 _ => ∃ (s47 : Option Addr) (l48 c49 : Nat) (s50 : Option Addr) (l51 c52 : Nat) (z53 : Int) (z54 : Bool), v12 = (.tuple #[(.slice s47 l48 c49), (.slice s50 l51 c52), (.int .i64 z53), (.bool z54)]) ∧ z54 = false)
  (by omega) ⟨fun i hi => hby.kd i (by omega), fun i hi => ?_, fun i hi => ?_⟩ (by omega) (e.ob _ _ _ h4) (e.ob _ _ _ h5) (e.kd _ _ _ g0) ((e.val _ _ _ g0).trans g1) hf (List.take_prefix _ _) (by omega) (fun _ => ⟨_, _, _, _, _, _, _, _, rfl, rfl⟩)
 ·rw [hlen] at this
  refine this.mono fun v m2 ⟨a1, a2, a3, a4, a5, a6, a7, a8, h1, h2⟩ => ⟨a1, a2, a3, a4, a5, a6, a7, a8, h1, ?_⟩
  subst h2
  exact hK _
 ·rw [hlen] at hi
  rw [hby.val i (by omega), List.getD_eq_getElem?_getD, List.getD_eq_getElem?_getD, List.getElem?_take, if_pos hi]
 ·rw [hlen] at hi
  have := hby.rg i (by omega)
  rw [List.getD_eq_getElem?_getD, List.getElem?_take, if_pos hi, ← List.getD_eq_getElem?_getD]
  exact this
end
end Go.Proofs.YtdhifgedhaapjaaGreatDoor
namespace Go.Proofs.YtdhifgedhaapjaaGreatDoor
open Go Sa
structure DataOK (m : Mem) (sd : Option Addr) (n c : Nat) (T : Nat → Int) : Prop where
 row : rowOK m .u8 sd n c
 v : ∀ i, i < n → elemV m sd i = T i
 r : ∀ i, i < n → 0 ≤ T i ∧ T i < 256
 nc : n ≤ c
theorem DataOK.keep {m m' : Mem} {sd : Option Addr} {n c : Nat} {T : Nat → Int} (h : DataOK m sd n c T) (hs : SameK m m') (ho : Out m m' (fun x _ => m.fresh x)) : DataOK m' sd n c T :=
 ⟨h.row.keep hs, fun i hi => (h.row.same ho (fun h => h) hi).trans (h.v i hi), h.r, h.nc⟩
def L0_F12z : LS := ⟨[(13, .iv .i64)], [(14, .iv .i64)], [.exit 0]⟩
def I0_F12z : LI := fun ps ls _ => ps = [.iv .i64 0] ∧ ls = [.iv .i64 0]
def X0_F12z (m : Mem) : LX := fun _ _ _ m' => m' = m
def I1_F12z (m : Mem) : LI := fun ps ls m' => (ps = [.iv .i64 0] ∧ ls = [.iv .i64 0]) ∧ m' = m
def mu_F12z : LM := fun _ _ => 0
def lv_F12z (m0 : Mem) : Nat → Env → Mem → Post → Prop := fun i s m Q => match i with | 0 => lv1 L0_F12z (I1_F12z m0) (X0_F12z m0) s m Q | _ => False
theorem R0_F12z_eq (w0 : World) (m0 m : Mem) (k : Nat) (g : Env) :
  vc Tryz.prog w0 TryzTt lvF jtF (roundOf (bodyOf Tryz.f12) 0) 0 (roundV (QL L0_F12z (X0_F12z m0) [.iv .i64 0]) (KL L0_F12z (I1_F12z m0) mu_F12z [.iv .i64 0] k)) (chainL (chainL g L0_F12z.ps [.iv .i64 0]) L0_F12z.ls [.iv .i64 0]) m =
  XF1 L0_F12z (X0_F12z m0) 0 [.iv .i64 0] [.int .i64 0] m := by kernel_rfl
theorem S0_F12z {w0 : World} (m0 : Mem) : ∀ s m Q, (lv_F12z m0) 0 s m Q → Sat Tryz.prog w0 46 (.loop (roundOf (bodyOf Tryz.f12) 0)) Q s m :=
 loopG TryzMixed TryzTt_ok (lv := lvF) (jt := jtF) (by kernel_rfl) (loopsOK_of _ 0 (loops0 (by kernel_rfl)) (scopes0 (by kernel_rfl))) L0_F12z (mu := mu_F12z) fun z13 z14 k m hI hm g => by
  obtain ⟨⟨h1, h2⟩, h3⟩ := hI
  cases h1
  cases h2
  exact (R0_F12z_eq w0 m0 m k g).mpr (XF1_mk h3)
theorem M_F12z_eq (w0 : World) (sd : Option Addr) (cd : Nat) (m : Mem) (K : Value → Mem → Prop) :
  vc Tryz.prog w0 TryzTt (lv_F12z m) jtF (bodyOf Tryz.f12) 0 (postV TryzTt Tryz.f12.results.toList K) (env0 [.slice sd 0 cd, .slice none 0 0]) m =
  (I1_F12z m [.iv .i64 0] [.iv .i64 0] m ∧ ∀ (z : Int) (m' : Mem), X0_F12z m 0 [.iv .i64 0] [.iv .i64 z] m' → ∀ _ : Env, K (.bool true) m') := by kernel_rfl
theorem sorted0 {w0 : World} {m : Mem} {sd : Option Addr} {cd : Nat} {K : Value → Mem → Prop} (hK : K (.bool true) m) : callV Tryz.prog w0 12 [.slice sd 0 cd, .slice none 0 0] m K :=
 callV_of TryzMixed TryzTt_ok (lv := lv_F12z m) (jt := jtF) (c := (bodyOf Tryz.f12)) Tryz.func12 (by kernel_rfl) (by kernel_rfl) (Nat.le_of_ble_eq_true (by kernel_rfl)) (by kernel_rfl) (loopsOK_of _ 0 (loops1 (by kernel_rfl) (S0_F12z m)) (scopes0 (by kernel_rfl)))
  ((M_F12z_eq w0 sd cd m K).mpr ⟨⟨⟨rfl, rfl⟩, rfl⟩, fun z m' h _ => by cases (show m' = m from h); exact hK⟩)
theorem sorted1 {w0 : World} {m : Mem} {T : Nat → Int} {n bd od cd bi oi ci : Nat} {A : Nat → Int} {K : Value → Mem → Prop} (hn : n ≤ 1000000) (hn1 : 1 ≤ n) (hd : DataOK m (some ⟨bd, od, none⟩) n cd T)
  (hr : ∀ q, q < n → m.kd bi (oi + q) = some .i64) (hv : ∀ q, q < n → m.val bi (oi + q) = A q) (hs : SA T n A) (hcd : n ≤ cd) (hK : K (.bool true) m) :
  callV Tryz.prog w0 12 [.slice (some ⟨bd, od, none⟩) n cd, .slice (some ⟨bi, oi, none⟩) n ci] m K := by
 have hdk : ∀ q, q < n → m.kd bd (od + q) = some .u8 := fun q hq => (hd.row q hq).2
 have hdv : ∀ q, q < n → m.val bd (od + q) = T q := hd.v
 let I : LI := fun ps ls m' => match ps, ls with
   | [.sl b o l c, .sl b' o' l' c', .sl b2 o2 l2 c2, .iv _ s13], [.bv _, .iv _ s14] => (bd = b ∧ od = o ∧ n = l ∧ cd = c ∧ bi = b' ∧ oi = o' ∧ n = l' ∧ bi = b2 ∧ oi = o2 ∧ n = l2) ∧ ∃ t : Nat, s13 = n ∧ s14 = t ∧ t ≤ n ∧ m' = m
   | _, _ => False
 let mu : LM := fun _ ls => match ls with | [_, .iv _ i] => (n - i).toNat | _ => 0
 refine C_F12 (I0 := I) (X0 := fun e _ _ m' => e = 0 ∧ m' = m) (mu0 := mu) ?_ ?_
 ·intro bd' od' ld' cd' bi' oi' li' ci' b12 o12 l12 c12 s13 s4 s14 k m' hI hmu
  obtain ⟨⟨rfl, rfl, rfl, rfl, rfl, rfl, rfl, rfl, rfl, rfl⟩, t, rfl, rfl, ht, rfl⟩ := (show (_ ∧ _ ∧ _ ∧ _ ∧ _ ∧ _ ∧ _ ∧ _ ∧ _ ∧ _) ∧ ∃ t : Nat, _ ∧ _ ∧ _ ∧ _ from hI)
  clear hI
  have hmu' : ((n : Int) - t).toNat < k + 1 := hmu
  have leaf : t < n → KF1 L0_F12 I mu (P0_F12 bd od n cd bi oi n ci' bi oi n c12 n) k [.bool s4, .int .i64 ((t : Int) + 1)] m' := fun h1 =>
   KF1_mk (And.intro (And.intro ⟨rfl, rfl, rfl, rfl, rfl, rfl, rfl, rfl, rfl, rfl⟩ ⟨t + 1, rfl, by omega, h1, rfl⟩) (show ((n : Int) - ((t : Int) + 1)).toNat < k from by omega))
  clear_value I mu
  unfold R0_F12
  refine cond_of (fun hb => ?_) (fun hb => ?_)
  ·have htn : t < n := by have := of_decide_eq_true hb; omega
   rw [Int.toNat_natCast]
   obtain ⟨j, hj, hjn⟩ := hs.a t htn
   have hi2 : inR .i64 ((t : Int) + 1) := inR_i64 (by omega) (by omega)
   have hi3 : inR .i64 ((t : Int) - 1) := inR_i64 (by omega) (by omega)
   refine ⟨by omega, by omega, hr t htn, fun z hz => ?_⟩
   obtain rfl : z = (j : Int) := hz.symm.trans ((hv t htn).trans hj)
   refine cond_of (fun hb1 => ?_) (fun _ => ?_)
   ·have := of_decide_eq_true hb1; omega
   refine cond_of (fun hb1 => ?_) (fun _ => ?_)
   ·have := of_decide_eq_true hb1; omega
   refine cond_of (fun hb1 => ?_) (fun _ => ?_)
   ·have ht0 := of_decide_eq_true hb1
    obtain ⟨u, rfl⟩ : ∃ u, t = u + 1 := ⟨t - 1, by omega⟩
    have eu : ((u + 1 : Nat) : Int) - 1 = (u : Int) := by omega
    rw [eu] at hi3 ⊢
    rw [Int.toNat_natCast]
    obtain ⟨i, hi, hin⟩ := hs.a u (by omega)
    refine ⟨hi3, by omega, by omega, hr u (by omega), fun z2 hz2 => ?_⟩
    obtain rfl : z2 = (i : Int) := hz2.symm.trans ((hv u (by omega)).trans hi)
    rw [Int.toNat_natCast, Int.toNat_natCast]
    refine ⟨by omega, by omega, by omega, by omega, by omega, by omega, ?_⟩
    have hrg : ∀ i, i ≤ n → ∀ x ∈ sufl T n i, 0 ≤ x ∧ x < 256 := fun i _ x hx => by
     unfold sufl at hx
     obtain ⟨q, hq, rfl⟩ := List.mem_map.1 hx
     rw [List.mem_range'_1] at hq
     exact hd.r q (by omega)
    have hby : By m' bd od n T := ⟨hdk, hdv, hd.r⟩
    have hq := compare_q (c := cd - i) (d := cd - j) (hby.drop (Nat.le_of_lt hin)) (hby.drop (Nat.le_of_lt hjn))
    rw [lst_sufl, lst_sufl] at hq
    have hlt := (cmp_lt_iff (hrg i (by omega)) (hrg j (by omega))).2 (hs.e u (u + 1) i j (by omega) htn hi hj)
    refine ⟨_, hq, ?_⟩
    refine cond_of (fun hb2 => ?_) (fun _ => ⟨hi2, leaf htn⟩)
    have := of_decide_eq_true hb2; omega
   ·exact ⟨hi2, leaf htn⟩
  ·exact XF1_mk ⟨rfl, rfl⟩
 ·unfold M_F12
  refine cond_of (fun hb => ?_) (fun _ => ?_)
  ·simp at hb
  ·refine And.intro (And.intro ⟨rfl, rfl, rfl, rfl, rfl, rfl, rfl, rfl, rfl, rfl⟩ ⟨0, rfl, rfl, Nat.zero_le _, rfl⟩) (And.intro (fun z1 z2 m3 hX _ => ?_) (fun z4 z5 m6 hX _ => ?_))
   ·cases hX.2; exact hK
   ·exact absurd hX.1 (by decide)
theorem sorted_ints {w0 : World} {m0 m : Mem} {T : Nat → Int} {n cd : Nat} {sd : Option Addr} {A : Nat → Int} {v : Value} {K : Value → Mem → Prop} (hn : n ≤ 1000000) (hd : DataOK m sd n cd T)
  (hi : IntsOK m0 m v n A) (hs : SA T n A) (hK : K (.bool true) m) : callV Tryz.prog w0 12 [.slice sd n cd, v] m K := by
 obtain ⟨sb, c, rfl, hnc, hsb⟩ := hi
 rcases Nat.eq_zero_or_pos n with h0 | h0
 ·subst h0
  cases sb with
  | none => obtain ⟨_, rfl⟩ := hsb; exact sorted0 hK
  | some a =>
   obtain ⟨b, o, pth⟩ := a
   cases pth with
   | some _ => exact hsb.elim
   | none => exact absurd hsb.1 (by omega)
 ·cases sb with
  | none => exact absurd hsb.1 (by omega)
  | some a =>
   obtain ⟨b, o, pth⟩ := a
   cases pth with
   | some _ => exact hsb.elim
   | none =>
    obtain ⟨_, _, _, h3, h4⟩ := hsb
    have hrow := hd.row
    cases sd with
    | none => exact absurd hrow.1 (by omega)
    | some d =>
     obtain ⟨bd, od, pth⟩ := d
     obtain rfl : pth = none := (hrow 0 h0).1
     exact sorted1 hn h0 hd (fun q hq => h3 q (by omega)) h4 hs hd.nc hK
end Go.Proofs.YtdhifgedhaapjaaGreatDoor
set_option maxRecDepth 100000
namespace Go.Proofs.YtdhifgedhaapjaaGreatDoor
open Go Sa
section
variable {sd : Option Addr} {n cd : Nat} {T : Nat → Int} {w0 : World} {m : Mem}
theorem bytes_11 {K : Value → Mem → Prop} (hd : Dt m sd n cd T) (hn : n ≤ 1000000) (g0 : m.kd 0 0 = some .i64) (g1 : m.val 0 0 = 2147483647)
  (hK : ∀ b o c m', Ext m m' → Dt m' (some ⟨b, o, none⟩) n c T → K (.slice (some ⟨b, o, none⟩) n c) m') : callV Tryz.prog w0 11 [.slice sd n cd] m K := by
 refine C_F11 ?_
 unfold M_F11
 rintro B1 hB1 m2 hm2
 have e2 : Ext m m2 := hm2 ▸ Ext.new m hB1 _ _ _
 have r2 : m2.ro B1 = false := by rw [hm2]; simp [Mem.new]
 clear hm2
 refine exact_16 (hd.ext e2) hn fun Bd m4 hBd e4 hby _ => ⟨Bd, 0, n, n, rfl, ?_⟩
 have e24 := e2.trans e4
 refine new_15 hby (Nat.le_refl _) hn (e24.kd _ _ _ g0) ((e24.val _ _ _ g0).trans g1) fun bx ba A m14 hbx hba hxa rx ra e14 hx => ⟨bx, 0, rfl, ?_⟩
 refine C_F21 ?_
 unfold M_F21
 refine ⟨Bd, 0, n, n, hx.f0, Bd, 0, n, n, rfl, ap_new (Dt.of hx.by_ (Nat.le_refl _)) (e14.ro _ (e4.ro _ r2)) (by omega) fun b o c m' e hb => hK b o c m' ((e24.trans e14).trans e) hb⟩
theorem fnWhole_5 {se ss : Option Addr} {le ce ls cs : Nat} {TE S : Nat → Int} {nn : Int} {ea ub : Addr} {K : Value → Mem → Prop} (hd : Dt m sd n cd T) (he : Dt m se le ce TE) (hs : Dt m ss ls cs S) (hnn : -9223372036854775808 ≤ nn)
  (h4 : m.ob 4 0 = some (.iface 154 (.pointer (some ea)))) (h5 : m.ob 5 0 = some (.iface 154 (.pointer (some ub)))) (g0 : m.kd 0 0 = some .i64) (g1 : m.val 0 0 = 2147483647) (hK : ∀ m', K (.bool true) m') :
  callV Tryz.prog w0 5 [.slice sd n cd, .slice se le ce, .slice ss ls cs, .int .i64 nn] m K := by
 refine C_F5 ?_
 unfold M_F5
 refine cond_of (fun _ => hK _) fun _ => cond_of (fun _ => hK _) fun _ => cond_of (fun _ => hK _) fun _ => cond_of (fun _ => hK _) fun h1 => cond_of (fun _ => hK _) fun h2 => cond_of (fun _ => hK _) fun h3 => ?_
 have h1 := of_decide_eq_false h1
 have h2 := of_decide_eq_false h2
 have h3 := of_decide_eq_false h3
 have rT : ∀ i, i < n → 0 ≤ T i ∧ T i < 256 := fun i hi => by
  obtain ⟨_, _, _, h⟩ := hd.at_ (by omega)
  exact h.rg i hi
 refine saved_6 hd (by omega) g0 g1 fun b c L hd' s A m2 e2 hf hby hLc hc => ⟨b, 0, L.length, c, true, rfl, ?_⟩
 refine loaded_7 (T := T) (n := n) (S := L) (L := L) (TE := TE) (SW := S) (by omega) hby hLc (he.ext e2) (by omega) (hs.ext e2) (by omega) (e2.ob _ _ _ h4) (e2.ob _ _ _ h5) (e2.kd _ _ _ g0) ((e2.val _ _ _ g0).trans g1) hf (List.prefix_refl _) hnn (fun h => by omega) fun _ b' o' c' v m9 e9 hb hg => ?_
 have e := e2.trans e9
 have hv : ∃ (s13 : Option Addr) (l14 c99 : Nat), v = .slice s13 l14 c99 := by
  obtain ⟨k, Lk, _, _, _, ⟨_, rfl⟩ | ⟨_, bb, oo, cc, rfl, _⟩⟩ := hg
  ·exact ⟨_, _, _, rfl⟩
  ·exact ⟨_, _, _, rfl⟩
 obtain ⟨s13, l14, c99, rfl⟩ := hv
 refine ⟨_, _, _, _, _, _, _, _, rfl, cond_of (fun _ => cond_of (fun _ => cond_of (fun _ => ?_) (fun hb => by simp at hb)) (fun hb => by cases hb)) (fun hb => by cases hb)⟩
 refine callV_of_quiet (equal_q hb (hd.ext e)) ⟨_, rfl, cond_of (fun _ => ?_) (fun hb => by simp at hb)⟩
 refine bytes_11 (hd.ext e) (by omega) (e.kd _ _ _ g0) ((e.val _ _ _ g0).trans g1) fun b2 o2 c2 m3 e3 hb2 => ⟨_, _, _, _, rfl, ?_⟩
 have e03 := e.trans e3
 refine callV_of_quiet (equal_q hb2 (hd.ext e03)) ⟨_, rfl, cond_of (fun _ => ?_) (fun hb => by simp at hb)⟩
 have hg3 : GotOK m3 (.slice s13 l14 c99) (allP T S n ls) nn := by
  obtain ⟨k, Lk, p1, p2, p3, p4⟩ := hg
  refine ⟨k, Lk, p1, p2, p3, ?_⟩
  rcases p4 with p4 | ⟨p4, bb, oo, cc, p5, p6⟩
  ·exact .inl p4
  ·exact .inr ⟨p4, bb, oo, cc, p5, p6.ext e3⟩
 refine found_8 (hd.ext e03) (hs.ext e03) (by omega) (by omega) hg3 fun m4 e4 => ⟨true, rfl, ?_⟩
 have e04 := e03.trans e4
 refine lookup_9 (hd.ext e04) (hs.ext e04) (by omega) (by omega) hnn (e04.kd _ _ _ g0) ((e04.val _ _ _ g0).trans g1) fun v5 m5 e5 hg5 => ?_
 have e05 := e04.trans e5
 refine found_8 (hd.ext e05) (hs.ext e05) (by omega) (by omega) hg5 fun m6 e6 => ⟨true, rfl, ?_⟩
 have e06 := e05.trans e6
 have hd6 := hd.ext e06
 refine arr_14 (by omega) hd6.row (fun i hi => hd6.elem hi) rT fun B m7 hB hs7 ho7 hrd hsa => ⟨_, _, _, _, rfl, ?_⟩
 have e7 := Ext.of hs7 ho7
 refine ints_13 (A := fun x => m7.val B (0 + x)) (by omega) hrd (fun _ _ => rfl) (fun i hi => ?_) fun v8 m8 hs8 ho8 hi8 => ?_
 ·obtain ⟨j, p1, p2⟩ := hsa.a i hi
  have p3 : m7.val B (0 + i) = (j : Int) := p1
  show 0 ≤ m7.val B (0 + i) ∧ m7.val B (0 + i) ≤ 1000000
  omega
 ·have hd8 := (hd6.ext e7).ext (Ext.of hs8 ho8)
  exact sorted_ints (by omega) ⟨hd8.row, fun i hi => hd8.elem hi, rT, hd8.le⟩ hi8 hsa ⟨true, rfl, hK _⟩
end
end Go.Proofs.YtdhifgedhaapjaaGreatDoor
namespace Go.Proofs.YtdhifgedhaapjaaGreatDoor
open Go Sa Go.ChangeShapes Go.WideShapes Go.ChangeAt Go.RowKit
theorem own : ownKnob Tryz.prog.godebug = none := by kernel_rfl
theorem laidOut : laidOutB Tryz.prog = true := by kernel_rfl
theorem cells5 : Tryz.prog.cellsOf 5 = 1 := by kernel_rfl
theorem gMax : Tryz.prog.globalNamed "loop.example/pub-suffixroads/pub/suffixarray.maxData32" = some 0 := by kernel_rfl
theorem tMax : (Tryz.prog.globals[0]?).map (·.type) = some 3 := by kernel_rfl
def memW (W : World) : Mem where
 kd b o := Value.kd? (W.cell? ⟨b, o, none⟩)
 ro _ := true
 val b o := Value.num? (W.cell? ⟨b, o, none⟩)
 ob b o := Value.obj? (W.cell? ⟨b, o, none⟩)
theorem memW_holds (W : World) : Holds W W (memW W) := by
 refine ⟨fun b o k hk => ?_, fun b o k _ hr => absurd hr (by simp [memW]), fun b o v hv => ?_, fun b o v _ hr => absurd hr (by simp [memW]), fun b o v hv => ?_, rfl, rfl, rfl, Nat.le_refl _, fun _ _ => rfl, fun _ _ => .inl rfl⟩
 ·simp only [memW] at hk ⊢
  generalize W.cell? ⟨b, o, none⟩ = c at *
  match c, hk with
  | some (.int k' z), hk => simp only [Value.kd?] at hk; cases hk; rfl
 ·simp only [memW] at hv
  generalize W.cell? ⟨b, o, none⟩ = c at *
  match c, hv with
  | some v', hv =>
   cases v' <;> simp only [Value.obj?] at hv <;> first | (cases hv; done) | exact hv
 ·simp only [memW] at hv ⊢
  generalize W.cell? ⟨b, o, none⟩ = c at *
  match c, hv with
  | some v', hv =>
   cases v' <;> simp only [Value.obj?] at hv <;> first | (cases hv; done) | rfl
theorem spot_none {w : World} {a : Addr} {v : Value} (h : w.cell? a = some v) : a.spot = none := by
 unfold World.cell? at h
 split at h
 ·cases hs : a.spot with
  | none => rfl
  | some x => rw [hs] at h; simp at h
 ·cases h
theorem dt_of {W : World} {a : Addr} {len cap : Nat} {zs : List Int} (hz : len ≤ zs.length) (hc : ∀ i, i < zs.length → W.cell? (a.add i) = some (.int .u8 (zs.getD i 0))) (hw : ∀ n ∈ zs, (Lit.int .u8 n).wf = true) (hcap : len ≤ cap) :
  Dt (memW W) (some a) len cap (fun i => zs.getD i 0) := by
 refine ⟨fun hn => ?_, fun e => (by cases e), hcap⟩
 have h0 := hc 0 (by omega)
 have hs : a.spot = none := spot_none (by simpa [Addr.add] using h0)
 obtain ⟨b, o, sp⟩ := a
 simp only at hs
 subst hs
 refine ⟨b, o, rfl, fun i hi => ?_, fun i hi => ?_, fun i hi => ?_⟩
 ·have := hc i (by omega)
  rw [add_ofNat] at this
  simp only [memW, this, Value.kd?]
 ·have := hc i (by omega)
  rw [add_ofNat] at this
  simp only [memW, this, Value.num?]
 ·have hm : zs.getD i 0 ∈ zs := by
   rw [List.getD_eq_getElem?_getD, List.getElem?_eq_getElem (by omega)]
   simp
  have h := hw _ hm
  show 0 ≤ zs.getD i 0 ∧ zs.getD i 0 < 256
  generalize zs.getD i 0 = y at *
  simp [Lit.wf, IntKind.min, IntKind.max, IntKind.signed, IntKind.bits] at h
  omega
theorem dt_nil (W : World) : Dt (memW W) none 0 0 (fun _ => 0) := ⟨fun h => by omega, fun _ => ⟨rfl, rfl⟩, Nat.le_refl _⟩
theorem dt_arg {H : Type} {enc : TypeId × Value → H} {W : World} {base : Nat} {sp : Nat → Bool} {held : Bool} {a0 : Option Addr} {len0 cap0 : Nat} {d0 : DataW H} {p : List MemPlace}
  (h0 : DataW.Trod enc Tryz.prog W base sp held 22 (.slice a0 len0 cap0) d0 p) : ∃ T, Dt (memW W) a0 len0 cap0 T := by
 obtain ⟨fuel, hf⟩ := h0
 rcases open_ints Tryz.underlying22 Tryz.underlying5 cells5 hf with ⟨hcs, hx⟩ | ⟨a, len', cap', zs, hcs, _, hl, hm, hz, hx, hcell, hwz⟩
 ·simp [Value.cells] at hcs
  obtain ⟨rfl, rfl, rfl⟩ := hcs
  exact ⟨_, dt_nil W⟩
 ·simp [Value.cells] at hcs
  obtain ⟨rfl, rfl, rfl⟩ := hcs
  exact ⟨_, dt_of (by split at hz <;> omega) hcell hwz hl⟩
theorem maxD_of {W : World} (h : laidMetH Tryz.prog [("loop.example/pub-suffixroads/pub/suffixarray.maxData32", Rows.laid_loop_example_pub_suffixroads_pub_suffixarray_maxData32)] W) : W.cell? ⟨0, 0, none⟩ = some (.int .i64 2147483647) := by
 rw [MakeChecks.laidMetH_plain _ _ _ (by kernel_rfl)] at h
 obtain ⟨ps, ⟨g0, t0, cs0, f0, p0, q0, hg0, ht0, hv0, hd0, _⟩, _⟩ := h
 obtain rfl := Option.some.inj (gMax.symm.trans hg0)
 obtain rfl := Option.some.inj (tMax.symm.trans ht0)
 obtain ⟨k, e1, e2, _⟩ := DataW.trod_int Tryz.underlying3 hd0
 have hk : k = 2147483647 := by
  have h2 := e2.symm
  simp [Rows.laid_loop_example_pub_suffixroads_pub_suffixarray_maxData32] at h2
  exact h2.1
 subst hk
 have := World.var?_cell hg0 hv0 0
 obtain ⟨l⟩ := cs0
 simp only at e1
 subst e1
 simpa using this
end Go.Proofs.YtdhifgedhaapjaaGreatDoor
namespace Go.Proofs.YtdhifgedhaapjaaGreatDoor
open Go Sa Go.ChangeShapes Go.WideShapes Go.ChangeAt Go.RowKit
theorem gEOF : Tryz.prog.globalNamed "io.EOF" = some 4 := by kernel_rfl
theorem gUEOF : Tryz.prog.globalNamed "io.ErrUnexpectedEOF" = some 5 := by kernel_rfl
theorem tEOF : (Tryz.prog.globals[4]?).map (·.type) = some 44 := by kernel_rfl
theorem tUEOF : (Tryz.prog.globals[5]?).map (·.type) = some 44 := by kernel_rfl
theorem star : "*" ++ "errors.errorString" = "*errors.errorString" := by decide
theorem row154 (u : TypeId) (h : Tryz.prog.typeName? 3 u = some "*errors.errorString") : u = 154 :=
 typeName_ptr_named (nm := "errors.errorString") (by rw [star]; kernel_rfl) (by kernel_rfl) (by decide) u (by rw [star]; exact h)
theorem five_of {W : World} (h : laidMetH Tryz.prog Rows.fnCutRow.laid W) : W.cell? ⟨0, 0, none⟩ = some (.int .i64 2147483647) ∧ (∃ a, W.cell? ⟨4, 0, none⟩ = some (.iface 154 (.pointer (some a)))) ∧ ∃ a, W.cell? ⟨5, 0, none⟩ = some (.iface 154 (.pointer (some a))) := by
 rw [MakeChecks.laidMetH_plain _ _ _ (by kernel_rfl)] at h
 have h1 := laidMet.tail h
 have h2 := laidMet.tail h1
 have h3 := laidMet.tail h2
 obtain ⟨a1, _, v1, _⟩ := laid_sentinel h1 gEOF tEOF Tryz.underlying44 row154 Tryz.underlying154 Tryz.underlying174 rfl rfl Tryz.underlying9 (by kernel_rfl) (by kernel_rfl)
 obtain ⟨a2, _, v2, _⟩ := laid_sentinel h2 gUEOF tUEOF Tryz.underlying44 row154 Tryz.underlying154 Tryz.underlying174 rfl rfl Tryz.underlying9 (by kernel_rfl) (by kernel_rfl)
 refine ⟨?_, ⟨a1, by simpa using World.var?_cell gEOF v1 0⟩, ⟨a2, by simpa using World.var?_cell gUEOF v2 0⟩⟩
 obtain ⟨ps, ⟨g0, t0, cs0, f0, p0, q0, hg0, ht0, hv0, hd0, _⟩, _⟩ := h3
 obtain rfl := Option.some.inj (gMax.symm.trans hg0)
 obtain rfl := Option.some.inj (tMax.symm.trans ht0)
 obtain ⟨k, e1, e2, _⟩ := DataW.trod_int Tryz.underlying3 hd0
 have hk : k = 2147483647 := by
  have h2 := e2.symm
  simp [Rows.laid_loop_example_pub_suffixroads_pub_suffixarray_maxData32] at h2
  exact h2.1
 subst hk
 have := World.var?_cell hg0 hv0 0
 obtain ⟨l⟩ := cs0
 simp only at e1
 subst e1
 simpa using this
theorem five_met (os : Os) (args : Array Value) : laidMetH Tryz.prog Rows.fnCutRow.laid ((World.doorLaid Tryz.prog 108 os).forCall (fun _ _ => 0) ⟨#[], args, []⟩).memory :=
 laidMetH_of_parts3 (fuel := 8) (laidMet_of_run' 8 (by kernel_rfl) (by kernel_rfl)) (by kernel_rfl) (by kernel_rfl)
end Go.Proofs.YtdhifgedhaapjaaGreatDoor

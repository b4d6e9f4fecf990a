/- The index's functions: exact, len, get, slice, at; sort.Search; lookupAll. -/
import Derived.Test.YtdhifgedhaapjaaGreatDoorLo
import Derived.Test.YtdhifgedhaapjaaGreatDoorLe
import Derived.Test.YtdhifgedhaapjaaGreatDoorLn
namespace Go.Proofs.YtdhifgedhaapjaaGreatDoor
open Go Sa
structure IxOK (m : Mem) (bx ox bd od cd ba oa ca n : Nat) (T A : Nat → Int) : Prop where
 f0 : m.ob bx ox = some (.slice (some ⟨bd, od, none⟩) n cd)
 f1 : m.ob bx (ox + 1) = some (.slice (some ⟨ba, oa, none⟩) n ca)
 f2 : m.ob bx (ox + 2) = some (.slice none 0 0)
 by_ : By m bd od n T
 ak : ∀ i, i < n → m.kd ba (oa + i) = some .i32
 av : ∀ i, i < n → m.val ba (oa + i) = A i
 sa : SA T n A
 hcd : n ≤ cd
 hca : n ≤ ca
 hn : n ≤ 1000000
theorem IxOK.ext {m m' : Mem} {bx ox bd od cd ba oa ca n : Nat} {T A : Nat → Int} (h : IxOK m bx ox bd od cd ba oa ca n T A) (e : Ext m m') : IxOK m' bx ox bd od cd ba oa ca n T A :=
 ⟨e.ob _ _ _ h.f0, e.ob _ _ _ h.f1, e.ob _ _ _ h.f2, h.by_.ext e, fun i hi => e.kd _ _ _ (h.ak i hi), fun i hi => (e.val _ _ _ (h.ak i hi)).trans (h.av i hi), h.sa, h.hcd, h.hca, h.hn⟩
theorem IxOK.lock {m : Mem} {bx ox bd od cd ba oa ca n : Nat} {T A : Nat → Int} (h : IxOK m bx ox bd od cd ba oa ca n T A) : IxOK m.lock bx ox bd od cd ba oa ca n T A :=
 ⟨h.f0, h.f1, h.f2, h.by_.lock, h.ak, h.av, h.sa, h.hcd, h.hca, h.hn⟩
theorem IxOK.place {m : Mem} {bx ox bd od cd ba oa ca n : Nat} {T A : Nat → Int} (h : IxOK m bx ox bd od cd ba oa ca n T A) {i : Nat} (hi : i < n) : ∃ p : Nat, A i = p ∧ p < n := h.sa.a i hi
theorem copy0 (m : Mem) (b o sb so : Nat) : m.copy b o sb so (min 0 0) = m := by
 unfold Mem.copy
 cases m
 simp only [Mem.mk.injEq, true_and, and_true]
 funext b' o'
 rw [if_neg (by omega)]
theorem exact_16 {w0 : World} {m : Mem} {sd : Option Addr} {n c : Nat} {T : Nat → Int} {K : Value → Mem → Prop} (hd : Dt m sd n c T) (hn : n ≤ 1000000)
  (hK : ∀ B m', m.fresh B → Ext m m' → By m' B 0 n T → m'.ro B = false → K (.slice (some ⟨B, 0, none⟩) n n) m') : callV Tryz.prog w0 16 [.slice sd n c] m K := by
 refine C_F16 ?_
 unfold M_F16
 rw [Int.toNat_natCast]
 refine ⟨by omega, by omega, by omega, ?_⟩
 rintro B hB m2 rfl
 have e1 : Ext m (Mem.new m B .u8 n (fun _ => 0)) := Ext.new m hB _ _ _
 have key : ∀ m4 : Mem, (∀ i, i < n → m4.val B (0 + i) = T i) → (∀ x o, x ≠ B → m4.val x o = m.val x o) → m4.kd = (Mem.new m B .u8 n (fun _ => 0)).kd → m4.ro = (Mem.new m B .u8 n (fun _ => 0)).ro → m4.ob = m.ob → (∀ i, i < n → 0 ≤ T i ∧ T i < 256) →
   K (.slice (some ⟨B, 0, none⟩) n n) m4 := fun m4 hv ho hk hr hob hrg => by
  refine hK B m4 hB ⟨fun x o k h => by rw [hk]; exact e1.kd _ _ _ h, fun x o k h => ho x o fun e => ?_, fun x o v h => by rw [hob]; exact h, fun x h => by rw [hr]; exact e1.ro _ h⟩ ⟨fun i hi => ?_, hv, hrg⟩ ?_
  ·subst e; rw [(hB o).1] at h; cases h
  ·rw [hk]; simp only [Mem.new, if_true]; rw [if_pos (by omega)]
  ·rw [hr]; simp only [Mem.new, if_true]
 rcases Nat.eq_zero_or_pos n with h0 | h0
 ·subst h0
  have fin := key (Mem.new m B .u8 0 (fun _ => 0)) (fun i hi => by omega) (fun x o hx => by simp only [Mem.new, if_neg hx]) rfl rfl rfl (fun i hi => by omega)
  rcases sd with _ | ⟨b, o, _ | s⟩
  ·exact ⟨rfl, fin⟩
  ·refine ⟨fun i hi => by omega, by simp only [Mem.new, if_true], fun m' hm' => ?_⟩
   have : m' = Mem.new m B .u8 0 (fun _ => 0) := by
    subst hm'
    exact copy0 _ _ _ _ _
   rw [this]
   exact fin
  ·exact ⟨rfl, fin⟩
 ·obtain ⟨b, o, rfl, hby⟩ := hd.at_ h0
  have hbB : ∀ i, i < n → b ≠ B := fun i hi e => by have := hby.kd i hi; rw [e, (hB _).1] at this; cases this
  refine ⟨fun i hi => ⟨?_, ?_⟩, by simp only [Mem.new, if_true], ?_⟩
  ·simp only [Mem.new, if_true]; rw [if_pos (by omega)]
  ·simp only [Mem.new, if_neg (hbB 0 h0)]; exact hby.kd i (by omega)
  rintro m' rfl
  rw [Nat.min_self]
  refine key _ (fun i hi => ?_) (fun x o' hx => ?_) rfl rfl rfl hby.rg
  ·simp only [Mem.copy]
   rw [if_pos ⟨trivial, by omega, by omega⟩]
   simp only [Mem.new, if_neg (hbB 0 h0)]
   rw [show o + (0 + i - 0) = o + i by omega]; exact hby.val i hi
  ·simp only [Mem.copy]
   rw [if_neg (by omega)]
   simp only [Mem.new, if_neg hx]
theorem len_33 {w0 : World} {m : Mem} {b o bs os n c : Nat} {K : Value → Mem → Prop} (h1 : m.ob b o = some (.slice (some ⟨bs, os, none⟩) n c)) (h2 : m.ob b (o + 1) = some (.slice none 0 0)) (hn : n ≤ 1000000000)
  (hK : K (.int .i64 n) m) : callV Tryz.prog w0 33 [.pointer (some ⟨b, o, none⟩)] m K := by
 refine C_F33 ?_
 unfold M_F33
 refine ⟨bs, os, n, c, h1, h2, inR_i64 (by omega) (by omega), ?_⟩
 rw [show ((n : Int) + ((0 : Nat) : Int)) = (n : Int) by omega]
 exact hK
theorem len_q {m : Mem} {b o bs os n c : Nat} (h1 : m.ob b o = some (.slice (some ⟨bs, os, none⟩) n c)) (h2 : m.ob b (o + 1) = some (.slice none 0 0)) (hn : n ≤ 1000000000) :
  quietV Tryz.prog 33 [.pointer (some ⟨b, o, none⟩)] m (.int .i64 n) := fun _ => len_33 (m := m.lock) h1 h2 hn rfl
theorem get_q {m : Mem} {b o bs os n c : Nat} {A : Nat → Int} {i : Int} (h1 : m.ob b o = some (.slice (some ⟨bs, os, none⟩) n c)) (h0 : 0 ≤ i) (hi : i < n) (hk : m.kd bs (os + i.toNat) = some .i32)
  (hv : m.val bs (os + i.toNat) = A i.toNat) (hr : -2147483648 ≤ A i.toNat ∧ A i.toNat ≤ 2147483647) : quietV Tryz.prog 50 [.pointer (some ⟨b, o, none⟩), .int .i64 i] m (.int .i64 (A i.toNat)) := fun w1 => by
 refine C_F50 ?_
 unfold M_F50
 refine ⟨bs, os, n, c, h1, bs, os, n, c, h1, h0, hi, hk, ?_⟩
 rintro z rfl
 have hv' : m.lock.val bs (os + i.toNat) = A i.toNat := hv
 rw [hv']
 exact ⟨inR_i64 (by omega) (by omega), rfl⟩
theorem at_q {m : Mem} {bx ox bd od cd ba oa ca n : Nat} {T A : Nat → Int} (h : IxOK m bx ox bd od cd ba oa ca n T A) {i : Int} (h0 : 0 ≤ i) (hi : i < n) :
  quietV Tryz.prog 57 [.pointer (some ⟨bx, ox, none⟩), .int .i64 i] m (.slice (some ⟨bd, od + (A i.toNat).toNat, none⟩) (n - (A i.toNat).toNat) (cd - (A i.toNat).toNat)) := fun w1 => by
 have hl := h.lock
 have hi' : i.toNat < n := by omega
 obtain ⟨p, hp, hpn⟩ := h.place hi'
 have := h.hn; have := h.hcd
 refine C_F57 ?_
 unfold M_F57
 refine ⟨bd, od, n, cd, hl.f0, p, ?_, by omega, by omega, by omega, ?_⟩
 ·rw [← hp]
  exact get_q (A := A) hl.f1 h0 hi (hl.ak _ hi') (hl.av _ hi') (by omega)
 ·rw [hp]
  simp only [Int.toNat_natCast]
  rw [if_neg (by omega)]
theorem IxOK.rest_by {m : Mem} {bx ox bd od cd ba oa ca n : Nat} {T A : Nat → Int} (h : IxOK m bx ox bd od cd ba oa ca n T A) {i : Nat} (hi : i < n) :
  By m bd (od + (A i).toNat) (n - (A i).toNat) (fun q => T ((A i).toNat + q)) := by
 obtain ⟨p, hp, hpn⟩ := h.place hi
 rw [hp, Int.toNat_natCast]
 exact h.by_.drop (by omega)
/-! ### sort.Search -/
theorem mid_eq {i j : Int} (h0 : 0 ≤ i) (hij : i < j) (hj : j ≤ 1000000) : IntKind.wrap .i64 (IntKind.wrap .u64 (i + j) / 2 ^ min (Int.toNat (1 : Int)) (IntKind.bits .u64)) = (i + j) / 2 := by
 have h1 : IntKind.wrap .u64 (i + j) = i + j := by
  show (if (false && decide ((i + j) % (18446744073709551616 : Int) ≥ (9223372036854775808 : Int))) = true then (i + j) % (18446744073709551616 : Int) - 18446744073709551616 else (i + j) % (18446744073709551616 : Int)) = i + j
  simp only [Bool.false_and, Bool.false_eq_true, if_false]
  omega
 have h2 : (2 : Int) ^ min (Int.toNat (1 : Int)) (IntKind.bits .u64) = 2 := by decide
 rw [h1, h2]
 exact wrap_i64 (by omega) (by omega)
theorem search_55 {w0 : World} {m : Mem} {n g : Nat} {cap : Array Value} {p : Nat → Bool} {Inv : Mem → Prop} {K : Value → Mem → Prop} (hn : n ≤ 1000000)
  (mono : ∀ a b, a ≤ b → b < n → p a = true → p b = true) (hI : Inv m)
  (hf : ∀ (h : Nat) m1, h < n → Inv m1 → ∀ K' : Value → Mem → Prop, (∀ m2, Inv m2 → K' (.bool (p h)) m2) → callV Tryz.prog w0 g (.int .i64 h :: cap.toList) m1 K')
  (hK : ∀ (r : Nat) m', r ≤ n → (∀ x, x < r → p x = false) → (∀ x, r ≤ x → x < n → p x = true) → Inv m' → K (.int .i64 r) m') :
  callV Tryz.prog w0 55 [.int .i64 n, .func (.func g) #[] cap] m K := by
 let St : Int → Int → Mem → Prop := fun i j m1 => 0 ≤ i ∧ i ≤ j ∧ j ≤ n ∧ (∀ x : Nat, (x : Int) < i → p x = false) ∧ (∀ x : Nat, j ≤ x → x < n → p x = true) ∧ Inv m1
 refine C_F55 (I0 := fun ps ls m1 => ps = [.fv g cap] ∧ ∃ i j, ls = [.iv .i64 i, .iv .i64 j] ∧ St i j m1)
  (X0 := fun _ _ ls m1 => ∃ i, ls = [.iv .i64 i, .iv .i64 i] ∧ St i i m1)
  (mu0 := fun _ ls => match ls with | [.iv _ i, .iv _ j] => (j - i).toNat | _ => 0) ?_ ?_
 ·rintro gf kf i j k m1 ⟨hps, i', j', hls, hst⟩ hmu
  have hg : gf = g ∧ kf = cap := by
   unfold P0_F55 at hps
   simp at hps
   exact hps
  obtain ⟨rfl, rfl⟩ := hg
  have hij : i = i' ∧ j = j' := by simpa using hls
  obtain ⟨rfl, rfl⟩ := hij
  obtain ⟨h0, h1, h2, h3, h4, h5⟩ := hst
  unfold R0_F55
  refine cond_of (fun hb => ?_) (fun hb => ?_)
  ·have hlt := of_decide_eq_true hb
   rw [mid_eq h0 hlt (by omega)]
   refine ⟨inR_i64 (by omega) (by omega), by omega, ?_⟩
   obtain ⟨h, hh⟩ : ∃ h : Nat, (i + j) / 2 = h := ⟨((i + j) / 2).toNat, by omega⟩
   rw [hh]
   have hmu' : (j - i).toNat < k + 1 := hmu
   refine hf h m1 (by omega) h5 _ fun m2 hm2 => ⟨p h, rfl, cond_of (fun hb => ?_) (fun hb => ?_)⟩
   ·have hp : p h = false := by simpa using hb
    refine ⟨inR_i64 (by omega) (by omega), KF1_mk ⟨⟨rfl, (h : Int) + 1, j, rfl, by omega, by omega, h2, fun x hx => ?_, h4, hm2⟩, ?_⟩⟩
    ·cases hpx : p x with
     | false => rfl
     | true => have := mono x h (by omega) (by omega) hpx; rw [hp] at this; cases this
    ·show (j - ((h : Int) + 1)).toNat < k
     omega
   ·have hp : p h = true := by simpa using hb
    refine KF1_mk ⟨⟨rfl, i, (h : Int), rfl, h0, by omega, by omega, h3, fun x hx hxn => mono h x (by omega) hxn hp, hm2⟩, ?_⟩
    show ((h : Int) - i).toNat < k
    omega
  ·have hge : ¬ i < j := of_decide_eq_false hb
   obtain rfl : i = j := by omega
   exact XF1_mk ⟨i, rfl, h0, h1, h2, h3, h4, h5⟩
 ·refine ⟨⟨rfl, 0, n, rfl, by omega, by omega, by omega, fun x hx => by omega, fun x hx hxn => by omega, hI⟩, ?_⟩
  rintro z1 z2 m3 ⟨i, hls, h0, h1, h2, h3, h4, h5⟩ _
  have hz : z1 = i ∧ z2 = i := by simpa using hls
  obtain ⟨e1, e2⟩ := hz
  subst e1
  obtain ⟨r, rfl⟩ : ∃ r : Nat, z1 = r := ⟨z1.toNat, by omega⟩
  exact hK r m3 (by omega) (fun x hx => h3 x (by omega)) (fun x hx hxn => h4 x (by omega) hxn) h5
end Go.Proofs.YtdhifgedhaapjaaGreatDoor
namespace Go.Proofs.YtdhifgedhaapjaaGreatDoor
open Go Sa
theorem Ext.so {a m : Mem} {B : Nat} (h : Ext a m) (hB : a.fresh B) (o : Nat) (v : Value) : Ext a (m.so B o v) := by
 refine ⟨h.kd, h.val, fun x y u hu => ?_, h.ro⟩
 simp only [Mem.so]
 rw [if_neg]
 ·exact h.ob _ _ _ hu
 ·rintro ⟨rfl, _⟩; rw [(hB y).2] at hu; cases hu
theorem Ext.st {a m : Mem} {B : Nat} (h : Ext a m) (hB : a.fresh B) (o : Nat) (v : Int) : Ext a (m.st B o v) := by
 refine ⟨h.kd, fun x y k hk => ?_, h.ob, h.ro⟩
 simp only [Mem.st]
 rw [if_neg]
 ·exact h.val _ _ _ hk
 ·rintro ⟨rfl, _⟩; rw [(hB y).1] at hk; cases hk
def Mem.drop (m : Mem) (B : Nat) : Mem :=
 {m with kd := fun b o => if b = B then none else m.kd b o, ob := fun b o => if b = B then none else m.ob b o }
theorem Mem.drop_fresh (m : Mem) (B : Nat) : (m.drop B).fresh B := fun o => by simp [Mem.drop]
theorem Ext.drop (m : Mem) (B : Nat) : Ext (m.drop B) m := by
 refine ⟨fun x o k h => ?_, fun _ _ _ _ => rfl, fun x o v h => ?_, fun _ h => h⟩
 ·simp only [Mem.drop] at h; split at h
  ·cases h
  ·exact h
 ·simp only [Mem.drop] at h; split at h
  ·cases h
  ·exact h
theorem ob_ne {m : Mem} {b o B : Nat} {v : Value} (h : m.ob b o = some v) (hB : m.fresh B) : b ≠ B := by
 rintro rfl; rw [(hB o).2] at h; cases h
theorem kd_ne {m : Mem} {b o B : Nat} {k : IntKind} (h : m.kd b o = some k) (hB : m.fresh B) : b ≠ B := by
 rintro rfl; rw [(hB o).1] at h; cases h
theorem Mem.drop_ob {m : Mem} {b o B : Nat} (h : b ≠ B) : (m.drop B).ob b o = m.ob b o := by simp [Mem.drop, h]
theorem Mem.drop_kd {m : Mem} {b o B : Nat} (h : b ≠ B) : (m.drop B).kd b o = m.kd b o := by simp [Mem.drop, h]
theorem slice_35 {w0 : World} {m : Mem} {b o bs os n c i j : Nat} {K : Value → Mem → Prop} (h1 : m.ob b o = some (.slice (some ⟨bs, os, none⟩) n c)) (hij : i ≤ j) (hj : j ≤ c)
  (hK : ∀ m', Ext m m' → K (.agg #[.slice (some ⟨bs, os + (if i = c then 0 else i), none⟩) (j - i) (c - i), .slice none 0 0]) m') :
  callV Tryz.prog w0 35 [.pointer (some ⟨b, o, none⟩), .int .i64 i, .int .i64 j] m K := by
 refine C_F35 ?_
 unfold M_F35
 rintro B hB m2 rfl
 have e2 := Ext.newC m hB [.slice none 0 0, .slice none 0 0]
 have h2 := e2.ob _ _ _ h1
 simp only [Int.toNat_natCast]
 refine ⟨bs, os, n, c, h2, bs, os, n, c, h2, by omega, by omega, by omega, rfl, by simp [Mem.newC, Value.obj?], by simp [Mem.newC], ?_⟩
 rintro m3 rfl
 refine ⟨rfl, by simp [Mem.so, Mem.newC, Value.obj?], by simp [Mem.so, Mem.newC], ?_⟩
 rintro m4 rfl
 refine ⟨bs, _, j - i, c - i, ⟨?_, ?_, trivial⟩, hK _ ((e2.so hB _ _).so hB _ _)⟩
 ·simp [Mem.so]
 ·simp [Mem.so]
theorem slice_q {m : Mem} {b o bs os n c i j : Nat} (h1 : m.ob b o = some (.slice (some ⟨bs, os, none⟩) n c)) (hij : i ≤ j) (hj : j ≤ c) :
  quietV Tryz.prog 35 [.pointer (some ⟨b, o, none⟩), .int .i64 i, .int .i64 j] m (.agg #[.slice (some ⟨bs, os + (if i = c then 0 else i), none⟩) (j - i) (c - i), .slice none 0 0]) :=
 fun _ => slice_35 (m := m.lock) h1 hij hj fun _ _ => rfl
section
variable {bx ox bd od cd ba oa ca n : Nat} {T A : Nat → Int} {bs os ls cs : Nat} {S : Nat → Int}
def p1 (T : Nat → Int) (n : Nat) (A : Nat → Int) (W : List Int) (h : Nat) : Bool := decide (0 ≤ Lib.compareBytes (Lib.bytesOf (rest T n A h)) (Lib.bytesOf W))
def p2 (T : Nat → Int) (n : Nat) (A : Nat → Int) (W : List Int) (i j : Nat) : Bool := !Lib.hasPrefix (Lib.bytesOf (rest T n A (i + j))) (Lib.bytesOf W)
theorem clo56 {w0 : World} {m : Mem} {B1 B3 h : Nat} {K : Value → Mem → Prop} (hx : IxOK m bx ox bd od cd ba oa ca n T A) (hs : By m bs os ls S) (a1 : m.ob B1 0 = some (.pointer (some ⟨bx, ox, none⟩))) (a3 : m.ob B3 0 = some (.slice (some ⟨bs, os, none⟩) ls cs))
  (hh : h < n) (hK : K (.bool (p1 T n A (lst S ls) h)) m) : callV Tryz.prog w0 56 [.int .i64 h, .pointer (some ⟨B1, 0, none⟩), .pointer (some ⟨B3, 0, none⟩)] m K := by
 refine C_F56 ?_
 unfold M_F56
 refine ⟨bx, ox, a1, _, _, _, _, at_q hx (by omega) (by omega), bs, os, ls, cs, a3, Lib.compareBytes (Lib.bytesOf (rest T n A h)) (Lib.bytesOf (lst S ls)), ?_, ?_⟩
 ·simp only [Int.toNat_natCast]
  have := compare_q (c := cd - (A h).toNat) (d := cs) (hx.rest_by hh) hs
  rw [lst_sufl] at this
  exact this
 ·exact hK
theorem clo58 {w0 : World} {m : Mem} {B1 B2 B3 i j : Nat} {K : Value → Mem → Prop} (hx : IxOK m bx ox bd od cd ba oa ca n T A) (hs : By m bs os ls S) (hcs : ls ≤ cs) (a1 : m.ob B1 0 = some (.pointer (some ⟨bx, ox, none⟩))) (a3 : m.ob B3 0 = some (.slice (some ⟨bs, os, none⟩) ls cs))
  (a2 : m.kd B2 0 = some .i64) (v2 : m.val B2 0 = i) (hh : i + j < n) (hK : K (.bool (p2 T n A (lst S ls) i j)) m) : callV Tryz.prog w0 58 [.int .i64 j, .pointer (some ⟨B1, 0, none⟩), .pointer (some ⟨B2, 0, none⟩), .pointer (some ⟨B3, 0, none⟩)] m K := by
 refine C_F58 ?_
 unfold M_F58
 have := hx.hn
 have hcd := hx.hcd
 refine ⟨bx, ox, a1, a2, ?_⟩
 rintro z rfl
 rw [v2, show ((j : Int) + (i : Int)) = ((i + j : Nat) : Int) by omega]
 refine ⟨inR_i64 (by omega) (by omega), _, _, _, _, at_q hx (by omega) (by omega), bs, os, ls, cs, a3, Lib.hasPrefix (Lib.bytesOf (rest T n A (i + j))) (Lib.bytesOf (lst S ls)), ?_, ?_⟩
 ·simp only [Int.toNat_natCast]
  have := prefix_q (Dt.of (hx.rest_by hh) (c := cd - (A (i + j)).toNat) (by omega)) (Dt.of hs hcs)
  rw [lst_sufl] at this
  exact this
 ·exact hK
theorem rest_rg (hr : ∀ i, i < n → 0 ≤ T i ∧ T i < 256) (h : Nat) : ∀ x ∈ rest T n A h, 0 ≤ x ∧ x < 256 := fun x hx => by
 unfold rest sufl at hx
 obtain ⟨q, hq, rfl⟩ := List.mem_map.1 hx
 rw [List.mem_range'_1] at hq
 exact hr q (by omega)
theorem p1_iff (hr : ∀ i, i < n → 0 ≤ T i ∧ T i < 256) {W : List Int} (hW : ∀ x ∈ W, 0 ≤ x ∧ x < 256) (h : Nat) : p1 T n A W h = true ↔ ¬ ltl (rest T n A h) W := by
 unfold p1
 rw [decide_eq_true_iff, ← cmp_lt_iff (rest_rg hr h) hW]
 omega
theorem p2_iff (hr : ∀ i, i < n → 0 ≤ T i ∧ T i < 256) {W : List Int} (hW : ∀ x ∈ W, 0 ≤ x ∧ x < 256) (i j : Nat) : p2 T n A W i j = true ↔ ¬ W <+: rest T n A (i + j) := by
 unfold p2
 rw [← bytesOf_prefix (rest_rg hr _) hW]
 simp
theorem turn (p : Nat → Bool) : ∀ N, (∀ a b, a ≤ b → b < N → p a = true → p b = true) → ∃ r, r ≤ N ∧ (∀ x, x < r → p x = false) ∧ ∀ x, r ≤ x → x < N → p x = true
 | 0, _ => ⟨0, Nat.le_refl _, fun x hx => by omega, fun x _ hx => by omega⟩
 | N + 1, h => by
  obtain ⟨r, h1, h2, h3⟩ := turn p N fun a b hab hb => h a b hab (by omega)
  cases hp : p N with
  | false =>
   refine ⟨N + 1, Nat.le_refl _, fun x hx => ?_, fun x hx hx' => by omega⟩
   cases hpx : p x with
   | false => rfl
   | true => have := h x N (by omega) (by omega) hpx; rw [hp] at this; cases this
  | true =>
   refine ⟨r, by omega, h2, fun x hx hx' => ?_⟩
   rcases Nat.lt_or_ge x N with hlt | hge
   ·exact h3 x hx hlt
   ·obtain rfl : x = N := by omega
    exact hp
theorem turn_unique {p : Nat → Bool} {N r s : Nat} (hr : r ≤ N) (hs : s ≤ N) (h2 : ∀ x, x < r → p x = false) (h3 : ∀ x, r ≤ x → x < N → p x = true) (g2 : ∀ x, x < s → p x = false) (g3 : ∀ x, s ≤ x → x < N → p x = true) : r = s := by
 rcases Nat.lt_trichotomy r s with h | h | h
 ·have a := h3 r (Nat.le_refl _) (by omega); rw [g2 r h] at a; cases a
 ·exact h
 ·have a := g3 s (Nat.le_refl _) (by omega); rw [h2 s h] at a; cases a
theorem lookupAll_39 {w0 : World} {m : Mem} {K : Value → Mem → Prop} (hx : IxOK m bx ox bd od cd ba oa ca n T A) (hs : By m bs os ls S) (hcs : ls ≤ cs)
  (hK : ∀ i k m', i + k ≤ n → (seg A i k).Perm (places T n (lst S ls) n) → Ext m m' → K (.agg #[.slice (some ⟨ba, oa + (if i = ca then 0 else i), none⟩) k (ca - i), .slice none 0 0]) m') :
  callV Tryz.prog w0 39 [.pointer (some ⟨bx, ox, none⟩), .slice (some ⟨bs, os, none⟩) ls cs] m K := by
 have hrT := hx.by_.rg
 have hW := lst_rg hs.rg
 have hn := hx.hn
 have hca := hx.hca
 refine C_F39 ?_
 unfold M_F39
 rintro B1 hB1 m2 hm2 B3 hB3 m4 hm4 B5 hB5 m6 hm6
 have e2 : Ext m m2 := hm2 ▸ Ext.newC m hB1 _
 have e24 : Ext m2 m4 := hm4 ▸ Ext.newC m2 hB3 _
 have e46 : Ext m4 m6 := hm6 ▸ Ext.newC m4 hB5 _
 have a1 : m2.ob B1 0 = some (.pointer (some ⟨bx, ox, none⟩)) := by rw [hm2]; simp [Mem.newC, Value.obj?]
 have a3 : m4.ob B3 0 = some (.slice (some ⟨bs, os, none⟩) ls cs) := by rw [hm4]; simp [Mem.newC, Value.obj?]
 have a1' := e46.ob _ _ _ (e24.ob _ _ _ a1)
 have a3' := e46.ob _ _ _ a3
 have a5 : ∀ o, o < 2 → m6.ob B5 o = some (.slice none 0 0) := fun o ho => by
  rw [hm6]
  rcases (show o = 0 ∨ o = 1 by omega) with rfl | rfl <;> simp [Mem.newC, Value.obj?]
 have r5 : m6.ro B5 = false := by rw [hm6]; simp [Mem.newC]
 have n15 : B1 ≠ B5 := ob_ne (e24.ob _ _ _ a1) hB5
 have n35 : B3 ≠ B5 := ob_ne a3 hB5
 have e6 : Ext m m6 := (e2.trans e24).trans e46
 have f5 : m.fresh B5 := (e2.trans e24).fresh hB5
 have hx6 := hx.ext e6
 have hs6 := hs.ext e6
 clear hm2 hm4 hm6
 refine ⟨bx, ox, a1', len_33 hx6.f1 hx6.f2 (by omega) ⟨(n : Int), rfl, ?_⟩⟩
 refine search_55 (p := p1 T n A (lst S ls)) (Inv := fun m' => m' = m6) hn (fun a b hab hb ha => ?_) rfl (fun h m1 hh e K' hK' => ?_) fun r m' hr hlo hhi e => ?_
 ·rw [p1_iff hrT hW] at ha ⊢
  exact hx.sa.mono1 hab hb ha
 ·subst e
  exact clo56 hx6 hs6 a1' a3' hh (hK' _ rfl)
 subst e
 refine ⟨(r : Int), rfl, ?_⟩
 rintro B7 hB7 m8 hm8
 have e68 : Ext m' m8 := hm8 ▸ Ext.newC m' hB7 _
 have k7 : m8.kd B7 0 = some .i64 := by rw [hm8]; simp [Mem.newC, Value.kd?]
 have r7 : m8.ro B7 = false := by rw [hm8]; simp [Mem.newC]
 refine ⟨k7, r7, ?_⟩
 rintro m9 hm9
 have e69 : Ext m' m9 := hm9 ▸ e68.st hB7 _ _
 have k9 : m9.kd B7 0 = some .i64 := by rw [hm9]; exact k7
 have v9 : m9.val B7 0 = r := by rw [hm9]; simp [Mem.st]
 clear hm9 hm8
 have hx9 := hx6.ext e69
 have hs9 := hs6.ext e69
 have b1 := e69.ob _ _ _ a1'
 have b3 := e69.ob _ _ _ a3'
 have mono2 : ∀ a b, a ≤ b → b < n - r → p2 T n A (lst S ls) r a = true → p2 T n A (lst S ls) r b = true := fun a b hab hb ha => by
  rw [p2_iff hrT hW] at ha ⊢
  exact hx.sa.mono2 (by omega) (by omega) ((p1_iff hrT hW _).1 (hhi (r + a) (by omega) (by omega))) ha
 obtain ⟨j, hj, jlo, jhi⟩ := turn (p2 T n A (lst S ls) r) (n - r) mono2
 refine ⟨k9, ?_⟩
 rintro z hz
 obtain rfl : z = r := hz.symm.trans v9
 refine ⟨bx, ox, b1, (n : Int), len_q hx9.f1 hx9.f2 (by omega), k9, ?_⟩
 rintro z hz
 obtain rfl : z = r := hz.symm.trans v9
 refine ⟨inR_i64 (by omega) (by omega), (j : Int), ?_, inR_i64 (by omega) (by omega), ?_⟩
 ·rw [show ((n : Int) - (r : Int)) = ((n - r : Nat) : Int) by omega]
  intro w1
  refine search_55 (m := m9.lock) (p := p2 T n A (lst S ls) r) (Inv := fun m' => m' = m9.lock) (by omega) mono2 rfl (fun h m1 hh e K' hK' => ?_) fun r' m'' hr' hlo' hhi' _ => ?_
  ·subst e
   exact clo58 hx9.lock hs9.lock hcs b1 b3 k9 v9 (by omega) (hK' _ rfl)
  ·rw [turn_unique hr' hj hlo' hhi' jlo jhi]
 ·rw [show ((r : Int) + (j : Int)) = ((r + j : Nat) : Int) by omega]
  have n75 : B7 ≠ B5 := fun e => by
   have := (hB7 0).2
   rw [e, a5 0 (by omega)] at this; cases this
  have nx5 : bx ≠ B5 := ob_ne hx.f0 f5
  refine ⟨m9.drop B5, Ext.drop m9 B5, fun m2 => m2 = (m9.so B5 0 (.slice (some ⟨ba, oa + (if r = ca then 0 else r), none⟩) (r + j - r) (ca - r))).so B5 (0 + 1) (.slice none 0 0), ?_, bx, ox, by rw [Mem.drop_ob n15]; exact b1, by rw [Mem.drop_kd n75]; exact k9, ?_⟩
  ·rintro m2 rfl
   exact ((Ext.drop m9 B5).so (Mem.drop_fresh _ _) _ _).so (Mem.drop_fresh _ _) _ _
  rintro z hz
  obtain rfl : z = r := hz.symm.trans v9
  refine ⟨_, _, _, _, slice_q (by rw [Mem.drop_ob nx5]; exact hx9.f1) (by omega) (by omega), undef, ⟨rfl, ?_, e69.ro _ r5, ?_⟩, ?_⟩
  ·rw [e69.ob _ _ _ (a5 0 (by omega))]; rfl
  ·rintro m10 rfl
   refine ⟨rfl, ?_, e69.ro _ r5, ?_⟩
   ·simp only [Mem.so]
    rw [if_neg (by omega), e69.ob _ _ _ (a5 1 (by omega))]; rfl
   ·rintro m11 rfl
    exact ⟨rfl, rfl⟩
  ·rintro m12 rfl
   refine ⟨ba, oa + (if r = ca then 0 else r), r + j - r, ca - r, ⟨?_, ?_, trivial⟩, ?_⟩
   ·simp [Mem.so]
   ·simp [Mem.so]
   ·rw [show r + j - r = j by omega]
    refine hK r j _ (by omega) ?_ (((e6.trans e69).so f5 _ _).so f5 _ _)
    refine seg_perm hx.sa (by omega) (fun x hx' => ?_) (fun x h1 h2 => ?_) (fun x h1 h2 hp => ?_)
    ·have := hlo x hx'
     have h2 : ¬ p1 T n A (lst S ls) x = true := by rw [this]; simp
     rw [p1_iff hrT hW] at h2
     exact Classical.not_not.1 h2
    ·have := jlo (x - r) (by omega)
     have h2 : ¬ p2 T n A (lst S ls) r (x - r) = true := by rw [this]; simp
     rw [p2_iff hrT hW, show r + (x - r) = x by omega] at h2
     exact Classical.not_not.1 h2
    ·have := jhi (x - r) (by omega) (by omega)
     rw [p2_iff hrT hW, show r + (x - r) = x by omega] at this
     exact this hp
end
end Go.Proofs.YtdhifgedhaapjaaGreatDoor
namespace Go.Proofs.YtdhifgedhaapjaaGreatDoor
open Go Sa
theorem new_15 {w0 : World} {m : Mem} {bd od cd n : Nat} {T : Nat → Int} {K : Value → Mem → Prop} (hd : By m bd od n T) (hcd : n ≤ cd) (hn : n ≤ 1000000) (g0 : m.kd 0 0 = some .i64) (g1 : m.val 0 0 = 2147483647)
  (hK : ∀ bx ba A m', m.fresh bx → m.fresh ba → bx ≠ ba → m'.ro bx = false → m'.ro ba = false → Ext m m' → IxOK m' bx 0 bd od cd ba 0 n n T A → K (.pointer (some ⟨bx, 0, none⟩)) m') :
  callV Tryz.prog w0 15 [.slice (some ⟨bd, od, none⟩) n cd] m K := by
 refine C_F15 ?_
 unfold M_F15
 rintro B1 hB1 m2 hm2
 have e2 : Ext m m2 := hm2 ▸ Ext.newC m hB1 _
 have x0 : m2.ob B1 0 = some (.slice (some ⟨bd, od, none⟩) n cd) := by rw [hm2]; simp [Mem.newC, Value.obj?]
 have x1 : m2.ob B1 1 = some (.slice none 0 0) := by rw [hm2]; simp [Mem.newC, Value.obj?]
 have x2 : m2.ob B1 2 = some (.slice none 0 0) := by rw [hm2]; simp [Mem.newC, Value.obj?]
 have rx : m2.ro B1 = false := by rw [hm2]; simp [Mem.newC]
 refine ⟨e2.kd _ _ _ g0, ?_⟩
 rintro z hz
 obtain rfl : z = 2147483647 := by rw [← hz, e2.val _ _ _ g0, g1]
 refine cond_of (fun _ => ?_) (fun hb => absurd (of_decide_eq_false hb) (by omega))
 rw [Int.toNat_natCast]
 refine ⟨by omega, by omega, by omega, ?_⟩
 rintro B4 hB4 m5 hm5
 have e5 : Ext m2 m5 := hm5 ▸ Ext.new m2 hB4 _ _ _
 have k5 : ∀ i, i < n → m5.kd B4 (0 + i) = some .i32 := fun i hi => by
  rw [hm5]; simp only [Mem.new, if_true]; rw [if_pos (by omega)]
 have r5 : m5.ro B4 = false := by rw [hm5]; simp [Mem.new]
 have v5 : ∀ i, m5.val B4 i = 0 := fun i => by rw [hm5]; simp [Mem.new]
 have n14 : B1 ≠ B4 := ob_ne x0 hB4
 have f4 : m.fresh B4 := e2.fresh hB4
 have nb4 : ∀ i, i < n → bd ≠ B4 := fun i hi => kd_ne (hd.kd i hi) f4
 have x0' := e5.ob _ _ _ x0
 have x1' := e5.ob _ _ _ x1
 have x2' := e5.ob _ _ _ x2
 have rx' := e5.ro _ rx
 refine ⟨rfl, by show (m5.ob B1 1).isSome = true; rw [x1']; rfl, rx', ?_⟩
 rintro m6 hm6
 have k6 : m6.kd = m5.kd := by rw [hm6]; rfl
 have v6 : m6.val = m5.val := by rw [hm6]; rfl
 have r6 : m6.ro = m5.ro := by rw [hm6]; rfl
 have y0 : m6.ob B1 0 = some (.slice (some ⟨bd, od, none⟩) n cd) := by
  rw [hm6]; simp only [Mem.so]; rw [if_neg (by omega)]; exact x0'
 have y1 : m6.ob B1 1 = some (.slice (some ⟨B4, 0, none⟩) n n) := by
  rw [hm6]; simp [Mem.so]
 have y2 : m6.ob B1 2 = some (.slice none 0 0) := by
  rw [hm6]; simp only [Mem.so]; rw [if_neg (by omega)]; exact x2'
 have e6 : Ext m m6 := by
  refine hm6 ▸ (e2.trans e5).so hB1 _ _
 clear hm2 hm5 hm6
 have hd6 := hd.ext e6
 refine ⟨B4, 0, n, n, y1, ?_⟩
 refine text_30 (T := T) hn hcd (Nat.le_refl _) ⟨hd6.kd, hd6.val, fun i hi => (hd6.rg i hi).1, fun i hi => (hd6.rg i hi).2⟩ (fun i hi => by rw [k6]; exact k5 i hi) (by rw [r6]; exact r5) ?_ (fun x hx => by rw [v6]; exact v5 _) fun m7 hs ho hsa => ?_
 ·rcases Nat.eq_zero_or_pos n with h0 | h0
  ·exact .inr (.inl (by omega))
  ·exact .inl (Ne.symm (nb4 0 h0))
 ·have e67 : Ext m m7 := by
   refine ⟨fun x o k h => hs.1 _ _ _ (e6.kd _ _ _ h), fun x o k h => ?_, fun x o v h => hs.ob (e6.ob _ _ _ h), fun x h => hs.ro (e6.ro _ h)⟩
   rw [ho x o ?_]
   ·exact e6.val _ _ _ h
   ·rintro (⟨hx, _⟩ | hf)
    ·exact kd_ne h f4 hx
    ·have := (hf o).1
     rw [e6.kd _ _ _ h] at this; cases this
  refine hK B1 B4 (fun x => m7.val B4 (0 + x)) m7 hB1 f4 n14 (hs.ro (by rw [r6]; exact rx')) (hs.ro (by rw [r6]; exact r5)) e67 ⟨hs.ob y0, hs.ob y1, hs.ob y2, hd.ext e67, fun i hi => hs.1 _ _ _ (by rw [k6]; exact k5 i hi), fun i hi => rfl, hsa, hcd, Nat.le_refl _, hn⟩
def many (k : Nat) (nn : Int) : Nat := if nn < 0 then k else min k nn.toNat
section
variable {bx ox bd od cd ba oa ca n : Nat} {T A : Nat → Int} {bs os ls cs : Nat} {S : Nat → Int}
def LkS (m : Mem) (K : Value → Mem → Prop) (bx ox bd od cd ba oa ca n : Nat) (T A : Nat → Int) (B Bm cnt q : Nat) (m1 : Mem) : Prop :=
 q ≤ cnt ∧ ∃ i o' l' c' : Nat, i + cnt ≤ n ∧ cnt ≤ l' ∧ (∀ x, x < cnt → o' + x = oa + (i + x)) ∧ m1.ob Bm 0 = some (.slice (some ⟨ba, o', none⟩) l' c') ∧ Ext m m1 ∧ m.fresh B ∧ B ≠ Bm ∧
  (∀ x, x < cnt → m1.kd B (0 + x) = some .i64) ∧ m1.ro B = false ∧ (∀ x, x < q → m1.val B (0 + x) = A (i + x)) ∧
  ∀ m', Ext m m' → m'.ro B = false → (∀ q, q < cnt → m'.kd B (0 + q) = some .i64 ∧ m'.val B (0 + q) = A (i + q)) → K (.slice (some ⟨B, 0, none⟩) cnt cnt) m'
theorem lookup_22 {w0 : World} {m : Mem} {nn : Int} {K : Value → Mem → Prop} (hx : IxOK m bx ox bd od cd ba oa ca n T A) (hs : Dt m (some ⟨bs, os, none⟩) ls cs S) (hnn : -9223372036854775808 ≤ nn)
  (hK0 : ls = 0 ∨ nn = 0 → K (.slice none 0 0) m)
  (hK1 : 0 < ls → nn ≠ 0 → ∀ i k, i + k ≤ n → (seg A i k).Perm (places T n (lst S ls) n) → (many k nn = 0 → ∀ m', Ext m m' → K (.slice none 0 0) m') ∧
   (0 < many k nn → ∀ B m', m.fresh B → Ext m m' → m'.ro B = false → (∀ q, q < many k nn → m'.kd B (0 + q) = some .i64 ∧ m'.val B (0 + q) = A (i + q)) → K (.slice (some ⟨B, 0, none⟩) (many k nn) (many k nn)) m')) :
  callV Tryz.prog w0 22 [.pointer (some ⟨bx, ox, none⟩), .slice (some ⟨bs, os, none⟩) ls cs, .int .i64 nn] m K := by
 refine C_F22 (I0 := fun ps ls m1 => ∃ B Bm cnt q : Nat, ps = [.sl B 0 cnt cnt, .pt Bm 0, .iv .i64 cnt] ∧ ls = [.iv .i64 q] ∧ LkS m K bx ox bd od cd ba oa ca n T A B Bm cnt q m1)
  (X0 := fun _ ps _ m1 => ∃ B Bm cnt : Nat, ps = [.sl B 0 cnt cnt, .pt Bm 0, .iv .i64 cnt] ∧ LkS m K bx ox bd od cd ba oa ca n T A B Bm cnt cnt m1)
  (mu0 := fun ps ls => match ps, ls with | [_, _, .iv _ c], [.iv _ q] => (c - q).toNat | _, _ => 0) ?_ ?_
 ·rintro b_r o_r l_r c_r b_m o_m s38 s39 k m1 ⟨B, Bm, cnt, q, hps, hls, hq, i, o', l', c', h1, h2, h3, h4, h5, h6, h7, h8, h9, h10, h11⟩ hmu
  unfold P0_F22 at hps
  simp only [List.cons.injEq, SV.sl.injEq, SV.pt.injEq, SV.iv.injEq, true_and, and_true] at hps hls
  obtain ⟨⟨rfl, rfl, rfl, rfl⟩, ⟨rfl, rfl⟩, rfl⟩ := hps
  subst hls
  have hn := hx.hn
  have hx1 := hx.ext h5
  unfold R0_F22
  refine cond_of (fun hb => ?_) (fun hb => ?_)
  ·have hlt := of_decide_eq_true hb
   have hqc : q < c_r := by omega
   obtain ⟨p, hp, hpn⟩ := hx.place (i := i + q) (by omega)
   have hnb : ba ≠ b_r := kd_ne (hx.ak (i + q) (by omega)) h6
   simp only [Int.toNat_natCast]
   refine ⟨ba, o', l', c', h4, by omega, by omega, by rw [h3 q hqc]; exact hx1.ak _ (by omega), ?_⟩
   rintro z hz
   rw [h3 q hqc, hx1.av _ (by omega), hp] at hz
   subst hz
   refine ⟨inR_i64 (by omega) (by omega), by omega, by omega, h8 q hqc, h9, ?_⟩
   rintro m2 rfl
   refine ⟨inR_i64 (by omega) (by omega), KF1_mk ⟨⟨b_r, b_m, c_r, q + 1, rfl, by simp, by omega, i, o', l', c', h1, h2, h3, h4, h5.st h6 _ _, h6, h7, h8, h9, fun x hxx => ?_, h11⟩, ?_⟩⟩
   ·simp only [Mem.st]
    by_cases hxq : x = q
    ·subst hxq; rw [if_pos (by simp)]; exact hp.symm
    ·rw [if_neg (by omega)]; exact h10 x (by omega)
   ·have hmu' : ((c_r : Int) - (q : Int)).toNat < k + 1 := hmu
    show ((c_r : Int) - ((q : Int) + 1)).toNat < k
    omega
  ·have hge := of_decide_eq_false hb
   obtain rfl : q = c_r := by omega
   exact XF1_mk ⟨b_r, b_m, q, rfl, Nat.le_refl _, i, o', l', c', h1, h2, h3, h4, h5, h6, h7, h8, h9, h10, h11⟩
 ·have hn := hx.hn
  have hby : By m bs os ls S := by
   rcases Nat.eq_zero_or_pos ls with h0 | h0
   ·exact ⟨fun i hi => by omega, fun i hi => by omega, fun i hi => by omega⟩
   ·obtain ⟨b, o, e, h⟩ := hs.at_ h0
    cases e; exact h
  unfold M_F22
  refine cond_of (fun hb => ?_) (fun hb => hK0 (.inl (by have := of_decide_eq_false hb; omega)))
  have hls := of_decide_eq_true hb
  refine cond_of (fun hb => ?_) (fun hb => hK0 (.inr (by simpa using hb)))
  have hne : nn ≠ 0 := by simpa using hb
  refine lookupAll_39 hx hby hs.le fun i k m2 hik hperm e2 => ⟨ba, _, k, _, rfl, ?_⟩
  obtain ⟨hKz, hKp⟩ := hK1 (by omega) hne i k hik hperm
  rintro B7 hB7 m8 hm8
  have f7 := e2.fresh hB7
  have e8 : Ext m m8 := hm8 ▸ e2.trans (Ext.newC m2 hB7 _)
  have y0 : m8.ob B7 0 = some (.slice none 0 0) := by rw [hm8]; simp [Mem.newC, Value.obj?]
  have y1 : m8.ob B7 1 = some (.slice none 0 0) := by rw [hm8]; simp [Mem.newC, Value.obj?]
  have r7 : m8.ro B7 = false := by rw [hm8]; simp [Mem.newC]
  refine ⟨rfl, by rw [y0]; rfl, r7, ?_⟩
  rintro m9 hm9
  have e9 : Ext m m9 := hm9 ▸ e8.so f7 _ _
  refine ⟨rfl, by rw [hm9]; simp only [Mem.so]; rw [if_neg (by omega), y1]; rfl, by rw [hm9]; exact r7, ?_⟩
  rintro m10 hm10
  have e10 : Ext m m10 := hm10 ▸ e9.so f7 _ _
  have w0' : m10.ob B7 0 = some (.slice (some ⟨ba, oa + (if i = ca then 0 else i), none⟩) k (ca - i)) := by
   rw [hm10, hm9]; simp [Mem.so]
  have w1' : m10.ob B7 (0 + 1) = some (.slice none 0 0) := by rw [hm10]; simp [Mem.so]
  have mk : ∀ z : Int, z = (many k nn : Nat) → 0 < many k nn → 0 ≤ z ∧ z ≤ z ∧ z ≤ 1000000000 ∧ ∀ B14, Mem.fresh m10 B14 → ∀ m15, m15 = Mem.new m10 B14 .i64 (Int.toNat z) (fun _ => 0) →
    ∃ (b66 o67 l68 c69 : Nat), m15.ob B7 (0 + 0) = some (.slice (some ⟨b66, o67, none⟩) l68 c69) ∧
    ((fun ps ls m1 => ∃ B Bm cnt q : Nat, ps = [.sl B 0 cnt cnt, .pt Bm 0, .iv .i64 cnt] ∧ ls = [.iv .i64 q] ∧ LkS m K bx ox bd od cd ba oa ca n T A B Bm cnt q m1 : LI) (P0_F22 B14 0 (Int.toNat z) (Int.toNat z) B7 0 (↑((Int.toNat z)) : Int)) [.iv .i64 (0 : Int)] m15) ∧
    (∀ (z70 : Int) (m71 : Mem), (fun _ ps _ m1 => ∃ B Bm cnt : Nat, ps = [.sl B 0 cnt cnt, .pt Bm 0, .iv .i64 cnt] ∧ LkS m K bx ox bd od cd ba oa ca n T A B Bm cnt cnt m1 : LX) 0 (P0_F22 B14 0 (Int.toNat z) (Int.toNat z) B7 0 (↑((Int.toNat z)) : Int)) [.iv .i64 z70] m71 →
     ∀ _ : Env, K (.slice (some ⟨B14, 0, none⟩) (Int.toNat z) (Int.toNat z)) m71) := by
   rintro z rfl hpos
   have hmk : many k nn ≤ k := by
    unfold many; split
    ·exact Nat.le_refl _
    ·exact Nat.min_le_left _ _
   rw [Int.toNat_natCast]
   refine ⟨by omega, by omega, by omega, ?_⟩
   rintro B14 hB14 m15 hm15
   have e15 : Ext m10 m15 := hm15 ▸ Ext.new m10 hB14 _ _ _
   have f14 := e10.fresh hB14
   have hia : i ≠ ca := by have := hx.hca; omega
   rw [if_neg hia] at w0'
   refine ⟨ba, oa + i, k, ca - i, e15.ob _ _ _ w0', ⟨B14, B7, many k nn, 0, rfl, rfl, by omega, i, oa + i, k, ca - i, by omega, hmk, fun x _ => by omega, e15.ob _ _ _ w0', e10.trans e15, f14, ?_, fun x hxx => ?_, ?_, fun x hxx => by omega, ?_⟩, ?_⟩
   ·exact fun e => ob_ne w0' hB14 e.symm
   ·rw [hm15]; simp only [Mem.new, if_true]; rw [if_pos (by omega)]
   ·rw [hm15]; simp [Mem.new]
   ·intro m' he hr hv
    exact hKp hpos B14 m' f14 he hr hv
   ·rintro _ m71 ⟨B, Bm, cnt, hps, _, i', o', l', c', g1, g2, g3, g4, g5, g6, g7, g8, g9, g10, g11⟩ _
    unfold P0_F22 at hps
    simp only [List.cons.injEq, SV.sl.injEq, SV.pt.injEq, SV.iv.injEq, true_and, and_true] at hps
    obtain ⟨⟨rfl, h2, h3⟩, rfl, _⟩ := hps
    rw [h2]
    exact g11 m71 g5 g9 fun q hq => ⟨g8 q hq, g10 q hq⟩
  refine len_33 w0' w1' (by omega) ⟨(k : Int), rfl, ?_⟩
  refine cond_of (fun hb => ?_) (fun hb => ?_)
  ·have hlt := of_decide_eq_true hb
   have hm : many k nn = k := by unfold many; rw [if_pos hlt]
   refine cond_of (fun hb => ?_) (fun hb => ?_)
   ·have := of_decide_eq_true hb
    exact mk _ (by rw [hm]) (by omega)
   ·have := of_decide_eq_false hb
    exact hKz (by omega) _ e10
  ·have hge := of_decide_eq_false hb
   refine cond_of (fun hb => ?_) (fun hb => ?_)
   ·have hlt := of_decide_eq_true hb
    have hm : many k nn = k := by unfold many; rw [if_neg hge]; omega
    refine cond_of (fun hb => ?_) (fun hb => ?_)
    ·have := of_decide_eq_true hb
     exact mk _ (by rw [hm]) (by omega)
    ·have := of_decide_eq_false hb
     exact hKz (by omega) _ e10
   ·have hge2 := of_decide_eq_false hb
    have hm : (many k nn : Int) = nn := by unfold many; rw [if_neg hge]; omega
    refine cond_of (fun hb => ?_) (fun hb => ?_)
    ·have := of_decide_eq_true hb
     exact mk _ hm.symm (by omega)
    ·have := of_decide_eq_false hb
     exact hKz (by omega) _ e10
end
end Go.Proofs.YtdhifgedhaapjaaGreatDoor

/- Comparing two rests of a text of bytes. -/
import Derived.Test.YtdhifgedhaapjaaLb
import Derived.Test.YtdhifgedhaapjaaLc
import Derived.WalkKit
import Derived.Lib.BytesEntry
import Derived.Test.YtdhifgedhaapjaaLo
namespace Go.Proofs.Ytdhifgedhaapjaa
open Go Sa
theorem cmp_lt : ∀ (xs ys : List Int), (∀ x ∈ xs, 0 ≤ x ∧ x < 256) → (∀ y ∈ ys, 0 ≤ y ∧ y < 256) → ltl xs ys → Lib.compareBytes (Lib.bytesOf xs) (Lib.bytesOf ys) = -1
 | [], [], _, _, h => (ltl_irrefl h).elim
 | [], _ :: _, _, _, _ => rfl
 | _ :: _, [], _, _, h => (ltl_nil_right h).elim
 | x :: xs, y :: ys, hx, hy, h => by
  have h1 := hx x (by simp)
  have h2 := hy y (by simp)
  have e1 : (UInt8.ofNat x.toNat).toNat = x.toNat := by
   rw [UInt8.toNat_ofNat']; omega
  have e2 : (UInt8.ofNat y.toNat).toNat = y.toNat := by
   rw [UInt8.toNat_ofNat']; omega
  simp only [Lib.bytesOf, List.map_cons, Lib.compareBytes]
  rw [ltl_cons] at h
  by_cases hlt : x < y
  ·rw [if_pos (by rw [UInt8.lt_iff_toNat_lt, e1, e2]; omega)]
  ·rcases h with h | ⟨h, h3⟩
   ·exact absurd h hlt
   ·subst h
    rw [if_neg (UInt8.lt_irrefl _), if_neg (UInt8.lt_irrefl _)]
    exact cmp_lt xs ys (fun z hz => hx z (by simp [hz])) (fun z hz => hy z (by simp [hz])) h3
theorem run_compareSlices {P : Program} {w0 w : World} {m : Mem} (hw : Holds w0 w m) {T : Nat → Int} {n b o i j c d : Nat} (hk : ∀ q, q < n → m.kd b (o + q) = some .u8) (hv : ∀ q, q < n → m.val b (o + q) = T q)
  (hi : i ≤ n) (hj : j ≤ n) : (Extern.BytealgCompare.compare #[.slice (some ⟨b, o + i, none⟩) (n - i) c, .slice (some ⟨b, o + j, none⟩) (n - j) d]).run P w =
   .ok (.int .i64 (Lib.compareBytes (Lib.bytesOf (sufl T n i)) (Lib.bytesOf (sufl T n j)))) w := by
 have key : ∀ i, i ≤ n → (Extern.Bytes.loadBytes ⟨b, o + i, none⟩ (n - i) .empty).run P w = .ok ⟨(Lib.bytesOf (sufl T n i)).toArray⟩ w := fun i hi => by
  have := Lib.run_loadBytesX (P := P) w (sufl T n i) ⟨b, o + i, none⟩ .empty (fun q x hq => by
   have hlt : q < n - i := by
    rcases Nat.lt_or_ge q (n - i) with h | h
    ·exact h
    ·rw [List.getElem?_eq_none (by rw [sufl_length]; exact h)] at hq; cases hq
   have e : (sufl T n i)[q]? = some (T (i + q)) := by
    unfold sufl
    rw [List.getElem?_map, List.getElem?_range' hlt]
    simp
   rw [e] at hq
   obtain rfl : T (i + q) = x := Option.some.inj hq
   rw [add_ofNat, Nat.add_assoc, hw.cell _ _ _ (hk (i + q) (by omega)), hv (i + q) (by omega)])
  rw [sufl_length] at this
  rw [this]
  congr 1
  apply ByteArray.ext
  show (#[] : Array UInt8) ++ _ = _
  simp
 change Sem.run P (do pure (goInt (Extern.BytealgCompare.cmp (← Extern.Bytes.bytesOf (.slice (some ⟨b, o + i, none⟩) (n - i) c)) (← Extern.Bytes.bytesOf (.slice (some ⟨b, o + j, none⟩) (n - j) d))))) w = _
 simp only [Extern.Bytes.bytesOf, Sem.run_bind, key i hi, key j hj, Result.andThen, Sem.run_pure]
 rw [Lib.cmp_eq]
 rfl
end Go.Proofs.Ytdhifgedhaapjaa
namespace Go.Proofs.Ytdhifgedhaapjaa
open Go Sa
set_option maxHeartbeats 1000000 in
theorem cmp_calls {w : World} {x y : Value} {z : Int} (h : (Extern.BytealgCompare.compare #[x, y]).run Try.prog w = .ok (.int .i64 z) w) :
  Calls Try.prog 9 #[x, y] w fun e w' => e = .returned (.int .i64 z) ∧ w' = w := by
 go_enter Try.func9, Try.ntmps9
 go_wp2
 rw [run_callFunc_extern Try.func12 (by kernel_rfl) (by kernel_rfl) (by kernel_rfl) (e := Extern.BytealgCompare.compare) (by kernel_rfl), h]
 simp only [Result.andThen]
 rw [Oper.upon_value]
 go_wp2
 go_ret
 exact ⟨rfl, rfl⟩
theorem cmp_still {w0 : World} {m : Mem} {T : Nat → Int} {n b o i j c d : Nat} {K : Value → Mem → Prop} (hk : ∀ q, q < n → m.kd b (o + q) = some .u8) (hv : ∀ q, q < n → m.val b (o + q) = T q)
  (hr : ∀ q, q < n → 0 ≤ T q ∧ T q < 256) (hi : i ≤ n) (hj : j ≤ n) (hK : ∀ z : Int, (ltl (sufl T n i) (sufl T n j) → z < 0) → K (.int .i64 z) m) :
  stillV Try.prog w0 9 [.slice (some ⟨b, o + i, none⟩) (n - i) c, .slice (some ⟨b, o + j, none⟩) (n - j) d] m K := by
 have hin : ∀ i, ∀ x ∈ sufl T n i, 0 ≤ x ∧ x < 256 := fun i x hx => by
  unfold sufl at hx
  obtain ⟨q, hq, rfl⟩ := List.mem_map.1 hx
  rw [List.mem_range'_1] at hq
  exact hr q (by omega)
 refine ⟨⟨Try.f9, Try.func9, by kernel_rfl, by kernel_rfl⟩, _, fun w hw => cmp_calls (run_compareSlices hw hk hv hi hj), hK _ fun h => ?_⟩
 rw [cmp_lt _ _ (hin i) (hin j) h]; decide
end Go.Proofs.Ytdhifgedhaapjaa
namespace Go.Proofs.Ytdhifgedhaapjaa
open Go Sa
structure DataOK (m : Mem) (sd : Option Addr) (n c : Nat) (T : Nat → Int) : Prop where
 row : rowOK m .u8 sd n c
 v : ∀ i, i < n → elemV m sd i = T i
 r : ∀ i, i < n → 0 ≤ T i ∧ T i < 256
 nc : n ≤ c
theorem DataOK.keep {m m' : Mem} {sd : Option Addr} {n c : Nat} {T : Nat → Int} (h : DataOK m sd n c T) (hs : SameK m m') (ho : Out m m' (fun x _ => m.fresh x)) : DataOK m' sd n c T :=
 ⟨h.row.keep hs, fun i hi => (h.row.same ho (fun h => h) hi).trans (h.v i hi), h.r, h.nc⟩
def L0_F4z : LS := ⟨[(13, .iv .i64)], [(14, .iv .i64)], [.exit 0]⟩
def I0_F4z : LI := fun ps ls _ => ps = [.iv .i64 0] ∧ ls = [.iv .i64 0]
def X0_F4z (m : Mem) : LX := fun _ _ _ m' => m' = m
def I1_F4z (m : Mem) : LI := fun ps ls m' => (ps = [.iv .i64 0] ∧ ls = [.iv .i64 0]) ∧ m' = m
def mu_F4z : LM := fun _ _ => 0
def lv_F4z (m0 : Mem) : Nat → Env → Mem → Post → Prop := fun i s m Q => match i with | 0 => lv1 L0_F4z (I1_F4z m0) (X0_F4z m0) s m Q | _ => False
theorem R0_F4z_eq (w0 : World) (m0 m : Mem) (k : Nat) (g : Env) :
  vc Try.prog w0 TryTt lvF jtF (roundOf (bodyOf Try.f4) 0) 0 (roundV (QL L0_F4z (X0_F4z m0) [.iv .i64 0]) (KL L0_F4z (I1_F4z m0) mu_F4z [.iv .i64 0] k)) (chainL (chainL g L0_F4z.ps [.iv .i64 0]) L0_F4z.ls [.iv .i64 0]) m =
  XF1 L0_F4z (X0_F4z m0) 0 [.iv .i64 0] [.int .i64 0] m := by kernel_rfl
theorem S0_F4z {w0 : World} (m0 : Mem) : ∀ s m Q, (lv_F4z m0) 0 s m Q → Sat Try.prog w0 46 (.loop (roundOf (bodyOf Try.f4) 0)) Q s m :=
 loopG TryMixed TryTt_ok (lv := lvF) (jt := jtF) (by kernel_rfl) (loopsOK_of _ 0 (loops0 (by kernel_rfl)) (scopes0 (by kernel_rfl))) L0_F4z (mu := mu_F4z) fun z13 z14 k m hI hm g => by
  obtain ⟨⟨h1, h2⟩, h3⟩ := hI
  cases h1
  cases h2
  exact (R0_F4z_eq w0 m0 m k g).mpr (XF1_mk h3)
theorem M_F4z_eq (w0 : World) (sd : Option Addr) (cd : Nat) (m : Mem) (K : Value → Mem → Prop) :
  vc Try.prog w0 TryTt (lv_F4z m) jtF (bodyOf Try.f4) 0 (postV Try.f4.results.toList K) (env0 [.slice sd 0 cd, .slice none 0 0]) m =
  (I1_F4z m [.iv .i64 0] [.iv .i64 0] m ∧ ∀ (z : Int) (m' : Mem), X0_F4z m 0 [.iv .i64 0] [.iv .i64 z] m' → ∀ _ : Env, K (.bool true) m') := by kernel_rfl
theorem sorted0 {w0 : World} {m : Mem} {sd : Option Addr} {cd : Nat} {K : Value → Mem → Prop} (hK : K (.bool true) m) : callV Try.prog w0 4 [.slice sd 0 cd, .slice none 0 0] m K :=
 callV_of TryMixed TryTt_ok (lv := lv_F4z m) (jt := jtF) (c := (bodyOf Try.f4)) Try.func4 (by kernel_rfl) (by kernel_rfl) (Nat.le_of_ble_eq_true (by kernel_rfl)) (by kernel_rfl) (loopsOK_of _ 0 (loops1 (by kernel_rfl) (S0_F4z m)) (scopes0 (by kernel_rfl)))
  ((M_F4z_eq w0 sd cd m K).mpr ⟨⟨⟨rfl, rfl⟩, rfl⟩, fun z m' h _ => by cases (show m' = m from h); exact hK⟩)
theorem sorted1 {w0 : World} {m : Mem} {T : Nat → Int} {n bd od cd bi oi ci : Nat} {A : Nat → Int} {K : Value → Mem → Prop} (hn : n ≤ 1000000) (hn1 : 1 ≤ n) (hd : DataOK m (some ⟨bd, od, none⟩) n cd T)
  (hr : ∀ q, q < n → m.kd bi (oi + q) = some .i64) (hv : ∀ q, q < n → m.val bi (oi + q) = A q) (hs : SA T n A) (hcd : n ≤ cd) (hK : K (.bool true) m) :
  callV Try.prog w0 4 [.slice (some ⟨bd, od, none⟩) n cd, .slice (some ⟨bi, oi, none⟩) n ci] m K := by
 have hdk : ∀ q, q < n → m.kd bd (od + q) = some .u8 := fun q hq => (hd.row q hq).2
 have hdv : ∀ q, q < n → m.val bd (od + q) = T q := hd.v
 let I : LI := fun ps ls m' => match ps, ls with
   | [.sl b o l c, .sl b' o' l' c', .sl b2 o2 l2 c2, .iv _ s13], [.bv _, .iv _ s14] => (bd = b ∧ od = o ∧ n = l ∧ cd = c ∧ bi = b' ∧ oi = o' ∧ n = l' ∧ bi = b2 ∧ oi = o2 ∧ n = l2) ∧ ∃ t : Nat, s13 = n ∧ s14 = t ∧ t ≤ n ∧ m' = m
   | _, _ => False
 let mu : LM := fun _ ls => match ls with | [_, .iv _ i] => (n - i).toNat | _ => 0
 refine C_F4 (I0 := I) (X0 := fun e _ _ m' => e = 0 ∧ m' = m) (mu0 := mu) ?_ ?_
 ·intro bd' od' ld' cd' bi' oi' li' ci' b12 o12 l12 c12 s13 s4 s14 k m' hI hmu
  obtain ⟨⟨rfl, rfl, rfl, rfl, rfl, rfl, rfl, rfl, rfl, rfl⟩, t, rfl, rfl, ht, rfl⟩ := (show (_ ∧ _ ∧ _ ∧ _ ∧ _ ∧ _ ∧ _ ∧ _ ∧ _ ∧ _) ∧ ∃ t : Nat, _ ∧ _ ∧ _ ∧ _ from hI)
  clear hI
  have hmu' : ((n : Int) - t).toNat < k + 1 := hmu
  have leaf : t < n → KF1 L0_F4 I mu (P0_F4 bd od n cd bi oi n ci' bi oi n c12 n) k [.bool s4, .int .i64 ((t : Int) + 1)] m' := fun h1 =>
   KF1_mk (And.intro (And.intro ⟨rfl, rfl, rfl, rfl, rfl, rfl, rfl, rfl, rfl, rfl⟩ ⟨t + 1, rfl, by omega, h1, rfl⟩) (show ((n : Int) - ((t : Int) + 1)).toNat < k from by omega))
  clear_value I mu
  unfold R0_F4
  refine cond_of (fun hb => ?_) (fun hb => ?_)
  ·have htn : t < n := by have := of_decide_eq_true hb; omega
   rw [Int.toNat_natCast]
   obtain ⟨j, hj, hjn⟩ := hs.a t htn
   have hi2 : inR .i64 ((t : Int) + 1) := inR_i64 (by omega) (by omega)
   have hi3 : inR .i64 ((t : Int) - 1) := inR_i64 (by omega) (by omega)
   refine ⟨by omega, by omega, hr t htn, fun z hz => ?_⟩
   obtain rfl : z = (j : Int) := hz.symm.trans ((hv t htn).trans hj)
   refine cond_of (fun hb1 => ?_) (fun _ => ?_)
   ·have := of_decide_eq_true hb1; omega
   refine cond_of (fun hb1 => ?_) (fun _ => ?_)
   ·have := of_decide_eq_true hb1; omega
   refine cond_of (fun hb1 => ?_) (fun _ => ?_)
   ·have ht0 := of_decide_eq_true hb1
    obtain ⟨u, rfl⟩ : ∃ u, t = u + 1 := ⟨t - 1, by omega⟩
    have eu : ((u + 1 : Nat) : Int) - 1 = (u : Int) := by omega
    rw [eu] at hi3 ⊢
    rw [Int.toNat_natCast]
    obtain ⟨i, hi, hin⟩ := hs.a u (by omega)
    refine ⟨hi3, by omega, by omega, hr u (by omega), fun z2 hz2 => ?_⟩
    obtain rfl : z2 = (i : Int) := hz2.symm.trans ((hv u (by omega)).trans hi)
    rw [Int.toNat_natCast, Int.toNat_natCast]
    refine ⟨by omega, by omega, by omega, by omega, by omega, by omega, ?_⟩
    refine cmp_still hdk hdv hd.r (Nat.le_of_lt hin) (Nat.le_of_lt hjn) fun z3 hz3 => ⟨z3, rfl, ?_⟩
    have hlt := hz3 (hs.e u (u + 1) i j (by omega) htn hi hj)
    refine cond_of (fun hb2 => ?_) (fun _ => ⟨hi2, leaf htn⟩)
    have := of_decide_eq_true hb2; omega
   ·exact ⟨hi2, leaf htn⟩
  ·exact XF1_mk ⟨rfl, rfl⟩
 ·unfold M_F4
  refine cond_of (fun hb => ?_) (fun _ => ?_)
  ·simp at hb
  ·refine And.intro (And.intro ⟨rfl, rfl, rfl, rfl, rfl, rfl, rfl, rfl, rfl, rfl⟩ ⟨0, rfl, rfl, Nat.zero_le _, rfl⟩) (And.intro (fun z1 z2 m3 hX _ => ?_) (fun z4 z5 m6 hX _ => ?_))
   ·cases hX.2; exact hK
   ·exact absurd hX.1 (by decide)
theorem sorted_ints {w0 : World} {m0 m : Mem} {T : Nat → Int} {n cd : Nat} {sd : Option Addr} {A : Nat → Int} {v : Value} {K : Value → Mem → Prop} (hn : n ≤ 1000000) (hd : DataOK m sd n cd T)
  (hi : IntsOK m0 m v n A) (hs : SA T n A) (hK : K (.bool true) m) : callV Try.prog w0 4 [.slice sd n cd, v] m K := by
 obtain ⟨sb, c, rfl, hnc, hsb⟩ := hi
 rcases Nat.eq_zero_or_pos n with h0 | h0
 ·subst h0
  cases sb with
  | none => obtain ⟨_, rfl⟩ := hsb; exact sorted0 hK
  | some a =>
   obtain ⟨b, o, pth⟩ := a
   cases pth with
   | some _ => exact hsb.elim
   | none => exact absurd hsb.1 (by omega)
 ·cases sb with
  | none => exact absurd hsb.1 (by omega)
  | some a =>
   obtain ⟨b, o, pth⟩ := a
   cases pth with
   | some _ => exact hsb.elim
   | none =>
    obtain ⟨_, _, _, h3, h4⟩ := hsb
    have hrow := hd.row
    cases sd with
    | none => exact absurd hrow.1 (by omega)
    | some d =>
     obtain ⟨bd, od, pth⟩ := d
     obtain rfl : pth = none := (hrow 0 h0).1
     exact sorted1 hn h0 hd (fun q hq => h3 q (by omega)) h4 hs hd.nc hK
section
variable {w0 : World} {T : Nat → Int} {n cd : Nat} {sd : Option Addr}
theorem half6 (hn : n ≤ 20000) {m : Mem} {K : Value → Mem → Prop} (hd : DataOK m sd n cd T) (hK : ∀ m', SameK m m' → Out m m' (fun x _ => m.fresh x) → K (.bool true) m') :
  callV Try.prog w0 6 [.slice sd n cd] m fun v1 m2 => ∃ b3 o4 l5 c6, v1 = .slice (some ⟨b3, o4, none⟩) l5 c6 ∧ callV Try.prog w0 5 [.slice (some ⟨b3, o4, none⟩) l5 c6] m2 fun v7 m8 => callV Try.prog w0 4 [.slice sd n cd, v7] m8 K := by
 refine arr_6 (by omega) hd.row hd.v hd.r fun B m2 hB hs2 ho2 hrd hsa => ⟨_, _, _, _, rfl, ?_⟩
 refine ints_5 (A := fun x => m2.val B (0 + x)) (by omega) hrd (fun _ _ => rfl) (fun i hi => ?_) fun v m8 hs8 ho8 hi8 => ?_
 ·obtain ⟨j, h1, h2⟩ := hsa.a i hi
  have h3 : m2.val B (0 + i) = (j : Int) := h1
  show 0 ≤ m2.val B (0 + i) ∧ m2.val B (0 + i) ≤ 1000000
  omega
 ·have hs := hs2.trans hs8
  have ho : Out m m8 (fun x _ => m.fresh x) := ho2.trans (ho8.mono fun x y h => hs2.fresh h)
  exact sorted_ints (by omega) (hd.keep hs ho) hi8 hsa (hK m8 hs ho)
theorem half8 (hn : n ≤ 20000) {m : Mem} {K : Value → Mem → Prop} (hd : DataOK m sd n cd T) (hK : ∀ m', SameK m m' → Out m m' (fun x _ => m.fresh x) → K (.bool true) m') :
  callV Try.prog w0 8 [.slice sd n cd] m fun v1 m2 => ∃ b3 o4 l5 c6, v1 = .slice (some ⟨b3, o4, none⟩) l5 c6 ∧ callV Try.prog w0 7 [.slice (some ⟨b3, o4, none⟩) l5 c6] m2 fun v7 m8 => callV Try.prog w0 4 [.slice sd n cd, v7] m8 K := by
 refine arr_8 (by omega) hd.row hd.v hd.r fun B m2 hB hs2 ho2 hrd hsa => ⟨_, _, _, _, rfl, ?_⟩
 refine ints_7 (A := fun x => m2.val B (0 + x)) (by omega) hrd (fun _ _ => rfl) (fun i hi => ?_) fun v m8 hs8 ho8 hi8 => ?_
 ·obtain ⟨j, h1, h2⟩ := hsa.a i hi
  have h3 : m2.val B (0 + i) = (j : Int) := h1
  show 0 ≤ m2.val B (0 + i) ∧ m2.val B (0 + i) ≤ 1000000
  omega
 ·have hs := hs2.trans hs8
  have ho : Out m m8 (fun x _ => m.fresh x) := ho2.trans (ho8.mono fun x y h => hs2.fresh h)
  exact sorted_ints (by omega) (hd.keep hs ho) hi8 hsa (hK m8 hs ho)
theorem fnSorted {m : Mem} {K : Value → Mem → Prop} (hd : DataOK m sd n cd T) (hK : ∀ m', SameK m m' → Out m m' (fun x _ => m.fresh x) → K (.bool true) m') : callV Try.prog w0 3 [.slice sd n cd] m K := by
 have hself := hK m (SameK.refl m) (Out.refl _ _)
 refine C_F3 ?_
 unfold M_F3
 refine cond_of (fun _ => hself) (fun _ => cond_of (fun _ => hself) (fun hb => ?_))
 have hb' := of_decide_eq_false hb
 refine half6 (by omega) hd fun m10 hs ho => ⟨true, rfl, ?_⟩
 exact half8 (by omega) (hd.keep hs ho) fun m' hs' ho' => ⟨true, rfl, hK m' (hs.trans hs') (ho.trans (ho'.mono fun x y h => hs.fresh h))⟩
end
end Go.Proofs.Ytdhifgedhaapjaa

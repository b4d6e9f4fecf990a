/- The words of naming, packing and bringing back. -/
import Derived.Test.YtdhifgedhaapjaaGreatDoorLl
import Derived.Test.YtdhifgedhaapjaaGreatDoorLe
import Derived.Test.YtdhifgedhaapjaaGreatDoorLg
namespace Go.Proofs.YtdhifgedhaapjaaGreatDoor
open Go Sa
structure InvA (m0 : Mem) (kt ks : IntKind) (T : Nat → Int) (n tm bt ot ba oa bk ok : Nat) (f : Value) (K : Nat) (S : Nat → Nat) (t : Nat) (id ll lp : Int) (m : Mem) : Prop where
 L : Lv m kt ks T n tm bt ot ba oa bk ok f
 hs : SameK m0 m
 ho : Out m0 m (InRow ba oa n)
 nm : AsInv T n K S (fun q => m0.val ba (oa + q)) t id ll lp (fun q => m.val ba (oa + q))
structure InvPk (m0 : Mem) (kt ks : IntKind) (T : Nat → Int) (n tm bt ot ba oa bk ok : Nat) (f : Value) (rk : Nat → Nat) (p w : Nat) (m : Mem) : Prop where
 L : Lv m kt ks T n tm bt ot ba oa bk ok f
 hs : SameK m0 m
 ho : Out m0 m (InRow ba oa n)
 pk : PkInv T n rk (fun q => m0.val ba (oa + q)) p w (fun q => m.val ba (oa + q))
structure InvU (m0 : Mem) (kt ks : IntKind) (T : Nat → Int) (n tm bt ot ba oa bk ok : Nat) (f : Value) (p j : Nat) (c0 : Int) (isS : Bool) (m : Mem) : Prop where
 L : Lv m kt ks T n tm bt ot ba oa bk ok f
 hs : SameK m0 m
 ho : Out m0 m (InRow ba oa n)
 it : It T n p c0 isS
 lo : ∀ q, q < n - nlms T n → m.val ba (oa + q) = m0.val ba (oa + q)
 un : UnInv T n p j (fun q => m.val ba (oa + (n - nlms T n) + q))
structure InvV (m0 : Mem) (kt ks : IntKind) (T : Nat → Int) (n tm bt ot ba oa bk ok : Nat) (f : Value) (S : Nat → Nat) (i : Nat) (m : Mem) : Prop where
 L : Lv m kt ks T n tm bt ot ba oa bk ok f
 hs : SameK m0 m
 ho : Out m0 m (InRow ba oa n)
 hi : i ≤ nlms T n
 done : ∀ q, q < i → m.val ba (oa + q) = (S q : Int)
 rest : ∀ q, i ≤ q → q < nlms T n → m.val ba (oa + q) = (rank T n (S q) : Int)
 un : ∀ k, Lms T n k → m.val ba (oa + (n - nlms T n) + rank T n k) = (k : Int)
end Go.Proofs.YtdhifgedhaapjaaGreatDoor
namespace Go.Proofs.YtdhifgedhaapjaaGreatDoor
open Go Sa
theorem assign_74 {w0 : World} {m : Mem} {T : Nat → Int} {n tm bt ot ct ba oa ca bk ok : Nat} {f : Value} {K : Value → Mem → Prop} (L : Lv m .u8 .i32 T n tm bt ot ba oa bk ok f)
  (hct : n ≤ ct) (hca : n ≤ ca) (hm1 : 1 ≤ nlms T n) {S : Nat → Nat} (hS : RowP T n S) (hby : Bytes T n 4) (hA : ∀ u, u < nlms T n → m.val ba (oa + (n - nlms T n) + u) = (S u : Int))
  (hc : ∀ u, u < nlms T n → Sa.Code T n 4 (S u) (m.val ba (oa + S u / 2)))
  (hK : ∀ m', SameK m m' → Out m m' (InRow ba oa n) → Lv m' .u8 .i32 T n tm bt ot ba oa bk ok f → (∀ u, u < nlms T n → m'.val ba (oa + S u / 2) = (rid (fun u => pc T n (S u)) u : Int)) →
   (∀ h, (∀ u, u < nlms T n → S u / 2 ≠ h) → m'.val ba (oa + h) = m.val ba (oa + h)) → K (.int .i64 (rid (fun u => pc T n (S u)) (nlms T n - 1))) m') :
  callV Tryz.prog w0 74 [.slice (some ⟨bt, ot, none⟩) n ct, .slice (some ⟨ba, oa, none⟩) n ca, .int .i64 (nlms T n)] m K := by
 have hn := L.hn
 have hmn : 2 * nlms T n + 1 ≤ n := nlms_half (by
  rcases Nat.eq_zero_or_pos n with h | h
  ·subst h; simp [nlms, cn] at hm1
  ·exact h)
 let I : LI := fun ps ls m' => match ps, ls with
   | [.sl b o l c, .sl b' o' l' c', .sl b2 o2 l2 c2, .iv _ s23], [.iv _ id, .iv _ ll, .iv _ lp, .iv _ s24] => (bt = b ∧ ot = o ∧ n = l ∧ ba = b' ∧ oa = o' ∧ n = l' ∧ ba = b2 ∧ oa + (n - nlms T n) = o2 ∧ nlms T n = l2 ∧ n ≤ c) ∧
     ∃ (t : Nat), s23 = nlms T n ∧ s24 = t ∧ InvA m .u8 .i32 T n tm bt ot ba oa bk ok f 4 S t id ll lp m'
   | _, _ => False
 let mu : LM := fun _ ls => match ls with | [_, _, _, .iv _ i] => (nlms T n - i).toNat | _ => 0
 let J : LI := fun ps ls m' => match ps, ls with
   | [_, _, .iv _ id, .iv _ ll, .iv _ lp, .iv _ j, .iv _ _, .iv _ n13, .sl bh oh lh _, .sl bz oz lz _, _, _, .iv _ s24], [.iv _ i] =>
     ∃ (t l jj pp x : Nat), (n13 = l ∧ bt = bh ∧ ot + jj = oh ∧ l = lh ∧ bt = bz ∧ ot + pp = oz ∧ l = lz) ∧ i = x ∧ s24 = t ∧ j = jj ∧ lp = pp ∧ jj + l ≤ n ∧ pp + l ≤ n ∧ x ≤ l ∧
      InvA m .u8 .i32 T n tm bt ot ba oa bk ok f 4 S t id ll lp m' ∧ ∀ k, k < x → T (jj + k) = T (pp + k)
   | _, _ => False
 let nu : LM := fun ps ls => match ps, ls with | [_, _, _, _, _, _, _, .iv _ n13, _, _, _, _, _], [.iv _ i] => (n13 - i).toNat | _, _ => 0
 refine C_F74 (I0 := I)
  (X0 := fun _ ps ls m' => match ls with
   | [.iv _ id, .iv _ ll, .iv _ lp, .iv _ s24] => InvA m .u8 .i32 T n tm bt ot ba oa bk ok f 4 S (nlms T n) id ll lp m'
   | _ => False) (mu0 := mu) (I1 := J)
  (X1 := fun e ps ls m' => match ps with
   | [_, _, .iv _ id, .iv _ ll, .iv _ lp, .iv _ j, .iv _ _, .iv _ n13, _, _, _, _, .iv _ s24] =>
     ∃ (t l jj pp : Nat), n13 = l ∧ s24 = t ∧ j = jj ∧ lp = pp ∧ InvA m .u8 .i32 T n tm bt ot ba oa bk ok f 4 S t id ll lp m' ∧ ((∀ k, k < l → T (jj + k) = T (pp + k)) ↔ e = 0)
   | _ => False) (mu1 := nu) ?_ ?_ ?_
 ·intro bt' ot' lt' ct' ba' oa' la' ca' b22 o22 l22 c22 s23 id ll lp s24 k m' hI hmu
  obtain ⟨⟨rfl, rfl, rfl, rfl, rfl, rfl, rfl, rfl, rfl, hct'⟩, t, rfl, rfl, hJ⟩ := (show (_ ∧ _ ∧ _ ∧ _ ∧ _ ∧ _ ∧ _ ∧ _ ∧ _ ∧ _) ∧ ∃ (t : Nat), _ ∧ _ ∧ InvA _ _ _ _ _ _ _ _ _ _ _ _ _ _ _ _ _ _ _ _ from hI)
  clear hI
  obtain ⟨L', hs, ho, nm⟩ := hJ
  have hmu' : ((nlms T n : Int) - t).toNat < k + 1 := hmu
  have leaf : ∀ {id' ll' lp' : Int} {m2 : Mem}, t < nlms T n → InvA m .u8 .i32 T n tm bt ot ba oa bk ok f 4 S (t + 1) id' ll' lp' m2 →
    KF1 L0_F74 I mu (P0_F74 bt ot n ct' ba oa n ca' ba (oa + (n - nlms T n)) (nlms T n) c22 (nlms T n)) k [.int .i64 id', .int .i32 ll', .int .i32 lp', .int .i64 ((t : Int) + 1)] m2 := fun hx h =>
   KF1_mk (And.intro (And.intro ⟨rfl, rfl, rfl, rfl, rfl, rfl, rfl, rfl, rfl, hct'⟩ ⟨t + 1, rfl, by omega, h⟩) (show ((nlms T n : Int) - ((t : Int) + 1)).toNat < k from by omega))
  have jin : ∀ {c1 c2 c3 : Nat} {jj pp l : Nat} {nn : Int}, lp = pp → jj + l ≤ n → pp + l ≤ n → J (P1_F74 bt ot n ct' ba oa n ca' id ll lp jj nn l bt (ot + jj) l c1 bt (ot + pp) l c2 ba (oa + (n - nlms T n)) (nlms T n) c3 (nlms T n) t) [.iv .i64 (0 : Int)] m' :=
   fun {c1 c2 c3 jj pp l nn} h1 h2 h3 => ⟨t, l, jj, pp, 0, ⟨rfl, rfl, rfl, rfl, rfl, rfl, rfl⟩, rfl, rfl, rfl, h1, h2, h3, Nat.zero_le _, ⟨L', hs, ho, nm⟩, fun k hk => by omega⟩
  clear_value I mu J nu
  unfold R0_F74
  refine cond_of (fun hb => ?_) (fun hb => ?_)
  ·have htm : t < nlms T n := by have := of_decide_eq_true hb; omega
   have hSt := (hS.l t htm).lt
   have hhl := half_lt (hS.l t htm)
   have hh : S t / 2 < n := by omega
   rw [Int.toNat_natCast]
   have hk1 : m'.kd ba (oa + (n - nlms T n) + t) = some .i32 := by
    rw [Nat.add_assoc]; exact L'.sa _ (by omega)
   have hk2 := L'.sa _ hh
   have hr1 := L'.sro
   have hid := nm.id_lo
   have hi64 : inR .i64 ((t : Int) + 1) := inR_i64 (by omega) (by omega)
   have hi1 : inR .i64 (id + 1) := inR_i64 (by omega) (by omega)
   have hi2 : inR .i32 (id + 1) := inR_i32 (by omega) (by omega)
   have hi3 : inR .i32 id := inR_i32 (by omega) (by omega)
   have hi4 : inR .i32 ((S t / 2 : Nat) : Int) := inR_i32 (by omega) (by omega)
   have hread : m'.val ba (oa + (n - nlms T n) + t) = (S t : Int) := by
    have := nm.oth ((n - nlms T n) + t) (fun u hu e => by have := half_lt (hS.l u hu); omega)
    rw [Nat.add_assoc]
    rw [← Nat.add_assoc] at this ⊢
    rw [Nat.add_assoc, ← hA t htm, Nat.add_assoc] at *
    exact this
   repeat ((with_reducible refine And.intro ?_ ?_); · first | omega | with_reducible assumption | exact hk1 | exact hk2 | exact hr1)
   intro z hz
   obtain rfl : z = (S t : Int) := hz.symm.trans hread
   have sh : ((S t : Nat) : Int) / (2 : Int) = ((S t / 2 : Nat) : Int) := by omega
   rw [sh, Int.toNat_natCast, Int.toNat_natCast]
   repeat ((with_reducible refine And.intro ?_ ?_); · first | omega | with_reducible assumption | exact hk1 | exact hk2 | exact hr1)
   intro v hv
   refine cond_of (fun hb1 => ?_) (fun hb1 => ?_)
   ·have hne : m'.val ba (oa + S t / 2) ≠ ll := fun e => by rw [hv.symm.trans e] at hb1; simp at hb1
    have hnew := nm.differ hS.toRow htm hne
    have hcv := nm.rest t (Nat.le_refl _) htm
    rw [hv] at hcv
    repeat ((with_reducible refine And.intro ?_ ?_); · first | omega | with_reducible assumption | exact hk1 | exact hk2 | exact hr1)
    intro m9 hm9
    subst hm9
    repeat ((with_reducible refine And.intro ?_ ?_); · first | omega | with_reducible assumption | exact hk1 | exact hk2 | exact hr1)
    refine leaf htm (InvA.mk (L'.stA hh _) (hs.trans (SameK.st _ _ _ _)) (ho.st (InRow.mk hh) _) ((nm.new hS.toRow htm hnew hcv).congr fun y => ?_))
    rw [st_val]
   ·have he : v = ll := bne_eq_false_iff_eq.1 hb1
    obtain ⟨h1t, jp, hlp, hjp, hcase⟩ := nm.alike hby hS.toRow htm (hv.trans he)
    subst he
    rw [wrap_u32, wrap_u32, Int.emod_eq_of_lt (a := (n : Int)) (by omega) (by omega)]
    refine cond_of (fun hb2 => ?_) (fun hb2 => ?_)
    ·have hge : v % 256 ^ 4 ≥ (n : Int) := of_decide_eq_true hb2
     have hsame : pc T n (S (t - 1)) = pc T n (S t) := by
      rcases hcase with ⟨_, _, h⟩ | ⟨l, h, _, h2, _⟩
      ·exact h
      ·rw [h, Int.emod_eq_of_lt (by omega) (by omega)] at hge; omega
     repeat ((with_reducible refine And.intro ?_ ?_); · first | omega | with_reducible assumption | exact hk1 | exact hk2 | exact hr1)
     intro m9 hm9
     subst hm9
     repeat ((with_reducible refine And.intro ?_ ?_); · first | omega | with_reducible assumption | exact hk1 | exact hk2 | exact hr1)
     refine leaf htm (InvA.mk (L'.stA hh _) (hs.trans (SameK.st _ _ _ _)) (ho.st (InRow.mk hh) _) ((nm.same hS.toRow htm h1t hsame).congr fun y => ?_))
     rw [st_val]
    ·have hge : ¬ v % 256 ^ 4 ≥ (n : Int) := of_decide_eq_false hb2
     obtain ⟨l, rfl, g1, g2, g3, g4, hiff⟩ : ∃ l : Nat, v = l ∧ 0 < l ∧ l < n ∧ jp + l ≤ n ∧ S t + l ≤ n ∧ (pc T n (S (t - 1)) = pc T n (S t) ↔ ∀ k, k < l → T (S t + k) = T (jp + k)) := by
      rcases hcase with ⟨h0, h, _⟩ | h
      ·exact absurd h hge
      ·exact h
     subst hlp
     have hcv := nm.rest t (Nat.le_refl _) htm
     rw [hv] at hcv
     have hi5 : inR .i64 (l : Int) := inR_i64 (by omega) (by omega)
     rw [Int.toNat_natCast, Int.toNat_natCast]
     repeat ((with_reducible refine And.intro ?_ ?_); · first | omega | with_reducible assumption | exact hk1 | exact hk2 | exact hr1)
     refine And.intro (jin rfl g4 g3) (And.intro ?_ ?_)
     ·intro z10 m11 hX _
      obtain ⟨t', l', jj', pp', e1, e2, e3, e4, ⟨L', hs, ho, nm⟩, hx⟩ := (show ∃ (t l jj pp : Nat), _ = _ ∧ _ = _ ∧ _ = _ ∧ _ = _ ∧ InvA _ _ _ _ _ _ _ _ _ _ _ _ _ _ _ _ _ _ _ _ ∧ _ from hX)
      obtain rfl : t = t' := by omega
      obtain rfl : l = l' := by omega
      obtain rfl : S t = jj' := by omega
      obtain rfl : jp = pp' := by omega
      have hsame := hiff.2 (hx.2 rfl)
      have hk2 := L'.sa _ hh
      have hr1 := L'.sro
      repeat ((with_reducible refine And.intro ?_ ?_); · first | omega | with_reducible assumption | exact hk1 | exact hk2 | exact hr1)
      intro m9 hm9
      subst hm9
      repeat ((with_reducible refine And.intro ?_ ?_); · first | omega | with_reducible assumption | exact hk1 | exact hk2 | exact hr1)
      refine leaf htm (InvA.mk (L'.stA hh _) (hs.trans (SameK.st _ _ _ _)) (ho.st (InRow.mk hh) _) ((nm.same hS.toRow htm h1t hsame).congr fun y => ?_))
      rw [st_val]
     ·intro z13 m14 hX _
      obtain ⟨t', l', jj', pp', e1, e2, e3, e4, ⟨L', hs, ho, nm⟩, hx⟩ := (show ∃ (t l jj pp : Nat), _ = _ ∧ _ = _ ∧ _ = _ ∧ _ = _ ∧ InvA _ _ _ _ _ _ _ _ _ _ _ _ _ _ _ _ _ _ _ _ ∧ _ from hX)
      obtain rfl : t = t' := by omega
      obtain rfl : l = l' := by omega
      obtain rfl : S t = jj' := by omega
      obtain rfl : jp = pp' := by omega
      have hnew : 1 ≤ t → pc T n (S (t - 1)) ≠ pc T n (S t) := fun _ h => absurd (hx.1 (hiff.1 h)) (by decide)
      have hk2 := L'.sa _ hh
      have hr1 := L'.sro
      repeat ((with_reducible refine And.intro ?_ ?_); · first | omega | with_reducible assumption | exact hk1 | exact hk2 | exact hr1)
      intro m9 hm9
      subst hm9
      repeat ((with_reducible refine And.intro ?_ ?_); · first | omega | with_reducible assumption | exact hk1 | exact hk2 | exact hr1)
      refine leaf htm (InvA.mk (L'.stA hh _) (hs.trans (SameK.st _ _ _ _)) (ho.st (InRow.mk hh) _) ((nm.new hS.toRow htm hnew hcv).congr fun y => ?_))
      rw [st_val]
  ·have htm : ¬ t < nlms T n := by have := of_decide_eq_false hb; omega
   have hle := nm.tm
   obtain rfl : t = nlms T n := by omega
   exact XF1_mk (show InvA _ _ _ _ _ _ _ _ _ _ _ _ _ _ _ _ _ _ _ _ from ⟨L', hs, ho, nm⟩)
 ·intro bt' ot' lt' ct' ba' oa' la' ca' id ll lp j nn n13 bh oh lh ch bz oz lz cz b22 o22 l22 c22 s23 s24 i k m' hI hmu
  obtain ⟨t, l, jj, pp, x, ⟨rfl, rfl, rfl, rfl, rfl, rfl, rfl⟩, rfl, rfl, rfl, rfl, h1, h2, hx, hJ, heq⟩ := (show ∃ (t l jj pp x : Nat), (_ ∧ _ ∧ _ ∧ _ ∧ _ ∧ _ ∧ _) ∧ _ ∧ _ ∧ _ ∧ _ ∧ _ ∧ _ ∧ _ ∧ InvA _ _ _ _ _ _ _ _ _ _ _ _ _ _ _ _ _ _ _ _ ∧ _ from hI)
  clear hI
  have hmu' : ((l : Int) - x).toNat < k + 1 := hmu
  have leaf : x < l → T (jj + x) = T (pp + x) → KF1 L1_F74 J nu (P1_F74 bt' ot' lt' ct' ba' oa' la' ca' id ll pp jj nn l bt (ot + jj) l ch bt (ot + pp) l cz b22 o22 l22 c22 s23 t) k [.int .i64 ((x : Int) + 1)] m' := fun hx1 he =>
   KF1_mk (And.intro ⟨t, l, jj, pp, x + 1, ⟨rfl, rfl, rfl, rfl, rfl, rfl, rfl⟩, by omega, rfl, rfl, rfl, h1, h2, by omega, hJ, fun k hk => by
    by_cases hkx : k = x
    ·subst hkx; exact he
    ·exact heq k (by omega)⟩ (show ((l : Int) - ((x : Int) + 1)).toNat < k from by omega))
  clear_value I mu J nu
  unfold R1_F74
  refine cond_of (fun hb => ?_) (fun hb => ?_)
  ·have hxl : x < l := by have := of_decide_eq_true hb; omega
   rw [Int.toNat_natCast]
   have L' := hJ.L
   have hk1 : m'.kd bt (ot + jj + x) = some .u8 := by rw [Nat.add_assoc]; exact L'.tx.rd _ (by omega)
   have hk2 : m'.kd bt (ot + pp + x) = some .u8 := by rw [Nat.add_assoc]; exact L'.tx.rd _ (by omega)
   have hi64 : inR .i64 ((x : Int) + 1) := inR_i64 (by omega) (by omega)
   repeat ((with_reducible refine And.intro ?_ ?_); · first | omega | with_reducible assumption | exact hk1 | exact hk2 | exact hr1)
   intro z16 hz16
   obtain rfl : z16 = T (jj + x) := by rw [← hz16, Nat.add_assoc]; exact L'.tx.v _ (by omega)
   repeat ((with_reducible refine And.intro ?_ ?_); · first | omega | with_reducible assumption | exact hk1 | exact hk2 | exact hr1)
   intro z17 hz17
   obtain rfl : z17 = T (pp + x) := by rw [← hz17, Nat.add_assoc]; exact L'.tx.v _ (by omega)
   refine cond_of (fun hb1 => ?_) (fun hb1 => ?_)
   ·have hne : T (jj + x) ≠ T (pp + x) := fun e => by rw [e] at hb1; simp at hb1
    exact XF1_mk (show ∃ (t l jj pp : Nat), _ = _ ∧ _ = _ ∧ _ = _ ∧ _ = _ ∧ InvA _ _ _ _ _ _ _ _ _ _ _ _ _ _ _ _ _ _ _ _ ∧ _ from ⟨t, l, jj, pp, rfl, rfl, rfl, rfl, hJ, ⟨fun h => absurd (h x hxl) hne, fun h => absurd h (by decide)⟩⟩)
   ·exact ⟨hi64, leaf hxl (bne_eq_false_iff_eq.1 hb1)⟩
  ·have hxl : ¬ x < l := by have := of_decide_eq_false hb; omega
   obtain rfl : x = l := by omega
   exact XF1_mk (show ∃ (t l jj pp : Nat), _ = _ ∧ _ = _ ∧ _ = _ ∧ _ = _ ∧ InvA _ _ _ _ _ _ _ _ _ _ _ _ _ _ _ _ _ _ _ _ ∧ _ from ⟨t, x, jj, pp, rfl, rfl, rfl, rfl, hJ, ⟨fun _ => rfl, fun _ => heq⟩⟩)
 ·unfold M_F74
  have e1 : Int.toNat ((n : Int) - (nlms T n : Int)) = n - nlms T n := by omega
  have e2 : n - (n - nlms T n) = nlms T n := by omega
  have hi1 : inR .i64 ((n : Int) - (nlms T n : Int)) := inR_i64 (by omega) (by omega)
  rw [e1, e2]
  repeat ((with_reducible refine And.intro ?_ ?_); · first | omega | with_reducible assumption | exact hk1 | exact hk2 | exact hr1)
  refine And.intro (And.intro ⟨rfl, rfl, rfl, rfl, rfl, rfl, rfl, rfl, rfl, hct⟩ ⟨0, rfl, rfl, L, SameK.refl _, Out.refl _ _, AsInv.start hc⟩) (fun z1 z2 z3 z4 m5 hX _ => ?_)
  have J' := (show InvA _ _ _ _ _ _ _ _ _ _ _ _ _ _ _ _ _ _ _ _ from hX)
  have hid : z1 = (rid (fun u => pc T n (S u)) (nlms T n - 1) : Int) := by
   rcases J'.nm.st with ⟨h, _⟩ | ⟨u0, _, h, _⟩
   ·omega
   ·exact h
  rw [hid]
  exact hK m5 J'.hs J'.ho J'.L (fun u hu => J'.nm.done u hu) (fun i hi => J'.nm.oth i hi)
theorem assign_109 {w0 : World} {m : Mem} {T : Nat → Int} {n tm bt ot ct ba oa ca bk ok : Nat} {f : Value} {K : Value → Mem → Prop} (L : Lv m .i32 .i32 T n tm bt ot ba oa bk ok f)
  (hct : n ≤ ct) (hca : n ≤ ca) (hm1 : 1 ≤ nlms T n) {S : Nat → Nat} (hS : RowP T n S) (hby : Bytes T n 0) (hA : ∀ u, u < nlms T n → m.val ba (oa + (n - nlms T n) + u) = (S u : Int))
  (hc : ∀ u, u < nlms T n → Sa.Code T n 0 (S u) (m.val ba (oa + S u / 2)))
  (hK : ∀ m', SameK m m' → Out m m' (InRow ba oa n) → Lv m' .i32 .i32 T n tm bt ot ba oa bk ok f → (∀ u, u < nlms T n → m'.val ba (oa + S u / 2) = (rid (fun u => pc T n (S u)) u : Int)) →
   (∀ h, (∀ u, u < nlms T n → S u / 2 ≠ h) → m'.val ba (oa + h) = m.val ba (oa + h)) → K (.int .i64 (rid (fun u => pc T n (S u)) (nlms T n - 1))) m') :
  callV Tryz.prog w0 109 [.slice (some ⟨bt, ot, none⟩) n ct, .slice (some ⟨ba, oa, none⟩) n ca, .int .i64 (nlms T n)] m K := by
 have hn := L.hn
 have hmn : 2 * nlms T n + 1 ≤ n := nlms_half (by
  rcases Nat.eq_zero_or_pos n with h | h
  ·subst h; simp [nlms, cn] at hm1
  ·exact h)
 let I : LI := fun ps ls m' => match ps, ls with
   | [.sl b o l c, .sl b' o' l' c', .sl b2 o2 l2 c2, .iv _ s23], [.iv _ id, .iv _ ll, .iv _ lp, .iv _ s24] => (bt = b ∧ ot = o ∧ n = l ∧ ba = b' ∧ oa = o' ∧ n = l' ∧ ba = b2 ∧ oa + (n - nlms T n) = o2 ∧ nlms T n = l2 ∧ n ≤ c) ∧
     ∃ (t : Nat), s23 = nlms T n ∧ s24 = t ∧ InvA m .i32 .i32 T n tm bt ot ba oa bk ok f 0 S t id ll lp m'
   | _, _ => False
 let mu : LM := fun _ ls => match ls with | [_, _, _, .iv _ i] => (nlms T n - i).toNat | _ => 0
 let J : LI := fun ps ls m' => match ps, ls with
   | [_, _, .iv _ id, .iv _ ll, .iv _ lp, .iv _ j, .iv _ _, .iv _ n13, .sl bh oh lh _, .sl bz oz lz _, _, _, .iv _ s24], [.iv _ i] =>
     ∃ (t l jj pp x : Nat), (n13 = l ∧ bt = bh ∧ ot + jj = oh ∧ l = lh ∧ bt = bz ∧ ot + pp = oz ∧ l = lz) ∧ i = x ∧ s24 = t ∧ j = jj ∧ lp = pp ∧ jj + l ≤ n ∧ pp + l ≤ n ∧ x ≤ l ∧
      InvA m .i32 .i32 T n tm bt ot ba oa bk ok f 0 S t id ll lp m' ∧ ∀ k, k < x → T (jj + k) = T (pp + k)
   | _, _ => False
 let nu : LM := fun ps ls => match ps, ls with | [_, _, _, _, _, _, _, .iv _ n13, _, _, _, _, _], [.iv _ i] => (n13 - i).toNat | _, _ => 0
 refine C_F109 (I0 := I)
  (X0 := fun _ ps ls m' => match ls with
   | [.iv _ id, .iv _ ll, .iv _ lp, .iv _ s24] => InvA m .i32 .i32 T n tm bt ot ba oa bk ok f 0 S (nlms T n) id ll lp m'
   | _ => False) (mu0 := mu) (I1 := J)
  (X1 := fun e ps ls m' => match ps with
   | [_, _, .iv _ id, .iv _ ll, .iv _ lp, .iv _ j, .iv _ _, .iv _ n13, _, _, _, _, .iv _ s24] =>
     ∃ (t l jj pp : Nat), n13 = l ∧ s24 = t ∧ j = jj ∧ lp = pp ∧ InvA m .i32 .i32 T n tm bt ot ba oa bk ok f 0 S t id ll lp m' ∧ ((∀ k, k < l → T (jj + k) = T (pp + k)) ↔ e = 0)
   | _ => False) (mu1 := nu) ?_ ?_ ?_
 ·intro bt' ot' lt' ct' ba' oa' la' ca' b22 o22 l22 c22 s23 id ll lp s24 k m' hI hmu
  obtain ⟨⟨rfl, rfl, rfl, rfl, rfl, rfl, rfl, rfl, rfl, hct'⟩, t, rfl, rfl, hJ⟩ := (show (_ ∧ _ ∧ _ ∧ _ ∧ _ ∧ _ ∧ _ ∧ _ ∧ _ ∧ _) ∧ ∃ (t : Nat), _ ∧ _ ∧ InvA _ _ _ _ _ _ _ _ _ _ _ _ _ _ _ _ _ _ _ _ from hI)
  clear hI
  obtain ⟨L', hs, ho, nm⟩ := hJ
  have hmu' : ((nlms T n : Int) - t).toNat < k + 1 := hmu
  have leaf : ∀ {id' ll' lp' : Int} {m2 : Mem}, t < nlms T n → InvA m .i32 .i32 T n tm bt ot ba oa bk ok f 0 S (t + 1) id' ll' lp' m2 →
    KF1 L0_F109 I mu (P0_F109 bt ot n ct' ba oa n ca' ba (oa + (n - nlms T n)) (nlms T n) c22 (nlms T n)) k [.int .i64 id', .int .i32 ll', .int .i32 lp', .int .i64 ((t : Int) + 1)] m2 := fun hx h =>
   KF1_mk (And.intro (And.intro ⟨rfl, rfl, rfl, rfl, rfl, rfl, rfl, rfl, rfl, hct'⟩ ⟨t + 1, rfl, by omega, h⟩) (show ((nlms T n : Int) - ((t : Int) + 1)).toNat < k from by omega))
  have jin : ∀ {c1 c2 c3 : Nat} {jj pp l : Nat} {nn : Int}, lp = pp → jj + l ≤ n → pp + l ≤ n → J (P1_F109 bt ot n ct' ba oa n ca' id ll lp jj nn l bt (ot + jj) l c1 bt (ot + pp) l c2 ba (oa + (n - nlms T n)) (nlms T n) c3 (nlms T n) t) [.iv .i64 (0 : Int)] m' :=
   fun {c1 c2 c3 jj pp l nn} h1 h2 h3 => ⟨t, l, jj, pp, 0, ⟨rfl, rfl, rfl, rfl, rfl, rfl, rfl⟩, rfl, rfl, rfl, h1, h2, h3, Nat.zero_le _, ⟨L', hs, ho, nm⟩, fun k hk => by omega⟩
  clear_value I mu J nu
  unfold R0_F109
  refine cond_of (fun hb => ?_) (fun hb => ?_)
  ·have htm : t < nlms T n := by have := of_decide_eq_true hb; omega
   have hSt := (hS.l t htm).lt
   have hhl := half_lt (hS.l t htm)
   have hh : S t / 2 < n := by omega
   rw [Int.toNat_natCast]
   have hk1 : m'.kd ba (oa + (n - nlms T n) + t) = some .i32 := by
    rw [Nat.add_assoc]; exact L'.sa _ (by omega)
   have hk2 := L'.sa _ hh
   have hr1 := L'.sro
   have hid := nm.id_lo
   have hi64 : inR .i64 ((t : Int) + 1) := inR_i64 (by omega) (by omega)
   have hi1 : inR .i64 (id + 1) := inR_i64 (by omega) (by omega)
   have hi2 : inR .i32 (id + 1) := inR_i32 (by omega) (by omega)
   have hi3 : inR .i32 id := inR_i32 (by omega) (by omega)
   have hi4 : inR .i32 ((S t / 2 : Nat) : Int) := inR_i32 (by omega) (by omega)
   have hread : m'.val ba (oa + (n - nlms T n) + t) = (S t : Int) := by
    have := nm.oth ((n - nlms T n) + t) (fun u hu e => by have := half_lt (hS.l u hu); omega)
    rw [Nat.add_assoc]
    rw [← Nat.add_assoc] at this ⊢
    rw [Nat.add_assoc, ← hA t htm, Nat.add_assoc] at *
    exact this
   repeat ((with_reducible refine And.intro ?_ ?_); · first | omega | with_reducible assumption | exact hk1 | exact hk2 | exact hr1)
   intro z hz
   obtain rfl : z = (S t : Int) := hz.symm.trans hread
   have sh : ((S t : Nat) : Int) / (2 : Int) = ((S t / 2 : Nat) : Int) := by omega
   rw [sh, Int.toNat_natCast, Int.toNat_natCast]
   repeat ((with_reducible refine And.intro ?_ ?_); · first | omega | with_reducible assumption | exact hk1 | exact hk2 | exact hr1)
   intro v hv
   refine cond_of (fun hb1 => ?_) (fun hb1 => ?_)
   ·have hne : m'.val ba (oa + S t / 2) ≠ ll := fun e => by rw [hv.symm.trans e] at hb1; simp at hb1
    have hnew := nm.differ hS.toRow htm hne
    have hcv := nm.rest t (Nat.le_refl _) htm
    rw [hv] at hcv
    repeat ((with_reducible refine And.intro ?_ ?_); · first | omega | with_reducible assumption | exact hk1 | exact hk2 | exact hr1)
    intro m9 hm9
    subst hm9
    repeat ((with_reducible refine And.intro ?_ ?_); · first | omega | with_reducible assumption | exact hk1 | exact hk2 | exact hr1)
    refine leaf htm (InvA.mk (L'.stA hh _) (hs.trans (SameK.st _ _ _ _)) (ho.st (InRow.mk hh) _) ((nm.new hS.toRow htm hnew hcv).congr fun y => ?_))
    rw [st_val]
   ·have he : v = ll := bne_eq_false_iff_eq.1 hb1
    obtain ⟨h1t, jp, hlp, hjp, hcase⟩ := nm.alike hby hS.toRow htm (hv.trans he)
    subst he
    rw [wrap_u32, wrap_u32, Int.emod_eq_of_lt (a := (n : Int)) (by omega) (by omega)]
    refine cond_of (fun hb2 => ?_) (fun hb2 => ?_)
    ·have hge : v % 256 ^ 4 ≥ (n : Int) := of_decide_eq_true hb2
     have hsame : pc T n (S (t - 1)) = pc T n (S t) := by
      rcases hcase with ⟨_, _, h⟩ | ⟨l, h, _, h2, _⟩
      ·exact h
      ·rw [h, Int.emod_eq_of_lt (by omega) (by omega)] at hge; omega
     repeat ((with_reducible refine And.intro ?_ ?_); · first | omega | with_reducible assumption | exact hk1 | exact hk2 | exact hr1)
     intro m9 hm9
     subst hm9
     repeat ((with_reducible refine And.intro ?_ ?_); · first | omega | with_reducible assumption | exact hk1 | exact hk2 | exact hr1)
     refine leaf htm (InvA.mk (L'.stA hh _) (hs.trans (SameK.st _ _ _ _)) (ho.st (InRow.mk hh) _) ((nm.same hS.toRow htm h1t hsame).congr fun y => ?_))
     rw [st_val]
    ·have hge : ¬ v % 256 ^ 4 ≥ (n : Int) := of_decide_eq_false hb2
     obtain ⟨l, rfl, g1, g2, g3, g4, hiff⟩ : ∃ l : Nat, v = l ∧ 0 < l ∧ l < n ∧ jp + l ≤ n ∧ S t + l ≤ n ∧ (pc T n (S (t - 1)) = pc T n (S t) ↔ ∀ k, k < l → T (S t + k) = T (jp + k)) := by
      rcases hcase with ⟨h0, h, _⟩ | h
      ·exact absurd rfl h0
      ·exact h
     subst hlp
     have hcv := nm.rest t (Nat.le_refl _) htm
     rw [hv] at hcv
     have hi5 : inR .i64 (l : Int) := inR_i64 (by omega) (by omega)
     rw [Int.toNat_natCast, Int.toNat_natCast]
     repeat ((with_reducible refine And.intro ?_ ?_); · first | omega | with_reducible assumption | exact hk1 | exact hk2 | exact hr1)
     refine And.intro (jin rfl g4 g3) (And.intro ?_ ?_)
     ·intro z10 m11 hX _
      obtain ⟨t', l', jj', pp', e1, e2, e3, e4, ⟨L', hs, ho, nm⟩, hx⟩ := (show ∃ (t l jj pp : Nat), _ = _ ∧ _ = _ ∧ _ = _ ∧ _ = _ ∧ InvA _ _ _ _ _ _ _ _ _ _ _ _ _ _ _ _ _ _ _ _ ∧ _ from hX)
      obtain rfl : t = t' := by omega
      obtain rfl : l = l' := by omega
      obtain rfl : S t = jj' := by omega
      obtain rfl : jp = pp' := by omega
      have hsame := hiff.2 (hx.2 rfl)
      have hk2 := L'.sa _ hh
      have hr1 := L'.sro
      repeat ((with_reducible refine And.intro ?_ ?_); · first | omega | with_reducible assumption | exact hk1 | exact hk2 | exact hr1)
      intro m9 hm9
      subst hm9
      repeat ((with_reducible refine And.intro ?_ ?_); · first | omega | with_reducible assumption | exact hk1 | exact hk2 | exact hr1)
      refine leaf htm (InvA.mk (L'.stA hh _) (hs.trans (SameK.st _ _ _ _)) (ho.st (InRow.mk hh) _) ((nm.same hS.toRow htm h1t hsame).congr fun y => ?_))
      rw [st_val]
     ·intro z13 m14 hX _
      obtain ⟨t', l', jj', pp', e1, e2, e3, e4, ⟨L', hs, ho, nm⟩, hx⟩ := (show ∃ (t l jj pp : Nat), _ = _ ∧ _ = _ ∧ _ = _ ∧ _ = _ ∧ InvA _ _ _ _ _ _ _ _ _ _ _ _ _ _ _ _ _ _ _ _ ∧ _ from hX)
      obtain rfl : t = t' := by omega
      obtain rfl : l = l' := by omega
      obtain rfl : S t = jj' := by omega
      obtain rfl : jp = pp' := by omega
      have hnew : 1 ≤ t → pc T n (S (t - 1)) ≠ pc T n (S t) := fun _ h => absurd (hx.1 (hiff.1 h)) (by decide)
      have hk2 := L'.sa _ hh
      have hr1 := L'.sro
      repeat ((with_reducible refine And.intro ?_ ?_); · first | omega | with_reducible assumption | exact hk1 | exact hk2 | exact hr1)
      intro m9 hm9
      subst hm9
      repeat ((with_reducible refine And.intro ?_ ?_); · first | omega | with_reducible assumption | exact hk1 | exact hk2 | exact hr1)
      refine leaf htm (InvA.mk (L'.stA hh _) (hs.trans (SameK.st _ _ _ _)) (ho.st (InRow.mk hh) _) ((nm.new hS.toRow htm hnew hcv).congr fun y => ?_))
      rw [st_val]
  ·have htm : ¬ t < nlms T n := by have := of_decide_eq_false hb; omega
   have hle := nm.tm
   obtain rfl : t = nlms T n := by omega
   exact XF1_mk (show InvA _ _ _ _ _ _ _ _ _ _ _ _ _ _ _ _ _ _ _ _ from ⟨L', hs, ho, nm⟩)
 ·intro bt' ot' lt' ct' ba' oa' la' ca' id ll lp j nn n13 bh oh lh ch bz oz lz cz b22 o22 l22 c22 s23 s24 i k m' hI hmu
  obtain ⟨t, l, jj, pp, x, ⟨rfl, rfl, rfl, rfl, rfl, rfl, rfl⟩, rfl, rfl, rfl, rfl, h1, h2, hx, hJ, heq⟩ := (show ∃ (t l jj pp x : Nat), (_ ∧ _ ∧ _ ∧ _ ∧ _ ∧ _ ∧ _) ∧ _ ∧ _ ∧ _ ∧ _ ∧ _ ∧ _ ∧ _ ∧ InvA _ _ _ _ _ _ _ _ _ _ _ _ _ _ _ _ _ _ _ _ ∧ _ from hI)
  clear hI
  have hmu' : ((l : Int) - x).toNat < k + 1 := hmu
  have leaf : x < l → T (jj + x) = T (pp + x) → KF1 L1_F109 J nu (P1_F109 bt' ot' lt' ct' ba' oa' la' ca' id ll pp jj nn l bt (ot + jj) l ch bt (ot + pp) l cz b22 o22 l22 c22 s23 t) k [.int .i64 ((x : Int) + 1)] m' := fun hx1 he =>
   KF1_mk (And.intro ⟨t, l, jj, pp, x + 1, ⟨rfl, rfl, rfl, rfl, rfl, rfl, rfl⟩, by omega, rfl, rfl, rfl, h1, h2, by omega, hJ, fun k hk => by
    by_cases hkx : k = x
    ·subst hkx; exact he
    ·exact heq k (by omega)⟩ (show ((l : Int) - ((x : Int) + 1)).toNat < k from by omega))
  clear_value I mu J nu
  unfold R1_F109
  refine cond_of (fun hb => ?_) (fun hb => ?_)
  ·have hxl : x < l := by have := of_decide_eq_true hb; omega
   rw [Int.toNat_natCast]
   have L' := hJ.L
   have hk1 : m'.kd bt (ot + jj + x) = some .i32 := by rw [Nat.add_assoc]; exact L'.tx.rd _ (by omega)
   have hk2 : m'.kd bt (ot + pp + x) = some .i32 := by rw [Nat.add_assoc]; exact L'.tx.rd _ (by omega)
   have hi64 : inR .i64 ((x : Int) + 1) := inR_i64 (by omega) (by omega)
   repeat ((with_reducible refine And.intro ?_ ?_); · first | omega | with_reducible assumption | exact hk1 | exact hk2 | exact hr1)
   intro z16 hz16
   obtain rfl : z16 = T (jj + x) := by rw [← hz16, Nat.add_assoc]; exact L'.tx.v _ (by omega)
   repeat ((with_reducible refine And.intro ?_ ?_); · first | omega | with_reducible assumption | exact hk1 | exact hk2 | exact hr1)
   intro z17 hz17
   obtain rfl : z17 = T (pp + x) := by rw [← hz17, Nat.add_assoc]; exact L'.tx.v _ (by omega)
   refine cond_of (fun hb1 => ?_) (fun hb1 => ?_)
   ·have hne : T (jj + x) ≠ T (pp + x) := fun e => by rw [e] at hb1; simp at hb1
    exact XF1_mk (show ∃ (t l jj pp : Nat), _ = _ ∧ _ = _ ∧ _ = _ ∧ _ = _ ∧ InvA _ _ _ _ _ _ _ _ _ _ _ _ _ _ _ _ _ _ _ _ ∧ _ from ⟨t, l, jj, pp, rfl, rfl, rfl, rfl, hJ, ⟨fun h => absurd (h x hxl) hne, fun h => absurd h (by decide)⟩⟩)
   ·exact ⟨hi64, leaf hxl (bne_eq_false_iff_eq.1 hb1)⟩
  ·have hxl : ¬ x < l := by have := of_decide_eq_false hb; omega
   obtain rfl : x = l := by omega
   exact XF1_mk (show ∃ (t l jj pp : Nat), _ = _ ∧ _ = _ ∧ _ = _ ∧ _ = _ ∧ InvA _ _ _ _ _ _ _ _ _ _ _ _ _ _ _ _ _ _ _ _ ∧ _ from ⟨t, x, jj, pp, rfl, rfl, rfl, rfl, hJ, ⟨fun _ => rfl, fun _ => heq⟩⟩)
 ·unfold M_F109
  have e1 : Int.toNat ((n : Int) - (nlms T n : Int)) = n - nlms T n := by omega
  have e2 : n - (n - nlms T n) = nlms T n := by omega
  have hi1 : inR .i64 ((n : Int) - (nlms T n : Int)) := inR_i64 (by omega) (by omega)
  rw [e1, e2]
  repeat ((with_reducible refine And.intro ?_ ?_); · first | omega | with_reducible assumption | exact hk1 | exact hk2 | exact hr1)
  refine And.intro (And.intro ⟨rfl, rfl, rfl, rfl, rfl, rfl, rfl, rfl, rfl, hct⟩ ⟨0, rfl, rfl, L, SameK.refl _, Out.refl _ _, AsInv.start hc⟩) (fun z1 z2 z3 z4 m5 hX _ => ?_)
  have J' := (show InvA _ _ _ _ _ _ _ _ _ _ _ _ _ _ _ _ _ _ _ _ from hX)
  have hid : z1 = (rid (fun u => pc T n (S u)) (nlms T n - 1) : Int) := by
   rcases J'.nm.st with ⟨h, _⟩ | ⟨u0, _, h, _⟩
   ·omega
   ·exact h
  rw [hid]
  exact hK m5 J'.hs J'.ho J'.L (fun u hu => J'.nm.done u hu) (fun i hi => J'.nm.oth i hi)
end Go.Proofs.YtdhifgedhaapjaaGreatDoor
namespace Go.Proofs.YtdhifgedhaapjaaGreatDoor
open Go Sa
theorem map_75 {w0 : World} {m : Mem} {kt : IntKind} {T : Nat → Int} {n tm bt ot ba oa ca bk ok : Nat} {f : Value} {K : Value → Mem → Prop} {nl : Int} (L : Lv m kt .i32 T n tm bt ot ba oa bk ok f)
  (hm1 : 1 ≤ nlms T n) {rk : Nat → Nat} (hlo : ∀ k, Lms T n k → 1 ≤ rk k) (hrk : ∀ k, Lms T n k → rk k ≤ n) (hA : ∀ k, Lms T n k → m.val ba (oa + k / 2) = (rk k : Int)) (hz : ∀ h, h < n - nlms T n → (∀ k, Lms T n k → k / 2 ≠ h) → m.val ba (oa + h) = 0)
  (hK : ∀ m', SameK m m' → Out m m' (InRow ba oa n) → Lv m' kt .i32 T n tm bt ot ba oa bk ok f → (∀ k, Lms T n k → m'.val ba (oa + (n - nlms T n) + rank T n k) = (rk k : Int) - 1) → K (.tuple #[]) m') :
  callV Tryz.prog w0 75 [.slice (some ⟨ba, oa, none⟩) n ca, .int .i64 nl] m K := by
 have hn := L.hn
 have hmn : 2 * nlms T n + 1 ≤ n := nlms_half (by
  rcases Nat.eq_zero_or_pos n with h | h
  ·subst h; simp [nlms, cn] at hm1
  ·exact h)
 let I : LI := fun ps ls m' => match ps, ls with
   | [.sl b' o' l' c'], [.iv _ w, .iv _ i] => (ba = b' ∧ oa = o' ∧ n = l') ∧
     ∃ (p ww : Nat), i = (p : Int) - 1 ∧ w = ww ∧ 2 * p ≤ n + 2 ∧ InvPk m kt .i32 T n tm bt ot ba oa bk ok f rk p ww m'
   | _, _ => False
 let mu : LM := fun _ ls => match ls with | [_, .iv _ i] => (i + 1).toNat | _ => 0
 refine C_F75 (I0 := I)
  (X0 := fun _ ps ls m' => ∃ ww, InvPk m kt .i32 T n tm bt ot ba oa bk ok f rk 0 ww m') (mu0 := mu) ?_ ?_
 ·intro ba' oa' la' ca' w i k m' hI hmu
  obtain ⟨⟨rfl, rfl, rfl⟩, p, ww, rfl, rfl, hp2, hJ⟩ := (show (_ ∧ _ ∧ _) ∧ ∃ (p ww : Nat), _ ∧ _ ∧ _ ∧ InvPk _ _ _ _ _ _ _ _ _ _ _ _ _ _ _ _ _ from hI)
  clear hI
  obtain ⟨L', hs, ho, pk⟩ := hJ
  have hmu' : ((p : Int) - 1 + 1).toNat < k + 1 := hmu
  have leaf : ∀ {q w' : Nat} {m2 : Mem}, p = q + 1 → InvPk m kt .i32 T n tm bt ot ba oa bk ok f rk q w' m2 →
    KF1 L0_F75 I mu (P0_F75 ba oa n ca') k [.int .i64 w', .int .i64 ((q : Int) - 1)] m2 := fun {q _ _} hx h =>
   KF1_mk (And.intro (And.intro ⟨rfl, rfl, rfl⟩ ⟨q, _, rfl, rfl, by omega, h⟩) (show ((q : Int) - 1 + 1).toNat < k from by omega))
  clear_value I mu
  unfold R0_F75
  refine cond_of (fun hb => ?_) (fun hb => ?_)
  ·have hge : (p : Int) - 1 ≥ 0 := of_decide_eq_true hb
   obtain ⟨q, rfl⟩ : ∃ q, p = q + 1 := ⟨p - 1, by omega⟩
   have ex0 : ((q + 1 : Nat) : Int) - 1 = (q : Int) := by omega
   rw [ex0, Int.toNat_natCast]
   have hqn : q < n - nlms T n := by omega
   have hk1 := L'.sa q (by omega)
   have hr1 := L'.sro
   have hi64 : inR .i64 ((q : Int) - 1) := inR_i64 (by omega) (by omega)
   have hAq := pk.lo q hqn
   repeat ((with_reducible refine And.intro ?_ ?_); · first | omega | with_reducible assumption | exact hk1 | exact hr1)
   intro z hz4
   have hzq : z = m.val ba (oa + q) := hz4.symm.trans hAq
   by_cases hex : ∃ k, Lms T n k ∧ k / 2 = q
   ·obtain ⟨k', hk', hkq⟩ := hex
    have hv : z = (rk k' : Int) := by rw [hzq, ← hkq]; exact hA k' hk'
    have h1 := hlo k' hk'
    have h2 := hrk k' hk'
    obtain ⟨g1, g2, pk'⟩ := pk.put hk' hkq
    obtain ⟨w', rfl⟩ : ∃ w', ww = w' + 1 := ⟨ww - 1, by omega⟩
    have ew : ((w' + 1 : Nat) : Int) - 1 = (w' : Int) := by omega
    rw [Nat.add_sub_cancel] at pk'
    rw [ew, Int.toNat_natCast]
    have hk2 := L'.sa w' (by omega)
    have hi1 : inR .i64 (w' : Int) := inR_i64 (by omega) (by omega)
    have hi2 : inR .i32 (z - 1) := inR_i32 (by omega) (by omega)
    refine cond_of (fun hb1 => ?_) (fun hb1 => ?_)
    ·
     repeat ((with_reducible refine And.intro ?_ ?_); · first | omega | with_reducible assumption | exact hk1 | exact hk2 | exact hr1)
     intro m5 hm5
     subst hm5
     refine ⟨hi64, leaf rfl ⟨L'.stA (by omega) _, hs.trans (SameK.st _ _ _ _), ho.st (InRow.mk (by omega)) _, pk'.congr fun y hy => ?_⟩⟩
     rw [st_val, hv]
    ·have := of_decide_eq_false hb1
     omega
   ·have hv : z = 0 := by rw [hzq]; exact hz q hqn fun k hk he => hex ⟨k, hk, he⟩
    refine cond_of (fun hb1 => ?_) (fun hb1 => ?_)
    ·have := of_decide_eq_true hb1
     omega
    ·exact ⟨hi64, leaf rfl ⟨L', hs, ho, pk.skip fun k hk he => hex ⟨k, hk, he⟩⟩⟩
  ·have hge : ¬ (p : Int) - 1 ≥ 0 := of_decide_eq_false hb
   obtain rfl : p = 0 := by omega
   exact XF1_mk (show ∃ ww, InvPk _ _ _ _ _ _ _ _ _ _ _ _ _ _ _ _ _ from ⟨ww, L', hs, ho, pk⟩)
 ·unfold M_F75
  have hi1 : inR .i64 ((n : Int) / 2) := inR_i64 (by omega) (by omega)
  refine ⟨by omega, by omega, hi1, And.intro ⟨rfl, rfl, rfl⟩ ⟨n / 2 + 1, n, by omega, rfl, by omega, L, SameK.refl _, Out.refl _ _, PkInv.start (by omega)⟩, fun z1 z2 m3 hX _ => ?_⟩
  obtain ⟨ww, J⟩ := (show ∃ ww, InvPk _ _ _ _ _ _ _ _ _ _ _ _ _ _ _ _ _ from hX)
  refine hK m3 J.hs J.ho J.L fun k hk => ?_
  rw [Nat.add_assoc]; exact J.pk.hi k hk (Nat.zero_le _)
end Go.Proofs.YtdhifgedhaapjaaGreatDoor
namespace Go.Proofs.YtdhifgedhaapjaaGreatDoor
open Go Sa
theorem unmap_77 {w0 : World} {m : Mem} {T : Nat → Int} {n tm bt ot ct ba oa ca bk ok : Nat} {f : Value} {K : Value → Mem → Prop} (L : Lv m .u8 .i32 T n tm bt ot ba oa bk ok f)
  (hca : n ≤ ca) (hm1 : 1 ≤ nlms T n) {S : Nat → Nat} (hS : ∀ u, u < nlms T n → Lms T n (S u)) (hA : ∀ u, u < nlms T n → m.val ba (oa + u) = (rank T n (S u) : Int))
  (hK : ∀ m', SameK m m' → Out m m' (InRow ba oa n) → Lv m' .u8 .i32 T n tm bt ot ba oa bk ok f → (∀ u, u < nlms T n → m'.val ba (oa + u) = (S u : Int)) → K (.tuple #[]) m') :
  callV Tryz.prog w0 77 [.slice (some ⟨bt, ot, none⟩) n ct, .slice (some ⟨ba, oa, none⟩) n ca, .int .i64 (nlms T n)] m K := by
 have hn := L.hn
 have hmn : 2 * nlms T n + 1 ≤ n := nlms_half (by
  rcases Nat.eq_zero_or_pos n with h | h
  ·subst h; simp [nlms, cn] at hm1
  ·exact h)
 let I : LI := fun ps ls m' => match ps, ls with
   | [.sl b o l c, .sl b' o' l' c', .iv _ nl, .sl bu ou lu cu], [.iv _ j, .iv _ c0, .bv isS, .iv _ i] => (bt = b ∧ ot = o ∧ n = l ∧ ba = b' ∧ oa = o' ∧ n = l' ∧ ba = bu ∧ oa + (n - nlms T n) = ou ∧ nlms T n = lu) ∧
     ∃ (p jj : Nat), i = (p : Int) - 1 ∧ j = jj ∧ InvU m .u8 .i32 T n tm bt ot ba oa bk ok f p jj c0 isS m'
   | _, _ => False
 let mu : LM := fun _ ls => match ls with | [_, _, _, .iv _ i] => (i + 1).toNat | _ => 0
 let J : LI := fun ps ls m' => match ps, ls with
   | [.sl b' o' l' c', .sl bu ou lu cu], [.iv _ i] => (ba = b' ∧ oa = o' ∧ nlms T n = l' ∧ ba = bu ∧ oa + (n - nlms T n) = ou ∧ nlms T n = lu) ∧
     ∃ (x : Nat), i = x ∧ InvV m .u8 .i32 T n tm bt ot ba oa bk ok f S x m'
   | _, _ => False
 let nu : LM := fun _ ls => match ls with | [.iv _ i] => (nlms T n - i).toNat | _ => 0
 refine C_F77 (I0 := I)
  (X0 := fun _ ps ls m' => ∃ (j : Nat) (c0 : Int) (isS : Bool), InvU m .u8 .i32 T n tm bt ot ba oa bk ok f 0 j c0 isS m') (mu0 := mu) (I1 := J)
  (X1 := fun _ ps ls m' => InvV m .u8 .i32 T n tm bt ot ba oa bk ok f S (nlms T n) m') (mu1 := nu) ?_ ?_ ?_
 ·intro bt' ot' lt' ct' ba' oa' la' ca' nl bu ou lu cu j c0 isS i k m' hI hmu
  obtain ⟨⟨rfl, rfl, rfl, rfl, rfl, rfl, rfl, rfl, rfl⟩, p, jj, rfl, rfl, hJ⟩ := (show (_ ∧ _ ∧ _ ∧ _ ∧ _ ∧ _ ∧ _ ∧ _ ∧ _) ∧ ∃ (p jj : Nat), _ ∧ _ ∧ InvU _ _ _ _ _ _ _ _ _ _ _ _ _ _ _ _ _ _ from hI)
  clear hI
  obtain ⟨L', hs, ho, it, lo, un⟩ := hJ
  have hmu' : ((p : Int) - 1 + 1).toNat < k + 1 := hmu
  have leaf : ∀ {q j' : Nat} {c' : Int} {b : Bool} {m2 : Mem}, p = q + 1 → InvU m .u8 .i32 T n tm bt ot ba oa bk ok f q j' c' b m2 →
    KF1 L0_F77 I mu (P0_F77 bt ot n ct' ba oa n ca' nl ba (oa + (n - nlms T n)) (nlms T n) cu) k [.int .i64 j', .int .u8 c', .bool b, .int .i64 ((q : Int) - 1)] m2 := fun {q _ _ _ _} hx h =>
   KF1_mk (And.intro (And.intro ⟨rfl, rfl, rfl, rfl, rfl, rfl, rfl, rfl, rfl⟩ ⟨q, _, rfl, rfl, h⟩) (show ((q : Int) - 1 + 1).toNat < k from by omega))
  clear_value I mu J nu
  unfold R0_F77
  refine cond_of (fun hb => ?_) (fun hb => ?_)
  ·have hge : (p : Int) - 1 ≥ 0 := of_decide_eq_true hb
   obtain ⟨q, rfl⟩ : ∃ q, p = q + 1 := ⟨p - 1, by omega⟩
   have ex0 : ((q + 1 : Nat) : Int) - 1 = (q : Int) := by omega
   rw [ex0, Int.toNat_natCast]
   have hp := it.le
   have hq : q < n := by omega
   have hv := L'.tx.v q hq
   have hlo := L'.tx.lo q hq
   have hk1 := L'.tx.rd q hq
   have hr1 := L'.sro
   have hi64 : inR .i64 ((q : Int) - 1) := inR_i64 (by omega) (by omega)
   have hi1 : inR .i64 ((q : Int) + 1) := inR_i64 (by omega) (by omega)
   have hi2 : inR .i32 ((q : Int) + 1) := inR_i32 (by omega) (by omega)
   repeat ((with_reducible refine And.intro ?_ ?_); · first | omega | with_reducible assumption | exact hk1 | exact hr1)
   intro z hz
   obtain rfl : z = T q := hz.symm.trans hv
   refine cond_of (fun hb1 => ?_) (fun hb1 => cond_of (fun hb2 => ?_) (fun hb2 => ?_))
   ·have hlt : T q < c0 := of_decide_eq_true hb1
    obtain ⟨it', hl⟩ := it.up hlo hlt
    exact ⟨hi64, leaf rfl ⟨L', hs, ho, it', lo, un.skip hl⟩⟩
   ·have hlt : ¬ T q < c0 := of_decide_eq_false hb1
    have hgt : T q > c0 := of_decide_eq_true hb2
    refine cond_of (fun hb3 => ?_) (fun hb3 => ?_)
    ·subst hb3
     obtain ⟨it', hl, hc0⟩ := it.down hgt
     obtain ⟨g1, g2, un'⟩ := un.put hl
     obtain ⟨j', rfl⟩ : ∃ j', jj = j' + 1 := ⟨jj - 1, by omega⟩
     have ej : ((j' + 1 : Nat) : Int) - 1 = (j' : Int) := by omega
     rw [Nat.add_sub_cancel] at un'
     rw [ej, Int.toNat_natCast]
     have hi3 : inR .i64 (j' : Int) := inR_i64 (by omega) (by omega)
     have hh : n - nlms T n + j' < n := by omega
     have hk2 : m'.kd ba (oa + (n - nlms T n) + j') = some .i32 := by rw [Nat.add_assoc]; exact L'.sa _ hh
     repeat ((with_reducible refine And.intro ?_ ?_); · first | omega | with_reducible assumption | exact hk1 | exact hk2 | exact hr1)
     intro m9 hm9
     subst hm9
     refine ⟨hi64, leaf rfl ⟨?_, hs.trans (SameK.st _ _ _ _), ?_, it', fun y hy => ?_, un'.congr fun y hy => ?_⟩⟩
     ·rw [Nat.add_assoc]; exact L'.stA hh _
     ·rw [Nat.add_assoc]; exact ho.st (InRow.mk hh) _
     ·rw [Nat.add_assoc, st_row_ne _ _ _ _ (by omega)]; exact lo y hy
     ·rw [st_val]
    ·obtain ⟨it', hl⟩ := it.stay hlo hlt (fun _ => hb3)
     exact ⟨hi64, leaf rfl ⟨L', hs, ho, it', lo, un.skip hl⟩⟩
   ·have hlt : ¬ T q < c0 := of_decide_eq_false hb1
    have hgt : ¬ T q > c0 := of_decide_eq_false hb2
    obtain ⟨it', hl⟩ := it.stay hlo hlt (fun h => absurd h hgt)
    exact ⟨hi64, leaf rfl ⟨L', hs, ho, it', lo, un.skip hl⟩⟩
  ·have hge : ¬ (p : Int) - 1 ≥ 0 := of_decide_eq_false hb
   obtain rfl : p = 0 := by omega
   exact XF1_mk (show ∃ (j : Nat) (c0 : Int) (isS : Bool), InvU _ _ _ _ _ _ _ _ _ _ _ _ _ _ _ _ _ _ from ⟨jj, c0, isS, L', hs, ho, it, lo, un⟩)
 ·intro ba' oa' la' ca' bu ou lu cu i k m' hI hmu
  obtain ⟨⟨rfl, rfl, rfl, rfl, rfl, rfl⟩, x, rfl, hJ⟩ := (show (_ ∧ _ ∧ _ ∧ _ ∧ _ ∧ _) ∧ ∃ (x : Nat), _ ∧ InvV _ _ _ _ _ _ _ _ _ _ _ _ _ _ _ _ from hI)
  clear hI
  obtain ⟨L', hs, ho, hi, done, rest, un⟩ := hJ
  have hmu' : ((nlms T n : Int) - x).toNat < k + 1 := hmu
  have leaf : ∀ {m2 : Mem}, x < nlms T n → InvV m .u8 .i32 T n tm bt ot ba oa bk ok f S (x + 1) m2 →
    KF1 L1_F77 J nu (P1_F77 ba oa (nlms T n) ca' ba (oa + (n - nlms T n)) (nlms T n) cu) k [.int .i64 ((x : Int) + 1)] m2 := fun {_} hx h =>
   KF1_mk (And.intro (And.intro ⟨rfl, rfl, rfl, rfl, rfl, rfl⟩ ⟨x + 1, by omega, h⟩) (show ((nlms T n : Int) - ((x : Int) + 1)).toNat < k from by omega))
  clear_value I mu J nu
  unfold R1_F77
  refine cond_of (fun hb => ?_) (fun hb => ?_)
  ·have hx : x < nlms T n := by have := of_decide_eq_true hb; omega
   rw [Int.toNat_natCast]
   have hl := hS x hx
   have hr := rank_lt hl
   have hk1 := L'.sa x (by omega)
   have hr1 := L'.sro
   have hi64 : inR .i64 ((x : Int) + 1) := inR_i64 (by omega) (by omega)
   have hk2 : m'.kd ba (oa + (n - nlms T n) + rank T n (S x)) = some .i32 := by rw [Nat.add_assoc]; exact L'.sa _ (by omega)
   repeat ((with_reducible refine And.intro ?_ ?_); · first | omega | with_reducible assumption | exact hk1 | exact hk2 | exact hr1)
   intro z hz
   obtain rfl : z = (rank T n (S x) : Int) := hz.symm.trans (rest x (Nat.le_refl _) hx)
   rw [Int.toNat_natCast]
   repeat ((with_reducible refine And.intro ?_ ?_); · first | omega | with_reducible assumption | exact hk1 | exact hk2 | exact hr1)
   intro z2 hz2
   obtain rfl : z2 = (S x : Int) := hz2.symm.trans (un _ hl)
   repeat ((with_reducible refine And.intro ?_ ?_); · first | omega | with_reducible assumption | exact hk1 | exact hk2 | exact hr1)
   intro m9 hm9
   subst hm9
   refine ⟨hi64, leaf hx ⟨L'.stA (by omega) _, hs.trans (SameK.st _ _ _ _), ho.st (InRow.mk (by omega)) _, by omega, fun y hy => ?_, fun y h1 h2 => ?_, fun k hk => ?_⟩⟩
   ·rw [st_val]
    by_cases hyx : y = x
    ·subst hyx; rw [if_pos rfl]
    ·rw [if_neg hyx]; exact done y (by omega)
   ·rw [st_row_ne _ _ _ _ (by omega)]; exact rest y (by omega) h2
   ·rw [Nat.add_assoc, st_row_ne _ _ _ _ (by omega), ← Nat.add_assoc]; exact un k hk
  ·have hx : ¬ x < nlms T n := by have := of_decide_eq_false hb; omega
   obtain rfl : x = nlms T n := by omega
   exact XF1_mk (show InvV _ _ _ _ _ _ _ _ _ _ _ _ _ _ _ _ from ⟨L', hs, ho, hi, done, rest, un⟩)
 ·unfold M_F77
  have e1 : Int.toNat ((n : Int) - (nlms T n : Int)) = n - nlms T n := by omega
  have e2 : n - (n - nlms T n) = nlms T n := by omega
  have hi1 : inR .i64 ((n : Int) - (nlms T n : Int)) := inR_i64 (by omega) (by omega)
  have hi2 : inR .i64 ((n : Int) - (1 : Int)) := inR_i64 (by omega) (by omega)
  rw [e1, e2, Int.toNat_natCast]
  repeat ((with_reducible refine And.intro ?_ ?_); · first | omega | with_reducible assumption | exact hk1 | exact hk2 | exact hr1)
  refine And.intro (And.intro ⟨rfl, rfl, rfl, rfl, rfl, rfl, rfl, rfl, rfl⟩ ⟨n, nlms T n, rfl, rfl, L, SameK.refl _, Out.refl _ _, It.start, fun _ _ => rfl, UnInv.start⟩) (fun z1 z2 z3 z4 m5 hX _ => ?_)
  obtain ⟨j, c0, isS, J1⟩ := (show ∃ (j : Nat) (c0 : Int) (isS : Bool), InvU _ _ _ _ _ _ _ _ _ _ _ _ _ _ _ _ _ _ from hX)
  repeat ((with_reducible refine And.intro ?_ ?_); · first | omega | with_reducible assumption | exact hk1 | exact hk2 | exact hr1)
  refine And.intro (And.intro ⟨rfl, rfl, rfl, rfl, rfl, rfl⟩ ⟨0, rfl, J1.L, J1.hs, J1.ho, Nat.zero_le _, fun q hq => by omega, fun q _ hq => by rw [J1.lo q (by omega)]; exact hA q hq, J1.un.fin⟩) (fun z6 m7 hX _ => ?_)
  have J2 := (show InvV _ _ _ _ _ _ _ _ _ _ _ _ _ _ _ _ from hX)
  exact hK m7 J2.hs J2.ho J2.L J2.done
theorem unmap_110 {w0 : World} {m : Mem} {T : Nat → Int} {n tm bt ot ct ba oa ca bk ok : Nat} {f : Value} {K : Value → Mem → Prop} (L : Lv m .i32 .i32 T n tm bt ot ba oa bk ok f)
  (hca : n ≤ ca) (hm1 : 1 ≤ nlms T n) {S : Nat → Nat} (hS : ∀ u, u < nlms T n → Lms T n (S u)) (hA : ∀ u, u < nlms T n → m.val ba (oa + u) = (rank T n (S u) : Int))
  (hK : ∀ m', SameK m m' → Out m m' (InRow ba oa n) → Lv m' .i32 .i32 T n tm bt ot ba oa bk ok f → (∀ u, u < nlms T n → m'.val ba (oa + u) = (S u : Int)) → K (.tuple #[]) m') :
  callV Tryz.prog w0 110 [.slice (some ⟨bt, ot, none⟩) n ct, .slice (some ⟨ba, oa, none⟩) n ca, .int .i64 (nlms T n)] m K := by
 have hn := L.hn
 have hmn : 2 * nlms T n + 1 ≤ n := nlms_half (by
  rcases Nat.eq_zero_or_pos n with h | h
  ·subst h; simp [nlms, cn] at hm1
  ·exact h)
 let I : LI := fun ps ls m' => match ps, ls with
   | [.sl b o l c, .sl b' o' l' c', .iv _ nl, .sl bu ou lu cu], [.iv _ j, .iv _ c0, .bv isS, .iv _ i] => (bt = b ∧ ot = o ∧ n = l ∧ ba = b' ∧ oa = o' ∧ n = l' ∧ ba = bu ∧ oa + (n - nlms T n) = ou ∧ nlms T n = lu) ∧
     ∃ (p jj : Nat), i = (p : Int) - 1 ∧ j = jj ∧ InvU m .i32 .i32 T n tm bt ot ba oa bk ok f p jj c0 isS m'
   | _, _ => False
 let mu : LM := fun _ ls => match ls with | [_, _, _, .iv _ i] => (i + 1).toNat | _ => 0
 let J : LI := fun ps ls m' => match ps, ls with
   | [.sl b' o' l' c', .sl bu ou lu cu], [.iv _ i] => (ba = b' ∧ oa = o' ∧ nlms T n = l' ∧ ba = bu ∧ oa + (n - nlms T n) = ou ∧ nlms T n = lu) ∧
     ∃ (x : Nat), i = x ∧ InvV m .i32 .i32 T n tm bt ot ba oa bk ok f S x m'
   | _, _ => False
 let nu : LM := fun _ ls => match ls with | [.iv _ i] => (nlms T n - i).toNat | _ => 0
 refine C_F110 (I0 := I)
  (X0 := fun _ ps ls m' => ∃ (j : Nat) (c0 : Int) (isS : Bool), InvU m .i32 .i32 T n tm bt ot ba oa bk ok f 0 j c0 isS m') (mu0 := mu) (I1 := J)
  (X1 := fun _ ps ls m' => InvV m .i32 .i32 T n tm bt ot ba oa bk ok f S (nlms T n) m') (mu1 := nu) ?_ ?_ ?_
 ·intro bt' ot' lt' ct' ba' oa' la' ca' nl bu ou lu cu j c0 isS i k m' hI hmu
  obtain ⟨⟨rfl, rfl, rfl, rfl, rfl, rfl, rfl, rfl, rfl⟩, p, jj, rfl, rfl, hJ⟩ := (show (_ ∧ _ ∧ _ ∧ _ ∧ _ ∧ _ ∧ _ ∧ _ ∧ _) ∧ ∃ (p jj : Nat), _ ∧ _ ∧ InvU _ _ _ _ _ _ _ _ _ _ _ _ _ _ _ _ _ _ from hI)
  clear hI
  obtain ⟨L', hs, ho, it, lo, un⟩ := hJ
  have hmu' : ((p : Int) - 1 + 1).toNat < k + 1 := hmu
  have leaf : ∀ {q j' : Nat} {c' : Int} {b : Bool} {m2 : Mem}, p = q + 1 → InvU m .i32 .i32 T n tm bt ot ba oa bk ok f q j' c' b m2 →
    KF1 L0_F110 I mu (P0_F110 bt ot n ct' ba oa n ca' nl ba (oa + (n - nlms T n)) (nlms T n) cu) k [.int .i64 j', .int .i32 c', .bool b, .int .i64 ((q : Int) - 1)] m2 := fun {q _ _ _ _} hx h =>
   KF1_mk (And.intro (And.intro ⟨rfl, rfl, rfl, rfl, rfl, rfl, rfl, rfl, rfl⟩ ⟨q, _, rfl, rfl, h⟩) (show ((q : Int) - 1 + 1).toNat < k from by omega))
  clear_value I mu J nu
  unfold R0_F110
  refine cond_of (fun hb => ?_) (fun hb => ?_)
  ·have hge : (p : Int) - 1 ≥ 0 := of_decide_eq_true hb
   obtain ⟨q, rfl⟩ : ∃ q, p = q + 1 := ⟨p - 1, by omega⟩
   have ex0 : ((q + 1 : Nat) : Int) - 1 = (q : Int) := by omega
   rw [ex0, Int.toNat_natCast]
   have hp := it.le
   have hq : q < n := by omega
   have hv := L'.tx.v q hq
   have hlo := L'.tx.lo q hq
   have hk1 := L'.tx.rd q hq
   have hr1 := L'.sro
   have hi64 : inR .i64 ((q : Int) - 1) := inR_i64 (by omega) (by omega)
   have hi1 : inR .i64 ((q : Int) + 1) := inR_i64 (by omega) (by omega)
   have hi2 : inR .i32 ((q : Int) + 1) := inR_i32 (by omega) (by omega)
   repeat ((with_reducible refine And.intro ?_ ?_); · first | omega | with_reducible assumption | exact hk1 | exact hr1)
   intro z hz
   obtain rfl : z = T q := hz.symm.trans hv
   refine cond_of (fun hb1 => ?_) (fun hb1 => cond_of (fun hb2 => ?_) (fun hb2 => ?_))
   ·have hlt : T q < c0 := of_decide_eq_true hb1
    obtain ⟨it', hl⟩ := it.up hlo hlt
    exact ⟨hi64, leaf rfl ⟨L', hs, ho, it', lo, un.skip hl⟩⟩
   ·have hlt : ¬ T q < c0 := of_decide_eq_false hb1
    have hgt : T q > c0 := of_decide_eq_true hb2
    refine cond_of (fun hb3 => ?_) (fun hb3 => ?_)
    ·subst hb3
     obtain ⟨it', hl, hc0⟩ := it.down hgt
     obtain ⟨g1, g2, un'⟩ := un.put hl
     obtain ⟨j', rfl⟩ : ∃ j', jj = j' + 1 := ⟨jj - 1, by omega⟩
     have ej : ((j' + 1 : Nat) : Int) - 1 = (j' : Int) := by omega
     rw [Nat.add_sub_cancel] at un'
     rw [ej, Int.toNat_natCast]
     have hi3 : inR .i64 (j' : Int) := inR_i64 (by omega) (by omega)
     have hh : n - nlms T n + j' < n := by omega
     have hk2 : m'.kd ba (oa + (n - nlms T n) + j') = some .i32 := by rw [Nat.add_assoc]; exact L'.sa _ hh
     repeat ((with_reducible refine And.intro ?_ ?_); · first | omega | with_reducible assumption | exact hk1 | exact hk2 | exact hr1)
     intro m9 hm9
     subst hm9
     refine ⟨hi64, leaf rfl ⟨?_, hs.trans (SameK.st _ _ _ _), ?_, it', fun y hy => ?_, un'.congr fun y hy => ?_⟩⟩
     ·rw [Nat.add_assoc]; exact L'.stA hh _
     ·rw [Nat.add_assoc]; exact ho.st (InRow.mk hh) _
     ·rw [Nat.add_assoc, st_row_ne _ _ _ _ (by omega)]; exact lo y hy
     ·rw [st_val]
    ·obtain ⟨it', hl⟩ := it.stay hlo hlt (fun _ => hb3)
     exact ⟨hi64, leaf rfl ⟨L', hs, ho, it', lo, un.skip hl⟩⟩
   ·have hlt : ¬ T q < c0 := of_decide_eq_false hb1
    have hgt : ¬ T q > c0 := of_decide_eq_false hb2
    obtain ⟨it', hl⟩ := it.stay hlo hlt (fun h => absurd h hgt)
    exact ⟨hi64, leaf rfl ⟨L', hs, ho, it', lo, un.skip hl⟩⟩
  ·have hge : ¬ (p : Int) - 1 ≥ 0 := of_decide_eq_false hb
   obtain rfl : p = 0 := by omega
   exact XF1_mk (show ∃ (j : Nat) (c0 : Int) (isS : Bool), InvU _ _ _ _ _ _ _ _ _ _ _ _ _ _ _ _ _ _ from ⟨jj, c0, isS, L', hs, ho, it, lo, un⟩)
 ·intro ba' oa' la' ca' bu ou lu cu i k m' hI hmu
  obtain ⟨⟨rfl, rfl, rfl, rfl, rfl, rfl⟩, x, rfl, hJ⟩ := (show (_ ∧ _ ∧ _ ∧ _ ∧ _ ∧ _) ∧ ∃ (x : Nat), _ ∧ InvV _ _ _ _ _ _ _ _ _ _ _ _ _ _ _ _ from hI)
  clear hI
  obtain ⟨L', hs, ho, hi, done, rest, un⟩ := hJ
  have hmu' : ((nlms T n : Int) - x).toNat < k + 1 := hmu
  have leaf : ∀ {m2 : Mem}, x < nlms T n → InvV m .i32 .i32 T n tm bt ot ba oa bk ok f S (x + 1) m2 →
    KF1 L1_F110 J nu (P1_F110 ba oa (nlms T n) ca' ba (oa + (n - nlms T n)) (nlms T n) cu) k [.int .i64 ((x : Int) + 1)] m2 := fun {_} hx h =>
   KF1_mk (And.intro (And.intro ⟨rfl, rfl, rfl, rfl, rfl, rfl⟩ ⟨x + 1, by omega, h⟩) (show ((nlms T n : Int) - ((x : Int) + 1)).toNat < k from by omega))
  clear_value I mu J nu
  unfold R1_F110
  refine cond_of (fun hb => ?_) (fun hb => ?_)
  ·have hx : x < nlms T n := by have := of_decide_eq_true hb; omega
   rw [Int.toNat_natCast]
   have hl := hS x hx
   have hr := rank_lt hl
   have hk1 := L'.sa x (by omega)
   have hr1 := L'.sro
   have hi64 : inR .i64 ((x : Int) + 1) := inR_i64 (by omega) (by omega)
   have hk2 : m'.kd ba (oa + (n - nlms T n) + rank T n (S x)) = some .i32 := by rw [Nat.add_assoc]; exact L'.sa _ (by omega)
   repeat ((with_reducible refine And.intro ?_ ?_); · first | omega | with_reducible assumption | exact hk1 | exact hk2 | exact hr1)
   intro z hz
   obtain rfl : z = (rank T n (S x) : Int) := hz.symm.trans (rest x (Nat.le_refl _) hx)
   rw [Int.toNat_natCast]
   repeat ((with_reducible refine And.intro ?_ ?_); · first | omega | with_reducible assumption | exact hk1 | exact hk2 | exact hr1)
   intro z2 hz2
   obtain rfl : z2 = (S x : Int) := hz2.symm.trans (un _ hl)
   repeat ((with_reducible refine And.intro ?_ ?_); · first | omega | with_reducible assumption | exact hk1 | exact hk2 | exact hr1)
   intro m9 hm9
   subst hm9
   refine ⟨hi64, leaf hx ⟨L'.stA (by omega) _, hs.trans (SameK.st _ _ _ _), ho.st (InRow.mk (by omega)) _, by omega, fun y hy => ?_, fun y h1 h2 => ?_, fun k hk => ?_⟩⟩
   ·rw [st_val]
    by_cases hyx : y = x
    ·subst hyx; rw [if_pos rfl]
    ·rw [if_neg hyx]; exact done y (by omega)
   ·rw [st_row_ne _ _ _ _ (by omega)]; exact rest y (by omega) h2
   ·rw [Nat.add_assoc, st_row_ne _ _ _ _ (by omega), ← Nat.add_assoc]; exact un k hk
  ·have hx : ¬ x < nlms T n := by have := of_decide_eq_false hb; omega
   obtain rfl : x = nlms T n := by omega
   exact XF1_mk (show InvV _ _ _ _ _ _ _ _ _ _ _ _ _ _ _ _ from ⟨L', hs, ho, hi, done, rest, un⟩)
 ·unfold M_F110
  have e1 : Int.toNat ((n : Int) - (nlms T n : Int)) = n - nlms T n := by omega
  have e2 : n - (n - nlms T n) = nlms T n := by omega
  have hi1 : inR .i64 ((n : Int) - (nlms T n : Int)) := inR_i64 (by omega) (by omega)
  have hi2 : inR .i64 ((n : Int) - (1 : Int)) := inR_i64 (by omega) (by omega)
  rw [e1, e2, Int.toNat_natCast]
  repeat ((with_reducible refine And.intro ?_ ?_); · first | omega | with_reducible assumption | exact hk1 | exact hk2 | exact hr1)
  refine And.intro (And.intro ⟨rfl, rfl, rfl, rfl, rfl, rfl, rfl, rfl, rfl⟩ ⟨n, nlms T n, rfl, rfl, L, SameK.refl _, Out.refl _ _, It.start, fun _ _ => rfl, UnInv.start⟩) (fun z1 z2 z3 z4 m5 hX _ => ?_)
  obtain ⟨j, c0, isS, J1⟩ := (show ∃ (j : Nat) (c0 : Int) (isS : Bool), InvU _ _ _ _ _ _ _ _ _ _ _ _ _ _ _ _ _ _ from hX)
  repeat ((with_reducible refine And.intro ?_ ?_); · first | omega | with_reducible assumption | exact hk1 | exact hk2 | exact hr1)
  refine And.intro (And.intro ⟨rfl, rfl, rfl, rfl, rfl, rfl⟩ ⟨0, rfl, J1.L, J1.hs, J1.ho, Nat.zero_le _, fun q hq => by omega, fun q _ hq => by rw [J1.lo q (by omega)]; exact hA q hq, J1.un.fin⟩) (fun z6 m7 hX _ => ?_)
  have J2 := (show InvV _ _ _ _ _ _ _ _ _ _ _ _ _ _ _ _ from hX)
  exact hK m7 J2.hs J2.ho J2.L J2.done
end Go.Proofs.YtdhifgedhaapjaaGreatDoor

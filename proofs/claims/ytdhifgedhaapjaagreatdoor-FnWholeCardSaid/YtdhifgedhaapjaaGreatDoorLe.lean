/- The array's numbers against the cells: the last two scans (whole rests). -/
import Derived.Test.YtdhifgedhaapjaaGreatDoorLd
namespace Go.Proofs.YtdhifgedhaapjaaGreatDoor.Sa
section
variable (T : Nat → Int) (n : Nat)
abbrev leF (i j : Nat) : Prop := lel (sufl (ag T n) n i) (sufl (ag T n) n j)
open Classical in
noncomputable def eF (g : Option Nat) : Int :=
 match g with
 | none => 0
 | some j => if Lefty T n j then -(j : Int) else (j : Int)
def RelF (G : Nat → Option Nat) (A : Nat → Int) : Prop := ∀ p, p < n → A p = eF T n (G p)
open Classical in
noncomputable def eFS (done : Prop) (j : Nat) : Int := if (1 ≤ j ∧ St T n (j - 1)) ∧ ¬ done then -(j : Int) else (j : Int)
structure RelFS (x : Nat) (G : Nat → Option Nat) (A : Nat → Int) : Prop where
 s : ∀ p j, p < n → G p = some j → A p = eFS T n (x ≤ p) j
 o : ∀ p, p < n → G p = none → 0 ≤ A p ∧ A p < n
 l : ∀ k, k < n → ¬ St T n k → ∃ p, G p = some k
structure SeedsF (A : Nat → Int) : Prop extends Seeds T n 0 A where
 e : ∀ x y (i j : Nat), x < y → y < n → A x = i → A y = j → A x ≠ 0 → A y ≠ 0 → leF T n i j
structure SA (A : Nat → Int) : Prop where
 a : ∀ p, p < n → ∃ j : Nat, A p = j ∧ j < n
 z : ∀ j, j < n → ∃ p, p < n ∧ A p = (j : Int)
 e : ∀ p q (i j : Nat), p < q → q < n → A p = i → A q = j → ltl (sufl T n i) (sufl T n j)
end
section
variable {T : Nat → Int} {n : Nat}
theorem eF_lefty {j : Nat} (h : Lefty T n j) : eF T n (some j) = -(j : Int) := by simp [eF, h]
theorem eF_other {j : Nat} (h : ¬ Lefty T n j) : eF T n (some j) = (j : Int) := by simp [eF, h]
theorem Lefty.pos {j : Nat} (h : Lefty T n j) : 1 ≤ j := by
 rcases Nat.eq_zero_or_pos j with h0 | h0
 ·subst h0; exact absurd h.2 h.1
 ·exact h0
section
variable {x : Nat} {G : Nat → Option Nat} {B : Int → Nat} {A : Nat → Int}
theorem fullL_skip (h : LInv T n 0 (leF T n) x G B) (hr : RelF T n G A) (hx : x < n) (h0 : A x ≤ 0) : LInv T n 0 (leF T n) (x + 1) G B := by
 refine h.skip fun j hj hc => ?_
 have := hr x hx
 rw [hj] at this
 have hl : ¬ Lefty T n j := fun h => hc.2.1 h.2
 rw [eF_other hl] at this
 omega
theorem RelF.lo (h : LCore T n 0 (leF T n) G B) (hr : RelF T n G A) (hx : x < n) : -(n : Int) < A x ∧ A x < n := by
 have hrx := hr x hx
 cases hg : G x with
 | none => rw [hg] at hrx; simp only [eF] at hrx; omega
 | some j =>
  have := (h.a x j hg).2.1
  rw [hg] at hrx
  by_cases hl : Lefty T n j
  ·rw [eF_lefty hl] at hrx; omega
  ·rw [eF_other hl] at hrx; omega
theorem fullL_pos (h : LInv T n 0 (leF T n) x G B) (hr : RelF T n G A) (hx : x < n) (h0 : 0 < A x) :
  ∃ k : Nat, A x = ((k + 1 : Nat) : Int) ∧ k < n ∧ k + 1 < n + 1 ∧ B (T k) < n ∧
   LInv T n 0 (leF T n) (x + 1) (updG G (B (T k)) k) (updB B (T k) (B (T k) + 1)) ∧
   RelF T n (updG G (B (T k)) k) (fun y => if y = B (T k) then (if 0 < k ∧ T (k - 1) < T k then 0 - (k : Int) else (k : Int)) else A y) := by
 have hrx := hr x hx
 cases hg : G x with
 | none => rw [hg] at hrx; simp only [eF] at hrx; omega
 | some j =>
  rw [hg] at hrx
  obtain ⟨_, hjn, hcase⟩ := h.a x j hg
  by_cases hl : Lefty T n j
  ·rw [eF_lefty hl] at hrx; omega
  ·rw [eF_other hl] at hrx
   have hj : 1 ≤ j := by omega
   have hk : ¬ St T n (j - 1) := by
    rcases hcase with g | g
    ·exact g.1.2.2
    ·exact fun hs' => hl ⟨g.1, hs'⟩
   obtain ⟨g1, g2, g3, g4, g5, g6⟩ := h.step (full_L 0) hg hj hk (Nat.zero_le _)
   obtain ⟨k, rfl⟩ : ∃ k, j = k + 1 := ⟨j - 1, by omega⟩
   rw [Nat.add_sub_cancel] at hk g1 g2 g3 g4 g5 g6
   refine ⟨k, hrx, by omega, by omega, g2, g6, fun p hp => ?_⟩
   by_cases hpb : p = B (T k)
   ·subst hpb
    simp only [if_true]
    rw [updG_same]
    by_cases hlt : 0 < k ∧ T (k - 1) < T k
    ·rw [if_pos hlt, eF_lefty ⟨hk, (St_pred_L (by omega) (by omega) hk).2 hlt.2⟩]; omega
    ·rw [if_neg hlt, eF_other (fun h => hlt ⟨h.pos, (St_pred_L h.pos (by omega) hk).1 h.2⟩)]
   ·simp only [hpb, if_false]
    rw [updG_other _ hpb]
    exact hr p hp
end
theorem RelF.congr {G : Nat → Option Nat} {A A' : Nat → Int} (h : RelF T n G A) (hA : ∀ p, p < n → A' p = A p) : RelF T n G A' := fun p hp => (hA p hp).trans (h p hp)
theorem fullL_start {A : Nat → Int} {B : Int → Nat} (h1 : 1 ≤ n) (hs : SeedsF T n A) (hB : ∀ i, i < n → B (T i) = bs T n (T i)) :
  B (T (n - 1)) < n ∧ ∃ G, LInv T n 0 (leF T n) 0 G (updB B (T (n - 1)) (B (T (n - 1)) + 1)) ∧
   RelF T n G (fun y => if y = B (T (n - 1)) then (if 0 < n - 1 ∧ T (n - 1 - 1) < T (n - 1) then 0 - ((n - 1 : Nat) : Int) else ((n - 1 : Nat) : Int)) else A y) := by
 have hl : ¬ St T n (n - 1) := not_St_last (by omega)
 have key : ∀ p j, (if p < n then (if A p = 0 then none else some (A p).toNat) else none) = some j → p < n ∧ A p = j ∧ Lms T n j ∧ bs T n (T j) + nL T n (T j) ≤ p ∧ p < bs T n (T j) + cc T n (T j) := by
  intro p j hp
  by_cases hpn : p < n
  ·rw [if_pos hpn] at hp
   rcases hs.a p hpn with h0 | ⟨i, h1, h2, _, h4, h5⟩
   ·rw [if_pos h0] at hp; cases hp
   ·rw [if_neg (by rw [h1]; have := h2.1; omega)] at hp
    injection hp with hp
    rw [h1] at hp
    have : i = j := by omega
    subst this
    exact ⟨hpn, h1, h2, h4, h5⟩
  ·rw [if_neg hpn] at hp; cases hp
 have hc : LCore T n 0 (leF T n) (fun p => if p < n then (if A p = 0 then none else some (A p).toNat) else none) B := by
  refine ⟨fun p j hp => ?_, fun i p hi h1 h2 => ?_, fun i hi => ?_, fun p q j hp hq => ?_, fun p q i j hpq hp hq => ?_, fun j hj _ => ?_⟩
  ·obtain ⟨h1, _, h2, h3⟩ := key p j hp
   exact ⟨h1, by have := h2.lt; omega, .inl ⟨h2, h2.1, h3⟩⟩
  ·rw [hB i hi] at h2; omega
  ·rw [hB i hi]; omega
  ·obtain ⟨h1, h2, h3, _⟩ := key p j hp
   obtain ⟨h4, h5, _⟩ := key q j hq
   exact hs.d p q h1 h4 (h2.trans h5.symm) (by rw [h2]; have := h3.1; omega)
  ·obtain ⟨h1, h2, h3, _⟩ := key p i hp
   obtain ⟨g1, g2, g3, _⟩ := key q j hq
   exact hs.e p q i j hpq g1 h2 g2 (by rw [h2]; have := h3.1; omega) (by rw [g2]; have := g3.1; omega)
  ·obtain ⟨p, hp, he⟩ := hs.z j hj hj.1
   refine ⟨p, ?_⟩
   rw [if_pos hp, if_neg (by rw [he]; have := hj.1; omega), he]; simp
 obtain ⟨g1, g2, g3, g4, g5⟩ := LInv.start (full_L 0) hc h1 (Nat.zero_le _) (fun p j hp => (key p j hp).2.2.1)
 refine ⟨g3, _, g5, fun p hp => ?_⟩
 by_cases hpb : p = B (T (n - 1))
 ·subst hpb
  simp only [if_true]
  rw [updG_same]
  by_cases hlt : 0 < n - 1 ∧ T (n - 1 - 1) < T (n - 1)
  ·rw [if_pos hlt, eF_lefty ⟨hl, (St_pred_L (by omega) (by omega) hl).2 hlt.2⟩]; omega
  ·rw [if_neg hlt, eF_other (fun h => hlt ⟨h.pos, (St_pred_L h.pos (by omega) hl).1 h.2⟩)]
 ·simp only [hpb, if_false]
  rw [updG_other _ hpb, if_pos hp]
  rcases hs.a p hp with h0 | ⟨j, h1, h2, _⟩
  ·rw [if_pos h0, h0]; rfl
  ·rw [if_neg (by rw [h1]; have := h2.1; omega), h1]
   rw [Int.toNat_natCast, eF_other (fun h => h.1 h2.2.1)]
/-! ### from the right -/
section
variable {x : Nat} {G : Nat → Option Nat} {B : Int → Nat} {A : Nat → Int}
theorem eFS_pos {done : Prop} {j : Nat} (h : (1 ≤ j ∧ St T n (j - 1)) ∧ ¬ done) : eFS T n done j = -(j : Int) := by unfold eFS; rw [if_pos h]
theorem eFS_neg {done : Prop} {j : Nat} (h : ¬ ((1 ≤ j ∧ St T n (j - 1)) ∧ ¬ done)) : eFS T n done j = (j : Int) := by unfold eFS; rw [if_neg h]
theorem eFS_congr {done done' : Prop} (h : done ↔ done') (j : Nat) : eFS T n done j = eFS T n done' j := by rw [propext h]
theorem RelFS.congr {A' : Nat → Int} (h : RelFS T n x G A) (hA : ∀ p, p < n → A' p = A p) : RelFS T n x G A' :=
 ⟨fun p j hp hg => (hA p hp).trans (h.s p j hp hg), fun p hp hg => by rw [hA p hp]; exact h.o p hp hg, h.l⟩
theorem fullS_start (h : LInv T n 0 (leF T n) n G B) (hr : RelF T n G A) {B' : Int → Nat} (hB : ∀ i, i < n → B' (T i) = bs T n (T i) + cc T n (T i)) :
  ∃ G, SInv T n 0 (leF T n) n G B' ∧ RelFS T n n G A := by
 classical
 have key : ∀ p j, (match G p with | some j => if St T n j then none else some j | none => none) = some j → G p = some j ∧ ¬ St T n j := by
  intro p j hp
  cases hg : G p with
  | none => rw [hg] at hp; cases hp
  | some i =>
   rw [hg] at hp
   by_cases hs : St T n i
   ·simp only [hs, if_true] at hp; cases hp
   ·simp only [hs, if_false] at hp; cases hp; exact ⟨rfl, hs⟩
 have key2 : ∀ p j, G p = some j → ¬ St T n j → (match G p with | some j => if St T n j then none else some j | none => none) = some j := by
  intro p j hg hs
  rw [hg]; simp only [hs, if_false]
 have hall := h.all
 have hcore : SCore T n 0 (leF T n) (fun p => match G p with | some j => if St T n j then none else some j | none => none) B' := by
  refine ⟨fun p j hp => ?_, fun i p hi h1 h2 => ?_, fun i hi => ?_, fun p q j hp hq => ?_, fun p q i j hpq hp hq => ?_, fun j hj => ?_⟩
  ·obtain ⟨h1, h2⟩ := key p j hp
   obtain ⟨h3, h4, h5⟩ := h.a p j h1
   rcases h5 with h5 | h5
   ·exact absurd h5.1.2.1 h2
   ·have := h.c j h4
    exact ⟨h3, h4, .inl ⟨h2, h5.2.2.1, by omega⟩⟩
  ·rw [hB i hi] at h1; omega
  ·rw [hB i hi, cc_split]; omega
  ·exact h.d p q j (key p j hp).1 (key q j hq).1
  ·exact h.e p q i j hpq (key p i hp).1 (key q j hq).1
  ·obtain ⟨p, hp⟩ := hall j hj.1 hj.2.1 (Nat.zero_le _)
   exact ⟨p, key2 p j hp hj.2.1⟩
 refine ⟨_, SInv.start hcore (fun p j hp => (key p j hp).2), fun p j hp hg => ?_, fun p hp hg => ?_, fun k hk hs => ?_⟩
 ·obtain ⟨h1, h2⟩ := key p j hg
  have := hr p hp
  rw [h1] at this
  by_cases hl : Lefty T n j
  ·rw [eF_lefty hl] at this; rw [this, eFS_pos ⟨⟨hl.pos, hl.2⟩, by omega⟩]
  ·rw [eF_other hl] at this; rw [this, eFS_neg fun h => hl ⟨h2, h.1.2⟩]
 ·have hrp := hr p hp
  cases hgp : G p with
  | none => rw [hgp] at hrp; simp only [eF] at hrp; omega
  | some j =>
   have hjn := (h.a p j hgp).2.1
   by_cases hs : St T n j
   ·rw [hgp, eF_other fun h => h.1 hs] at hrp; omega
   ·have := key2 p j hgp hs
    have h2 : (match G p with | some j => if St T n j then none else some j | none => none) = none := hg
    rw [h2] at this; cases this
 ·obtain ⟨p, hp⟩ := hall k hk hs (Nat.zero_le _)
  exact ⟨p, key2 p k hp hs⟩
theorem RelFS.lo (h : SCore T n 0 (leF T n) G B) (hr : RelFS T n x G A) {p : Nat} (hp : p < n) : -(n : Int) < A p ∧ A p < n := by
 cases hg : G p with
 | none => have := hr.o p hp hg; omega
 | some j =>
  have h1 := (h.a p j hg).2.1
  have := hr.s p j hp hg
  unfold eFS at this
  split at this <;> omega
theorem fullS_skip (h : SInv T n 0 (leF T n) (x + 1) G B) (hr : RelFS T n (x + 1) G A) (hx : x < n) (h0 : 0 ≤ A x) : SInv T n 0 (leF T n) x G B ∧ RelFS T n x G A := by
 have hno : ∀ j, G x = some j → ¬ (1 ≤ j ∧ St T n (j - 1)) := fun j hj hc => by
  have := hr.s x j hx hj
  rw [eFS_pos ⟨hc, by omega⟩] at this
  omega
 refine ⟨h.skip fun j hj hc => hno j hj ⟨hc.1, hc.2.1⟩, fun p j hp hg => ?_, hr.o, hr.l⟩
 rw [hr.s p j hp hg]
 by_cases hpx : p = x
 ·subst hpx
  rw [eFS_neg fun h => hno j hg h.1, eFS_neg fun h => hno j hg h.1]
 ·exact eFS_congr (by omega) _
theorem fullS_neg (h : SInv T n 0 (leF T n) (x + 1) G B) (hr : RelFS T n (x + 1) G A) (hx : x < n) (h0 : A x < 0) :
  ∃ k : Nat, 0 - A x = ((k + 1 : Nat) : Int) ∧ k + 1 < n ∧ B (T k) ≤ x ∧ 1 ≤ B (T k) ∧
   SInv T n 0 (leF T n) x (updG G (B (T k) - 1) k) (updB B (T k) (B (T k) - 1)) ∧
   RelFS T n x (updG G (B (T k) - 1) k) (fun y => if y = B (T k) - 1 then (if 0 < k ∧ T (k - 1) ≤ T k then 0 - (k : Int) else (k : Int)) else if y = x then 0 - A x else A y) := by
 cases hg : G x with
 | none => have := hr.o x hx hg; omega
 | some j =>
  have hrx := hr.s x j hx hg
  have hjn := (h.a x j hg).2.1
  by_cases hc : 1 ≤ j ∧ St T n (j - 1)
  ·rw [eFS_pos ⟨hc, by omega⟩] at hrx
   obtain ⟨g1, g2, g3, g4, g5⟩ := h.step (full_S 0) hg hc.1 hc.2 (Nat.zero_le _)
   obtain ⟨k, rfl⟩ : ∃ k, j = k + 1 := ⟨j - 1, by omega⟩
   rw [Nat.add_sub_cancel] at hc g1 g2 g3 g4 g5
   have hAx : 0 - A x = ((k + 1 : Nat) : Int) := by omega
   refine ⟨k, hAx, hjn, g1, by omega, g5, fun p i hp hi => ?_, fun p hp hn => ?_, fun i hi hs => ?_⟩
   ·by_cases hpb : p = B (T k) - 1
    ·subst hpb
     rw [updG_same] at hi; cases hi
     rw [if_pos rfl]
     by_cases hlt : 0 < k ∧ T (k - 1) ≤ T k
     ·rw [if_pos hlt, eFS_pos ⟨⟨hlt.1, (St_pred_S hlt.1 hc.2).2 hlt.2⟩, by omega⟩]; omega
     ·rw [if_neg hlt, eFS_neg fun h => hlt ⟨h.1.1, (St_pred_S h.1.1 hc.2).1 h.1.2⟩]
    ·rw [updG_other _ hpb] at hi
     rw [if_neg hpb]
     by_cases hpx : p = x
     ·subst hpx
      rw [hg] at hi; cases hi
      rw [if_pos rfl, hAx, eFS_neg fun h => h.2 (Nat.le_refl _)]
     ·rw [if_neg hpx, hr.s p i hp hi]
      exact eFS_congr (by omega) _
   ·by_cases hpb : p = B (T k) - 1
    ·subst hpb; rw [updG_same] at hn; cases hn
    ·rw [updG_other _ hpb] at hn
     have hpx : p ≠ x := by rintro rfl; rw [hg] at hn; cases hn
     rw [if_neg hpb, if_neg hpx]
     exact hr.o p hp hn
   ·obtain ⟨p, hp⟩ := hr.l i hi hs
    have : p ≠ B (T k) - 1 := by rintro rfl; rw [g4] at hp; cases hp
    exact ⟨p, by rw [updG_other _ this]; exact hp⟩
  ·rw [eFS_neg fun h => hc h.1] at hrx; omega
theorem fullS_fin (h : SInv T n 0 (leF T n) 0 G B) (hr : RelFS T n 0 G A) : SA T n A := by
 classical
 have hall : ∀ k, k < n → ∃ p, G p = some k := fun k hk => by
  by_cases hs : St T n k
  ·exact h.all k hk hs (Nat.zero_le _)
  ·exact hr.l k hk hs
 have hval : ∀ p j, G p = some j → A p = (j : Int) := fun p j hp => by
  rw [hr.s p j (h.a p j hp).1 hp, eFS_neg fun h => h.2 (Nat.zero_le _)]
 have hcell : ∀ p, p < n → ∃ j, G p = some j := fun p hp => by
  cases hg : G p with
  | some j => exact ⟨j, rfl⟩
  | none =>
   exfalso
   have hex : ∀ k, ∃ q, k < n → G q = some k := fun k => by
    by_cases hk : k < n
    ·obtain ⟨q, hq⟩ := hall k hk; exact ⟨q, fun _ => hq⟩
    ·exact ⟨0, fun h => absurd h hk⟩
   have hq : ∀ k, k < n → Classical.choose (hex k) < n ∧ Classical.choose (hex k) ≠ p := fun k hk => by
    have := Classical.choose_spec (hex k) hk
    exact ⟨(h.a _ _ this).1, by intro e; rw [e, hg] at this; cases this⟩
   have hpg := pigeon (P := fun _ => True) n (n - 1) (fun k => if Classical.choose (hex k) < p then Classical.choose (hex k) else Classical.choose (hex k) - 1) (fun k hk _ => by
    have := hq k hk
    by_cases hlt : Classical.choose (hex k) < p
    ·simp only [hlt, if_true]; omega
    ·simp only [hlt, if_false]; omega) (fun k k' hk hk' _ _ he => by
    have h1 := hq k hk
    have h2 := hq k' hk'
    have e : Classical.choose (hex k) = Classical.choose (hex k') := by
     by_cases hlt : Classical.choose (hex k) < p <;> by_cases hlt' : Classical.choose (hex k') < p
     ·simp only [hlt, hlt', if_true] at he; exact he
     ·simp only [hlt, hlt', if_true, if_false] at he; omega
     ·simp only [hlt, hlt', if_true, if_false] at he; omega
     ·simp only [hlt, hlt', if_false] at he; omega
    have s1 := Classical.choose_spec (hex k) hk
    have s2 := Classical.choose_spec (hex k') hk'
    rw [e, s2] at s1
    cases s1; rfl)
   have hcn : ∀ m, cn (fun _ => True) m = m := fun m => by
    induction m with
    | zero => rfl
    | succ m ih => rw [cn_succ_pos trivial, ih]
   rw [hcn] at hpg
   omega
 refine ⟨fun p hp => ?_, fun j hj => ?_, fun p q i j hpq hq hi hj => ?_⟩
 ·obtain ⟨j, hj⟩ := hcell p hp
  exact ⟨j, hval p j hj, (h.a p j hj).2.1⟩
 ·obtain ⟨p, hp⟩ := hall j hj
  exact ⟨p, (h.a p j hp).1, hval p j hp⟩
 ·obtain ⟨i', hi'⟩ := hcell p (by omega)
  obtain ⟨j', hj'⟩ := hcell q hq
  have e1 := hval p i' hi'
  have e2 := hval q j' hj'
  obtain rfl : i = i' := by omega
  obtain rfl : j = j' := by omega
  have hle := h.e p q i j hpq hi' hj'
  have hne : i ≠ j := by rintro rfl; have := h.d p q i hi' hj'; omega
  exact plain_of_ag _ i j rfl (ltl_of_le_ne hle (sufl_ne _ (h.a p i hi').2.1 hne))
end
end
end Go.Proofs.YtdhifgedhaapjaaGreatDoor.Sa
namespace Go.Proofs.YtdhifgedhaapjaaGreatDoor.Sa
section
variable (T : Nat → Int) (n : Nat)
def Nxt (j j' : Nat) : Prop := Lms T n j' ∧ j < j' ∧ ∀ k, j < k → k < j' → ¬ Lms T n k
def LastL (j : Nat) : Prop := ∀ k, j < k → ¬ Lms T n k
end
section
variable {T : Nat → Int} {n : Nat}
theorem nxt_or_last (j : Nat) : LastL T n j ∨ ∃ j', Nxt T n j j' := by
 by_cases h : LastL T n j
 ·exact .inl h
 ·refine .inr ?_
  have hex : ∃ k, j < k ∧ Lms T n k := by
   have h' := h
   unfold LastL at h'
   by_cases hh : ∃ k, j < k ∧ Lms T n k
   ·exact hh
   ·exact absurd (fun k h1 h2 => hh ⟨k, h1, h2⟩) h'
  obtain ⟨k, hk, hl⟩ := hex
  have key : ∀ d k, k - j = d → j < k → Lms T n k → ∃ j', Nxt T n j j' := by
   intro d
   induction d using Nat.strongRecOn with
   | ind d ih =>
    intro k h1 h2 h3
    by_cases hh : ∃ q, j < q ∧ q < k ∧ Lms T n q
    ·obtain ⟨q, q1, q2, q3⟩ := hh
     exact ih (q - j) (by omega) q rfl q1 q3
    ·exact ⟨k, h3, h2, fun q q1 q2 q3 => hh ⟨q, q1, q2, q3⟩⟩
  exact key _ k rfl hk hl
theorem Nxt.uniq {j a b : Nat} (h : Nxt T n j a) (h' : Nxt T n j b) : a = b := by
 rcases Nat.lt_trichotomy a b with h1 | h1 | h1
 ·exact absurd h.1 (h'.2.2 a h.2.1 h1)
 ·exact h1
 ·exact absurd h'.1 (h.2.2 b h'.2.1 h1)
theorem LastL.not_nxt {j a : Nat} (h : LastL T n j) : ¬ Nxt T n j a := fun h' => h a h'.2.1 h'.1
theorem lms_gap {i j : Nat} (hi : Lms T n i) (hj : Lms T n j) (h : i < j) : i + 2 ≤ j := by
 by_cases h1 : j = i + 1
 ·subst h1; exact absurd (by rw [Nat.add_sub_cancel]; exact hi.2.1) hj.2.2
 ·omega
theorem lms_half {i j : Nat} (hi : Lms T n i) (hj : Lms T n j) (h : i / 2 = j / 2) : i = j := by
 rcases Nat.lt_trichotomy i j with h1 | h1 | h1
 ·have := lms_gap hi hj h1; omega
 ·exact h1
 ·have := lms_gap hj hi h1; omega
/-! ### How many -/
theorem cn_lms_half (m : Nat) : 2 * cn (Lms T n) (m + 1) ≤ m + 1 := by
 have key : ∀ m, 2 * cn (Lms T n) (m + 1) ≤ m + 1 ∧ (¬ Lms T n m → 2 * cn (Lms T n) (m + 1) ≤ m) := by
  intro m
  induction m with
  | zero =>
   have h0 : ¬ Lms T n 0 := fun h => absurd h.1 (by omega)
   rw [cn_succ_neg h0]
   exact ⟨by simp [cn], fun _ => by simp [cn]⟩
  | succ m ih =>
   by_cases h1 : Lms T n (m + 1)
   ·have h2 : ¬ Lms T n m := fun h => by have := lms_gap h h1 (by omega); omega
    have := ih.2 h2
    rw [cn_succ_pos h1]
    exact ⟨by omega, fun h => absurd h1 h⟩
   ·rw [cn_succ_neg h1]
    exact ⟨by omega, fun _ => ih.1⟩
 exact (key m).1
theorem nlms_half (h : 1 ≤ n) : 2 * nlms T n + 1 ≤ n := by
 obtain ⟨m, rfl⟩ : ∃ m, n = m + 1 := ⟨n - 1, by omega⟩
 have hl : ¬ Lms T (m + 1) m := fun h => by have := h.lt; omega
 have e : nlms T (m + 1) = cn (Lms T (m + 1)) m := cn_succ_neg hl
 rw [e]
 cases m with
 | zero => simp [cn]
 | succ m => have := cn_lms_half (T := T) (n := m + 1 + 1) m; omega
/-! ### Rows of letters -/
theorem sufl_eq (f : Nat → Int) : ∀ (m i j : Nat), sufl f (i + m) i = sufl f (j + m) j ↔ ∀ k, k < m → f (i + k) = f (j + k)
 | 0, i, j => by
  rw [sufl_nil f (by omega), sufl_nil f (by omega)]
  exact ⟨fun _ k hk => by omega, fun _ => rfl⟩
 | m + 1, i, j => by
  rw [sufl_cons f (by omega), sufl_cons f (show j < j + (m + 1) by omega)]
  rw [show i + (m + 1) = (i + 1) + m by omega, show j + (m + 1) = (j + 1) + m by omega]
  simp only [List.cons.injEq]
  rw [sufl_eq f m (i + 1) (j + 1)]
  constructor
  ·rintro ⟨h1, h2⟩ k hk
   cases k with
   | zero => exact h1
   | succ k =>
    have := h2 k (by omega)
    rw [show i + (k + 1) = i + 1 + k by omega, show j + (k + 1) = j + 1 + k by omega]; exact this
  ·intro h
   refine ⟨h 0 (by omega), fun k hk => ?_⟩
   have := h (k + 1) (by omega)
   rw [show i + (k + 1) = i + 1 + k by omega, show j + (k + 1) = j + 1 + k by omega] at this; exact this
/-! ### The pieces -/
theorem pc_nxt {j j' : Nat} (h : Nxt T n j j') : pc T n j = sufl (ag T n) (j' + 1) j := by
 have hj' := h.1.lt
 have key : ∀ d i, j' - i = d + 1 → j ≤ i → i < j' → pc T n i = sufl (ag T n) (j' + 1) i := by
  intro d
  induction d with
  | zero =>
   intro i h1 h2 h3
   obtain rfl : j' = i + 1 := by omega
   obtain ⟨h4, h5⟩ := lms_succ.1 h.1
   rw [pc_LS (by omega) h4 h5, sufl_cons _ (by omega), sufl_cons _ (by omega), sufl_nil _ (by omega)]
  | succ d ih =>
   intro i h1 h2 h3
   rw [sufl_cons _ (by omega), ← ih (i + 1) (by omega) (by omega) (by omega)]
   exact pc_step (by omega) fun hh => h.2.2 (i + 1) (by omega) (by omega) (lms_succ.2 hh)
 have hjj := h.2.1
 exact key (j' - j - 1) j (by omega) (Nat.le_refl _) hjj
theorem pc_lastL {j : Nat} (h : LastL T n j) : pc T n j = sufl (ag T n) n j := by
 have key : ∀ d i, n - i = d → j ≤ i → pc T n i = sufl (ag T n) n i := by
  intro d
  induction d with
  | zero => intro i h1 h2; unfold pc; rw [sufl_nil _ (by omega)]; rfl
  | succ d ih =>
   intro i h1 h2
   by_cases h3 : i + 1 < n
   ·rw [sufl_cons _ (show i < n by omega), ← ih (i + 1) (by omega) (by omega)]
    exact pc_step h3 fun hh => h (i + 1) (by omega) (lms_succ.2 hh)
   ·rw [pc_last (by omega), sufl_cons _ (by omega), sufl_nil _ (by omega)]
 exact key _ j rfl (Nat.le_refl _)
theorem rst_nxt {j j' : Nat} (h : Nxt T n j j') : rst (sufl (ag T n) n j) = sufl (ag T n) n j' := by
 have hj' := h.1.lt
 have key : ∀ d i, j' - i = d + 1 → j ≤ i → i < j' → rst (sufl (ag T n) n i) = sufl (ag T n) n j' := by
  intro d
  induction d with
  | zero =>
   intro i h1 h2 h3
   obtain rfl : j' = i + 1 := by omega
   obtain ⟨h4, h5⟩ := lms_succ.1 h.1
   rw [sufl_cons _ (show i < n by omega), sufl_cons _ (show i + 1 < n by omega)]
   simp only [rst]
   rw [if_pos ⟨ag_even.2 h4, ag_odd.2 h5⟩]
  | succ d ih =>
   intro i h1 h2 h3
   have := ih (i + 1) (by omega) (by omega) (by omega)
   rw [sufl_cons _ (show i + 1 < n by omega)] at this
   rw [sufl_cons _ (show i < n by omega), sufl_cons _ (show i + 1 < n by omega)]
   simp only [rst]
   rw [if_neg fun hh => h.2.2 (i + 1) (by omega) (by omega) (lms_succ.2 ⟨ag_even.1 hh.1, ag_odd.1 hh.2⟩)]
   exact this
 have hjj := h.2.1
 exact key (j' - j - 1) j (by omega) (Nat.le_refl _) hjj
theorem pc_eq_iff {i i' j j' : Nat} (hi : Nxt T n i i') (hj : Nxt T n j j') : pc T n i = pc T n j ↔ i' - i = j' - j ∧ ∀ k, k < i' + 1 - i → T (i + k) = T (j + k) := by
 have a1 := hi.2.1
 have a2 := hj.2.1
 rw [pc_nxt hi, pc_nxt hj]
 constructor
 ·intro h
  have hlen := congrArg List.length h
  rw [sufl_length, sufl_length] at hlen
  have e1 : i' + 1 = i + (i' + 1 - i) := by omega
  have e2 : j' + 1 = j + (i' + 1 - i) := by omega
  rw [e1, e2] at h
  have := (sufl_eq (ag T n) _ i j).1 h
  exact ⟨by omega, fun k hk => (ag_eq (this k (by omega))).1⟩
 ·rintro ⟨h1, h2⟩
  have e1 : i' + 1 = i + (i' + 1 - i) := by omega
  have e2 : j' + 1 = j + (i' + 1 - i) := by omega
  have key : ∀ d k, i' - i - k = d → k ≤ i' - i → (St T n (i + k) ↔ St T n (j + k)) := by
   intro d
   induction d with
   | zero =>
    intro k h3 h4
    have : i + k = i' := by omega
    have : j + k = j' := by omega
    rw [show i + k = i' by omega, show j + k = j' by omega]
    exact iff_of_true hi.1.2.1 hj.1.2.1
   | succ d ih =>
    intro k h3 h4
    have b1 := hi.1.lt
    have b2 := hj.1.lt
    rw [St_iff (T := T) (n := n) (i := i + k) (by omega), St_iff (T := T) (n := n) (i := j + k) (by omega)]
    have c1 := h2 k (by omega)
    have c2 := h2 (k + 1) (by omega)
    rw [show i + k + 1 = i + (k + 1) by omega, show j + k + 1 = j + (k + 1) by omega, c1, c2, ih (k + 1) (by omega) (by omega)]
  rw [e1, e2, sufl_eq]
  intro k hk
  have c1 := h2 k (by omega)
  have c2 := key _ k rfl (by omega)
  by_cases hs : St T n (i + k)
  ·rw [ag_S hs, ag_S (c2.1 hs), c1]
  ·rw [ag_L hs, ag_L (fun h => hs (c2.2 h)), c1]
theorem pc_last_ne {i j j' : Nat} (hi : LastL T n i) (hin : i < n) (hj : Nxt T n j j') : pc T n i ≠ pc T n j := by
 intro h
 have a2 := hj.2.1
 rw [pc_lastL hi, pc_nxt hj] at h
 have hlen := congrArg List.length h
 rw [sufl_length, sufl_length] at hlen
 have h' : sufl (ag T n) (i + (n - i)) i = sufl (ag T n) (j + (n - i)) j := by
  rw [show i + (n - i) = n by omega, show j + (n - i) = j' + 1 by omega]; exact h
 have := (sufl_eq (ag T n) _ i j).1 h' (n - i - 1) (by omega)
 rw [show j + (n - i - 1) = j' by omega, show i + (n - i - 1) = n - 1 by omega] at this
 exact not_St_last (T := T) (n := n) (i := n - 1) (by omega) ((ag_eq this).2.2 hj.1.2.1)
theorem last_uniq {i j : Nat} (hi : Lms T n i) (hj : Lms T n j) (h : LastL T n i) (h' : LastL T n j) : i = j := by
 rcases Nat.lt_trichotomy i j with h1 | h1 | h1
 ·exact absurd hj (h j h1)
 ·exact h1
 ·exact absurd hi (h' i h1)
/-! ### Short codes -/
variable (T) in
def enc : Nat → Nat → Int
 | _, 0 => 0
 | i, m + 1 => (T i + 1) % 256 + 256 * enc (i + 1) m
theorem enc_lo : ∀ (m i : Nat), 0 ≤ enc T i m
 | 0, _ => Int.le_refl _
 | m + 1, i => by
  have := enc_lo m (i + 1)
  simp only [enc]; omega
theorem enc_pos : ∀ (m i : Nat), (T (i + m) + 1) % 256 ≠ 0 → 0 < enc T i (m + 1)
 | 0, i, h => by
  simp only [enc]
  rw [Nat.add_zero] at h
  omega
 | m + 1, i, h => by
  have := enc_pos m (i + 1) (by rw [show i + 1 + m = i + (m + 1) by omega]; exact h)
  rw [enc]; omega
theorem enc_hi : ∀ (m i : Nat), enc T i m < 256 ^ m
 | 0, _ => by simp [enc]
 | m + 1, i => by
  have := enc_hi m (i + 1)
  simp only [enc]
  rw [Int.pow_succ]; omega
theorem enc_inj : ∀ (m m' i j : Nat), (T (i + m) + 1) % 256 ≠ 0 → (T (j + m') + 1) % 256 ≠ 0 → enc T i (m + 1) = enc T j (m' + 1) →
  m = m' ∧ ∀ k, k ≤ m → (T (i + k) + 1) % 256 = (T (j + k) + 1) % 256
 | 0, 0, i, j, _, _, he => by
  simp only [enc] at he
  refine ⟨rfl, fun k hk => ?_⟩
  obtain rfl : k = 0 := by omega
  rw [Nat.add_zero, Nat.add_zero]; omega
 | 0, m' + 1, i, j, _, h', he => by
  have := enc_pos (T := T) m' (j + 1) (by rw [show j + 1 + m' = j + (m' + 1) by omega]; exact h')
  rw [enc, enc, enc] at he
  omega
 | m + 1, 0, i, j, h, _, he => by
  have := enc_pos (T := T) m (i + 1) (by rw [show i + 1 + m = i + (m + 1) by omega]; exact h)
  have e1 : enc T i (m + 1 + 1) = (T i + 1) % 256 + 256 * enc T (i + 1) (m + 1) := rfl
  have e2 : enc T j (0 + 1) = (T j + 1) % 256 + 256 * 0 := rfl
  rw [e1, e2] at he
  omega
 | m + 1, m' + 1, i, j, h, h', he => by
  rw [enc, enc.eq_def T j] at he
  simp only at he
  obtain ⟨h1, h2⟩ := enc_inj m m' (i + 1) (j + 1) (by rw [show i + 1 + m = i + (m + 1) by omega]; exact h) (by rw [show j + 1 + m' = j + (m' + 1) by omega]; exact h') (by omega)
  refine ⟨by omega, fun k hk => ?_⟩
  cases k with
  | zero => rw [Nat.add_zero, Nat.add_zero]; omega
  | succ k =>
   have := h2 k (by omega)
   rw [show i + (k + 1) = i + 1 + k by omega, show j + (k + 1) = j + 1 + k by omega]; exact this
theorem enc_congr : ∀ (m i j : Nat), (∀ k, k < m → T (i + k) = T (j + k)) → enc T i m = enc T j m
 | 0, _, _, _ => rfl
 | m + 1, i, j, h => by
  rw [enc, enc, show T i = T j from h 0 (by omega), enc_congr m (i + 1) (j + 1) fun k hk => by
   have := h (k + 1) (by omega)
   rw [show i + (k + 1) = i + 1 + k by omega, show j + (k + 1) = j + 1 + k by omega] at this; exact this]
def sgn (M w : Int) : Int := if w < M / 2 then w else w - M
theorem sgn_mod {M w : Int} (h0 : 0 ≤ w) (h1 : w < M) : sgn M w % M = w := by
 unfold sgn
 split
 ·exact Int.emod_eq_of_lt h0 h1
 ·rw [← Int.emod_eq_of_lt h0 h1, Int.sub_emod, Int.emod_self, Int.sub_zero, Int.emod_emod]
  exact Int.emod_emod _ _
section
variable (T n) (K : Nat)
def codeV (j j' : Nat) : Int :=
 if j' + 1 - j ≤ K ∧ (n : Int) ≤ 256 ^ K - 1 - enc T j (j' + 1 - j) then sgn (256 ^ K) (256 ^ K - 1 - enc T j (j' + 1 - j)) else ((j' + 1 - j : Nat) : Int)
def Code (j : Nat) (v : Int) : Prop := (LastL T n j ∧ v = 0) ∨ ∃ j', Nxt T n j j' ∧ v = codeV T n K j j'
end
section
variable {K : Nat}
theorem Code.congr {i j : Nat} {v w : Int} (hi : Lms T n i) (hj : Lms T n j) (h : Code T n K i v) (h' : Code T n K j w) (he : pc T n i = pc T n j) : v = w := by
 rcases h with ⟨h1, h2⟩ | ⟨i', h1, h2⟩ <;> rcases h' with ⟨h3, h4⟩ | ⟨j', h3, h4⟩
 ·omega
 ·exact absurd he (pc_last_ne h1 (by have := hi.lt; omega) h3)
 ·exact absurd he.symm (pc_last_ne h3 (by have := hj.lt; omega) h1)
 ·obtain ⟨h5, h6⟩ := (pc_eq_iff h1 h3).1 he
  have a1 := h1.2.1
  have a2 := h3.2.1
  rw [h2, h4]
  unfold codeV
  rw [show j' + 1 - j = i' + 1 - i by omega, enc_congr _ i j h6]
def Bytes (T : Nat → Int) (n K : Nat) : Prop := K = 0 ∨ ∀ i, i < n → 0 ≤ T i ∧ T i < 256
theorem lms_letter {j : Nat} (hb : ∀ i, i < n → 0 ≤ T i ∧ T i < 256) (hj : Lms T n j) : (T j + 1) % 256 ≠ 0 := by
 have h1 := hj.pred_gt
 have h2 := hb (j - 1) (by have := hj.lt; omega)
 have h3 := hb j (by have := hj.lt; omega)
 omega
theorem codeV_cases (hb : Bytes T n K) {j j' : Nat} (hj : Nxt T n j j') :
  (codeV T n K j j' = ((j' + 1 - j : Nat) : Int) ∧ ((j' + 1 - j : Nat) : Int) < n) ∨
  ((n : Int) ≤ codeV T n K j j' % 256 ^ K ∧ j' + 1 - j ≤ K ∧ (∀ i, i < n → 0 ≤ T i ∧ T i < 256) ∧ codeV T n K j j' % 256 ^ K = 256 ^ K - 1 - enc T j (j' + 1 - j) ∧ 0 < enc T j (j' + 1 - j)) := by
 have hlt := hj.1.lt
 have hjj := hj.2.1
 unfold codeV
 by_cases h : j' + 1 - j ≤ K ∧ (n : Int) ≤ 256 ^ K - 1 - enc T j (j' + 1 - j)
 ·rw [if_pos h]
  have hby : ∀ i, i < n → 0 ≤ T i ∧ T i < 256 := by
   rcases hb with h0 | h0
   ·omega
   ·exact h0
  have e1 := enc_lo (T := T) (j' + 1 - j) j
  have e3 : 0 < enc T j (j' + 1 - j) := by
   have := enc_pos (T := T) (j' - j) j (by rw [show j + (j' - j) = j' by omega]; exact lms_letter hby hj.1)
   rw [show j' + 1 - j = j' - j + 1 by omega]; exact this
  rw [sgn_mod (by omega) (by omega)]
  exact .inr ⟨h.2, h.1, hby, rfl, e3⟩
 ·rw [if_neg h]
  exact .inl ⟨rfl, by omega⟩
theorem Code.ne_neg {j : Nat} {v : Int} (hb : Bytes T n K) (h : Code T n K j v) : v ≠ -1 := by
 rcases h with ⟨_, h2⟩ | ⟨j', h1, h2⟩
 ·omega
 ·rintro rfl
  rcases codeV_cases hb h1 with ⟨c1, _⟩ | ⟨_, _, _, c1, c2⟩
  ·rw [← h2] at c1; omega
  ·rw [← h2] at c1
   have hp : (0 : Int) < 256 ^ K := Int.pow_pos (by decide)
   have : (-1 : Int) % 256 ^ K = 256 ^ K - 1 := by
    rw [show (-1 : Int) = (256 ^ K - 1) - 256 ^ K by omega, Int.sub_emod, Int.emod_self, Int.sub_zero, Int.emod_emod]
    exact Int.emod_eq_of_lt (by omega) (by omega)
   omega
theorem Code.same {i j : Nat} {v : Int} (hb : Bytes T n K) (hi : Lms T n i) (hj : Lms T n j) (h : Code T n K i v) (h' : Code T n K j v) (hne : i ≠ j) :
  (K ≠ 0 ∧ (n : Int) ≤ v % 256 ^ K ∧ pc T n i = pc T n j) ∨ ∃ l : Nat, v = l ∧ 0 < l ∧ l < n ∧ i + l ≤ n ∧ j + l ≤ n ∧ (pc T n i = pc T n j ↔ ∀ k, k < l → T (i + k) = T (j + k)) := by
 rcases h with ⟨h1, h2⟩ | ⟨i', h1, h2⟩ <;> rcases h' with ⟨h3, h4⟩ | ⟨j', h3, h4⟩
 ·exact absurd (last_uniq hi hj h1 h3) hne
 ·exfalso
  rcases codeV_cases hb h3 with ⟨c1, _⟩ | ⟨c1, _⟩
  ·have := h3.2.1; omega
  ·rw [← h4, h2, Int.zero_emod] at c1
   have := hi.lt; omega
 ·exfalso
  rcases codeV_cases hb h1 with ⟨c1, _⟩ | ⟨c1, _⟩
  ·have := h1.2.1; omega
  ·rw [← h2, h4, Int.zero_emod] at c1
   have := hi.lt; omega
 ·have a1 := h1.2.1
  have a2 := h3.2.1
  have b1 := h1.1.lt
  have b2 := h3.1.lt
  rcases codeV_cases hb h1 with ⟨c1, c2⟩ | ⟨c1, c2, c3, c4, c5⟩ <;> rcases codeV_cases hb h3 with ⟨d1, d2⟩ | ⟨d1, d2, d3, d4, d5⟩
  ·refine .inr ⟨i' + 1 - i, by omega, by omega, by omega, by omega, by omega, ?_⟩
   rw [pc_eq_iff h1 h3]
   exact ⟨fun h => h.2, fun h => ⟨by omega, h⟩⟩
  ·exfalso
   have e0 : v % 256 ^ K = v := Int.emod_eq_of_lt (by omega) (by
    have hv : v < n := by omega
    have := enc_lo (T := T) (j' + 1 - j) j
    rw [← h4] at d1 d4; omega)
   rw [← h4] at d1; omega
  ·exfalso
   have e0 : v % 256 ^ K = v := Int.emod_eq_of_lt (by omega) (by
    have hv : v < n := by omega
    have := enc_lo (T := T) (i' + 1 - i) i
    rw [← h2] at c1 c4; omega)
   rw [← h2] at c1; omega
  ·refine .inl ⟨by omega, by rw [h2]; exact c1, ?_⟩
   rw [← h2] at c4
   rw [← h4] at d4
   have he : enc T i (i' - i + 1) = enc T j (j' - j + 1) := by
    rw [show i' - i + 1 = i' + 1 - i by omega, show j' - j + 1 = j' + 1 - j by omega]; omega
   obtain ⟨g1, g2⟩ := enc_inj _ _ i j (by rw [show i + (i' - i) = i' by omega]; exact lms_letter c3 h1.1) (by rw [show j + (j' - j) = j' by omega]; exact lms_letter c3 h3.1) he
   rw [pc_eq_iff h1 h3]
   refine ⟨g1, fun k hk => ?_⟩
   have := g2 k (by omega)
   have p1 := c3 (i + k) (by omega)
   have p2 := c3 (j + k) (by omega)
   omega
end
end
end Go.Proofs.YtdhifgedhaapjaaGreatDoor.Sa
namespace Go.Proofs.YtdhifgedhaapjaaGreatDoor.Sa
section
open Classical in
noncomputable def rid (P : Nat → List Int) : Nat → Nat
 | 0 => 1
 | u + 1 => if P u = P (u + 1) then rid P u else rid P u + 1
variable {P : Nat → List Int}
theorem rid_eq {u : Nat} (h : P u = P (u + 1)) : rid P (u + 1) = rid P u := by simp [rid, h]
theorem rid_ne {u : Nat} (h : P u ≠ P (u + 1)) : rid P (u + 1) = rid P u + 1 := by simp [rid, h]
theorem rid_pos : ∀ u, 1 ≤ rid P u
 | 0 => Nat.le_refl _
 | u + 1 => by
  have := rid_pos u
  by_cases h : P u = P (u + 1)
  ·rw [rid_eq h]; exact this
  ·rw [rid_ne h]; omega
theorem rid_le : ∀ u, rid P u ≤ u + 1
 | 0 => Nat.le_refl _
 | u + 1 => by
  have := rid_le u
  by_cases h : P u = P (u + 1)
  ·rw [rid_eq h]; omega
  ·rw [rid_ne h]; omega
theorem rid_mono : ∀ {u v : Nat}, u ≤ v → rid P u ≤ rid P v ∧ rid P v ≤ rid P u + (v - u)
 | u, 0, h => by
  have : u = 0 := by omega
  subst this
  exact ⟨Nat.le_refl _, by omega⟩
 | u, v + 1, h => by
  by_cases he : u = v + 1
  ·subst he; exact ⟨Nat.le_refl _, by omega⟩
  ·have := rid_mono (u := u) (v := v) (by omega)
   by_cases h : P v = P (v + 1)
   ·rw [rid_eq h]; omega
   ·rw [rid_ne h]; omega
theorem rid_lt {m : Nat} (hs : ∀ u v, u < v → v < m → lel (P u) (P v)) : ∀ {u v : Nat}, u ≤ v → v < m → (rid P u = rid P v ∧ P u = P v) ∨ (rid P u < rid P v ∧ ltl (P u) (P v))
 | u, 0, h, _ => by
  have : u = 0 := by omega
  subst this
  exact .inl ⟨rfl, rfl⟩
 | u, v + 1, h, hv => by
  by_cases he : u = v + 1
  ·subst he; exact .inl ⟨rfl, rfl⟩
  ·have hle := hs v (v + 1) (by omega) hv
   rcases rid_lt hs (u := u) (v := v) (by omega) (by omega) with ⟨h1, h2⟩ | ⟨h1, h2⟩ <;> by_cases h3 : P v = P (v + 1)
   ·rw [rid_eq h3]; exact .inl ⟨h1, h2.trans h3⟩
   ·rw [rid_ne h3]; exact .inr ⟨by omega, by rw [h2]; exact ltl_of_le_ne hle h3⟩
   ·rw [rid_eq h3, ← h3]; exact .inr ⟨h1, h2⟩
   ·rw [rid_ne h3]; exact .inr ⟨by omega, ltl_trans h2 (ltl_of_le_ne hle h3)⟩
end
/-! ### counting on -/
theorem cn_gap {P : Nat → Prop} {a : Nat} : ∀ {b : Nat}, a ≤ b → (∀ k, a ≤ k → k < b → ¬ P k) → cn P b = cn P a
 | 0, h, _ => by
  have : a = 0 := by omega
  subst this
  rfl
 | b + 1, h, hn => by
  by_cases he : a = b + 1
  ·subst he; rfl
  ·rw [cn_succ_neg (hn b (by omega) (by omega)), cn_gap (b := b) (by omega) fun k h1 h2 => hn k h1 (by omega)]
theorem cn_find {P : Nat → Prop} : ∀ {n x : Nat}, x < cn P n → ∃ k, k < n ∧ P k ∧ cn P k = x
 | 0, x, h => by simp [cn] at h
 | n + 1, x, h => by
  by_cases hp : P n
  ·rw [cn_succ_pos hp] at h
   by_cases hx : x < cn P n
   ·obtain ⟨k, h1, h2⟩ := cn_find hx; exact ⟨k, by omega, h2⟩
   ·exact ⟨n, by omega, hp, by omega⟩
  ·rw [cn_succ_neg hp] at h
   obtain ⟨k, h1, h2⟩ := cn_find h; exact ⟨k, by omega, h2⟩
theorem cn_mono_n {P : Nat → Prop} {a : Nat} : ∀ {b : Nat}, a ≤ b → cn P a ≤ cn P b
 | 0, h => by
  have : a = 0 := by omega
  subst this
  exact Nat.le_refl _
 | b + 1, h => by
  by_cases he : a = b + 1
  ·subst he; exact Nat.le_refl _
  ·have : cn P a ≤ cn P b := cn_mono_n (by omega)
   by_cases hp : P b
   ·rw [cn_succ_pos hp]; omega
   ·rw [cn_succ_neg hp]; exact this
theorem cn_lt {P : Nat → Prop} {a b : Nat} (h : a < b) (hp : P a) : cn P a < cn P b := by
 have := cn_mono_n (P := P) (a := a + 1) (b := b) (by omega)
 rw [cn_succ_pos hp] at this; omega
theorem cn_inj {P : Nat → Prop} {a b : Nat} (ha : P a) (hb : P b) (h : cn P a = cn P b) : a = b := by
 rcases Nat.lt_trichotomy a b with h1 | h1 | h1
 ·have := cn_lt h1 ha; omega
 ·exact h1
 ·have := cn_lt h1 hb; omega
section
variable (T : Nat → Int) (n : Nat)
noncomputable def rank (k : Nat) : Nat := cn (Lms T n) k
structure Row (S : Nat → Nat) : Prop where
 l : ∀ u, u < nlms T n → Lms T n (S u)
 z : ∀ k, Lms T n k → ∃ u, u < nlms T n ∧ S u = k
 d : ∀ u v, u < v → v < nlms T n → S u ≠ S v
structure RowP (S : Nat → Nat) : Prop extends Row T n S where
 e : ∀ u v, u < v → v < nlms T n → lel (pc T n (S u)) (pc T n (S v))
structure RowF (S : Nat → Nat) : Prop extends Row T n S where
 e : ∀ u v, u < v → v < nlms T n → ltl (sufl (ag T n) n (S u)) (sufl (ag T n) n (S v))
structure Ids (rk : Nat → Nat) (mx : Nat) : Prop where
 lo : ∀ k, Lms T n k → 1 ≤ rk k
 hi : ∀ k, Lms T n k → rk k ≤ mx
 eq : ∀ i j, Lms T n i → Lms T n j → rk i = rk j → pc T n i = pc T n j
 lt : ∀ i j, Lms T n i → Lms T n j → rk i < rk j → ltl (pc T n i) (pc T n j)
end
section
variable {T : Nat → Int} {n : Nat}
theorem rank_lt {k : Nat} (h : Lms T n k) : rank T n k < nlms T n := cn_lt (by have := h.lt; omega) h
theorem rank_inj {i j : Nat} (hi : Lms T n i) (hj : Lms T n j) (h : rank T n i = rank T n j) : i = j := cn_inj hi hj h
theorem rank_find {x : Nat} (h : x < nlms T n) : ∃ k, Lms T n k ∧ rank T n k = x := by
 obtain ⟨k, _, h2⟩ := cn_find h; exact ⟨k, h2⟩
theorem rank_nxt {j j' : Nat} (hj : Lms T n j) (h : Nxt T n j j') : rank T n j' = rank T n j + 1 := by
 unfold rank
 have a := h.2.1
 rw [cn_gap (a := j + 1) (b := j') (by omega) (fun k h1 h2 => h.2.2 k (by omega) h2), cn_succ_pos hj]
theorem Sub.row {A : Nat → Int} (h : Sub T n A) : RowP T n (fun u => (A (n - nlms T n + u)).toNat) ∧ ∀ u, u < nlms T n → A (n - nlms T n + u) = ((A (n - nlms T n + u)).toNat : Int) := by
 have hm : nlms T n ≤ n := cn_le_self _ _
 have hv : ∀ u, u < nlms T n → ∃ k : Nat, A (n - nlms T n + u) = k ∧ Lms T n k := fun u hu => h.a _ (by omega) (by omega)
 refine ⟨⟨⟨fun u hu => ?_, fun k hk => ?_, fun u v h1 h2 he => ?_⟩, fun u v h1 h2 => ?_⟩, fun u hu => ?_⟩
 ·obtain ⟨k, h1, h2⟩ := hv u hu
  simp only [h1, Int.toNat_natCast]; exact h2
 ·obtain ⟨u, h1, h2, h3⟩ := h.z k hk
  refine ⟨u - (n - nlms T n), by omega, ?_⟩
  show (A (n - nlms T n + (u - (n - nlms T n)))).toNat = k
  rw [show n - nlms T n + (u - (n - nlms T n)) = u by omega, h3, Int.toNat_natCast]
 ·obtain ⟨k, h3, _⟩ := hv u (by omega)
  obtain ⟨k', h4, _⟩ := hv v h2
  refine h.d (n - nlms T n + u) (n - nlms T n + v) (by omega) (by omega) (by omega) ?_
  simp only [h3, h4, Int.toNat_natCast] at he
  rw [h3, h4, he]
 ·obtain ⟨k, h3, _⟩ := hv u (by omega)
  obtain ⟨k', h4, _⟩ := hv v h2
  simp only [h3, h4, Int.toNat_natCast]
  exact h.e (n - nlms T n + u) (n - nlms T n + v) k k' (by omega) (by omega) (by omega) h3 h4
 ·obtain ⟨k, h3, _⟩ := hv u hu
  rw [h3, Int.toNat_natCast]
theorem RowP.ids {S : Nat → Nat} (h : RowP T n S) (h1 : 1 ≤ nlms T n) : ∃ rk : Nat → Nat, (∀ u, u < nlms T n → rk (S u) = rid (fun u => pc T n (S u)) u) ∧ Ids T n rk (rid (fun u => pc T n (S u)) (nlms T n - 1)) := by
 have hex : ∀ k, ∃ u, Lms T n k → u < nlms T n ∧ S u = k := fun k => by
  by_cases hk : Lms T n k
  ·obtain ⟨u, hu⟩ := h.z k hk; exact ⟨u, fun _ => hu⟩
  ·exact ⟨0, fun h => absurd h hk⟩
 have hch : ∀ k, Lms T n k → Classical.choose (hex k) < nlms T n ∧ S (Classical.choose (hex k)) = k := fun k hk => Classical.choose_spec (hex k) hk
 have hinj : ∀ u v, u < nlms T n → v < nlms T n → S u = S v → u = v := fun u v hu hv he => by
  rcases Nat.lt_trichotomy u v with g | g | g
  ·exact absurd he (h.d u v g hv)
  ·exact g
  ·exact absurd he.symm (h.d v u g hu)
 have hcmp : ∀ u v, u < nlms T n → v < nlms T n → rid (fun u => pc T n (S u)) u = rid (fun u => pc T n (S u)) v → pc T n (S u) = pc T n (S v) := fun u v hu hv he => by
  rcases Nat.le_total u v with g | g
  ·rcases rid_lt (P := fun u => pc T n (S u)) h.e g hv with g1 | g1
   ·exact g1.2
   ·omega
  ·rcases rid_lt (P := fun u => pc T n (S u)) h.e g hu with g1 | g1
   ·exact g1.2.symm
   ·omega
 have hcmp2 : ∀ u v, u < nlms T n → v < nlms T n → rid (fun u => pc T n (S u)) u < rid (fun u => pc T n (S u)) v → ltl (pc T n (S u)) (pc T n (S v)) := fun u v hu hv he => by
  rcases Nat.le_total u v with g | g
  ·rcases rid_lt (P := fun u => pc T n (S u)) h.e g hv with g1 | g1
   ·omega
   ·exact g1.2
  ·have := (rid_mono (P := fun u => pc T n (S u)) g).1; omega
 refine ⟨fun k => rid (fun u => pc T n (S u)) (Classical.choose (hex k)), fun u hu => ?_, fun k hk => rid_pos _, fun k hk => ?_, fun i j hi hj he => ?_, fun i j hi hj he => ?_⟩
 ·have := hch (S u) (h.l u hu)
  have e := hinj _ _ this.1 hu this.2
  show rid _ (Classical.choose (hex (S u))) = _
  rw [e]
 ·exact (rid_mono (by have := hch k hk; omega)).1
 ·have := hcmp _ _ (hch i hi).1 (hch j hj).1 he
  rw [(hch i hi).2, (hch j hj).2] at this; exact this
 ·have := hcmp2 _ _ (hch i hi).1 (hch j hj).1 he
  rw [(hch i hi).2, (hch j hj).2] at this; exact this
theorem RowP.full {S : Nat → Nat} (h : RowP T n S) (h1 : 1 ≤ nlms T n) (hm : nlms T n ≤ rid (fun u => pc T n (S u)) (nlms T n - 1)) : RowF T n S := by
 refine ⟨h.toRow, fun u v huv hv => ?_⟩
 rcases rid_lt (P := fun u => pc T n (S u)) h.e (Nat.le_of_lt huv) hv with g | g
 ·exfalso
  have a1 := rid_le (P := fun u => pc T n (S u)) u
  have a2 := (rid_mono (P := fun u => pc T n (S u)) (u := v) (v := nlms T n - 1) (by omega)).2
  omega
 ·exact cut_lt _ _ (ag_parity _) g.2
theorem names_order {rk : Nat → Nat} {mx : Nat} (h : Ids T n rk mx) {U : Nat → Int} (hU : ∀ k, Lms T n k → U (rank T n k) = (rk k : Int) - 1) :
  ∀ (d i j : Nat), nlms T n - rank T n i = d → Lms T n i → Lms T n j → ltl (sufl U (nlms T n) (rank T n i)) (sufl U (nlms T n) (rank T n j)) → ltl (sufl (ag T n) n i) (sufl (ag T n) n j) := by
 intro d
 induction d with
 | zero => intro i j h1 hi; have := rank_lt hi; omega
 | succ d ih =>
  intro i j h1 hi hj hlt
  have ri := rank_lt hi
  have rj := rank_lt hj
  have a1 := h.lo i hi
  have a2 := h.lo j hj
  by_cases hij : i = j
  ·subst hij; exact (ltl_irrefl hlt).elim
  rw [sufl_cons U ri, sufl_cons U rj, ltl_cons, hU i hi, hU j hj] at hlt
  rcases hlt with g | ⟨g1, g2⟩
  ·exact cut_lt _ _ (ag_parity _) (h.lt i j hi hj (by omega))
  ·have he := h.eq i j hi hj (by omega)
   rcases nxt_or_last (T := T) (n := n) i with hl | ⟨i', hi'⟩
   ·rcases nxt_or_last (T := T) (n := n) j with hl' | ⟨j', hj'⟩
    ·exact absurd (last_uniq hi hj hl hl') hij
    ·exact absurd he (pc_last_ne hl (by have := hi.lt; omega) hj')
   ·rcases nxt_or_last (T := T) (n := n) j with hl' | ⟨j', hj'⟩
    ·exact absurd he.symm (pc_last_ne hl' (by have := hj.lt; omega) hi')
    ·rw [← rank_nxt hi hi', ← rank_nxt hj hj'] at g2
     have := ih i' j' (by rw [rank_nxt hi hi']; omega) hi'.1 hj'.1 g2
     refine cut_eq_lt _ _ he ?_
     rw [rst_nxt hi', rst_nxt hj']; exact this
theorem row_of_names {rk : Nat → Nat} {mx : Nat} (h : Ids T n rk mx) {U : Nat → Int} (hU : ∀ k, Lms T n k → U (rank T n k) = (rk k : Int) - 1) {A : Nat → Int} (hA : SA U (nlms T n) A) :
  ∃ S, RowF T n S ∧ ∀ u, u < nlms T n → Lms T n (S u) ∧ A u = (rank T n (S u) : Int) := by
 have hex : ∀ u, ∃ k, u < nlms T n → Lms T n k ∧ A u = (rank T n k : Int) := fun u => by
  by_cases hu : u < nlms T n
  ·obtain ⟨x, h1, h2⟩ := hA.a u hu
   obtain ⟨k, h3, h4⟩ := rank_find h2
   exact ⟨k, fun _ => ⟨h3, by rw [h1, h4]⟩⟩
  ·exact ⟨0, fun h => absurd h hu⟩
 have hch : ∀ u, u < nlms T n → Lms T n (Classical.choose (hex u)) ∧ A u = (rank T n (Classical.choose (hex u)) : Int) := fun u hu => Classical.choose_spec (hex u) hu
 have hlt : ∀ u v, u < v → v < nlms T n → ltl (sufl (ag T n) n (Classical.choose (hex u))) (sufl (ag T n) n (Classical.choose (hex v))) := fun u v h1 h2 => by
  have a1 := hch u (by omega)
  have a2 := hch v h2
  exact names_order h hU _ _ _ rfl a1.1 a2.1 (hA.e u v _ _ h1 h2 a1.2 a2.2)
 refine ⟨fun u => Classical.choose (hex u), ⟨⟨fun u hu => (hch u hu).1, fun k hk => ?_, fun u v h1 h2 he => ?_⟩, hlt⟩, fun u hu => hch u hu⟩
 ·obtain ⟨u, h1, h2⟩ := hA.z (rank T n k) (rank_lt hk)
  refine ⟨u, h1, ?_⟩
  have a := hch u h1
  have ha2 := h2.symm.trans a.2
  exact (rank_inj hk a.1 (by omega)).symm
 ·have := hlt u v h1 h2
  have he' : Classical.choose (hex u) = Classical.choose (hex v) := he
  rw [he'] at this; exact ltl_irrefl this
theorem Seeds.full {A : Nat → Int} (h : Seeds T n 0 A) (h1 : nlms T n ≤ 1) : SeedsF T n A := by
 refine ⟨h, fun x y i j hxy hy hi hj hne hne' => ?_⟩
 exfalso
 have hx : x < n := by omega
 rcases h.a x hx with g | ⟨i', g1, g2, _⟩
 ·exact hne g
 rcases h.a y hy with g | ⟨j', g3, g4, _⟩
 ·exact hne' g
 have hij : i' ≠ j' := by
  rintro rfl
  have := h.d x y hx hy (by rw [g1, g3]) hne; omega
 have a1 := rank_lt g2
 have a2 := rank_lt g4
 exact hij (rank_inj g2 g4 (by omega))
end
end Go.Proofs.YtdhifgedhaapjaaGreatDoor.Sa
namespace Go.Proofs.YtdhifgedhaapjaaGreatDoor.Sa
theorem cn_map {P Q : Nat → Prop} {m n : Nat} (f : Nat → Nat) (hf : ∀ y, y < m → P y → f y < n ∧ Q (f y)) (hi : ∀ y z, y < m → z < m → P y → P z → f y = f z → y = z) : cn P m ≤ cn Q n := by
 have hex : ∀ i, ∃ k, i < cn P m → k < m ∧ P k ∧ cn P k = i := fun i => by
  by_cases h : i < cn P m
  ·obtain ⟨k, hk⟩ := cn_find h; exact ⟨k, fun _ => hk⟩
  ·exact ⟨0, fun h' => absurd h' h⟩
 refine pigeon_inv n (cn P m) (fun i => f (Classical.choose (hex i))) (fun i hi' => ?_) (fun i j hi' hj' he => ?_)
 ·have := Classical.choose_spec (hex i) hi'
  exact hf _ this.1 this.2.1
 ·have h1 := Classical.choose_spec (hex i) hi'
  have h2 := Classical.choose_spec (hex j) hj'
  have := hi _ _ h1.1 h2.1 h1.2.1 h2.2.1 he
  rw [this] at h1
  omega
section
variable (T : Nat → Int) (n : Nat) (S : Nat → Nat)
noncomputable def cnt (x : Nat) (c : Int) : Nat := cn (fun y => x ≤ y ∧ T (S y) = c) (nlms T n)
noncomputable def dest (y : Nat) : Nat := bs T n (T (S y)) + cc T n (T (S y)) - cnt T n S y (T (S y))
structure Exp (A0 : Nat → Int) (B : Int → Nat) (A : Nat → Int) (p x : Nat) : Prop where
 xm : x < nlms T n
 pn : p ≤ n
 lo : ∀ q, q < p → A q = A0 q
 hi : ∀ q, p ≤ q → q < n → (∃ y, y < nlms T n ∧ q = dest T n S y ∧ A q = S y) ∨ ((∀ y, y < nlms T n → q ≠ dest T n S y) ∧ A q = 0)
 up : ∀ y, x < y → y < nlms T n → p ≤ dest T n S y
 cur : dest T n S x < p ∨ x = 0
 hB : ∀ u, u < nlms T n → B (T (S u)) + cnt T n S x (T (S u)) = bs T n (T (S u)) + cc T n (T (S u))
end
section
variable {T : Nat → Int} {n : Nat} {S : Nat → Nat}
theorem RowF.inj (h : RowF T n S) {u v : Nat} (hu : u < nlms T n) (hv : v < nlms T n) (he : S u = S v) : u = v := by
 rcases Nat.lt_trichotomy u v with g | g | g
 ·exact absurd he (h.d u v g hv)
 ·exact g
 ·exact absurd he.symm (h.d v u g hu)
theorem RowF.le (h : RowF T n S) {u v : Nat} (huv : u < v) (hv : v < nlms T n) : T (S u) ≤ T (S v) := by
 have a1 := h.l u (by omega)
 have a2 := h.l v hv
 have b1 := a1.lt
 have b2 := a2.lt
 have := h.e u v huv hv
 rw [sufl_cons _ (by omega), sufl_cons _ (show S v < n by omega), ltl_cons, ag_S a1.2.1, ag_S a2.2.1] at this
 rcases this with g | g <;> omega
theorem cnt_le (h : RowF T n S) (x : Nat) (c : Int) : cnt T n S x c ≤ nS T n c :=
 cn_map S (fun y hy hp => ⟨by have := (h.l y hy).lt; omega, hp.2, (h.l y hy).2.1⟩) fun y z hy hz _ _ he => h.inj hy hz he
theorem cnt_step {x : Nat} (hx : x < nlms T n) : cnt T n S x (T (S x)) = cnt T n S (x + 1) (T (S x)) + 1 := by
 unfold cnt
 rw [cn_add (P := fun y => x + 1 ≤ y ∧ T (S y) = T (S x)) (Q := fun y => y = x)]
 ·congr 1
  refine Nat.le_antisymm ?_ (cn_pos hx rfl)
  exact pigeon _ 1 (fun _ => 0) (fun _ _ _ => by omega) (fun u v _ _ hu hv _ => by omega)
 ·intro y _
  constructor
  ·rintro ⟨h1, h2⟩
   by_cases hy : y = x
   ·exact .inr hy
   ·exact .inl ⟨by omega, h2⟩
  ·rintro (⟨h1, h2⟩ | rfl)
   ·exact ⟨by omega, h2⟩
   ·exact ⟨Nat.le_refl _, rfl⟩
 ·rintro y _ ⟨⟨h1, _⟩, h2⟩; omega
theorem cnt_other {x : Nat} {c : Int} (hc : T (S x) ≠ c) : cnt T n S x c = cnt T n S (x + 1) c := by
 unfold cnt
 refine cn_congr _ fun y _ => ⟨fun h => ?_, fun h => ⟨by omega, h.2⟩⟩
 have : y ≠ x := by rintro rfl; exact hc h.2
 exact ⟨by omega, h.2⟩
theorem cnt_mono {x y : Nat} {c : Int} (h : x ≤ y) : cnt T n S y c ≤ cnt T n S x c := cn_mono _ fun z _ hz => ⟨by omega, hz.2⟩
theorem dest_bounds (h : RowF T n S) {y : Nat} (hy : y < nlms T n) : bs T n (T (S y)) + nL T n (T (S y)) ≤ dest T n S y ∧ dest T n S y < bs T n (T (S y)) + cc T n (T (S y)) ∧ dest T n S y + cnt T n S y (T (S y)) = bs T n (T (S y)) + cc T n (T (S y)) := by
 have h1 := cnt_le h y (T (S y))
 have h2 := cnt_step (S := S) hy
 have h3 := cc_split (T := T) (n := n) (T (S y))
 unfold dest
 omega
theorem dest_lt (h : RowF T n S) {x y : Nat} (hxy : x < y) (hy : y < nlms T n) : dest T n S x < dest T n S y := by
 have b1 := dest_bounds h (y := x) (by omega)
 have b2 := dest_bounds h hy
 rcases Int.lt_or_eq_of_le (h.le hxy hy) with g | g
 ·have := bs_next (T := T) (n := n) g; omega
 ·have c1 := cnt_step (S := S) (x := x) (T := T) (n := n) (by omega)
  have c2 := cnt_mono (T := T) (n := n) (S := S) (c := T (S x)) (show x + 1 ≤ y by omega)
  rw [g] at b1 c1 c2
  omega
theorem dest_ge (h : RowF T n S) : ∀ {y : Nat}, y < nlms T n → y ≤ dest T n S y
 | 0, _ => Nat.zero_le _
 | y + 1, hy => by
  have h1 := dest_ge h (y := y) (by omega)
  have h2 := dest_lt h (show y < y + 1 by omega) hy
  omega
theorem dest_n (h : RowF T n S) {y : Nat} (hy : y < nlms T n) : dest T n S y < n := by
 have b := dest_bounds h hy
 have := bs_succ (T := T) (n := n) (T (S y))
 have := bs_le (T := T) (n := n) (T (S y) + 1)
 omega
theorem dest_inj (h : RowF T n S) {x y : Nat} (hx : x < nlms T n) (hy : y < nlms T n) (he : dest T n S x = dest T n S y) : x = y := by
 rcases Nat.lt_trichotomy x y with g | g | g
 ·have := dest_lt h g hy; omega
 ·exact g
 ·have := dest_lt h g hx; omega
section
variable {A0 A : Nat → Int} {B : Int → Nat} {p x : Nat}
theorem Exp.b (hr : RowF T n S) (h : Exp T n S A0 B A p x) : B (T (S x)) = dest T n S x := by
 have h1 := h.hB x h.xm
 have h2 := dest_bounds hr h.xm
 omega
theorem Exp.zero (hr : RowF T n S) (h : Exp T n S A0 B A (p + 1) x) (hne : p ≠ dest T n S x) : Exp T n S A0 B (fun q => if q = p then 0 else A q) p x := by
 refine ⟨h.xm, by have := h.pn; omega, fun q hq => ?_, fun q hq hqn => ?_, fun y h1 h2 => ?_, ?_, h.hB⟩
 ·simp only [show q ≠ p by omega, if_false]; exact h.lo q (by omega)
 ·by_cases hqp : q = p
  ·subst hqp
   simp only [if_true]
   refine .inr ⟨fun y hy he => ?_, trivial⟩
   rcases Nat.lt_trichotomy y x with g | g | g
   ·have := dest_lt hr g h.xm
    rcases h.cur with c | c <;> omega
   ·subst g; exact hne he
   ·have := h.up y g hy; omega
  ·simp only [hqp, if_false]; exact h.hi q (by omega) hqn
 ·have := h.up y h1 h2; omega
 ·rcases h.cur with c | c
  ·exact .inl (by omega)
  ·exact .inr c
theorem Exp.put0 (h : Exp T n S A0 B A (p + 1) 0) (he : p = dest T n S 0) : Exp T n S A0 B (fun q => if q = p then (S 0 : Int) else A q) p 0 := by
 refine ⟨h.xm, by have := h.pn; omega, fun q hq => ?_, fun q hq hqn => ?_, fun y h1 h2 => ?_, .inr rfl, h.hB⟩
 ·simp only [show q ≠ p by omega, if_false]; exact h.lo q (by omega)
 ·by_cases hqp : q = p
  ·subst hqp
   simp only [if_true]
   exact .inl ⟨0, h.xm, he, rfl⟩
  ·simp only [hqp, if_false]; exact h.hi q (by omega) hqn
 ·have := h.up y h1 h2; omega
theorem Exp.putS (hr : RowF T n S) (hA : ∀ y, y < nlms T n → A0 y = (S y : Int)) (h : Exp T n S A0 B A (p + 1) (x + 1)) (he : p = dest T n S (x + 1)) :
  x < p ∧ A x = (S x : Int) ∧ B (T (S x)) = dest T n S x + 1 ∧
  Exp T n S A0 (updB B (T (S x)) (dest T n S x)) (fun q => if q = p then (S (x + 1) : Int) else A q) p x := by
 have hxm := h.xm
 have hge := dest_ge hr hxm
 have hB := h.hB x (by omega)
 have hd := dest_bounds hr (y := x) (by omega)
 have hc := cnt_step (S := S) (x := x) (T := T) (n := n) (by omega)
 have hlt := dest_lt hr (show x < x + 1 by omega) hxm
 refine ⟨by omega, ?_, by omega, by omega, by have := h.pn; omega, fun q hq => ?_, fun q hq hqn => ?_, fun y h1 h2 => ?_, .inl (by omega), fun u hu => ?_⟩
 ·rw [h.lo x (by omega)]; exact hA x (by omega)
 ·simp only [show q ≠ p by omega, if_false]; exact h.lo q (by omega)
 ·by_cases hqp : q = p
  ·subst hqp
   simp only [if_true]
   exact .inl ⟨x + 1, h.xm, he, rfl⟩
  ·simp only [hqp, if_false]; exact h.hi q (by omega) hqn
 ·by_cases hy : y = x + 1
  ·subst hy; omega
  ·have := h.up y (by omega) h2; omega
 ·by_cases hT : T (S u) = T (S x)
  ·rw [hT, updB_same]; omega
  ·rw [updB_other _ hT, cnt_other (Ne.symm hT)]; exact h.hB u hu
theorem Exp.start (hr : RowF T n S) (h1 : nlms T n = x + 1) (hB : ∀ u, u < nlms T n → B (T (S u)) = bs T n (T (S u)) + cc T n (T (S u))) :
  Exp T n S A0 (updB B (T (S x)) (B (T (S x)) - 1)) A0 n x ∧ B (T (S x)) = dest T n S x + 1 := by
 have hd := dest_bounds hr (y := x) (by omega)
 have hc := cnt_step (S := S) (x := x) (T := T) (n := n) (by omega)
 have hzero : ∀ c, cnt T n S (x + 1) c = 0 := fun c => cn_zero _ fun y hy h => by omega
 have hBx := hB x (by omega)
 have hcx := hzero (T (S x))
 refine ⟨⟨by omega, Nat.le_refl _, fun q _ => rfl, fun q h1 h2 => by omega, fun y h2 h3 => by omega, .inl (dest_n hr (by omega)), fun u hu => ?_⟩, by omega⟩
 by_cases hT : T (S u) = T (S x)
 ·rw [hT, updB_same]; omega
 ·rw [updB_other _ hT, cnt_other (Ne.symm hT), hzero, hB u hu]; rfl
theorem Exp.congr {A' : Nat → Int} {B' : Int → Nat} (h : Exp T n S A0 B A p x) (hA : ∀ q, q < n → A' q = A q) (hB : ∀ u, u < nlms T n → B' (T (S u)) = B (T (S u))) : Exp T n S A0 B' A' p x := by
 refine ⟨h.xm, h.pn, fun q hq => ?_, fun q hq hqn => ?_, h.up, h.cur, fun u hu => ?_⟩
 ·rw [hA q (by have := h.pn; omega)]; exact h.lo q hq
 ·rw [hA q hqn]; exact h.hi q hq hqn
 ·rw [hB u hu]; exact h.hB u hu
theorem Exp.fin (hr : RowF T n S) (h : Exp T n S A0 B A 0 x) : SeedsF T n A := by
 have key : ∀ q, q < n → A q ≠ 0 → ∃ y, y < nlms T n ∧ q = dest T n S y ∧ A q = (S y : Int) := fun q hq hne => by
  rcases h.hi q (Nat.zero_le _) hq with g | ⟨_, g⟩
  ·exact g
  ·exact absurd g hne
 refine ⟨⟨fun q hq => ?_, fun j hj _ => ?_, fun q r hq hr' he hne => ?_⟩, fun q r i j hqr hr' hi hj hne hne' => ?_⟩
 ·by_cases hne : A q = 0
  ·exact .inl hne
  ·obtain ⟨y, h1, h2, h3⟩ := key q hq hne
   have := dest_bounds hr h1
   exact .inr ⟨S y, h3, hr.l y h1, (hr.l y h1).1, by omega, by omega⟩
 ·obtain ⟨u, h1, h2⟩ := hr.z j hj
  refine ⟨dest T n S u, dest_n hr h1, ?_⟩
  rcases h.hi (dest T n S u) (Nat.zero_le _) (dest_n hr h1) with ⟨y, g1, g2, g3⟩ | ⟨g, _⟩
  ·rw [g3, ← dest_inj hr h1 g1 g2, h2]
  ·exact absurd rfl (g u h1)
 ·obtain ⟨y, h1, h2, h3⟩ := key q hq hne
  obtain ⟨z, h4, h5, h6⟩ := key r hr' (by rw [← he]; exact hne)
  have : y = z := hr.inj h1 h4 (by omega)
  subst this; omega
 ·obtain ⟨y, h1, h2, h3⟩ := key q (by omega) hne
  obtain ⟨z, h4, h5, h6⟩ := key r hr' hne'
  obtain rfl : i = S y := by omega
  obtain rfl : j = S z := by omega
  rcases Nat.lt_trichotomy y z with g | g | g
  ·exact ltl_le (hr.e y z g h4)
  ·subst g; omega
  ·have := dest_lt hr g h1; omega
end
end
end Go.Proofs.YtdhifgedhaapjaaGreatDoor.Sa
namespace Go.Proofs.YtdhifgedhaapjaaGreatDoor.Sa
section
variable (T : Nat → Int) (n K : Nat)
structure LenInv (A0 : Nat → Int) (p : Nat) (en cx : Int) (A : Nat → Int) : Prop where
 en : (en = 0 ∧ LastL T n p) ∨ ∃ e : Nat, en = (e : Int) + 1 ∧ Nxt T n p e ∧ cx = enc T (p + 1) (e - p) % 256 ^ K
 a1 : ∀ k, Lms T n k → p < k → Code T n K k (A (k / 2))
 a2 : ∀ h, (∀ k, Lms T n k → p < k → k / 2 ≠ h) → A h = A0 h
structure Coded (A0 A : Nat → Int) : Prop where
 a1 : ∀ k, Lms T n k → Code T n K k (A (k / 2))
 a2 : ∀ h, (∀ k, Lms T n k → k / 2 ≠ h) → A h = A0 h
end
section
variable {T : Nat → Int} {n K : Nat} {A0 A : Nat → Int} {en cx : Int}
theorem LenInv.start : LenInv T n K A0 n 0 cx A0 :=
 ⟨.inl ⟨rfl, fun k hk h => by have := h.lt; omega⟩, fun k h hk => by have := h.lt; omega, fun _ _ => rfl⟩
theorem LenInv.fin (h : LenInv T n K A0 0 en cx A) : Coded T n K A0 A := ⟨fun k hk => h.a1 k hk hk.1, fun i hi => h.a2 i fun k hk _ => hi k hk⟩
theorem LenInv.congr {p : Nat} {A' : Nat → Int} (h : LenInv T n K A0 p en cx A) (hA : ∀ q, A' q = A q) : LenInv T n K A0 p en cx A' := by
 refine ⟨h.en, fun k h1 h2 => ?_, fun i hi => ?_⟩
 ·rw [hA]; exact h.a1 k h1 h2
 ·rw [hA]; exact h.a2 i hi
theorem enc_step (M c x : Int) : (256 * (x % M) + c) % M = (c + 256 * x) % M := by
 rw [Int.add_emod, Int.mul_emod, Int.emod_emod, ← Int.mul_emod, ← Int.add_emod, Int.add_comm]
theorem LenInv.skip {q : Nat} {c : Int} (h : LenInv T n K A0 (q + 1) en cx A) (hl : ¬ Lms T n (q + 1)) (hc : q + 1 < n → c = T (q + 1)) : LenInv T n K A0 q en ((256 * cx + (c + 1) % 256) % 256 ^ K) A := by
 refine ⟨?_, fun k h1 h2 => ?_, fun i hi => h.a2 i fun k h1 h2 => hi k h1 (by omega)⟩
 ·rcases h.en with ⟨h1, h2⟩ | ⟨e, h1, h2, h3⟩
  ·refine .inl ⟨h1, fun k hk hlk => ?_⟩
   by_cases hkq : k = q + 1
   ·subst hkq; exact hl hlk
   ·exact h2 k (by omega) hlk
  ·have e1 := h2.2.1
   have e2 := h2.1.lt
   refine .inr ⟨e, h1, ⟨h2.1, by omega, fun k g1 g2 hlk => ?_⟩, ?_⟩
   ·by_cases hkq : k = q + 1
    ·subst hkq; exact hl hlk
    ·exact h2.2.2 k (by omega) g2 hlk
   ·rw [h3, enc_step, hc (by omega)]
    rw [show e - q = (e - (q + 1)) + 1 by omega]
    rfl
 ·have : k ≠ q + 1 := by rintro rfl; exact hl h1
  exact h.a1 k h1 (by omega)
theorem LenInv.down {q : Nat} (h : LenInv T n K A0 (q + 1) en cx A) (hl : Lms T n (q + 1)) {v : Int} (h0 : en = 0 → v = 0)
  (h1 : en ≠ 0 → v = if en - ((q : Int) + 1) ≤ K ∧ (n : Int) ≤ 256 ^ K - 1 - (256 * cx + (T (q + 1) + 1) % 256) % 256 ^ K then sgn (256 ^ K) (256 ^ K - 1 - (256 * cx + (T (q + 1) + 1) % 256) % 256 ^ K) else en - ((q : Int) + 1)) :
  LenInv T n K A0 q ((q : Int) + 1 + 1) ((T (q + 1) + 1) % 256 % 256 ^ K) (fun y => if y = (q + 1) / 2 then v else A y) := by
 have hcode : Code T n K (q + 1) v := by
  rcases h.en with ⟨g1, g2⟩ | ⟨e, g1, g2, g3⟩
  ·exact .inl ⟨g2, h0 g1⟩
  ·refine .inr ⟨e, g2, ?_⟩
   have e1 := g2.2.1
   rw [h1 (by omega), g3, enc_step]
   have e3 : (T (q + 1) + 1) % 256 + 256 * enc T (q + 1 + 1) (e - (q + 1)) = enc T (q + 1) (e + 1 - (q + 1)) := by
    rw [show e + 1 - (q + 1) = (e - (q + 1)) + 1 by omega]; rfl
   rw [e3]
   unfold codeV
   have e4 : en - ((q : Int) + 1) = ((e + 1 - (q + 1) : Nat) : Int) := by omega
   rw [e4]
   by_cases hk : e + 1 - (q + 1) ≤ K
   ·have b1 := enc_lo (T := T) (e + 1 - (q + 1)) (q + 1)
    have b2 := enc_hi (T := T) (e + 1 - (q + 1)) (q + 1)
    have b3 : (256 : Int) ^ (e + 1 - (q + 1)) ≤ 256 ^ K := by
     have hn : (256 : Nat) ^ (e + 1 - (q + 1)) ≤ 256 ^ K := Nat.pow_le_pow_right (by decide) hk
     have := Int.ofNat_le.2 hn
     rw [Int.natCast_pow, Int.natCast_pow] at this
     exact this
    rw [Int.emod_eq_of_lt b1 (by omega)]
    by_cases hg : (n : Int) ≤ 256 ^ K - 1 - enc T (q + 1) (e + 1 - (q + 1))
    ·rw [if_pos ⟨by omega, hg⟩, if_pos ⟨hk, hg⟩]
    ·rw [if_neg (fun h => hg h.2), if_neg (fun h => hg h.2)]
   ·rw [if_neg (fun h => hk (by omega)), if_neg (fun h => hk h.1)]
 refine ⟨.inr ⟨q + 1, by omega, ⟨hl, by omega, fun k g1 g2 _ => by omega⟩, ?_⟩, fun k g1 g2 => ?_, fun i hi => ?_⟩
 ·rw [show q + 1 - q = 0 + 1 by omega]
  simp only [enc]
  congr 1; omega
 ·by_cases hk : k = q + 1
  ·subst hk; simp only [if_true]; exact hcode
  ·have : k / 2 ≠ (q + 1) / 2 := fun e => hk (lms_half g1 hl e)
   simp only [this, if_false]
   exact h.a1 k g1 (by omega)
 ·have : i ≠ (q + 1) / 2 := fun e => hi (q + 1) hl (by omega) e.symm
  simp only [this, if_false]
  exact h.a2 i fun k g1 g2 => hi k g1 (by omega)
end
end Go.Proofs.YtdhifgedhaapjaaGreatDoor.Sa
namespace Go.Proofs.YtdhifgedhaapjaaGreatDoor.Sa
section
variable (T : Nat → Int) (n K : Nat) (S : Nat → Nat)
structure AsInv (A0 : Nat → Int) (t : Nat) (id ll lp : Int) (A : Nat → Int) : Prop where
 tm : t ≤ nlms T n
 st : (t = 0 ∧ id = 0 ∧ ll = -1 ∧ lp = 0) ∨ ∃ u0, u0 < t ∧ id = rid (fun u => pc T n (S u)) (t - 1) ∧ lp = S u0 ∧ pc T n (S u0) = pc T n (S (t - 1)) ∧ Code T n K (S u0) ll
 done : ∀ u, u < t → A (S u / 2) = rid (fun u => pc T n (S u)) u
 rest : ∀ u, t ≤ u → u < nlms T n → Code T n K (S u) (A (S u / 2))
 oth : ∀ h, (∀ u, u < nlms T n → S u / 2 ≠ h) → A h = A0 h
end
section
variable {T : Nat → Int} {n K : Nat} {S : Nat → Nat} {A0 A : Nat → Int} {t : Nat} {id ll lp : Int}
theorem Row.half (h : Row T n S) {u v : Nat} (hu : u < nlms T n) (hv : v < nlms T n) (he : S u / 2 = S v / 2) : u = v := by
 have := lms_half (h.l u hu) (h.l v hv) he
 rcases Nat.lt_trichotomy u v with g | g | g
 ·exact absurd this (h.d u v g hv)
 ·exact g
 ·exact absurd this.symm (h.d v u g hu)
theorem half_lt {k : Nat} (h : Lms T n k) : k / 2 < n - nlms T n := by
 have := h.lt
 have := nlms_half (T := T) (n := n) (by omega)
 omega
theorem AsInv.start (hc : ∀ u, u < nlms T n → Code T n K (S u) (A0 (S u / 2))) : AsInv T n K S A0 0 0 (-1) 0 A0 :=
 ⟨Nat.zero_le _, .inl ⟨rfl, rfl, rfl, rfl⟩, fun u hu => by omega, fun u _ hu => hc u hu, fun _ _ => rfl⟩
theorem AsInv.id_lo (h : AsInv T n K S A0 t id ll lp A) : 0 ≤ id ∧ id ≤ t := by
 rcases h.st with ⟨h1, h2, _⟩ | ⟨u0, h1, h2, _⟩
 ·omega
 ·have := rid_le (P := fun u => pc T n (S u)) (t - 1)
  omega
theorem AsInv.new (hr : Row T n S) (h : AsInv T n K S A0 t id ll lp A) (ht : t < nlms T n) (hn : 1 ≤ t → pc T n (S (t - 1)) ≠ pc T n (S t)) {v : Int} (hv : Code T n K (S t) v) :
  AsInv T n K S A0 (t + 1) (id + 1) v (S t) (fun y => if y = S t / 2 then id + 1 else A y) := by
 have hid : id + 1 = rid (fun u => pc T n (S u)) t := by
  rcases h.st with ⟨h1, h2, _⟩ | ⟨u0, h1, h2, _⟩
  ·subst h1; rw [h2]; rfl
  ·obtain ⟨u, rfl⟩ : ∃ u, t = u + 1 := ⟨t - 1, by omega⟩
   rw [rid_ne (P := fun u => pc T n (S u)) (by have := hn (by omega); rw [Nat.add_sub_cancel] at this; exact this), h2]; rfl
 refine ⟨by omega, .inr ⟨t, by omega, hid, rfl, rfl, hv⟩, fun u hu => ?_, fun u h1 h2 => ?_, fun i hi => ?_⟩
 ·by_cases he : u = t
  ·subst he; simp only [if_true]; exact hid
  ·have : S u / 2 ≠ S t / 2 := fun e => he (hr.half (by omega) ht e)
   simp only [this, if_false]; exact h.done u (by omega)
 ·have : S u / 2 ≠ S t / 2 := fun e => by have := hr.half h2 ht e; omega
  simp only [this, if_false]; exact h.rest u (by omega) h2
 ·have : i ≠ S t / 2 := fun e => hi t ht e.symm
  simp only [this, if_false]; exact h.oth i hi
theorem AsInv.same (hr : Row T n S) (h : AsInv T n K S A0 t id ll lp A) (ht : t < nlms T n) (h1 : 1 ≤ t) (hs : pc T n (S (t - 1)) = pc T n (S t)) :
  AsInv T n K S A0 (t + 1) id ll lp (fun y => if y = S t / 2 then id else A y) := by
 obtain ⟨u0, g1, g2, g3, g4, g5⟩ : ∃ u0, u0 < t ∧ id = rid (fun u => pc T n (S u)) (t - 1) ∧ lp = S u0 ∧ pc T n (S u0) = pc T n (S (t - 1)) ∧ Code T n K (S u0) ll := by
  rcases h.st with ⟨h1, _⟩ | h1
  ·omega
  ·exact h1
 have hid : id = rid (fun u => pc T n (S u)) t := by
  obtain ⟨u, rfl⟩ : ∃ u, t = u + 1 := ⟨t - 1, by omega⟩
  rw [Nat.add_sub_cancel] at hs
  rw [rid_eq (P := fun u => pc T n (S u)) hs, g2]; rfl
 refine ⟨by omega, .inr ⟨u0, by omega, hid, g3, g4.trans hs, g5⟩, fun u hu => ?_, fun u h1 h2 => ?_, fun i hi => ?_⟩
 ·by_cases he : u = t
  ·subst he; simp only [if_true]; exact hid
  ·have : S u / 2 ≠ S t / 2 := fun e => he (hr.half (by omega) ht e)
   simp only [this, if_false]; exact h.done u (by omega)
 ·have : S u / 2 ≠ S t / 2 := fun e => by have := hr.half h2 ht e; omega
  simp only [this, if_false]; exact h.rest u (by omega) h2
 ·have : i ≠ S t / 2 := fun e => hi t ht e.symm
  simp only [this, if_false]; exact h.oth i hi
theorem AsInv.congr {A' : Nat → Int} (h : AsInv T n K S A0 t id ll lp A) (hA : ∀ q, A' q = A q) : AsInv T n K S A0 t id ll lp A' :=
 ⟨h.tm, h.st, fun u hu => by rw [hA]; exact h.done u hu, fun u h1 h2 => by rw [hA]; exact h.rest u h1 h2, fun i hi => by rw [hA]; exact h.oth i hi⟩
theorem AsInv.differ (hr : Row T n S) (h : AsInv T n K S A0 t id ll lp A) (ht : t < nlms T n) (hne : A (S t / 2) ≠ ll) : 1 ≤ t → pc T n (S (t - 1)) ≠ pc T n (S t) := by
 intro h1 he
 rcases h.st with ⟨g, _⟩ | ⟨u0, g1, g2, g3, g4, g5⟩
 ·omega
 ·exact hne (Code.congr (hr.l t ht) (hr.l u0 (by omega)) (h.rest t (Nat.le_refl _) ht) g5 (he.symm.trans g4.symm))
theorem AsInv.alike (hb : Bytes T n K) (hr : Row T n S) (h : AsInv T n K S A0 t id ll lp A) (ht : t < nlms T n) (he : A (S t / 2) = ll) :
  1 ≤ t ∧ ∃ j : Nat, lp = j ∧ j < n ∧ ((K ≠ 0 ∧ (n : Int) ≤ ll % 256 ^ K ∧ pc T n (S (t - 1)) = pc T n (S t)) ∨
   ∃ l : Nat, ll = l ∧ 0 < l ∧ l < n ∧ j + l ≤ n ∧ S t + l ≤ n ∧ (pc T n (S (t - 1)) = pc T n (S t) ↔ ∀ k, k < l → T (S t + k) = T (j + k))) := by
 have hc := h.rest t (Nat.le_refl _) ht
 have hl := hr.l t ht
 rcases h.st with ⟨g1, g2, g3, g4⟩ | ⟨u0, g1, g2, g3, g4, g5⟩
 ·exact absurd (he.trans g3) (hc.ne_neg hb)
 ·have hl0 := hr.l u0 (by omega)
  refine ⟨by omega, S u0, g3, by have := hl0.lt; omega, ?_⟩
  rw [he] at hc
  rcases Code.same hb hl0 hl g5 hc (hr.d u0 t g1 ht) with ⟨k1, k2, k3⟩ | ⟨l, k1, k2, k3, k4, k5, k6⟩
  ·exact .inl ⟨k1, k2, g4.symm.trans k3⟩
  ·refine .inr ⟨l, k1, k2, k3, k4, k5, ?_⟩
   rw [← g4, k6]
   exact ⟨fun h k hk => (h k hk).symm, fun h k hk => (h k hk).symm⟩
end
/-! ### Packing the names -/
section
variable (T : Nat → Int) (n : Nat)
structure PkInv (rk : Nat → Nat) (A0 : Nat → Int) (p w : Nat) (A : Nat → Int) : Prop where
 w : w = n - nlms T n + cn (Lms T n) (2 * p)
 lo : ∀ q, q < n - nlms T n → A q = A0 q
 hi : ∀ k, Lms T n k → p ≤ k / 2 → A (n - nlms T n + rank T n k) = (rk k : Int) - 1
end
section
variable {T : Nat → Int} {n : Nat} {rk : Nat → Nat} {A0 A : Nat → Int} {p w : Nat}
theorem PkInv.start (h : n < 2 * p + 1) : PkInv T n rk A0 p n A0 := by
 have e : cn (Lms T n) (2 * p) = nlms T n := by
  by_cases hp : 2 * p ≤ n
  ·rw [show 2 * p = n by omega]; rfl
  ·exact cn_gap (by omega) fun k h1 h2 hl => by have := hl.lt; omega
 have := cn_le_self (Lms T n) n
 exact ⟨by rw [e]; unfold nlms; omega, fun _ _ => rfl, fun k hk h1 => by have := hk.lt; omega⟩
theorem cn_two {k : Nat} (hk : Lms T n k) : cn (Lms T n) (2 * (k / 2 + 1)) = cn (Lms T n) (2 * (k / 2)) + 1 ∧ rank T n k = cn (Lms T n) (2 * (k / 2)) := by
 unfold rank
 rw [show 2 * (k / 2 + 1) = 2 * (k / 2) + 1 + 1 by omega]
 rcases Nat.mod_two_eq_zero_or_one k with h | h
 ·have e : 2 * (k / 2) = k := by omega
  rw [e]
  have : ¬ Lms T n (k + 1) := fun h => by have := lms_gap hk h (by omega); omega
  rw [cn_succ_neg this, cn_succ_pos hk]
  exact ⟨rfl, rfl⟩
 ·have e : 2 * (k / 2) + 1 = k := by omega
  have : ¬ Lms T n (2 * (k / 2)) := fun h => by have := lms_gap h hk (by omega); omega
  rw [e, cn_succ_pos hk]
  have e2 : cn (Lms T n) k = cn (Lms T n) (2 * (k / 2)) := by rw [← cn_succ_neg this, e]
  exact ⟨by rw [e2], e2⟩
theorem cn_none (h : ∀ k, Lms T n k → k / 2 ≠ p) : cn (Lms T n) (2 * (p + 1)) = cn (Lms T n) (2 * p) :=
 cn_gap (by omega) fun k h1 h2 hk => h k hk (by omega)
theorem PkInv.skip (h : PkInv T n rk A0 (p + 1) w A) (hn : ∀ k, Lms T n k → k / 2 ≠ p) : PkInv T n rk A0 p w A := by
 refine ⟨by rw [h.w, cn_none hn], h.lo, fun k hk h1 => h.hi k hk ?_⟩
 have := hn k hk; omega
theorem PkInv.put (h : PkInv T n rk A0 (p + 1) w A) {k : Nat} (hk : Lms T n k) (hp : k / 2 = p) :
  n - nlms T n < w ∧ w ≤ n ∧ PkInv T n rk A0 p (w - 1) (fun y => if y = w - 1 then (rk k : Int) - 1 else A y) := by
 obtain ⟨e1, e2⟩ := cn_two hk
 rw [hp] at e1 e2
 have hw := h.w
 rw [e1] at hw
 have hr := rank_lt hk
 have hm : nlms T n ≤ n := cn_le_self _ _
 refine ⟨by omega, by omega, by omega, fun q hq => ?_, fun k' hk' h1 => ?_⟩
 ·rw [if_neg (by omega)]; exact h.lo q hq
 ·by_cases he : k' = k
  ·subst he; rw [if_pos (by omega)]
  ·have : rank T n k' ≠ rank T n k := fun e => he (rank_inj hk' hk e)
   rw [if_neg (by omega)]
   refine h.hi k' hk' ?_
   have : k' / 2 ≠ p := fun e => he (lms_half hk' hk (by omega))
   omega
theorem PkInv.congr {A' : Nat → Int} (h : PkInv T n rk A0 p w A) (hA : ∀ q, q < n → A' q = A q) : PkInv T n rk A0 p w A' := by
 have hm : nlms T n ≤ n := cn_le_self _ _
 refine ⟨h.w, fun q hq => ?_, fun k hk h1 => ?_⟩
 ·rw [hA q (by omega)]; exact h.lo q hq
 ·rw [hA _ (by have := rank_lt hk; omega)]; exact h.hi k hk h1
end
/-! ### The starts again, in the text's order -/
section
variable (T : Nat → Int) (n : Nat)
structure UnInv (p j : Nat) (U : Nat → Int) : Prop where
 j : j = cn (Lms T n) (p + 1)
 hi : ∀ k, Lms T n k → p < k → U (rank T n k) = k
end
section
variable {T : Nat → Int} {n : Nat} {U : Nat → Int} {p j : Nat}
theorem UnInv.start : UnInv T n n (nlms T n) U := by
 have h : ¬ Lms T n n := fun h => by have := h.lt; omega
 exact ⟨by rw [cn_succ_neg h]; rfl, fun k hk h1 => by have := hk.lt; omega⟩
theorem UnInv.skip (h : UnInv T n (p + 1) j U) (hl : ¬ Lms T n (p + 1)) : UnInv T n p j U := by
 refine ⟨by rw [h.j, cn_succ_neg hl], fun k hk h1 => h.hi k hk ?_⟩
 have : k ≠ p + 1 := by rintro rfl; exact hl hk
 omega
theorem UnInv.put (h : UnInv T n (p + 1) j U) (hl : Lms T n (p + 1)) : 1 ≤ j ∧ j ≤ nlms T n ∧ UnInv T n p (j - 1) (fun y => if y = j - 1 then ((p : Int) + 1) else U y) := by
 have hj := h.j
 rw [cn_succ_pos hl] at hj
 have hr := rank_lt hl
 have e : rank T n (p + 1) = j - 1 := by unfold rank; omega
 refine ⟨by omega, by omega, by omega, fun k hk h1 => ?_⟩
 by_cases hkp : k = p + 1
 ·subst hkp; simp only [e, if_true]; omega
 ·have : rank T n k ≠ j - 1 := fun e' => hkp (rank_inj hk hl (by omega))
  simp only [this, if_false]
  exact h.hi k hk (by omega)
theorem UnInv.congr {U' : Nat → Int} (h : UnInv T n p j U) (hU : ∀ q, q < nlms T n → U' q = U q) : UnInv T n p j U' :=
 ⟨h.j, fun k hk h1 => by rw [hU _ (rank_lt hk)]; exact h.hi k hk h1⟩
theorem UnInv.fin (h : UnInv T n 0 j U) : ∀ k, Lms T n k → U (rank T n k) = k := fun k hk => h.hi k hk hk.1
end
end Go.Proofs.YtdhifgedhaapjaaGreatDoor.Sa
namespace Go.Proofs.YtdhifgedhaapjaaGreatDoor.Sa
open Go
theorem lel_prefix : ∀ {S L : List Int}, S <+: L → lel S L
 | [], _, _ => trivial
 | a :: S, [], h => by simp at h
 | a :: S, b :: L, h => by
  rw [List.cons_prefix_cons] at h
  obtain ⟨rfl, h⟩ := h
  exact Or.inr ⟨rfl, lel_prefix h⟩
theorem prefix_between : ∀ {S X Y : List Int}, lel S X → lel X Y → S <+: Y → S <+: X
 | [], _, _, _, _, _ => List.nil_prefix
 | a :: S, X, [], _, _, h => by simp at h
 | a :: S, [], b :: Y, h, _, _ => h.elim
 | a :: S, x :: X, b :: Y, h1, h2, h3 => by
  rw [List.cons_prefix_cons] at h3 ⊢
  obtain ⟨rfl, h3⟩ := h3
  have h1' : a < x ∨ (a = x ∧ lel S X) := h1
  have h2' : x < a ∨ (x = a ∧ lel X Y) := h2
  rcases h1' with h1' | ⟨e, h1'⟩
  ·rcases h2' with h2' | ⟨h2', _⟩ <;> omega
  ·refine ⟨e, ?_⟩
   rcases h2' with h2' | ⟨_, h2'⟩
   ·omega
   ·exact prefix_between h1' h2' h3
section
variable {T : Nat → Int} {n : Nat} {A : Nat → Int} {S : List Int}
def rest (T : Nat → Int) (n : Nat) (A : Nat → Int) (x : Nat) : List Int := sufl T n (A x).toNat
theorem SA.rest_lt (h : SA T n A) {x y : Nat} (hxy : x < y) (hy : y < n) : ltl (rest T n A x) (rest T n A y) := by
 obtain ⟨i, hi, _⟩ := h.a x (by omega)
 obtain ⟨j, hj, _⟩ := h.a y hy
 have := h.e x y i j hxy hy hi hj
 unfold rest
 rw [hi, hj]
 simpa using this
theorem SA.mono1 (h : SA T n A) {x y : Nat} (hxy : x ≤ y) (hy : y < n) (hx : ¬ ltl (rest T n A x) S) : ¬ ltl (rest T n A y) S := by
 rcases Nat.eq_or_lt_of_le hxy with rfl | hlt
 ·exact hx
 ·exact fun h' => hx (ltl_trans (h.rest_lt hlt hy) h')
theorem not_ltl {a b : List Int} : ¬ ltl a b ↔ lel b a := by
 unfold ltl
 exact Classical.not_not
theorem SA.mono2 (h : SA T n A) {x y : Nat} (hxy : x ≤ y) (hy : y < n) (hx : ¬ ltl (rest T n A x) S) (hp : ¬ S <+: rest T n A x) : ¬ S <+: rest T n A y := by
 rcases Nat.eq_or_lt_of_le hxy with rfl | hlt
 ·exact hp
 ·exact fun h' => hp (prefix_between (not_ltl.1 hx) (ltl_le (h.rest_lt hlt hy)) h')
noncomputable def places (T : Nat → Int) (n : Nat) (S : List Int) (x : Nat) : List Int :=
 open Classical in ((List.range x).filter fun p => decide (S <+: sufl T n p)).map Int.ofNat
theorem mem_places {x : Nat} {z : Int} : z ∈ places T n S x ↔ ∃ p : Nat, p < x ∧ S <+: sufl T n p ∧ z = p := by
 unfold places
 simp only [List.mem_map, List.mem_filter, List.mem_range, decide_eq_true_eq]
 constructor
 ·rintro ⟨p, ⟨h1, h2⟩, rfl⟩; exact ⟨p, h1, h2, rfl⟩
 ·rintro ⟨p, h1, h2, rfl⟩; exact ⟨p, ⟨h1, h2⟩, rfl⟩
theorem places_succ (x : Nat) : places T n S (x + 1) = places T n S x ++ (open Classical in if S <+: sufl T n x then [(x : Int)] else []) := by
 classical
 unfold places
 rw [List.range_succ, List.filter_append, List.map_append]
 congr 1
 by_cases h : S <+: sufl T n x <;> simp [h]
theorem places_sorted (x : Nat) : (places T n S x).Pairwise (· < ·) := by
 classical
 unfold places
 refine List.Pairwise.map (R := (· < ·)) _ (fun a b h => ?_) (List.Pairwise.filter _ List.pairwise_lt_range)
 show (a : Int) < (b : Int)
 omega
theorem sufl_len {i : Nat} : (sufl T n i).length = n - i := by unfold sufl; simp
theorem places_more {x : Nat} (h : n < x + S.length) (hx : x ≤ n) : places T n S x = places T n S n := by
 classical
 have : ∀ d, d ≤ n - x → places T n S (x + d) = places T n S x := by
  intro d
  induction d with
  | zero => intro _; rfl
  | succ d ih =>
   intro hd
   rw [← Nat.add_assoc, places_succ, ih (by omega), if_neg, List.append_nil]
   intro hp
   have := hp.length_le
   rw [sufl_len] at this
   omega
 have h2 := this (n - x) (Nat.le_refl _)
 rw [show x + (n - x) = n by omega] at h2
 exact h2.symm
def seg (A : Nat → Int) (i k : Nat) : List Int := (List.range k).map fun q => A (i + q)
theorem seg_nodup (h : SA T n A) {i k : Nat} (hk : i + k ≤ n) : (seg A i k).Nodup := by
 unfold seg
 refine List.Pairwise.map (R := fun a b => a < b ∧ b < k) _ (fun a b hab => ?_) ?_
 ·intro e
  obtain ⟨p, hp, _⟩ := h.a (i + a) (by omega)
  have := h.e (i + a) (i + b) p p (by omega) (by omega) hp (e ▸ hp)
  exact ltl_irrefl this
 ·have : (List.range k).Pairwise (· < ·) := List.pairwise_lt_range
  refine List.Pairwise.imp_of_mem (fun {a b} _ hb hab => ⟨hab, List.mem_range.1 hb⟩) this
theorem seg_perm (h : SA T n A) {i j : Nat} (hij : i + j ≤ n) (h1 : ∀ x, x < i → ltl (rest T n A x) S)
  (h3 : ∀ x, i ≤ x → x < i + j → S <+: rest T n A x) (h4 : ∀ x, i + j ≤ x → x < n → ¬ S <+: rest T n A x) :
  (seg A i j).Perm (places T n S n) := by
 refine (List.perm_ext_iff_of_nodup (seg_nodup h hij) ((places_sorted n).imp (fun h => Int.ne_of_lt h))).2 fun z => ?_
 rw [mem_places]
 unfold seg
 simp only [List.mem_map, List.mem_range]
 constructor
 ·rintro ⟨q, hq, rfl⟩
  obtain ⟨p, hp, hlt⟩ := h.a (i + q) (by omega)
  refine ⟨p, hlt, ?_, hp⟩
  have := h3 (i + q) (by omega) (by omega)
  unfold rest at this
  rw [hp] at this
  simpa using this
 ·rintro ⟨p, hp, hS, rfl⟩
  obtain ⟨x, hx, hA⟩ := h.z p hp
  have hr : rest T n A x = sufl T n p := by unfold rest; rw [hA]; simp
  have hxi : i ≤ x := by
   rcases Nat.lt_or_ge x i with hlt | hge
   ·exact absurd (lel_prefix (hr ▸ hS)) (by have := h1 x hlt; rw [hr] at this ⊢; exact this)
   ·exact hge
  have hxj : x < i + j := by
   rcases Nat.lt_or_ge x (i + j) with hlt | hge
   ·exact hlt
   ·exact absurd (hr ▸ hS) (h4 x hge hx)
  exact ⟨x - i, by omega, by rw [show i + (x - i) = x by omega]; exact hA⟩
theorem seg_take {i j k : Nat} (hk : k ≤ j) : seg A i k = (seg A i j).take k := by
 unfold seg
 rw [← List.map_take, List.take_range, Nat.min_eq_left hk]
end
end Go.Proofs.YtdhifgedhaapjaaGreatDoor.Sa

/- Plain facts: counting, the two kinds of places of a text, buckets. No program in sight. -/
namespace Go.Proofs.YtdhifgedhaapjaaGreatDoor.Sa
/-! ### Counting -/
open Classical in
noncomputable def cn (P : Nat → Prop) : Nat → Nat
 | 0 => 0
 | n + 1 => cn P n + if P n then 1 else 0
theorem cn_succ_pos {P : Nat → Prop} {n : Nat} (h : P n) : cn P (n + 1) = cn P n + 1 := by simp [cn, h]
theorem cn_succ_neg {P : Nat → Prop} {n : Nat} (h : ¬ P n) : cn P (n + 1) = cn P n := by simp [cn, h]
theorem cn_le_self (P : Nat → Prop) : ∀ n, cn P n ≤ n
 | 0 => Nat.le_refl _
 | n + 1 => by
  have := cn_le_self P n
  by_cases h : P n
  ·rw [cn_succ_pos h]; omega
  ·rw [cn_succ_neg h]; omega
theorem cn_mono {P Q : Nat → Prop} : ∀ n, (∀ i, i < n → P i → Q i) → cn P n ≤ cn Q n
 | 0, _ => Nat.le_refl _
 | n + 1, h => by
  have ih := cn_mono n (fun i hi => h i (by omega))
  by_cases hp : P n
  ·rw [cn_succ_pos hp, cn_succ_pos (h n (by omega) hp)]; omega
  ·rw [cn_succ_neg hp]
   by_cases hq : Q n
   ·rw [cn_succ_pos hq]; omega
   ·rw [cn_succ_neg hq]; exact ih
theorem cn_congr {P Q : Nat → Prop} (n : Nat) (h : ∀ i, i < n → (P i ↔ Q i)) : cn P n = cn Q n :=
 Nat.le_antisymm (cn_mono n fun i hi => (h i hi).1) (cn_mono n fun i hi => (h i hi).2)
theorem cn_add {P Q R : Nat → Prop} : ∀ n, (∀ i, i < n → (R i ↔ P i ∨ Q i)) → (∀ i, i < n → ¬ (P i ∧ Q i)) → cn R n = cn P n + cn Q n
 | 0, _, _ => rfl
 | n + 1, h, hd => by
  have ih := cn_add n (fun i hi => h i (by omega)) (fun i hi => hd i (by omega))
  have h1 := h n (by omega)
  have h2 := hd n (by omega)
  by_cases hp : P n
  ·have hq : ¬ Q n := fun hq => h2 ⟨hp, hq⟩
   rw [cn_succ_pos hp, cn_succ_neg hq, cn_succ_pos (h1.2 (.inl hp))]; omega
  ·by_cases hq : Q n
   ·rw [cn_succ_neg hp, cn_succ_pos hq, cn_succ_pos (h1.2 (.inr hq))]; omega
   ·have hr : ¬ R n := fun hr => (h1.1 hr).elim hp hq
    rw [cn_succ_neg hp, cn_succ_neg hq, cn_succ_neg hr]; omega
theorem cn_pos {P : Nat → Prop} : ∀ {n i : Nat}, i < n → P i → 1 ≤ cn P n
 | 0, _, h, _ => absurd h (Nat.not_lt_zero _)
 | n + 1, i, h, hp => by
  by_cases he : i = n
  ·subst he; rw [cn_succ_pos hp]; omega
  ·have := cn_pos (P := P) (n := n) (show i < n by omega) hp
   by_cases hn : P n
   ·rw [cn_succ_pos hn]; omega
   ·rw [cn_succ_neg hn]; exact this
theorem cn_zero {P : Nat → Prop} : ∀ (n : Nat), (∀ i, i < n → ¬ P i) → cn P n = 0
 | 0, _ => rfl
 | n + 1, h => by rw [cn_succ_neg (h n (by omega)), cn_zero n (fun i hi => h i (by omega))]
theorem pigeon {P : Nat → Prop} : ∀ (n b : Nat) (g : Nat → Nat), (∀ u, u < n → P u → g u < b) → (∀ u v, u < n → v < n → P u → P v → g u = g v → u = v) → cn P n ≤ b
 | 0, _, _, _, _ => Nat.zero_le _
 | n + 1, b, g, hb, hi => by
  by_cases hp : P n
  ·rw [cn_succ_pos hp]
   have hn := hb n (by omega) hp
   have := pigeon n (b - 1) (fun u => if g n < g u then g u - 1 else g u) (fun u hu hpu => by
    have h1 := hb u (by omega) hpu
    have h2 : g u ≠ g n := fun e => by have := hi u n (by omega) (by omega) hpu hp e; omega
    split <;> omega) (fun u v hu hv hpu hpv e => by
    have h1 : g u ≠ g n := fun e => by have := hi u n (by omega) (by omega) hpu hp e; omega
    have h2 : g v ≠ g n := fun e => by have := hi v n (by omega) (by omega) hpv hp e; omega
    refine hi u v (by omega) (by omega) hpu hpv ?_
    split at e <;> split at e <;> omega)
   omega
  ·rw [cn_succ_neg hp]
   exact pigeon n b g (fun u hu => hb u (by omega)) (fun u v hu hv => hi u v (by omega) (by omega))
theorem pigeon_inv {P : Nat → Prop} : ∀ (n a : Nat) (f : Nat → Nat), (∀ i, i < a → f i < n ∧ P (f i)) → (∀ i j, i < a → j < a → f i = f j → i = j) → a ≤ cn P n
 | 0, a, f, h, _ => by
  rcases Nat.eq_zero_or_pos a with h0 | h0
  ·omega
  ·have := (h 0 h0).1; omega
 | n + 1, a, f, h, hi => by
  by_cases hex : ∃ i, i < a ∧ f i = n
  ·obtain ⟨i0, hi0, he⟩ := hex
   have hp : P n := he ▸ (h i0 hi0).2
   rw [cn_succ_pos hp]
   have := pigeon_inv n (a - 1) (fun i => if i < i0 then f i else f (i + 1)) (fun i hia => by
    have hne : ∀ j, j < a → j ≠ i0 → f j < n ∧ P (f j) := fun j hj hji => by
     have h1 := h j hj
     have h2 : f j ≠ n := fun e => hji (hi j i0 hj hi0 (e.trans he.symm))
     exact ⟨by omega, h1.2⟩
    split
    ·exact hne i (by omega) (by omega)
    ·exact hne (i + 1) (by omega) (by omega)) (fun i j hia hja e => by
    split at e <;> split at e
    ·exact hi i j (by omega) (by omega) e
    ·have := hi i (j + 1) (by omega) (by omega) e; omega
    ·have := hi (i + 1) j (by omega) (by omega) e; omega
    ·have := hi (i + 1) (j + 1) (by omega) (by omega) e; omega)
   omega
  ·have h' : ∀ i, i < a → f i < n ∧ P (f i) := fun i hia => by
    have h1 := h i hia
    have h2 : f i ≠ n := fun e => hex ⟨i, hia, e⟩
    exact ⟨by omega, h1.2⟩
   have := pigeon_inv n a f h' hi
   by_cases hp : P n
   ·rw [cn_succ_pos hp]; omega
   ·rw [cn_succ_neg hp]; exact this
/-! ### The two kinds -/
section
variable (T : Nat → Int) (n : Nat)
def St (i : Nat) : Prop := ∃ j, i < j ∧ j < n ∧ T i < T j ∧ ∀ k, i < k → k < j → T k = T i
def Lms (i : Nat) : Prop := 1 ≤ i ∧ St T n i ∧ ¬ St T n (i - 1)
end
section
variable {T : Nat → Int} {n : Nat}
theorem St.lt {i : Nat} (h : St T n i) : i + 1 < n := by obtain ⟨j, h1, h2, _⟩ := h; omega
theorem St_of_lt {i : Nat} (hi : i + 1 < n) (h : T i < T (i + 1)) : St T n i := ⟨i + 1, by omega, hi, h, fun k h1 h2 => by omega⟩
theorem not_St_of_gt {i : Nat} (h : T (i + 1) < T i) : ¬ St T n i := by
 rintro ⟨j, h1, h2, h3, h4⟩
 by_cases hj : j = i + 1
 ·subst hj; omega
 ·have := h4 (i + 1) (by omega) (by omega); omega
theorem St_eq {i : Nat} (h : T i = T (i + 1)) : St T n i ↔ St T n (i + 1) := by
 constructor
 ·rintro ⟨j, h1, h2, h3, h4⟩
  have hj : j ≠ i + 1 := by rintro rfl; omega
  exact ⟨j, by omega, h2, by omega, fun k h5 h6 => by rw [h4 k (by omega) h6]; exact h⟩
 ·rintro ⟨j, h1, h2, h3, h4⟩
  refine ⟨j, by omega, h2, by omega, fun k h5 h6 => ?_⟩
  by_cases hk : k = i + 1
  ·subst hk; omega
  ·rw [h4 k (by omega) h6]; omega
theorem not_St_last {i : Nat} (h : n ≤ i + 1) : ¬ St T n i := fun hs => by have := hs.lt; omega
theorem St_iff {i : Nat} (hi : i + 1 < n) : St T n i ↔ T i < T (i + 1) ∨ (T i = T (i + 1) ∧ St T n (i + 1)) := by
 constructor
 ·intro h
  rcases Int.lt_trichotomy (T i) (T (i + 1)) with h1 | h1 | h1
  ·exact .inl h1
  ·exact .inr ⟨h1, (St_eq h1).1 h⟩
  ·exact absurd h (not_St_of_gt h1)
 ·rintro (h | ⟨h, hs⟩)
  ·exact St_of_lt hi h
  ·exact (St_eq h).2 hs
theorem St_pred_L {k : Nat} (h1 : 1 ≤ k) (hk : k < n) (hl : ¬ St T n k) : St T n (k - 1) ↔ T (k - 1) < T k := by
 have := St_iff (T := T) (n := n) (i := k - 1) (by omega)
 rw [show k - 1 + 1 = k by omega] at this
 rw [this]
 constructor
 ·rintro (h | ⟨_, h⟩)
  ·exact h
  ·exact absurd h hl
 ·exact .inl
theorem St_pred_S {k : Nat} (h1 : 1 ≤ k) (hs : St T n k) : St T n (k - 1) ↔ T (k - 1) ≤ T k := by
 have hk := hs.lt
 have := St_iff (T := T) (n := n) (i := k - 1) (by omega)
 rw [show k - 1 + 1 = k by omega] at this
 rw [this]
 constructor
 ·rintro (h | ⟨h, _⟩) <;> omega
 ·intro h
  rcases Int.lt_or_eq_of_le h with h | h
  ·exact .inl h
  ·exact .inr ⟨h, hs⟩
theorem L_ge {k : Nat} (hk : k + 1 < n) (hl : ¬ St T n k) : T (k + 1) ≤ T k := by
 by_cases h : T k < T (k + 1)
 ·exact absurd (St_of_lt hk h) hl
 ·omega
theorem L_gt_of_S {k : Nat} (hl : ¬ St T n k) (hs : St T n (k + 1)) : T (k + 1) < T k := by
 have hk := hs.lt
 have h1 := L_ge (by omega) hl
 rcases Int.lt_or_eq_of_le h1 with h | h
 ·exact h
 ·exact absurd ((St_eq h.symm).2 hs) hl
theorem S_le {k : Nat} (hs : St T n k) : T k ≤ T (k + 1) := by
 rcases (St_iff (by have := hs.lt; omega)).1 hs with h | h <;> omega
theorem Lms.lt {i : Nat} (h : Lms T n i) : i + 1 < n := h.2.1.lt
theorem Lms.pred_gt {i : Nat} (h : Lms T n i) : T i < T (i - 1) := by
 have := L_gt_of_S h.2.2 (by rw [show i - 1 + 1 = i by have := h.1; omega]; exact h.2.1)
 rw [show i - 1 + 1 = i by have := h.1; omega] at this
 exact this
/-! ### Buckets -/
variable (T n) in
noncomputable def bs (c : Int) : Nat := cn (fun i => T i < c) n
variable (T n) in
noncomputable def nL (c : Int) : Nat := cn (fun i => T i = c ∧ ¬ St T n i) n
variable (T n) in
noncomputable def nS (c : Int) : Nat := cn (fun i => T i = c ∧ St T n i) n
variable (T n) in
noncomputable def cc (c : Int) : Nat := cn (fun i => T i = c) n
theorem bs_succ (c : Int) : bs T n (c + 1) = bs T n c + cc T n c :=
 cn_add n (fun i _ => by constructor <;> intro h <;> omega) (fun i _ => by omega)
theorem cc_split (c : Int) : cc T n c = nL T n c + nS T n c := by
 refine cn_add n (fun i _ => ?_) (fun i _ h => h.1.2 h.2.2)
 constructor
 ·intro h
  by_cases hs : St T n i
  ·exact .inr ⟨h, hs⟩
  ·exact .inl ⟨h, hs⟩
 ·rintro (h | h) <;> exact h.1
theorem bs_mono {c d : Int} (h : c ≤ d) : bs T n c ≤ bs T n d := cn_mono n fun i _ h1 => by omega
theorem bs_le (c : Int) : bs T n c ≤ n := cn_le_self _ n
theorem bs_next {c d : Int} (h : c < d) : bs T n c + cc T n c ≤ bs T n d := by
 rw [← bs_succ]; exact bs_mono (by omega)
theorem bucket_lt {c d : Int} {p q : Nat} (hp : bs T n c ≤ p) (hq : q < bs T n d + cc T n d) (hpq : p ≤ q) : c ≤ d := by
 by_cases h : d < c
 ·have := bs_next (T := T) (n := n) h; omega
 ·omega
end
end Go.Proofs.YtdhifgedhaapjaaGreatDoor.Sa
namespace Go.Proofs.YtdhifgedhaapjaaGreatDoor.Sa
def updG (G : Nat → Option Nat) (p k : Nat) : Nat → Option Nat := fun q => if q = p then some k else G q
def updB (B : Int → Nat) (c : Int) (v : Nat) : Int → Nat := fun c' => if c' = c then v else B c'
theorem updG_same (G : Nat → Option Nat) (p k : Nat) : updG G p k p = some k := by simp [updG]
theorem updG_other {G : Nat → Option Nat} {p q : Nat} (k : Nat) (h : q ≠ p) : updG G p k q = G q := by simp [updG, h]
theorem updB_same (B : Int → Nat) (c : Int) (v : Nat) : updB B c v c = v := by simp [updB]
theorem updB_other {B : Int → Nat} {c d : Int} (v : Nat) (h : d ≠ c) : updB B c v d = B d := by simp [updB, h]
section
variable {T : Nat → Int} {n : Nat}
theorem bucket_eq {c d : Int} {p : Nat} (h1 : bs T n c ≤ p) (h2 : p < bs T n c + cc T n c) (h3 : bs T n d ≤ p) (h4 : p < bs T n d + cc T n d) : c = d := by
 have := bucket_lt (T := T) (n := n) h1 h4 (Nat.le_refl p)
 have := bucket_lt (T := T) (n := n) h3 h2 (Nat.le_refl p)
 omega
end
section
variable (T : Nat → Int) (n d0 : Nat) (le : Nat → Nat → Prop)
structure LOrd : Prop where
 hA : ∀ i j, i < n → j < n → (T i < T j ∨ (T i = T j ∧ ¬ St T n i ∧ St T n j)) → le i j
 hC : ∀ i k, i < n → k < n → ¬ St T n i → ¬ St T n k → d0 ≤ i → d0 ≤ k → T i = T k → le (i + 1) (k + 1) → le i k
 hN : ∀ j, le n j
structure LCore (G : Nat → Option Nat) (B : Int → Nat) : Prop where
 a : ∀ p j, G p = some j → p < n ∧ j < n ∧ ((Lms T n j ∧ d0 < j ∧ bs T n (T j) + nL T n (T j) ≤ p ∧ p < bs T n (T j) + cc T n (T j)) ∨
  (¬ St T n j ∧ d0 ≤ j ∧ bs T n (T j) ≤ p ∧ p < B (T j)))
 b : ∀ i p, i < n → bs T n (T i) ≤ p → p < B (T i) → ∃ j, G p = some j ∧ T j = T i ∧ ¬ St T n j
 c : ∀ i, i < n → bs T n (T i) ≤ B (T i) ∧ B (T i) ≤ bs T n (T i) + nL T n (T i)
 d : ∀ p q j, G p = some j → G q = some j → p = q
 e : ∀ p q i j, p < q → G p = some i → G q = some j → le i j
 z : ∀ j, Lms T n j → d0 < j → ∃ p, G p = some j
structure LInv (x : Nat) (G : Nat → Option Nat) (B : Int → Nat) : Prop extends LCore T n d0 le G B where
 f : ∀ k, k < n → ¬ St T n k → d0 ≤ k → ((∃ p, G p = some k) ↔ (k + 1 = n ∨ ∃ q, q < x ∧ G q = some (k + 1)))
end
section
variable {T : Nat → Int} {n d0 : Nat} {le : Nat → Nat → Prop}
theorem LCore.place (ho : LOrd T n d0 le) {G : Nat → Option Nat} {B : Int → Nat} (h : LCore T n d0 le G B) {k : Nat} (hk : k < n) (hl : ¬ St T n k) (hd : d0 ≤ k)
  (hno : ¬ ∃ p, G p = some k) (hle : ∀ i p, G p = some i → ¬ St T n i → T i = T k → le (i + 1) (k + 1)) :
  bs T n (T k) ≤ B (T k) ∧ B (T k) < bs T n (T k) + nL T n (T k) ∧ B (T k) < n ∧ G (B (T k)) = none ∧ LCore T n d0 le (updG G (B (T k)) k) (updB B (T k) (B (T k) + 1)) := by
 obtain ⟨hc1, hc2⟩ := h.c k hk
 have hcc := cc_split (T := T) (n := n) (T k)
 have hbn := bs_succ (T := T) (n := n) (T k)
 have hbl := bs_le (T := T) (n := n) (T k + 1)
 have hroom : B (T k) < bs T n (T k) + nL T n (T k) := by
  have hp := pigeon_inv (P := fun i => T i = T k ∧ ¬ St T n i) n (B (T k) - bs T n (T k) + 1)
   (fun i => if i < B (T k) - bs T n (T k) then (G (bs T n (T k) + i)).getD 0 else k) (fun i hi => by
    by_cases hlt : i < B (T k) - bs T n (T k)
    ·simp only [hlt, if_true]
     obtain ⟨j, hj, ht, hs⟩ := h.b k (bs T n (T k) + i) hk (by omega) (by omega)
     rw [hj]
     exact ⟨(h.a _ _ hj).2.1, ht, hs⟩
    ·simp only [hlt, if_false]
     exact ⟨hk, trivial, hl⟩) (fun i j hi hj he => by
    by_cases hlt : i < B (T k) - bs T n (T k) <;> by_cases hlt' : j < B (T k) - bs T n (T k)
    ·simp only [hlt, hlt', if_true] at he
     obtain ⟨u, hu, _, _⟩ := h.b k (bs T n (T k) + i) hk (by omega) (by omega)
     obtain ⟨v, hv, _, _⟩ := h.b k (bs T n (T k) + j) hk (by omega) (by omega)
     rw [hu, hv] at he
     simp only [Option.getD_some] at he
     subst he
     have := h.d _ _ _ hu hv
     omega
    ·simp only [hlt, hlt', if_true, if_false] at he
     obtain ⟨u, hu, _, _⟩ := h.b k (bs T n (T k) + i) hk (by omega) (by omega)
     rw [hu] at he
     simp only [Option.getD_some] at he
     subst he
     exact absurd ⟨_, hu⟩ hno
    ·simp only [hlt, hlt', if_true, if_false] at he
     obtain ⟨u, hu, _, _⟩ := h.b k (bs T n (T k) + j) hk (by omega) (by omega)
     rw [hu] at he
     simp only [Option.getD_some] at he
     subst he
     exact absurd ⟨_, hu⟩ hno
    ·omega)
  have : nL T n (T k) = cn (fun i => T i = T k ∧ ¬ St T n i) n := rfl
  omega
 generalize hB : B (T k) = p at *
 have hnone : G p = none := by
  cases hg : G p with
  | none => rfl
  | some j =>
   obtain ⟨_, hj, hz | hdj⟩ := h.a p j hg
   ·have := bucket_eq (T := T) (n := n) (c := T j) (d := T k) (p := p) (by omega) (by omega) (by omega) (by omega)
    rw [this] at hz; omega
   ·have hcj := h.c j hj
    have hsj := cc_split (T := T) (n := n) (T j)
    have := bucket_eq (T := T) (n := n) (c := T j) (d := T k) (p := p) (by omega) (by omega) (by omega) (by omega)
    rw [this, hB] at hdj; omega
 refine ⟨hc1, hroom, by omega, hnone, ?_, ?_, ?_, ?_, ?_, ?_⟩
 ·intro q j hq
  by_cases hqp : q = p
  ·subst hqp
   rw [updG_same] at hq
   cases hq
   refine ⟨by omega, hk, .inr ⟨hl, hd, hc1, ?_⟩⟩
   rw [updB_same]; omega
  ·rw [updG_other _ hqp] at hq
   obtain ⟨h1, h2, h3⟩ := h.a q j hq
   refine ⟨h1, h2, h3.imp id fun ⟨g1, g2, g3, g4⟩ => ⟨g1, g2, g3, ?_⟩⟩
   by_cases hT : T j = T k
   ·rw [hT, updB_same]; rw [hT, hB] at g4; omega
   ·rw [updB_other _ hT]; exact g4
 ·intro i q hi h1 h2
  by_cases hqp : q = p
  ·subst hqp
   rw [updG_same]
   refine ⟨k, rfl, ?_, hl⟩
   by_cases hT : T i = T k
   ·exact hT.symm
   ·rw [updB_other _ hT] at h2
    have hci := h.c i hi
    have hsi := cc_split (T := T) (n := n) (T i)
    exact bucket_eq (T := T) (n := n) (p := q) (by omega) (by omega) h1 (by omega)
  ·rw [updG_other _ hqp]
   refine h.b i q hi h1 ?_
   by_cases hT : T i = T k
   ·rw [hT, updB_same] at h2; rw [hT, hB]; omega
   ·rw [updB_other _ hT] at h2; exact h2
 ·intro i hi
  have hci := h.c i hi
  by_cases hT : T i = T k
  ·rw [hT, updB_same]; omega
  ·rw [updB_other _ hT]; exact hci
 ·intro q r j hq hr
  by_cases h1 : q = p <;> by_cases h2 : r = p
  ·omega
  ·subst h1
   rw [updG_same] at hq; cases hq
   rw [updG_other _ h2] at hr
   exact absurd ⟨_, hr⟩ hno
  ·subst h2
   rw [updG_same] at hr; cases hr
   rw [updG_other _ h1] at hq
   exact absurd ⟨_, hq⟩ hno
  ·rw [updG_other _ h1] at hq
   rw [updG_other _ h2] at hr
   exact h.d _ _ _ hq hr
 ·intro q r i j hqr hq hr
  by_cases h1 : q = p
  ·subst h1
   have h2 : r ≠ q := by omega
   rw [updG_same] at hq; cases hq
   rw [updG_other _ h2] at hr
   obtain ⟨hrn, hj, hz | hdj⟩ := h.a r j hr
   ·have hle' : T k ≤ T j := bucket_lt (T := T) (n := n) (p := q) (q := r) (by omega) (by omega) (by omega)
    refine ho.hA _ _ hk hj ?_
    rcases Int.lt_or_eq_of_le hle' with h3 | h3
    ·exact .inl h3
    ·exact .inr ⟨h3, hl, hz.1.2.1⟩
   ·have hcj := h.c j hj
    have hsj := cc_split (T := T) (n := n) (T j)
    have hle' : T k ≤ T j := bucket_lt (T := T) (n := n) (p := q) (q := r) (by omega) (by omega) (by omega)
    rcases Int.lt_or_eq_of_le hle' with h3 | h3
    ·exact ho.hA _ _ hk hj (.inl h3)
    ·rw [← h3, hB] at hdj; omega
  ·rw [updG_other _ h1] at hq
   by_cases h2 : r = p
   ·subst h2
    rw [updG_same] at hr; cases hr
    obtain ⟨hqn, hi, hz | hdi⟩ := h.a q i hq
    ·have hle' : T i ≤ T k := bucket_lt (T := T) (n := n) (p := q) (q := r) (by omega) (by omega) (by omega)
     rcases Int.lt_or_eq_of_le hle' with h3 | h3
     ·exact ho.hA _ _ hi hk (.inl h3)
     ·rw [h3] at hz; omega
    ·have hci := h.c i hi
     have hsi := cc_split (T := T) (n := n) (T i)
     have hle' : T i ≤ T k := bucket_lt (T := T) (n := n) (p := q) (q := r) (by omega) (by omega) (by omega)
     rcases Int.lt_or_eq_of_le hle' with h3 | h3
     ·exact ho.hA _ _ hi hk (.inl h3)
     ·exact ho.hC _ _ hi hk hdi.1 hl hdi.2.1 hd h3 (hle i q hq hdi.1 h3)
   ·rw [updG_other _ h2] at hr
    exact h.e _ _ _ _ hqr hq hr
 ·intro j hj hdj
  obtain ⟨q, hq⟩ := h.z j hj hdj
  have : q ≠ p := by rintro rfl; rw [hnone] at hq; cases hq
  exact ⟨q, by rw [updG_other _ this]; exact hq⟩
theorem LInv.skip {x : Nat} {G : Nat → Option Nat} {B : Int → Nat} (h : LInv T n d0 le x G B) (hx : ∀ j, G x = some j → ¬ (1 ≤ j ∧ ¬ St T n (j - 1) ∧ d0 ≤ j - 1)) :
  LInv T n d0 le (x + 1) G B := by
 refine ⟨h.toLCore, fun k hk hl hd => ?_⟩
 rw [h.f k hk hl hd]
 constructor
 ·rintro (h1 | ⟨q, h1, h2⟩)
  ·exact .inl h1
  ·exact .inr ⟨q, by omega, h2⟩
 ·rintro (h1 | ⟨q, h1, h2⟩)
  ·exact .inl h1
  ·by_cases hq : q = x
   ·subst hq
    exact absurd ⟨by omega, by rw [Nat.add_sub_cancel]; exact hl, by rw [Nat.add_sub_cancel]; exact hd⟩ (hx _ h2)
   ·exact .inr ⟨q, by omega, h2⟩
theorem LInv.step (ho : LOrd T n d0 le) {x : Nat} {G : Nat → Option Nat} {B : Int → Nat} (h : LInv T n d0 le x G B) {j : Nat} (hj : G x = some j) (h1 : 1 ≤ j) (hl : ¬ St T n (j - 1)) (hd : d0 ≤ j - 1) :
  x < B (T (j - 1)) ∧ B (T (j - 1)) < n ∧ bs T n (T (j - 1)) ≤ B (T (j - 1)) ∧ B (T (j - 1)) < bs T n (T (j - 1)) + nL T n (T (j - 1)) ∧ G (B (T (j - 1))) = none ∧
   LInv T n d0 le (x + 1) (updG G (B (T (j - 1))) (j - 1)) (updB B (T (j - 1)) (B (T (j - 1)) + 1)) := by
 obtain ⟨k, rfl⟩ : ∃ k, j = k + 1 := ⟨j - 1, by omega⟩
 rw [Nat.add_sub_cancel] at hl hd ⊢
 obtain ⟨hxn, hjn, hcase⟩ := h.a x _ hj
 have hno : ¬ ∃ p, G p = some k := by
  rw [h.f k (by omega) hl hd]
  rintro (h2 | ⟨q, hq, h2⟩)
  ·omega
  ·have := h.d _ _ _ h2 hj; omega
 have hle : ∀ i p, G p = some i → ¬ St T n i → T i = T k → le (i + 1) (k + 1) := by
  intro i p hp hs _
  obtain ⟨_, hin, hz | hdi⟩ := h.a p i hp
  ·exact absurd hz.1.2.1 hs
  ·rcases (h.f i hin hs hdi.2.1).1 ⟨p, hp⟩ with h2 | ⟨q, hq, h2⟩
   ·rw [h2]; exact ho.hN _
   ·exact h.e q x _ _ hq h2 hj
 obtain ⟨p1, p2, p3, p4, p5⟩ := h.toLCore.place ho (by omega) hl hd hno hle
 have hxp : x < B (T k) := by
  have hge := L_ge (T := T) (n := n) hjn hl
  rcases hcase with hz | hdj
  ·have := L_gt_of_S (T := T) (n := n) hl hz.1.2.1
   have := bs_next (T := T) (n := n) this
   omega
  ·have hcj := h.c (k + 1) hjn
   have hsj := cc_split (T := T) (n := n) (T (k + 1))
   rcases Int.lt_or_eq_of_le hge with h2 | h2
   ·have := bs_next (T := T) (n := n) h2
    omega
   ·rw [h2] at hdj; exact hdj.2.2.2
 refine ⟨hxp, p3, p1, p2, p4, p5, fun i hi hs hdi => ?_⟩
 by_cases hik : i = k
 ·subst hik
  refine ⟨fun _ => .inr ⟨x, by omega, ?_⟩, fun _ => ⟨_, updG_same _ _ _⟩⟩
  rw [updG_other _ (by omega)]; exact hj
 ·have e1 : (∃ p, updG G (B (T k)) k p = some i) ↔ ∃ p, G p = some i := by
   constructor
   ·rintro ⟨p, hp⟩
    by_cases hpp : p = B (T k)
    ·subst hpp; rw [updG_same] at hp; cases hp; exact absurd rfl hik
    ·rw [updG_other _ hpp] at hp; exact ⟨p, hp⟩
   ·rintro ⟨p, hp⟩
    have hpp : p ≠ B (T k) := by rintro rfl; rw [p4] at hp; cases hp
    exact ⟨p, by rw [updG_other _ hpp]; exact hp⟩
  rw [e1, h.f i hi hs hdi]
  constructor
  ·rintro (h2 | ⟨q, hq, h2⟩)
   ·exact .inl h2
   ·exact .inr ⟨q, by omega, by rw [updG_other _ (by omega)]; exact h2⟩
  ·rintro (h2 | ⟨q, hq, h2⟩)
   ·exact .inl h2
   ·rw [updG_other _ (by omega)] at h2
    by_cases hqx : q = x
    ·subst hqx
     rw [hj] at h2
     injection h2 with h2
     omega
    ·exact .inr ⟨q, by omega, h2⟩
theorem LInv.start (ho : LOrd T n d0 le) {G : Nat → Option Nat} {B : Int → Nat} (h : LCore T n d0 le G B) (hn : 1 ≤ n) (hd : d0 ≤ n - 1) (hz : ∀ p j, G p = some j → Lms T n j) :
  bs T n (T (n - 1)) ≤ B (T (n - 1)) ∧ B (T (n - 1)) < bs T n (T (n - 1)) + nL T n (T (n - 1)) ∧ B (T (n - 1)) < n ∧ G (B (T (n - 1))) = none ∧
  LInv T n d0 le 0 (updG G (B (T (n - 1))) (n - 1)) (updB B (T (n - 1)) (B (T (n - 1)) + 1)) := by
 have hl : ¬ St T n (n - 1) := not_St_last (by omega)
 have hno : ∀ k, ¬ St T n k → ¬ ∃ p, G p = some k := fun k hs ⟨p, hp⟩ => hs (hz p k hp).2.1
 obtain ⟨p1, p2, p3, p4, p5⟩ := h.place ho (k := n - 1) (by omega) hl hd (hno _ hl) (fun i p hp hs _ => absurd ⟨p, hp⟩ (hno i hs))
 refine ⟨p1, p2, p3, p4, p5, fun i hi hs hdi => ?_⟩
 constructor
 ·rintro ⟨p, hp⟩
  by_cases hpp : p = B (T (n - 1))
  ·subst hpp; rw [updG_same] at hp; injection hp with hp; omega
  ·rw [updG_other _ hpp] at hp; exact absurd ⟨p, hp⟩ (hno i hs)
 ·rintro (h1 | ⟨q, hq, _⟩)
  ·exact ⟨_, by rw [updG_same]; congr 1; omega⟩
  ·omega
theorem LInv.all {G : Nat → Option Nat} {B : Int → Nat} (h : LInv T n d0 le n G B) : ∀ k, k < n → ¬ St T n k → d0 ≤ k → ∃ p, G p = some k := by
 have key : ∀ m k, n - k = m → k < n → ¬ St T n k → d0 ≤ k → ∃ p, G p = some k := by
  intro m
  induction m with
  | zero => intro k h1 h2; omega
  | succ m ih =>
   intro k h1 hk hl hd
   rw [h.f k hk hl hd]
   by_cases hk1 : k + 1 = n
   ·exact .inl hk1
   ·refine .inr ?_
    by_cases hs : St T n (k + 1)
    ·obtain ⟨p, hp⟩ := h.z (k + 1) ⟨by omega, hs, by rw [Nat.add_sub_cancel]; exact hl⟩ (by omega)
     exact ⟨p, (h.a _ _ hp).1, hp⟩
    ·obtain ⟨p, hp⟩ := ih (k + 1) (by omega) (by omega) hs (by omega)
     exact ⟨p, (h.a _ _ hp).1, hp⟩
 exact fun k hk hl hd => key _ k rfl hk hl hd
end
end Go.Proofs.YtdhifgedhaapjaaGreatDoor.Sa
namespace Go.Proofs.YtdhifgedhaapjaaGreatDoor.Sa
section
variable (T : Nat → Int) (n d0 : Nat) (le : Nat → Nat → Prop)
structure SOrd : Prop where
 hA : ∀ i j, i < n → j < n → (T i < T j ∨ (T i = T j ∧ ¬ St T n i ∧ St T n j)) → le i j
 hC : ∀ i k, i < n → k < n → St T n i → St T n k → d0 ≤ i → d0 ≤ k → T i = T k → le (i + 1) (k + 1) → le i k
def Top (j : Nat) : Prop := j < n ∧ ¬ St T n j ∧ 1 ≤ j ∧ St T n (j - 1) ∧ d0 ≤ j - 1
structure SCore (G : Nat → Option Nat) (B : Int → Nat) : Prop where
 a : ∀ p j, G p = some j → p < n ∧ j < n ∧ ((¬ St T n j ∧ bs T n (T j) ≤ p ∧ p < bs T n (T j) + nL T n (T j)) ∨
  (St T n j ∧ d0 ≤ j ∧ B (T j) ≤ p ∧ p < bs T n (T j) + cc T n (T j)))
 b : ∀ i p, i < n → B (T i) ≤ p → p < bs T n (T i) + cc T n (T i) → ∃ j, G p = some j ∧ T j = T i ∧ St T n j
 c : ∀ i, i < n → bs T n (T i) + nL T n (T i) ≤ B (T i) ∧ B (T i) ≤ bs T n (T i) + cc T n (T i)
 d : ∀ p q j, G p = some j → G q = some j → p = q
 e : ∀ p q i j, p < q → G p = some i → G q = some j → le i j
 z : ∀ j, Top T n d0 j → ∃ p, G p = some j
structure SInv (x : Nat) (G : Nat → Option Nat) (B : Int → Nat) : Prop extends SCore T n d0 le G B where
 f : ∀ k, k < n → St T n k → d0 ≤ k → ((∃ p, G p = some k) ↔ ∃ q, x ≤ q ∧ G q = some (k + 1))
end
section
variable {T : Nat → Int} {n d0 : Nat} {le : Nat → Nat → Prop}
theorem SCore.place (ho : SOrd T n d0 le) {G : Nat → Option Nat} {B : Int → Nat} (h : SCore T n d0 le G B) {k : Nat} (hk : k < n) (hs : St T n k) (hd : d0 ≤ k)
  (hno : ¬ ∃ p, G p = some k) (hle : ∀ i p, G p = some i → St T n i → T i = T k → le (k + 1) (i + 1)) :
  bs T n (T k) + nL T n (T k) < B (T k) ∧ B (T k) ≤ bs T n (T k) + cc T n (T k) ∧ B (T k) ≤ n ∧ G (B (T k) - 1) = none ∧ SCore T n d0 le (updG G (B (T k) - 1) k) (updB B (T k) (B (T k) - 1)) := by
 obtain ⟨hc1, hc2⟩ := h.c k hk
 have hcc := cc_split (T := T) (n := n) (T k)
 have hbn := bs_succ (T := T) (n := n) (T k)
 have hbl := bs_le (T := T) (n := n) (T k + 1)
 have hroom : bs T n (T k) + nL T n (T k) < B (T k) := by
  have hp := pigeon_inv (P := fun i => T i = T k ∧ St T n i) n (bs T n (T k) + cc T n (T k) - B (T k) + 1)
   (fun i => if i < bs T n (T k) + cc T n (T k) - B (T k) then (G (B (T k) + i)).getD 0 else k) (fun i hi => by
    by_cases hlt : i < bs T n (T k) + cc T n (T k) - B (T k)
    ·simp only [hlt, if_true]
     obtain ⟨j, hj, ht, hs⟩ := h.b k (B (T k) + i) hk (by omega) (by omega)
     rw [hj]
     exact ⟨(h.a _ _ hj).2.1, ht, hs⟩
    ·simp only [hlt, if_false]
     exact ⟨hk, trivial, hs⟩) (fun i j hi hj he => by
    by_cases hlt : i < bs T n (T k) + cc T n (T k) - B (T k) <;> by_cases hlt' : j < bs T n (T k) + cc T n (T k) - B (T k)
    ·simp only [hlt, hlt', if_true] at he
     obtain ⟨u, hu, _, _⟩ := h.b k (B (T k) + i) hk (by omega) (by omega)
     obtain ⟨v, hv, _, _⟩ := h.b k (B (T k) + j) hk (by omega) (by omega)
     rw [hu, hv] at he
     simp only [Option.getD_some] at he
     subst he
     have := h.d _ _ _ hu hv
     omega
    ·simp only [hlt, hlt', if_true, if_false] at he
     obtain ⟨u, hu, _, _⟩ := h.b k (B (T k) + i) hk (by omega) (by omega)
     rw [hu] at he
     simp only [Option.getD_some] at he
     subst he
     exact absurd ⟨_, hu⟩ hno
    ·simp only [hlt, hlt', if_true, if_false] at he
     obtain ⟨u, hu, _, _⟩ := h.b k (B (T k) + j) hk (by omega) (by omega)
     rw [hu] at he
     simp only [Option.getD_some] at he
     subst he
     exact absurd ⟨_, hu⟩ hno
    ·omega)
  have : nS T n (T k) = cn (fun i => T i = T k ∧ St T n i) n := rfl
  omega
 obtain ⟨p, hB⟩ : ∃ p, B (T k) = p + 1 := ⟨B (T k) - 1, by omega⟩
 rw [hB] at hc1 hc2 hroom ⊢
 rw [Nat.add_sub_cancel]
 have hnone : G p = none := by
  cases hg : G p with
  | none => rfl
  | some j =>
   obtain ⟨_, hj, hz | hdj⟩ := h.a p j hg
   ·have hsj := cc_split (T := T) (n := n) (T j)
    have := bucket_eq (T := T) (n := n) (c := T j) (d := T k) (p := p) (by omega) (by omega) (by omega) (by omega)
    rw [this] at hz; omega
   ·have hcj := h.c j hj
    have := bucket_eq (T := T) (n := n) (c := T j) (d := T k) (p := p) (by omega) (by omega) (by omega) (by omega)
    rw [this, hB] at hdj; omega
 refine ⟨hroom, hc2, by omega, hnone, ?_, ?_, ?_, ?_, ?_, ?_⟩
 ·intro q j hq
  by_cases hqp : q = p
  ·subst hqp
   rw [updG_same] at hq
   cases hq
   refine ⟨by omega, hk, .inr ⟨hs, hd, ?_, by omega⟩⟩
   rw [updB_same]; omega
  ·rw [updG_other _ hqp] at hq
   obtain ⟨h1, h2, h3⟩ := h.a q j hq
   refine ⟨h1, h2, h3.imp id fun ⟨g1, g2, g3, g4⟩ => ⟨g1, g2, ?_, g4⟩⟩
   by_cases hT : T j = T k
   ·rw [hT, updB_same]; rw [hT, hB] at g3; omega
   ·rw [updB_other _ hT]; exact g3
 ·intro i q hi h1 h2
  by_cases hqp : q = p
  ·subst hqp
   rw [updG_same]
   refine ⟨k, rfl, ?_, hs⟩
   by_cases hT : T i = T k
   ·exact hT.symm
   ·rw [updB_other _ hT] at h1
    have hci := h.c i hi
    have hsi := cc_split (T := T) (n := n) (T i)
    exact bucket_eq (T := T) (n := n) (p := q) (by omega) (by omega) (by omega) h2
  ·rw [updG_other _ hqp]
   refine h.b i q hi ?_ h2
   by_cases hT : T i = T k
   ·rw [hT, updB_same] at h1; rw [hT, hB]; omega
   ·rw [updB_other _ hT] at h1; exact h1
 ·intro i hi
  have hci := h.c i hi
  by_cases hT : T i = T k
  ·rw [hT, updB_same]; omega
  ·rw [updB_other _ hT]; exact hci
 ·intro q r j hq hr
  by_cases h1 : q = p <;> by_cases h2 : r = p
  ·omega
  ·subst h1
   rw [updG_same] at hq; cases hq
   rw [updG_other _ h2] at hr
   exact absurd ⟨_, hr⟩ hno
  ·subst h2
   rw [updG_same] at hr; cases hr
   rw [updG_other _ h1] at hq
   exact absurd ⟨_, hq⟩ hno
  ·rw [updG_other _ h1] at hq
   rw [updG_other _ h2] at hr
   exact h.d _ _ _ hq hr
 ·intro q r i j hqr hq hr
  by_cases h1 : r = p
  ·subst h1
   have h2 : q ≠ r := by omega
   rw [updG_same] at hr; cases hr
   rw [updG_other _ h2] at hq
   obtain ⟨hqn, hi, hz | hdi⟩ := h.a q i hq
   ·have hsi := cc_split (T := T) (n := n) (T i)
    have hle' : T i ≤ T k := bucket_lt (T := T) (n := n) (p := q) (q := r) (by omega) (by omega) (by omega)
    refine ho.hA _ _ hi hk ?_
    rcases Int.lt_or_eq_of_le hle' with h3 | h3
    ·exact .inl h3
    ·exact .inr ⟨h3, hz.1, hs⟩
   ·have hci := h.c i hi
    have hsi := cc_split (T := T) (n := n) (T i)
    have hle' : T i ≤ T k := bucket_lt (T := T) (n := n) (p := q) (q := r) (by omega) (by omega) (by omega)
    rcases Int.lt_or_eq_of_le hle' with h3 | h3
    ·exact ho.hA _ _ hi hk (.inl h3)
    ·rw [h3, hB] at hdi; omega
  ·rw [updG_other _ h1] at hr
   by_cases h2 : q = p
   ·subst h2
    rw [updG_same] at hq; cases hq
    obtain ⟨hrn, hj, hz | hdj⟩ := h.a r j hr
    ·have hsj := cc_split (T := T) (n := n) (T j)
     have hle' : T k ≤ T j := bucket_lt (T := T) (n := n) (p := q) (q := r) (by omega) (by omega) (by omega)
     rcases Int.lt_or_eq_of_le hle' with h3 | h3
     ·exact ho.hA _ _ hk hj (.inl h3)
     ·rw [← h3] at hz; omega
    ·have hcj := h.c j hj
     have hsj := cc_split (T := T) (n := n) (T j)
     have hle' : T k ≤ T j := bucket_lt (T := T) (n := n) (p := q) (q := r) (by omega) (by omega) (by omega)
     rcases Int.lt_or_eq_of_le hle' with h3 | h3
     ·exact ho.hA _ _ hk hj (.inl h3)
     ·exact ho.hC _ _ hk hj hs hdj.1 hd hdj.2.1 h3 (hle j r hr hdj.1 h3.symm)
   ·rw [updG_other _ h2] at hq
    exact h.e _ _ _ _ hqr hq hr
 ·intro j hj
  obtain ⟨q, hq⟩ := h.z j hj
  have : q ≠ p := by rintro rfl; rw [hnone] at hq; cases hq
  exact ⟨q, by rw [updG_other _ this]; exact hq⟩
theorem SInv.skip {x : Nat} {G : Nat → Option Nat} {B : Int → Nat} (h : SInv T n d0 le (x + 1) G B) (hx : ∀ j, G x = some j → ¬ (1 ≤ j ∧ St T n (j - 1) ∧ d0 ≤ j - 1)) :
  SInv T n d0 le x G B := by
 refine ⟨h.toSCore, fun k hk hs hd => ?_⟩
 rw [h.f k hk hs hd]
 constructor
 ·rintro ⟨q, h1, h2⟩
  exact ⟨q, by omega, h2⟩
 ·rintro ⟨q, h1, h2⟩
  by_cases hq : q = x
  ·subst hq
   exact absurd ⟨by omega, by rw [Nat.add_sub_cancel]; exact hs, by rw [Nat.add_sub_cancel]; exact hd⟩ (hx _ h2)
  ·exact ⟨q, by omega, h2⟩
theorem SInv.step (ho : SOrd T n d0 le) {x : Nat} {G : Nat → Option Nat} {B : Int → Nat} (h : SInv T n d0 le (x + 1) G B) {j : Nat} (hj : G x = some j) (h1 : 1 ≤ j) (hs : St T n (j - 1)) (hd : d0 ≤ j - 1) :
  B (T (j - 1)) ≤ x ∧ bs T n (T (j - 1)) + nL T n (T (j - 1)) < B (T (j - 1)) ∧ B (T (j - 1)) ≤ bs T n (T (j - 1)) + cc T n (T (j - 1)) ∧ G (B (T (j - 1)) - 1) = none ∧
   SInv T n d0 le x (updG G (B (T (j - 1)) - 1) (j - 1)) (updB B (T (j - 1)) (B (T (j - 1)) - 1)) := by
 obtain ⟨k, rfl⟩ : ∃ k, j = k + 1 := ⟨j - 1, by omega⟩
 rw [Nat.add_sub_cancel] at hs hd ⊢
 obtain ⟨hxn, hjn, hcase⟩ := h.a x _ hj
 have hno : ¬ ∃ p, G p = some k := by
  rw [h.f k (by omega) hs hd]
  rintro ⟨q, hq, h2⟩
  have := h.d _ _ _ h2 hj; omega
 have hle : ∀ i p, G p = some i → St T n i → T i = T k → le (k + 1) (i + 1) := by
  intro i p hp hsi _
  obtain ⟨_, hin, hz | hdi⟩ := h.a p i hp
  ·exact absurd hsi hz.1
  ·obtain ⟨q, hq, h2⟩ := (h.f i hin hsi hdi.2.1).1 ⟨p, hp⟩
   exact h.e x q _ _ hq hj h2
 obtain ⟨p1, p2, p3, p4, p5⟩ := h.toSCore.place ho (by omega) hs hd hno hle
 have hxp : B (T k) ≤ x := by
  have hge := S_le (T := T) (n := n) hs
  rcases hcase with hz | hdj
  ·have hne : T k ≠ T (k + 1) := fun e => hz.1 ((St_eq e).1 hs)
   have := bs_next (T := T) (n := n) (c := T k) (d := T (k + 1)) (by omega)
   omega
  ·rcases Int.lt_or_eq_of_le hge with h2 | h2
   ·have hcj := h.c (k + 1) hjn
    have := bs_next (T := T) (n := n) h2
    omega
   ·rw [← h2] at hdj; exact hdj.2.2.1
 refine ⟨hxp, p1, p2, p4, p5, fun i hi hsi hdi => ?_⟩
 by_cases hik : i = k
 ·subst hik
  refine ⟨fun _ => ⟨x, by omega, ?_⟩, fun _ => ⟨_, updG_same _ _ _⟩⟩
  rw [updG_other _ (by omega)]; exact hj
 ·have e1 : (∃ p, updG G (B (T k) - 1) k p = some i) ↔ ∃ p, G p = some i := by
   constructor
   ·rintro ⟨p, hp⟩
    by_cases hpp : p = B (T k) - 1
    ·subst hpp; rw [updG_same] at hp; cases hp; exact absurd rfl hik
    ·rw [updG_other _ hpp] at hp; exact ⟨p, hp⟩
   ·rintro ⟨p, hp⟩
    have hpp : p ≠ B (T k) - 1 := by rintro rfl; rw [p4] at hp; cases hp
    exact ⟨p, by rw [updG_other _ hpp]; exact hp⟩
  rw [e1, h.f i hi hsi hdi]
  constructor
  ·rintro ⟨q, hq, h2⟩
   exact ⟨q, by omega, by rw [updG_other _ (by omega)]; exact h2⟩
  ·rintro ⟨q, hq, h2⟩
   rw [updG_other _ (by omega)] at h2
   by_cases hqx : q = x
   ·subst hqx
    rw [hj] at h2
    injection h2 with h2
    omega
   ·exact ⟨q, by omega, h2⟩
theorem SInv.start {G : Nat → Option Nat} {B : Int → Nat} (h : SCore T n d0 le G B) (hz : ∀ p j, G p = some j → ¬ St T n j) : SInv T n d0 le n G B := by
 refine ⟨h, fun i hi hs hdi => ?_⟩
 constructor
 ·rintro ⟨p, hp⟩; exact absurd hs (hz _ _ hp)
 ·rintro ⟨q, hq, h2⟩; have := (h.a _ _ h2).1; omega
theorem SInv.all {G : Nat → Option Nat} {B : Int → Nat} (h : SInv T n d0 le 0 G B) : ∀ k, k < n → St T n k → d0 ≤ k → ∃ p, G p = some k := by
 have key : ∀ m k, n - k = m → k < n → St T n k → d0 ≤ k → ∃ p, G p = some k := by
  intro m
  induction m with
  | zero => intro k h1 h2; omega
  | succ m ih =>
   intro k h1 hk hs hd
   have hk1 := hs.lt
   rw [h.f k hk hs hd]
   by_cases hs1 : St T n (k + 1)
   ·obtain ⟨p, hp⟩ := ih (k + 1) (by omega) (by omega) hs1 (by omega)
    exact ⟨p, by omega, hp⟩
   ·obtain ⟨p, hp⟩ := h.z (k + 1) ⟨by omega, hs1, by omega, by rw [Nat.add_sub_cancel]; exact hs, by rw [Nat.add_sub_cancel]; exact hd⟩
    exact ⟨p, by omega, hp⟩
 exact fun k hk hl hd => key _ k rfl hk hl hd
end
end Go.Proofs.YtdhifgedhaapjaaGreatDoor.Sa
namespace Go.Proofs.YtdhifgedhaapjaaGreatDoor.Sa
/-! ### Lists in order -/
def lel : List Int → List Int → Prop
 | [], _ => True
 | _ :: _, [] => False
 | a :: l, b :: l' => a < b ∨ (a = b ∧ lel l l')
def ltl (l l' : List Int) : Prop := ¬ lel l' l
theorem lel_refl : ∀ l, lel l l
 | [] => trivial
 | _ :: l => .inr ⟨rfl, lel_refl l⟩
theorem lel_total : ∀ l l', lel l l' ∨ lel l' l
 | [], _ => .inl trivial
 | _ :: _, [] => .inr trivial
 | a :: l, b :: l' => by
  rcases Int.lt_trichotomy a b with h | h | h
  ·exact .inl (.inl h)
  ·subst h
   exact (lel_total l l').imp (fun h => .inr ⟨rfl, h⟩) (fun h => .inr ⟨rfl, h⟩)
  ·exact .inr (.inl h)
theorem lel_trans : ∀ {a b c}, lel a b → lel b c → lel a c
 | [], _, _, _, _ => trivial
 | _ :: _, [], _, h, _ => h.elim
 | _ :: _, _ :: _, [], _, h => h.elim
 | a :: l, b :: l', c :: l'', h, h' => by
  rcases h with h | ⟨h, h1⟩ <;> rcases h' with h' | ⟨h', h2⟩
  ·exact .inl (by omega)
  ·exact .inl (by omega)
  ·exact .inl (by omega)
  ·exact .inr ⟨by omega, lel_trans h1 h2⟩
theorem lel_antisymm : ∀ {a b}, lel a b → lel b a → a = b
 | [], [], _, _ => rfl
 | [], _ :: _, _, h => h.elim
 | _ :: _, [], h, _ => h.elim
 | a :: l, b :: l', h, h' => by
  rcases h with h | ⟨h, h1⟩ <;> rcases h' with h' | ⟨h', h2⟩
  ·omega
  ·omega
  ·omega
  ·rw [h, lel_antisymm h1 h2]
theorem ltl_le {a b} (h : ltl a b) : lel a b := (lel_total a b).resolve_right h
theorem ltl_irrefl {a} (h : ltl a a) : False := h (lel_refl a)
theorem ltl_of_le_ne {a b} (h : lel a b) (hne : a ≠ b) : ltl a b := fun h' => hne (lel_antisymm h h')
theorem ltl_trans {a b c} (h : ltl a b) (h' : ltl b c) : ltl a c := fun hc => h (lel_trans (ltl_le h') hc)
theorem ltl_nil {a l} : ltl [] (a :: l) := fun h => h
theorem ltl_cons {a b l l'} : ltl (a :: l) (b :: l') ↔ a < b ∨ (a = b ∧ ltl l l') := by
 unfold ltl
 simp only [lel]
 constructor
 ·intro h
  rcases Int.lt_trichotomy a b with h1 | h1 | h1
  ·exact .inl h1
  ·exact .inr ⟨h1, fun h2 => h (.inr ⟨h1.symm, h2⟩)⟩
  ·exact absurd (.inl h1) h
 ·rintro (h | ⟨h, h1⟩) (h2 | ⟨h2, h3⟩)
  ·omega
  ·omega
  ·omega
  ·exact h1 h3
theorem ltl_nil_right {l} : ¬ ltl l [] := fun h => h (by cases l <;> trivial)
/-! ### The rest of a sequence -/
def sufl (f : Nat → Int) (n i : Nat) : List Int := (List.range' i (n - i)).map f
theorem sufl_cons (f : Nat → Int) {n i : Nat} (h : i < n) : sufl f n i = f i :: sufl f n (i + 1) := by
 unfold sufl
 rw [show n - i = (n - (i + 1)) + 1 by omega, List.range'_succ]
 rfl
theorem sufl_nil (f : Nat → Int) {n i : Nat} (h : n ≤ i) : sufl f n i = [] := by
 unfold sufl
 rw [show n - i = 0 by omega]; rfl
theorem sufl_length (f : Nat → Int) (n i : Nat) : (sufl f n i).length = n - i := by simp [sufl]
theorem sufl_ne (f : Nat → Int) {n i j : Nat} (hi : i < n) (hij : i ≠ j) : sufl f n i ≠ sufl f n j := fun h => by
 have := congrArg List.length h
 rw [sufl_length, sufl_length] at this
 omega
theorem sufl_congr {f g : Nat → Int} {n i : Nat} (h : ∀ j, i ≤ j → j < n → f j = g j) : sufl f n i = sufl g n i := by
 unfold sufl
 apply List.map_congr_left
 intro j hj
 rw [List.mem_range'_1] at hj
 exact h j hj.1 (by omega)
section
variable (T : Nat → Int) (n : Nat)
open Classical in
noncomputable def ag (i : Nat) : Int := 2 * T i + if St T n i then 1 else 0
end
section
variable {T : Nat → Int} {n : Nat}
theorem ag_S {i : Nat} (h : St T n i) : ag T n i = 2 * T i + 1 := by simp [ag, h]
theorem ag_L {i : Nat} (h : ¬ St T n i) : ag T n i = 2 * T i := by simp [ag, h]
theorem ag_lt {i j : Nat} (h : T i < T j ∨ (T i = T j ∧ ¬ St T n i ∧ St T n j)) : ag T n i < ag T n j := by
 by_cases hi : St T n i <;> by_cases hj : St T n j
 ·rw [ag_S hi, ag_S hj]; rcases h with h | h
  ·omega
  ·exact absurd hi h.2.1
 ·rw [ag_S hi, ag_L hj]; rcases h with h | h
  ·omega
  ·exact absurd hi h.2.1
 ·rw [ag_L hi, ag_S hj]; rcases h with h | h <;> omega
 ·rw [ag_L hi, ag_L hj]; rcases h with h | h
  ·omega
  ·exact absurd h.2.2 hj
theorem ag_eq {i j : Nat} (h : ag T n i = ag T n j) : T i = T j ∧ (St T n i ↔ St T n j) := by
 by_cases hi : St T n i <;> by_cases hj : St T n j
 ·rw [ag_S hi, ag_S hj] at h; exact ⟨by omega, iff_of_true hi hj⟩
 ·rw [ag_S hi, ag_L hj] at h; omega
 ·rw [ag_L hi, ag_S hj] at h; omega
 ·rw [ag_L hi, ag_L hj] at h; exact ⟨by omega, iff_of_false hi hj⟩
theorem ag_even {i : Nat} : ag T n i % 2 = 0 ↔ ¬ St T n i := by
 by_cases hi : St T n i
 ·rw [ag_S hi]; exact iff_of_false (by omega) (fun h => h hi)
 ·rw [ag_L hi]; exact iff_of_true (by omega) hi
theorem ag_odd {i : Nat} : ag T n i % 2 = 1 ↔ St T n i := by
 by_cases hi : St T n i
 ·rw [ag_S hi]; exact iff_of_true (by omega) hi
 ·rw [ag_L hi]; exact iff_of_false (by omega) hi
end
/-! ### A piece: up to the first odd behind an even -/
def cut : List Int → List Int
 | [] => []
 | [a] => [a]
 | a :: b :: r => if a % 2 = 0 ∧ b % 2 = 1 then [a, b] else a :: cut (b :: r)
def rst : List Int → List Int
 | [] => []
 | [_] => []
 | a :: b :: r => if a % 2 = 0 ∧ b % 2 = 1 then b :: r else rst (b :: r)
theorem cut_cons (b : Int) (r : List Int) : ∃ t, cut (b :: r) = b :: t := by
 cases r with
 | nil => exact ⟨[], rfl⟩
 | cons c r =>
  simp only [cut]
  split
  ·exact ⟨[c], rfl⟩
  ·exact ⟨_, rfl⟩
theorem cut_lt : ∀ (l l' : List Int), (∀ x ∈ l, x % 2 = 0 ∨ x % 2 = 1) → ltl (cut l) (cut l') → ltl l l'
 | [], [], _, h => (ltl_irrefl h).elim
 | [], b :: r, _, _ => ltl_nil
 | a :: r, [], _, h => (ltl_nil_right h).elim
 | [a], b :: r', _, h => by
  obtain ⟨t, ht⟩ := cut_cons b r'
  rw [ht] at h
  simp only [cut] at h
  rw [ltl_cons] at h ⊢
  refine h.imp id fun ⟨h1, h2⟩ => ⟨h1, ?_⟩
  cases r' with
  | nil => simp only [cut, List.cons.injEq, true_and] at ht; rw [← ht] at h2; exact h2
  | cons c r' => exact ltl_nil
 | a :: b :: r, [a'], hp, h => by
  obtain ⟨t, ht⟩ := cut_cons a (b :: r)
  rw [ht] at h
  simp only [cut] at h
  rw [ltl_cons] at h ⊢
  exact h.imp id fun ⟨_, h2⟩ => (ltl_nil_right h2).elim
 | a :: b :: r, a' :: b' :: r', hp, h => by
  have hb := hp b (by simp)
  rw [ltl_cons]
  simp only [cut] at h
  by_cases h1 : a % 2 = 0 ∧ b % 2 = 1
  ·rw [if_pos h1] at h
   by_cases h2 : a' % 2 = 0 ∧ b' % 2 = 1
   ·rw [if_pos h2, ltl_cons] at h
    refine h.imp id fun ⟨g1, g2⟩ => ⟨g1, ?_⟩
    rw [ltl_cons] at g2 ⊢
    exact g2.imp id fun ⟨_, g3⟩ => (ltl_irrefl g3).elim
   ·rw [if_neg h2, ltl_cons] at h
    refine h.imp id fun ⟨g1, g2⟩ => ⟨g1, ?_⟩
    obtain ⟨t, ht⟩ := cut_cons b' r'
    rw [ht, ltl_cons] at g2
    rw [ltl_cons]
    rcases g2 with g2 | ⟨g2, _⟩
    ·exact .inl g2
    ·exact absurd ⟨by omega, by omega⟩ h2
  ·rw [if_neg h1] at h
   by_cases h2 : a' % 2 = 0 ∧ b' % 2 = 1
   ·rw [if_pos h2, ltl_cons] at h
    refine h.imp id fun ⟨g1, g2⟩ => ⟨g1, ?_⟩
    obtain ⟨t, ht⟩ := cut_cons b r
    rw [ht, ltl_cons] at g2
    rw [ltl_cons]
    rcases g2 with g2 | ⟨g2, _⟩
    ·exact .inl g2
    ·exact absurd ⟨by omega, by omega⟩ h1
   ·rw [if_neg h2, ltl_cons] at h
    refine h.imp id fun ⟨g1, g2⟩ => ⟨g1, ?_⟩
    exact cut_lt (b :: r) (b' :: r') (fun x hx => hp x (by simp at hx ⊢; exact .inr hx)) g2
theorem cut_eq_lt : ∀ (l l' : List Int), cut l = cut l' → (ltl (rst l) (rst l') → ltl l l')
 | [], [], _, h => h
 | [], b :: r, h, _ => by obtain ⟨t, ht⟩ := cut_cons b r; rw [ht] at h; cases h
 | a :: r, [], h, _ => by obtain ⟨t, ht⟩ := cut_cons a r; rw [ht] at h; cases h
 | [a], [b], _, h => (ltl_irrefl h).elim
 | [a], b :: c :: r', h, _ => by
  simp only [cut] at h
  split at h
  ·cases h
  ·obtain ⟨t, ht⟩ := cut_cons c r'; rw [ht] at h; cases h
 | a :: b :: r, [a'], h, _ => by
  simp only [cut] at h
  split at h
  ·cases h
  ·obtain ⟨t, ht⟩ := cut_cons b r; rw [ht] at h; cases h
 | a :: b :: r, a' :: b' :: r', h, hr => by
  simp only [cut] at h
  simp only [rst] at hr
  by_cases h1 : a % 2 = 0 ∧ b % 2 = 1
  ·rw [if_pos h1] at h hr
   by_cases h2 : a' % 2 = 0 ∧ b' % 2 = 1
   ·rw [if_pos h2] at h hr
    cases h
    exact ltl_cons.2 (.inr ⟨rfl, hr⟩)
   ·rw [if_neg h2] at h
    obtain ⟨t, ht⟩ := cut_cons b' r'
    rw [ht] at h
    cases h
    exact absurd h1 h2
  ·rw [if_neg h1] at h hr
   by_cases h2 : a' % 2 = 0 ∧ b' % 2 = 1
   ·rw [if_pos h2] at h
    obtain ⟨t, ht⟩ := cut_cons b r
    rw [ht] at h
    cases h
    exact absurd h2 h1
   ·rw [if_neg h2] at h hr
    injection h with h3 h4
    subst h3
    exact ltl_cons.2 (.inr ⟨rfl, cut_eq_lt (b :: r) (b' :: r') h4 hr⟩)
section
variable {T : Nat → Int} {n : Nat}
theorem ag_parity (i : Nat) : ∀ x ∈ sufl (ag T n) n i, x % 2 = 0 ∨ x % 2 = 1 := by
 intro x hx
 omega
theorem plain_LS : ∀ (m i j : Nat), n - i = m → i < n → j < n → T i = T j → ¬ St T n i → St T n j → ltl (sufl T n i) (sufl T n j) := by
 intro m
 induction m with
 | zero => intro i j h1 h2; omega
 | succ m ih =>
  intro i j h1 hi hj he hl hs
  have hj1 := hs.lt
  rw [sufl_cons T hi, sufl_cons T hj, ltl_cons]
  refine .inr ⟨he, ?_⟩
  by_cases hi1 : i + 1 < n
  ·have h2 := L_ge hi1 hl
   have h3 := S_le hs
   by_cases h4 : T (i + 1) < T (j + 1)
   ·rw [sufl_cons T hi1, sufl_cons T hj1, ltl_cons]; exact .inl h4
   ·refine ih (i + 1) (j + 1) (by omega) hi1 hj1 (by omega) ?_ ?_
    ·exact fun h => hl ((St_eq (by omega)).2 h)
    ·exact (St_eq (by omega)).1 hs
  ·rw [sufl_nil T (by omega), sufl_cons T hj1]; exact ltl_nil
theorem plain_of_ag : ∀ (m i j : Nat), n - i = m → ltl (sufl (ag T n) n i) (sufl (ag T n) n j) → ltl (sufl T n i) (sufl T n j) := by
 intro m
 induction m with
 | zero =>
  intro i j h1 h
  have hj : j < n := by
   by_cases hj : j < n
   ·exact hj
   ·rw [sufl_nil _ (show n ≤ j by omega)] at h; exact (ltl_nil_right h).elim
  rw [sufl_nil T (by omega), sufl_cons T hj]; exact ltl_nil
 | succ m ih =>
  intro i j h1 h
  have hi : i < n := by omega
  have hj : j < n := by
   by_cases hj : j < n
   ·exact hj
   ·rw [sufl_nil _ (show n ≤ j by omega)] at h; exact (ltl_nil_right h).elim
  rw [sufl_cons _ hi, sufl_cons _ hj, ltl_cons] at h
  rcases h with h | ⟨h, h2⟩
  ·by_cases h3 : T i < T j
   ·rw [sufl_cons T hi, sufl_cons T hj, ltl_cons]; exact .inl h3
   ·have h4 : T i = T j ∧ ¬ St T n i ∧ St T n j := by
     by_cases hsi : St T n i <;> by_cases hsj : St T n j
     ·rw [ag_S hsi, ag_S hsj] at h; omega
     ·rw [ag_S hsi, ag_L hsj] at h; omega
     ·rw [ag_L hsi, ag_S hsj] at h; exact ⟨by omega, hsi, hsj⟩
     ·rw [ag_L hsi, ag_L hsj] at h; omega
    exact plain_LS _ i j rfl hi hj h4.1 h4.2.1 h4.2.2
  ·rw [sufl_cons T hi, sufl_cons T hj, ltl_cons]
   exact .inr ⟨(ag_eq h).1, ih (i + 1) (j + 1) (by omega) h2⟩
/-! ### The three orders -/
theorem lel_cons {a b : Int} {l l' : List Int} (h : a < b) : lel (a :: l) (b :: l') := .inl h
theorem full_L (d0 : Nat) : LOrd T n d0 (fun i j => lel (sufl (ag T n) n i) (sufl (ag T n) n j)) where
 hA i j hi hj h := by rw [sufl_cons _ hi, sufl_cons _ hj]; exact .inl (ag_lt h)
 hC i k hi hk hsi hsk _ _ he h := by rw [sufl_cons _ hi, sufl_cons _ hk]; exact .inr ⟨by rw [ag_L hsi, ag_L hsk, he], h⟩
 hN j := by rw [sufl_nil _ (Nat.le_refl n)]; trivial
theorem full_S (d0 : Nat) : SOrd T n d0 (fun i j => lel (sufl (ag T n) n i) (sufl (ag T n) n j)) where
 hA i j hi hj h := by rw [sufl_cons _ hi, sufl_cons _ hj]; exact .inl (ag_lt h)
 hC i k hi hk hsi hsk _ _ he h := by rw [sufl_cons _ hi, sufl_cons _ hk]; exact .inr ⟨by rw [ag_S hsi, ag_S hsk, he], h⟩
variable (T n) in
noncomputable def pc (i : Nat) : List Int := cut (sufl (ag T n) n i)
variable (T n) in
open Classical in
noncomputable def pl (i : Nat) : List Int := if Lms T n i then [ag T n i] else pc T n i
theorem pc_head {i : Nat} (h : i < n) : ∃ t, pc T n i = ag T n i :: t := by
 unfold pc; rw [sufl_cons _ h]; exact cut_cons _ _
theorem pc_last {i : Nat} (h : i + 1 = n) : pc T n i = [ag T n i] := by
 unfold pc; rw [sufl_cons _ (by omega), sufl_nil _ (by omega)]; rfl
theorem pc_LS {i : Nat} (h : i + 1 < n) (hl : ¬ St T n i) (hs : St T n (i + 1)) : pc T n i = [ag T n i, ag T n (i + 1)] := by
 unfold pc
 rw [sufl_cons _ (by omega), sufl_cons _ h]
 simp only [cut]
 rw [if_pos ⟨ag_even.2 hl, ag_odd.2 hs⟩]
theorem pc_step {i : Nat} (h : i + 1 < n) (hn : ¬ (¬ St T n i ∧ St T n (i + 1))) : pc T n i = ag T n i :: pc T n (i + 1) := by
 unfold pc
 rw [sufl_cons _ (show i < n by omega), sufl_cons _ h]
 simp only [cut]
 rw [if_neg fun h => hn ⟨ag_even.1 h.1, ag_odd.1 h.2⟩]
theorem lms_succ {i : Nat} : Lms T n (i + 1) ↔ ¬ St T n i ∧ St T n (i + 1) := by
 unfold Lms
 rw [Nat.add_sub_cancel]
 exact ⟨fun h => ⟨h.2.2, h.2.1⟩, fun h => ⟨by omega, h.2, h.1⟩⟩
theorem pl_head {i : Nat} (h : i < n) : ∃ t, pl T n i = ag T n i :: t := by
 unfold pl
 split
 ·exact ⟨_, rfl⟩
 ·exact pc_head h
theorem pl_L {i : Nat} (h : i < n) (hl : ¬ St T n i) : pl T n i = ag T n i :: pl T n (i + 1) := by
 have hli : ¬ Lms T n i := fun h => hl h.2.1
 rw [show pl T n i = pc T n i by unfold pl; rw [if_neg hli]]
 by_cases h1 : i + 1 < n
 ·by_cases hs : St T n (i + 1)
  ·rw [pc_LS h1 hl hs]
   unfold pl
   rw [if_pos (lms_succ.2 ⟨hl, hs⟩)]
  ·rw [pc_step h1 (fun h => hs h.2)]
   unfold pl
   rw [if_neg (fun h => hs h.2.1)]
 ·rw [pc_last (by omega)]
  unfold pl
  rw [if_neg (fun h => by have := h.lt; omega)]
  unfold pc
  rw [sufl_nil _ (by omega)]; rfl
theorem pl_not {i : Nat} (h : ¬ Lms T n i) : pl T n i = pc T n i := by unfold pl; rw [if_neg h]
theorem sub_L (d0 : Nat) : LOrd T n d0 (fun i j => lel (pl T n i) (pl T n j)) where
 hA i j hi hj h := by
  obtain ⟨t, ht⟩ := pl_head (T := T) hi
  obtain ⟨t', ht'⟩ := pl_head (T := T) hj
  rw [ht, ht']; exact .inl (ag_lt h)
 hC i k hi hk hsi hsk _ _ he h := by rw [pl_L hi hsi, pl_L hk hsk]; exact .inr ⟨by rw [ag_L hsi, ag_L hsk, he], h⟩
 hN j := by
  rw [pl_not (fun h => by have := h.lt; omega)]
  unfold pc
  rw [sufl_nil _ (Nat.le_refl n)]; trivial
theorem sub_S (d0 : Nat) : SOrd T n d0 (fun i j => lel (pc T n i) (pc T n j)) where
 hA i j hi hj h := by
  obtain ⟨t, ht⟩ := pc_head (T := T) hi
  obtain ⟨t', ht'⟩ := pc_head (T := T) hj
  rw [ht, ht']; exact .inl (ag_lt h)
 hC i k hi hk hsi hsk _ _ he h := by
  rw [pc_step hsi.lt (fun h => h.1 hsi), pc_step hsk.lt (fun h => h.1 hsk)]; exact .inr ⟨by rw [ag_S hsi, ag_S hsk, he], h⟩
end
end Go.Proofs.YtdhifgedhaapjaaGreatDoor.Sa
namespace Go.Proofs.YtdhifgedhaapjaaGreatDoor.Sa
section
variable (T : Nat → Int) (n : Nat)
structure It (p : Nat) (c0 : Int) (isS : Bool) : Prop where
 le : p ≤ n
 lt : p < n → c0 = T p
 eq : p = n → c0 = 0
 ty : isS = true ↔ St T n p
end
section
variable {T : Nat → Int} {n : Nat}
theorem It.start : It T n n 0 false := ⟨Nat.le_refl _, fun h => absurd h (Nat.lt_irrefl _), fun _ => rfl, ⟨fun h => (by cases h), fun h => by have := h.lt; omega⟩⟩
theorem It.up {q : Nat} {c0 : Int} {isS : Bool} (h : It T n (q + 1) c0 isS) (h0 : 0 ≤ T q) (hlt : T q < c0) : It T n q (T q) true ∧ ¬ Lms T n (q + 1) := by
 have hn : q + 1 < n := by
  rcases Nat.lt_or_ge (q + 1) n with h1 | h1
  ·exact h1
  ·have := h.eq (by have := h.le; omega); omega
 have hs : St T n q := St_of_lt hn (by rw [← h.lt hn]; exact hlt)
 exact ⟨⟨by omega, fun _ => rfl, fun h => by omega, ⟨fun _ => hs, fun _ => rfl⟩⟩, fun hl => hl.2.2 (by rw [Nat.add_sub_cancel]; exact hs)⟩
theorem It.down {q : Nat} {c0 : Int} (h : It T n (q + 1) c0 true) (hgt : T q > c0) : It T n q (T q) false ∧ Lms T n (q + 1) ∧ c0 = T (q + 1) := by
 have hs := h.ty.1 rfl
 have hn := hs.lt
 have hc := h.lt (by omega)
 have hl : ¬ St T n q := not_St_of_gt (by omega)
 exact ⟨⟨by omega, fun _ => rfl, fun h => by omega, ⟨fun h => (by cases h), fun h => absurd h hl⟩⟩, ⟨by omega, hs, by rw [Nat.add_sub_cancel]; exact hl⟩, hc⟩
theorem It.stay {q : Nat} {c0 : Int} {isS : Bool} (h : It T n (q + 1) c0 isS) (h0 : 0 ≤ T q) (hlt : ¬ T q < c0) (hgt : T q > c0 → isS = false) : It T n q (T q) isS ∧ ¬ Lms T n (q + 1) := by
 have hle := h.le
 by_cases hn : q + 1 < n
 ·have hc := h.lt hn
  by_cases hg : T q > c0
  ·have hs := hgt hg
   have hl : ¬ St T n q := not_St_of_gt (by omega)
   have hl1 : ¬ St T n (q + 1) := fun hs' => by rw [h.ty.2 hs'] at hs; cases hs
   exact ⟨⟨by omega, fun _ => rfl, fun h => by omega, by rw [hs]; exact ⟨fun h => (by cases h), fun h => absurd h hl⟩⟩, fun hm => hl1 hm.2.1⟩
  ·have he : T q = T (q + 1) := by omega
   exact ⟨⟨by omega, fun _ => rfl, fun h => by omega, h.ty.trans (St_eq he).symm⟩, fun hm => hm.2.2 (by rw [Nat.add_sub_cancel]; exact (St_eq he).2 hm.2.1)⟩
 ·have hq : q + 1 = n := by omega
  have hl : ¬ St T n q := not_St_last (by omega)
  have hl1 : ¬ St T n (q + 1) := not_St_last (by omega)
  exact ⟨⟨by omega, fun _ => rfl, fun h => by omega, ⟨fun h' => absurd (h.ty.1 h') hl1, fun h' => absurd h' hl⟩⟩, fun hm => hl1 hm.2.1⟩
end
section
variable (T : Nat → Int) (n : Nat)
structure Seeds (d : Nat) (A : Nat → Int) : Prop where
 a : ∀ x, x < n → A x = 0 ∨ ∃ j : Nat, A x = j ∧ Lms T n j ∧ d < j ∧ bs T n (T j) + nL T n (T j) ≤ x ∧ x < bs T n (T j) + cc T n (T j)
 z : ∀ j, Lms T n j → d < j → ∃ x, x < n ∧ A x = j
 d : ∀ x y, x < n → y < n → A x = A y → A x ≠ 0 → x = y
def lmsAfter (p : Nat) (j : Nat) : Prop := Lms T n j ∧ p < j
structure PlInv (p : Nat) (B : Int → Nat) (A : Nat → Int) (num : Nat) (lastB : Int) : Prop where
 a : ∀ x, x < n → A x = 0 ∨ ∃ j : Nat, A x = j ∧ Lms T n j ∧ p < j ∧ B (T j) ≤ x ∧ x < bs T n (T j) + cc T n (T j)
 z : ∀ j, Lms T n j → p < j → ∃ x, x < n ∧ A x = j
 d : ∀ x y, x < n → y < n → A x = A y → A x ≠ 0 → x = y
 b : ∀ i, i < n → B (T i) + cn (fun j => T j = T i ∧ lmsAfter T n p j) n = bs T n (T i) + cc T n (T i)
 nm : num = cn (lmsAfter T n p) n
 last : num = 0 ∨ ∃ x j : Nat, lastB = x ∧ x < n ∧ A x = j ∧ Lms T n j ∧ ∀ j', Lms T n j' → p < j' → j ≤ j'
end
section
variable {T : Nat → Int} {n : Nat}
theorem after_le {p : Nat} (c : Int) : cn (fun j => T j = c ∧ lmsAfter T n p j) n ≤ nS T n c := cn_mono n fun i _ h => ⟨h.1, h.2.1.2.1⟩
theorem PlInv.lo {p : Nat} {B : Int → Nat} {A : Nat → Int} {num : Nat} {lastB : Int} (h : PlInv T n p B A num lastB) {i : Nat} (hi : i < n) : bs T n (T i) + nL T n (T i) ≤ B (T i) := by
 have h1 := h.b i hi
 have h2 := after_le (T := T) (n := n) (p := p) (T i)
 have h3 := cc_split (T := T) (n := n) (T i)
 omega
theorem PlInv.skip {q : Nat} {B : Int → Nat} {A : Nat → Int} {num : Nat} {lastB : Int} (h : PlInv T n (q + 1) B A num lastB) (hl : ¬ Lms T n (q + 1)) : PlInv T n q B A num lastB := by
 have hiff : ∀ j, lmsAfter T n q j ↔ lmsAfter T n (q + 1) j := fun j => by
  unfold lmsAfter
  constructor
  ·rintro ⟨h1, h2⟩
   have : j ≠ q + 1 := by rintro rfl; exact hl h1
   exact ⟨h1, by omega⟩
  ·rintro ⟨h1, h2⟩
   exact ⟨h1, by omega⟩
 refine ⟨fun x hx => ?_, fun j h1 h2 => h.z j h1 ((hiff j).1 ⟨h1, h2⟩).2, h.d, fun i hi => ?_, ?_, ?_⟩
 ·rcases h.a x hx with h1 | ⟨j, h1, h2, h3, h4⟩
  ·exact .inl h1
  ·exact .inr ⟨j, h1, h2, by omega, h4⟩
 ·rw [← h.b i hi]
  congr 1
  exact cn_congr n fun j _ => by rw [hiff]
 ·rw [h.nm]; exact (cn_congr n fun j _ => hiff j).symm
 ·rcases h.last with h1 | ⟨x, j, h1, h2, h3, h4, h5⟩
  ·exact .inl h1
  ·exact .inr ⟨x, j, h1, h2, h3, h4, fun j' g1 g2 => h5 j' g1 ((hiff j').1 ⟨g1, g2⟩).2⟩
theorem PlInv.step {q : Nat} {B : Int → Nat} {A : Nat → Int} {num : Nat} {lastB : Int} (h : PlInv T n (q + 1) B A num lastB) (hl : Lms T n (q + 1)) :
  bs T n (T (q + 1)) + nL T n (T (q + 1)) < B (T (q + 1)) ∧ B (T (q + 1)) ≤ n ∧
  PlInv T n q (updB B (T (q + 1)) (B (T (q + 1)) - 1)) (fun y => if y = B (T (q + 1)) - 1 then ((q + 1 : Nat) : Int) else A y) (num + 1) ((B (T (q + 1)) - 1 : Nat) : Int) := by
 have hn := hl.lt
 have hq : q + 1 < n := by omega
 have hb := h.b (q + 1) hq
 have hcc := cc_split (T := T) (n := n) (T (q + 1))
 have hbn := bs_succ (T := T) (n := n) (T (q + 1))
 have hbl := bs_le (T := T) (n := n) (T (q + 1) + 1)
 have hcount : ∀ c, cn (fun j => T j = c ∧ lmsAfter T n q j) n = cn (fun j => T j = c ∧ lmsAfter T n (q + 1) j) n + if T (q + 1) = c then 1 else 0 := by
  intro c
  rw [cn_add (P := fun j => T j = c ∧ lmsAfter T n (q + 1) j) (Q := fun j => j = q + 1 ∧ T (q + 1) = c) n]
  ·congr 1
   by_cases hc : T (q + 1) = c
   ·rw [if_pos hc]
    refine Nat.le_antisymm ?_ (cn_pos hq ⟨rfl, hc⟩)
    exact pigeon n 1 (fun _ => 0) (fun _ _ _ => by omega) (fun u v _ _ hu hv _ => by omega)
   ·rw [if_neg hc]
    exact cn_zero n fun i _ h => hc h.2
  ·intro j _
   unfold lmsAfter
   constructor
   ·rintro ⟨h1, h2, h3⟩
    by_cases hj : j = q + 1
    ·exact .inr ⟨hj, hj ▸ h1⟩
    ·exact .inl ⟨h1, h2, by omega⟩
   ·rintro (⟨h1, h2, h3⟩ | ⟨rfl, h1⟩)
    ·exact ⟨h1, h2, by omega⟩
    ·exact ⟨h1, hl, by omega⟩
  ·rintro j _ ⟨⟨_, _, h3⟩, h4, _⟩; omega
 have hroom : bs T n (T (q + 1)) + nL T n (T (q + 1)) < B (T (q + 1)) := by
  have h1 := after_le (T := T) (n := n) (p := q) (T (q + 1))
  have h2 := hcount (T (q + 1))
  rw [if_pos rfl] at h2
  omega
 obtain ⟨x, hx⟩ : ∃ x, B (T (q + 1)) = x + 1 := ⟨B (T (q + 1)) - 1, by omega⟩
 rw [hx] at hroom hb ⊢
 rw [Nat.add_sub_cancel]
 have hzero : A x = 0 := by
  rcases h.a x (by omega) with h1 | ⟨j, h1, h2, h3, h4, h5⟩
  ·exact h1
  ·have hj := h2.lt
   have hlo := h.lo (i := j) (by omega)
   have := bucket_eq (T := T) (n := n) (c := T j) (d := T (q + 1)) (p := x) (by omega) (by omega) (by omega) (by omega)
   rw [this, hx] at h4; omega
 have hbk : ∀ i, i < n → updB B (T (q + 1)) x (T i) ≤ B (T i) := fun i hi => by
  by_cases hT : T i = T (q + 1)
  ·rw [hT, updB_same, hx]; omega
  ·rw [updB_other _ hT]; exact Nat.le_refl _
 refine ⟨by omega, by omega, fun y hy => ?_, fun j h1 h2 => ?_, fun y z hy hz he hne => ?_, fun i hi => ?_, ?_, .inr ⟨x, q + 1, rfl, by omega, by simp, hl, fun j' _ h2 => by omega⟩⟩
 ·by_cases hyx : y = x
  ·subst hyx
   simp only [if_true]
   refine .inr ⟨q + 1, rfl, hl, by omega, ?_, by omega⟩
   rw [updB_same]; omega
  ·simp only [hyx, if_false]
   rcases h.a y hy with h1 | ⟨j, h1, h2, h3, h4, h5⟩
   ·exact .inl h1
   ·exact .inr ⟨j, h1, h2, by omega, Nat.le_trans (hbk j (by have := h2.lt; omega)) h4, h5⟩
 ·by_cases hj : j = q + 1
  ·subst hj; exact ⟨x, by omega, by simp⟩
  ·obtain ⟨y, hy, he⟩ := h.z j h1 (by omega)
   have hyx : y ≠ x := by rintro rfl; rw [hzero] at he; have := h1.1; omega
   exact ⟨y, hy, by simp only [hyx, if_false]; exact he⟩
 ·have hnew : ∀ y, y < n → y ≠ x → A y ≠ ((q + 1 : Nat) : Int) := fun y hy hyx he => by
   rcases h.a y hy with h1 | ⟨j, h1, _, h3, _⟩
   ·rw [h1] at he; omega
   ·rw [h1] at he; omega
  by_cases hyx : y = x <;> by_cases hzx : z = x
  ·omega
  ·simp only [hyx, hzx, if_true, if_false] at he
   exact absurd he.symm (hnew z hz hzx)
  ·simp only [hyx, hzx, if_true, if_false] at he
   exact absurd he (hnew y hy hyx)
  ·simp only [hyx, hzx, if_false] at he hne
   exact h.d y z hy hz he hne
 ·rw [hcount]
  have hbi := h.b i hi
  by_cases hT : T i = T (q + 1)
  ·rw [hT] at hbi ⊢
   rw [updB_same, if_pos rfl]; rw [hx] at hbi; omega
  ·rw [updB_other _ hT, if_neg (fun e => hT e.symm)]; exact hbi
 ·rw [h.nm]
  rw [cn_add (P := lmsAfter T n (q + 1)) (Q := fun j => j = q + 1) (R := lmsAfter T n q) n]
  ·congr 1
   refine Nat.le_antisymm (cn_pos hq rfl) ?_
   exact pigeon n 1 (fun _ => 0) (fun _ _ _ => by omega) (fun u v _ _ hu hv _ => by omega)
  ·intro j _
   unfold lmsAfter
   constructor
   ·rintro ⟨h2, h3⟩
    by_cases hj : j = q + 1
    ·exact .inr hj
    ·exact .inl ⟨h2, by omega⟩
   ·rintro (⟨h2, h3⟩ | rfl)
    ·exact ⟨h2, by omega⟩
    ·exact ⟨hl, by omega⟩
  ·rintro j _ ⟨⟨_, h3⟩, h4⟩; omega
variable (T n) in
noncomputable def nlms : Nat := cn (Lms T n) n
theorem PlInv.start {B : Int → Nat} {A : Nat → Int} (hA : ∀ x, x < n → A x = 0) (hB : ∀ i, i < n → B (T i) = bs T n (T i) + cc T n (T i)) {l : Int} : PlInv T n n B A 0 l := by
 have hno : ∀ j, j < n → ¬ lmsAfter T n n j := fun j hj h => by have := h.2; omega
 refine ⟨fun x hx => .inl (hA x hx), fun j h1 h2 => by have := h1.lt; omega, fun x y hx _ _ hne => absurd (hA x hx) hne, fun i hi => ?_, ?_, .inl rfl⟩
 ·rw [cn_zero n fun j hj h => hno j hj h.2]; exact hB i hi
 ·exact (cn_zero n hno).symm
theorem PlInv.fin {B : Int → Nat} {A : Nat → Int} {num : Nat} {l : Int} (h : PlInv T n 0 B A num l) : num = nlms T n ∧ Seeds T n 0 A := by
 refine ⟨?_, fun x hx => ?_, h.z, h.d⟩
 ·rw [h.nm]; exact cn_congr n fun j _ => ⟨fun h => h.1, fun h => ⟨h, h.1⟩⟩
 ·rcases h.a x hx with h1 | ⟨j, h1, h2, h3, h4, h5⟩
  ·exact .inl h1
  ·exact .inr ⟨j, h1, h2, h3, Nat.le_trans (h.lo (by have := h2.lt; omega)) h4, h5⟩
theorem PlInv.drop {B : Int → Nat} {A : Nat → Int} {num : Nat} {l : Int} (h : PlInv T n 0 B A num l) (h1 : 1 ≤ num) :
  ∃ x j : Nat, l = x ∧ x < n ∧ Lms T n j ∧ (∀ j', Lms T n j' → j ≤ j') ∧ Seeds T n j (fun y => if y = x then 0 else A y) := by
 rcases h.last with h2 | ⟨x, j, h2, h3, h4, h5, h6⟩
 ·omega
 refine ⟨x, j, h2, h3, h5, fun j' hj' => h6 j' hj' hj'.1, fun y hy => ?_, fun j' g1 g2 => ?_, fun y z hy hz he hne => ?_⟩
 ·by_cases hyx : y = x
  ·subst hyx; simp
  ·simp only [hyx, if_false]
   rcases h.fin.2.a y hy with g1 | ⟨j', g1, g2, g3, g4⟩
   ·exact .inl g1
   ·refine .inr ⟨j', g1, g2, ?_, g4⟩
    have := h6 j' g2 g3
    have hne : j' ≠ j := by
     rintro rfl
     exact hyx (h.d y x hy h3 (g1.trans h4.symm) (by rw [g1]; have := g2.1; omega))
    omega
 ·obtain ⟨y, hy, he⟩ := h.z j' g1 (by have := g1.1; omega)
  have hyx : y ≠ x := by rintro rfl; rw [h4] at he; omega
  exact ⟨y, hy, by simp only [hyx, if_false]; exact he⟩
 ·by_cases hyx : y = x
  ·subst hyx; simp at hne
  ·by_cases hzx : z = x
   ·subst hzx
    simp only [hyx, if_false, if_true] at he hne
    exact absurd he hne
   ·simp only [hyx, hzx, if_false] at he hne
    exact h.d y z hy hz he hne
theorem PlInv.congr {p : Nat} {B B' : Int → Nat} {A A' : Nat → Int} {num : Nat} {l : Int} (h : PlInv T n p B A num l) (hA : ∀ x, x < n → A' x = A x) (hB : ∀ i, i < n → B' (T i) = B (T i)) :
  PlInv T n p B' A' num l := by
 refine ⟨fun x hx => ?_, fun j h1 h2 => ?_, fun x y hx hy he hne => ?_, fun i hi => ?_, h.nm, ?_⟩
 ·rw [hA x hx]
  rcases h.a x hx with h1 | ⟨j, h1, h2, h3, h4⟩
  ·exact .inl h1
  ·exact .inr ⟨j, h1, h2, h3, by rw [hB j (by have := h2.lt; omega)]; exact h4⟩
 ·obtain ⟨x, hx, he⟩ := h.z j h1 h2
  exact ⟨x, hx, by rw [hA x hx]; exact he⟩
 ·rw [hA x hx, hA y hy] at he
  rw [hA x hx] at hne
  exact h.d x y hx hy he hne
 ·rw [hB i hi]; exact h.b i hi
 ·rcases h.last with h1 | ⟨x, j, h1, h2, h3, h4⟩
  ·exact .inl h1
  ·exact .inr ⟨x, j, h1, h2, by rw [hA x h2]; exact h3, h4⟩
theorem Seeds.congr {d : Nat} {A A' : Nat → Int} (h : Seeds T n d A) (hA : ∀ x, x < n → A' x = A x) : Seeds T n d A' := by
 refine ⟨fun x hx => ?_, fun j h1 h2 => ?_, fun x y hx hy he hne => ?_⟩
 ·rw [hA x hx]; exact h.a x hx
 ·obtain ⟨x, hx, he⟩ := h.z j h1 h2
  exact ⟨x, hx, by rw [hA x hx]; exact he⟩
 ·rw [hA x hx, hA y hy] at he
  rw [hA x hx] at hne
  exact h.d x y hx hy he hne
end
end Go.Proofs.YtdhifgedhaapjaaGreatDoor.Sa
namespace Go.Proofs.YtdhifgedhaapjaaGreatDoor.Sa
section
variable (T : Nat → Int) (n : Nat)
def Lefty (j : Nat) : Prop := ¬ St T n j ∧ St T n (j - 1)
open Classical in
noncomputable def eL (done : Prop) (g : Option Nat) : Int :=
 match g with
 | none => 0
 | some j => if Lefty T n j then (if done then (j : Int) else -(j : Int)) else (if done then 0 else (j : Int))
def RelL (x : Nat) (G : Nat → Option Nat) (A : Nat → Int) : Prop := ∀ p, p < n → A p = eL T n (p < x) (G p)
structure Tops (d : Nat) (A : Nat → Int) : Prop where
 a : ∀ x, x < n → A x = 0 ∨ ∃ j : Nat, A x = j ∧ Top T n d j ∧ bs T n (T j) ≤ x ∧ x < bs T n (T j) + nL T n (T j)
 z : ∀ j, Top T n d j → ∃ x, x < n ∧ A x = j
 d : ∀ x y, x < n → y < n → A x = A y → A x ≠ 0 → x = y
 e : ∀ x y (i j : Nat), x < y → y < n → A x = i → A y = j → A x ≠ 0 → A y ≠ 0 → lel (pc T n i) (pc T n j)
end
section
variable {T : Nat → Int} {n : Nat}
theorem eL_none {done : Prop} : eL T n done none = 0 := rfl
theorem eL_lefty_done {done : Prop} {j : Nat} (h : Lefty T n j) (hd : done) : eL T n done (some j) = j := by simp [eL, h, hd]
theorem eL_lefty {done : Prop} {j : Nat} (h : Lefty T n j) (hd : ¬ done) : eL T n done (some j) = -(j : Int) := by simp [eL, h, hd]
theorem eL_other_done {done : Prop} {j : Nat} (h : ¬ Lefty T n j) (hd : done) : eL T n done (some j) = 0 := by simp [eL, h, hd]
theorem eL_other {done : Prop} {j : Nat} (h : ¬ Lefty T n j) (hd : ¬ done) : eL T n done (some j) = j := by simp [eL, h, hd]
theorem eL_congr {done done' : Prop} (h : done ↔ done') (g : Option Nat) : eL T n done g = eL T n done' g := by
 rw [propext h]
theorem LCore.pos {d0 : Nat} {le : Nat → Nat → Prop} {G : Nat → Option Nat} {B : Int → Nat} (h : LCore T n d0 le G B) (h1 : 1 ≤ d0) {p j : Nat} (hp : G p = some j) : 1 ≤ j := by
 rcases (h.a p j hp).2.2 with g | g
 ·exact g.1.1
 ·omega
section
variable {d0 : Nat} {le : Nat → Nat → Prop} {x : Nat} {G : Nat → Option Nat} {B : Int → Nat} {A : Nat → Int}
theorem subL_zero (h1 : 1 ≤ d0) (h : LInv T n d0 le x G B) (hr : RelL T n x G A) (hx : x < n) (h0 : A x = 0) : LInv T n d0 le (x + 1) G B ∧ RelL T n (x + 1) G A := by
 have hg : G x = none := by
  cases hg : G x with
  | none => rfl
  | some j =>
   have hj := h.pos h1 hg
   have := hr x hx
   rw [hg] at this
   by_cases hl : Lefty T n j
   ·rw [eL_lefty hl (Nat.lt_irrefl x)] at this; omega
   ·rw [eL_other hl (Nat.lt_irrefl x)] at this; omega
 refine ⟨h.skip (fun j hj => by rw [hg] at hj; cases hj), fun p hp => ?_⟩
 rw [hr p hp]
 by_cases hpx : p = x
 ·subst hpx; rw [hg]; rfl
 ·exact eL_congr (by omega) _
theorem subL_neg (h1 : 1 ≤ d0) (h : LInv T n d0 le x G B) (hr : RelL T n x G A) (hx : x < n) (h0 : A x < 0) :
  -(n : Int) < A x ∧ LInv T n d0 le (x + 1) G B ∧ RelL T n (x + 1) G (fun y => if y = x then -(A x) else A y) := by
 have hrx := hr x hx
 cases hg : G x with
 | none => rw [hg, eL_none] at hrx; omega
 | some j =>
  rw [hg] at hrx
  have hj := h.pos h1 hg
  have hjn := (h.a x j hg).2.1
  by_cases hl : Lefty T n j
  ·rw [eL_lefty hl (Nat.lt_irrefl x)] at hrx
   refine ⟨by omega, h.skip (fun j' hj' => ?_), fun p hp => ?_⟩
   ·rw [hg] at hj'; cases hj'
    exact fun h => h.2.1 hl.2
   ·by_cases hpx : p = x
    ·subst hpx
     simp only [if_true]
     rw [hg, eL_lefty_done hl (by omega), hrx]; omega
    ·simp only [hpx, if_false]
     rw [hr p hp]
     exact eL_congr (by omega) _
  ·rw [eL_other hl (Nat.lt_irrefl x)] at hrx; omega
theorem subL_pos (ho : LOrd T n d0 le) (h1 : 1 ≤ d0) (hs : St T n (d0 - 1)) (h : LInv T n d0 le x G B) (hr : RelL T n x G A) (hx : x < n) (h0 : 0 < A x) :
  ∃ k : Nat, A x = ((k + 1 : Nat) : Int) ∧ 1 ≤ k ∧ k + 1 < n + 1 ∧ k < n ∧ x < B (T k) ∧ B (T k) < n ∧ bs T n (T k) + nL T n (T k) ≤ n ∧
   LInv T n d0 le (x + 1) (updG G (B (T k)) k) (updB B (T k) (B (T k) + 1)) ∧
   RelL T n (x + 1) (updG G (B (T k)) k) (fun y => if y = B (T k) then (if T (k - 1) < T k then 0 - (k : Int) else (k : Int)) else if y = x then 0 else A y) := by
 have hrx := hr x hx
 cases hg : G x with
 | none => rw [hg, eL_none] at hrx; omega
 | some j =>
  rw [hg] at hrx
  have hj := h.pos h1 hg
  obtain ⟨_, hjn, hcase⟩ := h.a x j hg
  by_cases hl : Lefty T n j
  ·rw [eL_lefty hl (Nat.lt_irrefl x)] at hrx; omega
  ·rw [eL_other hl (Nat.lt_irrefl x)] at hrx
   have hk : ¬ St T n (j - 1) ∧ d0 ≤ j - 1 := by
    rcases hcase with g | g
    ·exact ⟨g.1.2.2, by omega⟩
    ·have hns : ¬ St T n (j - 1) := fun hs' => hl ⟨g.1, hs'⟩
     have : j ≠ d0 := by rintro rfl; exact hns hs
     exact ⟨hns, by omega⟩
   obtain ⟨g1, g2, g3, g4, g5, g6⟩ := h.step ho hg hj hk.1 hk.2
   obtain ⟨k, rfl⟩ : ∃ k, j = k + 1 := ⟨j - 1, by omega⟩
   rw [Nat.add_sub_cancel] at hk g1 g2 g3 g4 g5 g6
   have hcc := cc_split (T := T) (n := n) (T k)
   have hbn := bs_succ (T := T) (n := n) (T k)
   have hbl := bs_le (T := T) (n := n) (T k + 1)
   refine ⟨k, hrx, by omega, by omega, by omega, g1, g2, by omega, g6, fun p hp => ?_⟩
   have hpred := St_pred_L (T := T) (n := n) (k := k) (by omega) (by omega) hk.1
   by_cases hpb : p = B (T k)
   ·subst hpb
    simp only [if_true]
    rw [updG_same]
    by_cases hlt : T (k - 1) < T k
    ·rw [if_pos hlt, eL_lefty ⟨hk.1, hpred.2 hlt⟩ (by omega)]; omega
    ·rw [if_neg hlt, eL_other (fun h => hlt (hpred.1 h.2)) (by omega)]
   ·simp only [hpb, if_false]
    rw [updG_other _ hpb]
    by_cases hpx : p = x
    ·subst hpx
     simp only [if_true]
     rw [hg, eL_other_done hl (by omega)]
    ·simp only [hpx, if_false]
     rw [hr p hp]
     exact eL_congr (by omega) _
theorem RelL.congr {A' : Nat → Int} (h : RelL T n x G A) (hA : ∀ p, p < n → A' p = A p) : RelL T n x G A' := fun p hp => (hA p hp).trans (h p hp)
end
theorem seeds_core {d d0 : Nat} (hdd : ∀ j, Lms T n j → (d < j ↔ d0 < j)) {A : Nat → Int} {B : Int → Nat} (hs : Seeds T n d A) (hB : ∀ i, i < n → B (T i) = bs T n (T i)) :
  LCore T n d0 (fun i j => lel (pl T n i) (pl T n j)) (fun p => if p < n then (if A p = 0 then none else some (A p).toNat) else none) B := by
 have key : ∀ p j, (if p < n then (if A p = 0 then none else some (A p).toNat) else none) = some j → p < n ∧ A p = j ∧ Lms T n j ∧ d < j ∧ bs T n (T j) + nL T n (T j) ≤ p ∧ p < bs T n (T j) + cc T n (T j) := by
  intro p j hp
  by_cases hpn : p < n
  ·rw [if_pos hpn] at hp
   rcases hs.a p hpn with h0 | ⟨i, h1, h2, h3, h4, h5⟩
   ·rw [if_pos h0] at hp; cases hp
   ·rw [if_neg (by rw [h1]; have := h2.1; omega)] at hp
    injection hp with hp
    rw [h1] at hp
    have : i = j := by omega
    subst this
    exact ⟨hpn, h1, h2, h3, h4, h5⟩
  ·rw [if_neg hpn] at hp; cases hp
 refine ⟨fun p j hp => ?_, fun i p hi h1 h2 => ?_, fun i hi => ?_, fun p q j hp hq => ?_, fun p q i j hpq hp hq => ?_, fun j hj hd => ?_⟩
 ·obtain ⟨h1, _, h2, h3, h4⟩ := key p j hp
  exact ⟨h1, by have := h2.lt; omega, .inl ⟨h2, (hdd j h2).1 h3, h4⟩⟩
 ·rw [hB i hi] at h2; omega
 ·rw [hB i hi]; omega
 ·obtain ⟨h1, h2, h3, _⟩ := key p j hp
  obtain ⟨h4, h5, _⟩ := key q j hq
  exact hs.d p q h1 h4 (h2.trans h5.symm) (by rw [h2]; have := h3.1; omega)
 ·obtain ⟨h1, h2, h3, h4, h5, h6⟩ := key p i hp
  obtain ⟨g1, g2, g3, g4, g5, g6⟩ := key q j hq
  have hle : T i ≤ T j := bucket_lt (T := T) (n := n) (p := p) (q := q) (by omega) g6 (by omega)
  unfold pl
  rw [if_pos h3, if_pos g3, ag_S h3.2.1, ag_S g3.2.1]
  rcases Int.lt_or_eq_of_le hle with h | h
  ·exact .inl (by omega)
  ·exact .inr ⟨by omega, trivial⟩
 ·obtain ⟨p, hp, he⟩ := hs.z j hj ((hdd j hj).2 hd)
  refine ⟨p, ?_⟩
  rw [if_pos hp, if_neg (by rw [he]; have := hj.1; omega), he]; simp
theorem seeds_rel {d : Nat} {A : Nat → Int} (hs : Seeds T n d A) : RelL T n 0 (fun p => if p < n then (if A p = 0 then none else some (A p).toNat) else none) A := by
 intro p hp
 show A p = eL T n (p < 0) (if p < n then (if A p = 0 then none else some (A p).toNat) else none)
 rw [if_pos hp]
 rcases hs.a p hp with h0 | ⟨j, h1, h2, _⟩
 ·rw [if_pos h0, h0]; rfl
 ·rw [if_neg (by rw [h1]; have := h2.1; omega), h1]
  rw [Int.toNat_natCast, eL_other (fun h => h.1 h2.2.1) (by omega)]
theorem subL_start {d : Nat} (hsd : St T n d) {A : Nat → Int} {B : Int → Nat} (hs : Seeds T n d A) (hB : ∀ i, i < n → B (T i) = bs T n (T i)) :
  2 ≤ n ∧ B (T (n - 1)) < n ∧ ∃ G, LInv T n (d + 1) (fun i j => lel (pl T n i) (pl T n j)) 0 G (updB B (T (n - 1)) (B (T (n - 1)) + 1)) ∧
   RelL T n 0 G (fun y => if y = B (T (n - 1)) then (if T (n - 1 - 1) < T (n - 1) then 0 - ((n - 1 : Nat) : Int) else ((n - 1 : Nat) : Int)) else A y) := by
 have hdn := hsd.lt
 have hl : ¬ St T n (n - 1) := not_St_last (by omega)
 have hdd : ∀ j, Lms T n j → (d < j ↔ d + 1 < j) := fun j hj => by
  have : j ≠ d + 1 := by rintro rfl; exact hj.2.2 (by rw [Nat.add_sub_cancel]; exact hsd)
  omega
 have hc := seeds_core hdd hs hB
 have hr := seeds_rel hs
 obtain ⟨g1, g2, g3, g4, g5⟩ := LInv.start (sub_L (d + 1)) hc (by omega) (by omega) (fun p j hp => by
  by_cases hpn : p < n
  ·rw [if_pos hpn] at hp
   rcases hs.a p hpn with h0 | ⟨i, h1, h2, _⟩
   ·rw [if_pos h0] at hp; cases hp
   ·rw [if_neg (by rw [h1]; have := h2.1; omega), h1] at hp
    injection hp with hp
    have : i = j := by omega
    exact this ▸ h2
  ·rw [if_neg hpn] at hp; cases hp)
 refine ⟨by omega, g3, _, g5, fun p hp => ?_⟩
 have hpred := St_pred_L (T := T) (n := n) (k := n - 1) (by omega) (by omega) hl
 by_cases hpb : p = B (T (n - 1))
 ·subst hpb
  simp only [if_true]
  rw [updG_same]
  by_cases hlt : T (n - 1 - 1) < T (n - 1)
  ·rw [if_pos hlt, eL_lefty ⟨hl, hpred.2 hlt⟩ (by omega)]; omega
  ·rw [if_neg hlt, eL_other (fun h => hlt (hpred.1 h.2)) (by omega)]
 ·simp only [hpb, if_false]
  rw [updG_other _ hpb]
  exact hr p hp
theorem subL_fin {d : Nat} (hsd : St T n d) {G : Nat → Option Nat} {B : Int → Nat} {A : Nat → Int} (h : LInv T n (d + 1) (fun i j => lel (pl T n i) (pl T n j)) n G B) (hr : RelL T n n G A) : Tops T n d A := by
 have key : ∀ p j, p < n → G p = some j → Lefty T n j → A p = (j : Int) := fun p j hp hg hl => by rw [hr p hp, hg, eL_lefty_done hl hp]
 have inv : ∀ p, p < n → A p ≠ 0 → ∃ j, G p = some j ∧ Lefty T n j ∧ A p = (j : Int) ∧ d + 1 ≤ j ∧ j < n ∧ bs T n (T j) ≤ p ∧ p < bs T n (T j) + nL T n (T j) := by
  intro p hp hne
  have := hr p hp
  cases hg : G p with
  | none => rw [hg] at this; exact absurd this hne
  | some j =>
   by_cases hl : Lefty T n j
   ·obtain ⟨_, h2, h3⟩ := h.a p j hg
    rcases h3 with h3 | h3
    ·exact absurd h3.1.2.1 hl.1
    ·have := h.c j h2
     exact ⟨j, rfl, hl, key p j hp hg hl, h3.2.1, h2, h3.2.2.1, by omega⟩
   ·rw [hg, eL_other_done hl hp] at this; exact absurd this hne
 refine ⟨fun p hp => ?_, fun j hj => ?_, fun p q hp hq he hne => ?_, fun p q i j hpq hq hi hj hne hne' => ?_⟩
 ·by_cases hne : A p = 0
  ·exact .inl hne
  ·obtain ⟨j, hg, hl, he, h1, h2, h3, h4⟩ := inv p hp hne
   exact .inr ⟨j, he, ⟨h2, hl.1, by omega, hl.2, by omega⟩, h3, h4⟩
 ·obtain ⟨h1, h2, h3, h4, h5⟩ := hj
  obtain ⟨p, hp⟩ := h.all j h1 h2 (by omega)
  have hpn := (h.a p j hp).1
  exact ⟨p, hpn, key p j hpn hp ⟨h2, h4⟩⟩
 ·obtain ⟨j, hg, _, he1, _⟩ := inv p hp hne
  obtain ⟨j', hg', _, he2, _⟩ := inv q hq (by rw [← he]; exact hne)
  have : j = j' := by omega
  subst this
  exact h.d p q j hg hg'
 ·obtain ⟨i', hg, hl, he1, _⟩ := inv p (by omega) hne
  obtain ⟨j', hg', hl', he2, _⟩ := inv q hq hne'
  have e1 : i' = i := by omega
  have e2 : j' = j := by omega
  subst e1; subst e2
  have := h.e p q _ _ hpq hg hg'
  rw [pl_not (fun h => hl.1 h.2.1), pl_not (fun h => hl'.1 h.2.1)] at this
  exact this
end
end Go.Proofs.YtdhifgedhaapjaaGreatDoor.Sa
namespace Go.Proofs.YtdhifgedhaapjaaGreatDoor.Sa
section
variable (T : Nat → Int) (n : Nat)
open Classical in
noncomputable def eS (g : Option Nat) : Int :=
 match g with
 | none => 0
 | some j => if Lms T n j then -(j : Int) else (j : Int)
structure RelS (x top : Nat) (G : Nat → Option Nat) (A : Nat → Int) : Prop where
 xt : x ≤ top
 tn : top ≤ n
 lo : ∀ p, p < x → A p = eS T n (G p)
 mid : ∀ p, x ≤ p → p < top → A p = 0
 r1 : ∀ u, top ≤ u → u < n → ∃ k q : Nat, A u = k ∧ Lms T n k ∧ x ≤ q ∧ G q = some k
 r2 : ∀ q k, x ≤ q → G q = some k → Lms T n k → ∃ u, top ≤ u ∧ u < n ∧ A u = (k : Int)
 r3 : ∀ u v, top ≤ u → u < v → v < n → ∃ q q' k k' : Nat, x ≤ q ∧ q < q' ∧ G q = some k ∧ G q' = some k' ∧ A u = k ∧ A v = k'
structure Sub (A : Nat → Int) : Prop where
 lo : ∀ p, p < n - nlms T n → A p = 0
 a : ∀ u, n - nlms T n ≤ u → u < n → ∃ k : Nat, A u = k ∧ Lms T n k
 z : ∀ k, Lms T n k → ∃ u, n - nlms T n ≤ u ∧ u < n ∧ A u = (k : Int)
 d : ∀ u v, n - nlms T n ≤ u → u < v → v < n → A u ≠ A v
 e : ∀ u v (i j : Nat), n - nlms T n ≤ u → u < v → v < n → A u = i → A v = j → lel (pc T n i) (pc T n j)
end
section
variable {T : Nat → Int} {n : Nat}
theorem eS_lms {j : Nat} (h : Lms T n j) : eS T n (some j) = -(j : Int) := by simp [eS, h]
theorem eS_other {j : Nat} (h : ¬ Lms T n j) : eS T n (some j) = (j : Int) := by simp [eS, h]
section
variable {d : Nat} {le : Nat → Nat → Prop} {x top : Nat} {G : Nat → Option Nat} {B : Int → Nat} {A : Nat → Int}
theorem SCore.pos (h : SCore T n d le G B) (h1 : 1 ≤ d) (hz : ∀ p j, G p = some j → ¬ St T n j → Top T n d j) {p j : Nat} (hp : G p = some j) : 1 ≤ j := by
 rcases (h.a p j hp).2.2 with g | g
 ·exact (hz p j hp g.1).2.2.1
 ·omega
theorem subS_zero (h1 : 1 ≤ d) (hz : ∀ p j, G p = some j → ¬ St T n j → Top T n d j) (h : SInv T n d le (x + 1) G B) (hr : RelS T n (x + 1) top G A) (h0 : A x = 0) :
  SInv T n d le x G B ∧ RelS T n x top G A := by
 have hg : G x = none := by
  cases hg : G x with
  | none => rfl
  | some j =>
   have hj := h.pos h1 hz hg
   have := hr.lo x (by omega)
   rw [hg] at this
   by_cases hl : Lms T n j
   ·rw [eS_lms hl] at this; omega
   ·rw [eS_other hl] at this; omega
 refine ⟨h.skip (fun j hj => by rw [hg] at hj; cases hj), by have := hr.xt; omega, hr.tn, fun p hp => hr.lo p (by omega), fun p hp1 hp2 => ?_, fun u hu1 hu2 => ?_, fun q k hq hk hl => ?_, fun u v a1 a2 a3 => ?_⟩
 ·by_cases hpx : p = x
  ·subst hpx; exact h0
  ·exact hr.mid p (by omega) hp2
 ·obtain ⟨k, q, e1, e2, e3, e4⟩ := hr.r1 u hu1 hu2
  exact ⟨k, q, e1, e2, by omega, e4⟩
 ·have : q ≠ x := by rintro rfl; rw [hg] at hk; cases hk
  exact hr.r2 q k (by omega) hk hl
 ·obtain ⟨q, q', k, k', e1, e2, e3⟩ := hr.r3 u v a1 a2 a3
  exact ⟨q, q', k, k', by omega, e2, e3⟩
theorem subS_neg (h : SInv T n d le (x + 1) G B) (hr : RelS T n (x + 1) top G A) (h0 : A x < 0) :
  -(n : Int) < A x ∧ x < top ∧ SInv T n d le x G B ∧ RelS T n x (top - 1) G (fun y => if y = top - 1 then 0 - A x else if y = x then 0 else A y) := by
 have hrx := hr.lo x (by omega)
 have hxt := hr.xt
 have htn := hr.tn
 cases hg : G x with
 | none => rw [hg] at hrx; simp only [eS] at hrx; omega
 | some j =>
  rw [hg] at hrx
  have hjn := (h.a x j hg).2.1
  by_cases hl : Lms T n j
  ·rw [eS_lms hl] at hrx
   have hAx : 0 - A x = (j : Int) := by omega
   refine ⟨by omega, by omega, h.skip (fun j' hj' => ?_), by omega, by omega, fun p hp => ?_, fun p hp1 hp2 => ?_, fun u hu1 hu2 => ?_, fun q k hq hk hlk => ?_, fun u v a1 a2 a3 => ?_⟩
   ·rw [hg] at hj'; cases hj'
    exact fun h => hl.2.2 h.2.1
   ·rw [if_neg (by omega), if_neg (by omega)]; exact hr.lo p (by omega)
   ·rw [if_neg (by omega)]
    by_cases hpx : p = x
    ·rw [if_pos hpx]
    ·rw [if_neg hpx]; exact hr.mid p (by omega) (by omega)
   ·by_cases hut : u = top - 1
    ·rw [if_pos hut, hAx]; exact ⟨j, x, rfl, hl, Nat.le_refl _, hg⟩
    ·rw [if_neg hut, if_neg (by omega)]
     obtain ⟨k, q, e1, e2, e3, e4⟩ := hr.r1 u (by omega) hu2
     exact ⟨k, q, e1, e2, by omega, e4⟩
   ·by_cases hqx : q = x
    ·subst hqx
     rw [hg] at hk; cases hk
     exact ⟨top - 1, by omega, by omega, by rw [if_pos rfl, hAx]⟩
    ·obtain ⟨u, e1, e2, e3⟩ := hr.r2 q k (by omega) hk hlk
     exact ⟨u, by omega, e2, by rw [if_neg (by omega), if_neg (by omega)]; exact e3⟩
   ·rw [if_neg (show v ≠ top - 1 by omega), if_neg (show v ≠ x by omega)]
    by_cases hut : u = top - 1
    ·rw [if_pos hut, hAx]
     obtain ⟨k, q, e1, e2, e3, e4⟩ := hr.r1 v (by omega) a3
     exact ⟨x, q, j, k, Nat.le_refl _, by omega, hg, e4, rfl, e1⟩
    ·rw [if_neg hut, if_neg (by omega)]
     obtain ⟨q, q', k, k', e1, e2, e3⟩ := hr.r3 u v (by omega) a2 a3
     exact ⟨q, q', k, k', by omega, e2, e3⟩
  ·rw [eS_other hl] at hrx; omega
theorem subS_pos (ho : SOrd T n d le) (hd : Lms T n d) (hz : ∀ p j, G p = some j → ¬ St T n j → Top T n d j) (h : SInv T n d le (x + 1) G B) (hr : RelS T n (x + 1) top G A) (h0 : 0 < A x) :
  ∃ k : Nat, A x = ((k + 1 : Nat) : Int) ∧ 1 ≤ k ∧ k + 1 < n ∧ B (T k) ≤ x ∧ 1 ≤ B (T k) ∧
   (∀ p j, updG G (B (T k) - 1) k p = some j → ¬ St T n j → Top T n d j) ∧
   SInv T n d le x (updG G (B (T k) - 1) k) (updB B (T k) (B (T k) - 1)) ∧
   RelS T n x top (updG G (B (T k) - 1) k) (fun y => if y = B (T k) - 1 then (if T (k - 1) > T k then 0 - (k : Int) else (k : Int)) else if y = x then 0 else A y) := by
 have hrx := hr.lo x (by omega)
 have hxt := hr.xt
 have htn := hr.tn
 have hd1 := hd.1
 cases hg : G x with
 | none => rw [hg] at hrx; simp only [eS] at hrx; omega
 | some j =>
  rw [hg] at hrx
  obtain ⟨_, hjn, hcase⟩ := h.a x j hg
  by_cases hl : Lms T n j
  ·rw [eS_lms hl] at hrx; omega
  ·rw [eS_other hl] at hrx
   have hj := h.pos hd1 hz hg
   have hk : St T n (j - 1) ∧ d ≤ j - 1 := by
    rcases hcase with g | g
    ·have := hz x j hg g.1; exact ⟨this.2.2.2.1, this.2.2.2.2⟩
    ·have hs' : St T n (j - 1) := by
      by_cases hs : St T n (j - 1)
      ·exact hs
      ·exact absurd ⟨hj, g.1, hs⟩ hl
     have : j ≠ d := by rintro rfl; exact hl hd
     exact ⟨hs', by omega⟩
   obtain ⟨g1, g2, g3, g4, g5⟩ := h.step ho hg hj hk.1 hk.2
   obtain ⟨k, rfl⟩ : ∃ k, j = k + 1 := ⟨j - 1, by omega⟩
   rw [Nat.add_sub_cancel] at hk g1 g2 g3 g4 g5
   have hpred := St_pred_S (T := T) (n := n) (k := k) (by omega) hk.1
   refine ⟨k, hrx, by omega, by omega, g1, by omega, fun p j hp hs => ?_, g5, by omega, htn, fun p hp => ?_, fun p hp1 hp2 => ?_, fun u hu1 hu2 => ?_, fun q i hq hi hli => ?_, fun u v a1 a2 a3 => ?_⟩
   ·by_cases hpb : p = B (T k) - 1
    ·subst hpb; rw [updG_same] at hp; cases hp; exact absurd hk.1 hs
    ·rw [updG_other _ hpb] at hp; exact hz p j hp hs
   ·by_cases hpb : p = B (T k) - 1
    ·subst hpb
     rw [if_pos rfl, updG_same]
     by_cases hgt : T (k - 1) > T k
     ·rw [if_pos hgt, eS_lms ⟨by omega, hk.1, fun h => by have := hpred.1 h; omega⟩]; omega
     ·rw [if_neg hgt, eS_other fun h => h.2.2 (hpred.2 (by omega))]
    ·rw [if_neg hpb, if_neg (by omega), updG_other _ hpb]; exact hr.lo p (by omega)
   ·rw [if_neg (by omega)]
    by_cases hpx : p = x
    ·rw [if_pos hpx]
    ·rw [if_neg hpx]; exact hr.mid p (by omega) hp2
   ·rw [if_neg (by omega), if_neg (by omega)]
    obtain ⟨i, q, e1, e2, e3, e4⟩ := hr.r1 u hu1 hu2
    exact ⟨i, q, e1, e2, by omega, by rw [updG_other _ (by omega)]; exact e4⟩
   ·rw [updG_other _ (by omega)] at hi
    by_cases hqx : q = x
    ·subst hqx; rw [hg] at hi; cases hi; exact absurd hli hl
    ·obtain ⟨u, e1, e2, e3⟩ := hr.r2 q i (by omega) hi hli
     exact ⟨u, e1, e2, by rw [if_neg (by omega), if_neg (by omega)]; exact e3⟩
   ·rw [if_neg (show u ≠ _ by omega), if_neg (show u ≠ x by omega), if_neg (show v ≠ _ by omega), if_neg (show v ≠ x by omega)]
    obtain ⟨q, q', i, i', e1, e2, e3, e4, e5⟩ := hr.r3 u v a1 a2 a3
    exact ⟨q, q', i, i', by omega, e2, by rw [updG_other _ (by omega)]; exact e3, by rw [updG_other _ (by omega)]; exact e4, e5⟩
theorem RelS.congr {A' : Nat → Int} (h : RelS T n x top G A) (hx : x ≤ n) (hA : ∀ p, p < n → A' p = A p) : RelS T n x top G A' := by
 refine ⟨h.xt, h.tn, fun p hp => ?_, fun p h1 h2 => ?_, fun u h1 h2 => ?_, fun q k h1 h2 h3 => ?_, fun u v h1 h2 h3 => ?_⟩
 ·rw [hA p (by omega)]; exact h.lo p hp
 ·rw [hA p (by have := h.tn; omega)]; exact h.mid p h1 h2
 ·rw [hA u h2]; exact h.r1 u h1 h2
 ·obtain ⟨u, e1, e2, e3⟩ := h.r2 q k h1 h2 h3
  exact ⟨u, e1, e2, by rw [hA u e2]; exact e3⟩
 ·rw [hA u (by omega), hA v h3]; exact h.r3 u v h1 h2 h3
end
theorem subS_start {d : Nat} {A : Nat → Int} {B : Int → Nat} (hs : Tops T n d A) (hB : ∀ i, i < n → B (T i) = bs T n (T i) + cc T n (T i)) :
  ∃ G, (∀ p j, G p = some j → ¬ St T n j → Top T n d j) ∧ SInv T n d (fun i j => lel (pc T n i) (pc T n j)) n G B ∧ RelS T n n n G A := by
 have key : ∀ p j, (if p < n then (if A p = 0 then none else some (A p).toNat) else none) = some j → p < n ∧ A p = j ∧ Top T n d j ∧ bs T n (T j) ≤ p ∧ p < bs T n (T j) + nL T n (T j) := by
  intro p j hp
  by_cases hpn : p < n
  ·rw [if_pos hpn] at hp
   rcases hs.a p hpn with h0 | ⟨i, h1, h2, h3, h4⟩
   ·rw [if_pos h0] at hp; cases hp
   ·rw [if_neg (by rw [h1]; have := h2.2.2.1; omega)] at hp
    injection hp with hp
    rw [h1] at hp
    have : i = j := by omega
    subst this
    exact ⟨hpn, h1, h2, h3, h4⟩
  ·rw [if_neg hpn] at hp; cases hp
 have hcore : SCore T n d (fun i j => lel (pc T n i) (pc T n j)) (fun p => if p < n then (if A p = 0 then none else some (A p).toNat) else none) B := by
  refine ⟨fun p j hp => ?_, fun i p hi h1 h2 => ?_, fun i hi => ?_, fun p q j hp hq => ?_, fun p q i j hpq hp hq => ?_, fun j hj => ?_⟩
  ·obtain ⟨h1, _, h2, h3, h4⟩ := key p j hp
   exact ⟨h1, h2.1, .inl ⟨h2.2.1, h3, h4⟩⟩
  ·rw [hB i hi] at h1; omega
  ·rw [hB i hi, cc_split]; omega
  ·obtain ⟨h1, h2, h3, _⟩ := key p j hp
   obtain ⟨h4, h5, _⟩ := key q j hq
   exact hs.d p q h1 h4 (h2.trans h5.symm) (by rw [h2]; have := h3.2.2.1; omega)
  ·obtain ⟨h1, h2, h3, _⟩ := key p i hp
   obtain ⟨g1, g2, g3, _⟩ := key q j hq
   exact hs.e p q i j hpq g1 h2 g2 (by rw [h2]; have := h3.2.2.1; omega) (by rw [g2]; have := g3.2.2.1; omega)
  ·obtain ⟨p, hp, he⟩ := hs.z j hj
   refine ⟨p, ?_⟩
   rw [if_pos hp, if_neg (by rw [he]; have := hj.2.2.1; omega), he]; simp
 refine ⟨_, fun p j hp _ => (key p j hp).2.2.1, SInv.start hcore (fun p j hp => (key p j hp).2.2.1.2.1), Nat.le_refl _, Nat.le_refl _, fun p hp => ?_, fun p h1 h2 => by omega, fun u h1 h2 => by omega, fun q k h1 h2 _ => ?_, fun u v h1 h2 h3 => by omega⟩
 ·rw [if_pos hp]
  rcases hs.a p hp with h0 | ⟨j, h1, h2, _⟩
  ·rw [if_pos h0, h0]; rfl
  ·rw [if_neg (by rw [h1]; have := h2.2.2.1; omega), h1, Int.toNat_natCast, eS_other (fun h => h2.2.1 h.2.1)]
 ·have := (key q k h2).1; omega
theorem subS_fin {d top : Nat} (hmin : ∀ j, Lms T n j → d ≤ j) {G : Nat → Option Nat} {B : Int → Nat} {A : Nat → Int} (h : SInv T n d (fun i j => lel (pc T n i) (pc T n j)) 0 G B)
  (hr : RelS T n 0 top G A) : top = n - nlms T n ∧ Sub T n A := by
 have hcompl : ∀ k, Lms T n k → ∃ u, top ≤ u ∧ u < n ∧ A u = (k : Int) := fun k hk => by
  obtain ⟨q, hq⟩ := h.all k (by have := hk.lt; omega) hk.2.1 (hmin k hk)
  exact hr.r2 q k (Nat.zero_le _) hq hk
 have hne : ∀ u v, top ≤ u → u < v → v < n → A u ≠ A v := fun u v h1 h2 h3 he => by
  obtain ⟨q, q', k, k', _, e2, e3, e4, e5, e6⟩ := hr.r3 u v h1 h2 h3
  have : k = k' := by omega
  subst this
  have := h.d q q' k e3 e4; omega
 have htn := hr.tn
 have c1 : n - top ≤ nlms T n := by
  refine pigeon_inv n (n - top) (fun i => (A (top + i)).toNat) (fun i hi => ?_) (fun i j hi hj he => ?_)
  ·obtain ⟨k, q, e1, e2, _, e4⟩ := hr.r1 (top + i) (by omega) (by omega)
   simp only [e1, Int.toNat_natCast]
   exact ⟨by have := e2.lt; omega, e2⟩
  ·obtain ⟨k, q, e1, _⟩ := hr.r1 (top + i) (by omega) (by omega)
   obtain ⟨k', q', e1', _⟩ := hr.r1 (top + j) (by omega) (by omega)
   simp only [e1, e1', Int.toNat_natCast] at he
   rcases Nat.lt_trichotomy i j with h1 | h1 | h1
   ·exact absurd (by rw [e1, e1', he]) (hne (top + i) (top + j) (by omega) (by omega) (by omega))
   ·exact h1
   ·exact absurd (by rw [e1, e1', he]) (hne (top + j) (top + i) (by omega) (by omega) (by omega))
 have c2 : nlms T n ≤ n - top := by
  have hex : ∀ k, ∃ u, Lms T n k → top ≤ u ∧ u < n ∧ A u = (k : Int) := fun k => by
   by_cases hk : Lms T n k
   ·obtain ⟨u, hu⟩ := hcompl k hk; exact ⟨u, fun _ => hu⟩
   ·exact ⟨0, fun h => absurd h hk⟩
  refine pigeon n (n - top) (fun k => Classical.choose (hex k) - top) (fun k _ hk => ?_) (fun k k' _ _ hk hk' he => ?_)
  ·have := Classical.choose_spec (hex k) hk; omega
  ·have e1 := Classical.choose_spec (hex k) hk
   have e2 := Classical.choose_spec (hex k') hk'
   have : Classical.choose (hex k) = Classical.choose (hex k') := by omega
   rw [this] at e1; omega
 have ht : top = n - nlms T n := by omega
 refine ⟨ht, fun p hp => hr.mid p (Nat.zero_le _) (by omega), fun u h1 h2 => ?_, fun k hk => ?_, fun u v h1 h2 h3 => hne u v (by omega) h2 h3, fun u v i j h1 h2 h3 hi hj => ?_⟩
 ·obtain ⟨k, q, e1, e2, _⟩ := hr.r1 u (by omega) h2
  exact ⟨k, e1, e2⟩
 ·obtain ⟨u, e1, e2, e3⟩ := hcompl k hk
  exact ⟨u, by omega, e2, e3⟩
 ·obtain ⟨q, q', k, k', _, e2, e3, e4, e5, e6⟩ := hr.r3 u v (by omega) h2 h3
  have a1 : k = i := by omega
  have a2 : k' = j := by omega
  subst a1; subst a2
  exact h.e q q' _ _ e2 e3 e4
end
end Go.Proofs.YtdhifgedhaapjaaGreatDoor.Sa

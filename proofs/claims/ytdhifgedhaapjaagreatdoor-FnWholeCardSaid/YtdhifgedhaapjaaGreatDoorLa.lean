/- A computed condition over the code of a function (slots as a function, memory of integers as a function of block and offset), and that it is enough for the model's own run. -/
import Derived.WalkKit
import Derived.Deep.Quiet
import Derived.BigCall
import Derived.ScopeJumps
import Derived.Still
import Derived.StillTail
import Derived.WalkSpells
import Derived.Deep.AppendSrc
namespace Go.Proofs.YtdhifgedhaapjaaGreatDoor
open Go
/-! ## Slots -/
abbrev Env := Nat → Value
def Env.set (s : Env) (t : Nat) (v : Value) : Env := fun x => cond (Nat.beq x t) v (s x)
def Env.put (s : Env) : Option Nat → Value → Env
 | some d, v => s.set d v
 | none, _ => s
def Env.ev (s : Env) : Operand → Value
 | .tmp t => s t
 | .const v => v
 | .global g => .pointer (some ⟨g, 0, none⟩)
 | .func f => .func (.func f) #[] #[]
def envOf (a : Act) : Env := fun t => a.tmps.getD t undef
def env0 (args : List Value) : Env := fun t => args.getD t undef
def Env.hav (s g : Env) (l : List Nat) : Env := fun x => cond (l.any (Nat.beq x)) (g x) (s x)
theorem ev_envOf (a : Act) (x : Operand) : a.eval x = (envOf a).ev x := by cases x <;> rfl
theorem Env.set_same (s : Env) (t : Nat) : s.set t (s t) = s := by
 funext x
 unfold Env.set
 cases h : Nat.beq x t with
 | false => rfl
 | true => rw [Nat.eq_of_beq_eq_true h]; rfl
theorem envOf_put (a : Act) (d : Option Nat) (v : Value) (h : ∀ t, d = some t → t < a.tmps.size) : envOf (a.put d v) = (envOf a).put d v := by
 cases d with
 | none => rfl
 | some t =>
  have ht := h t rfl
  funext x
  simp only [envOf, Act.put, Env.put, Env.set]
  by_cases hx : x = t
  ·subst hx
   have : Nat.beq x x = true := Nat.beq_refl x
   simp [this, ht]
  ·have : Nat.beq x t = false := by
    cases hb : Nat.beq x t with
    | false => rfl
    | true => exact absurd (Nat.eq_of_beq_eq_true hb) hx
   simp only [this, cond_false]
   by_cases hlt : x < a.tmps.size
   ·simp [Array.getD, hlt, Array.getElem_setIfInBounds, Ne.symm hx]
   ·simp [Array.getD, hlt]
theorem size_put (a : Act) (d : Option Nat) (v : Value) : (a.put d v).tmps.size = a.tmps.size := by
 cases d <;> simp [Act.put]
theorem defers_put (a : Act) (d : Option Nat) (v : Value) : (a.put d v).defers = a.defers := by
 cases d <;> rfl
/-! ## Memory of integers -/
structure Mem where
 kd : Nat → Nat → Option IntKind
 ro : Nat → Bool
 val : Nat → Nat → Int
 ob : Nat → Nat → Option Value
def Mem.st (m : Mem) (b o : Nat) (v : Int) : Mem :=
 {m with val := fun b' o' => if b' = b ∧ o' = o then v else m.val b' o' }
def Mem.fill (m : Mem) (b o n : Nat) (v : Int) : Mem :=
 {m with val := fun b' o' => if b' = b ∧ o ≤ o' ∧ o' < o + n then v else m.val b' o' }
def Mem.copy (m : Mem) (b o sb so n : Nat) : Mem :=
 {m with val := fun b' o' => if b' = b ∧ o ≤ o' ∧ o' < o + n then m.val sb (so + (o' - o)) else m.val b' o' }
def Mem.put (m : Mem) (b o n : Nat) (f : Nat → Int) : Mem :=
 {m with val := fun b' o' => if b' = b ∧ o ≤ o' ∧ o' < o + n then f (o' - o) else m.val b' o' }
def Mem.new (m : Mem) (b : Nat) (k : IntKind) (n : Nat) (f : Nat → Int) : Mem :=
 {kd := fun b' o' => if b' = b then (if o' < n then some k else none) else m.kd b' o'
  ro := fun b' => if b' = b then false else m.ro b'
  val := fun b' o' => if b' = b then f o' else m.val b' o'
  ob := m.ob }
def Mem.so (m : Mem) (b o : Nat) (v : Value) : Mem :=
 {m with ob := fun b' o' => if b' = b ∧ o' = o then some v else m.ob b' o' }
def Value.kd? : Option Value → Option IntKind
 | some (.int k _) => some k
 | _ => none
def Value.num? : Option Value → Int
 | some (.int _ z) => z
 | _ => 0
def Value.obj? : Option Value → Option Value
 | some (.int _ _) => none
 | x => x
def Mem.newC (m : Mem) (b : Nat) (cs : List Value) : Mem :=
 {kd := fun b' o' => if b' = b then Value.kd? cs[o']? else m.kd b' o'
  ro := fun b' => if b' = b then false else m.ro b'
  val := fun b' o' => if b' = b then Value.num? cs[o']? else m.val b' o'
  ob := fun b' o' => if b' = b then Value.obj? cs[o']? else m.ob b' o' }
def Mem.fresh (m : Mem) (b : Nat) : Prop := ∀ o, m.kd b o = none ∧ m.ob b o = none
structure Holds (w0 w : World) (m : Mem) : Prop where
 cell : ∀ b o k, m.kd b o = some k → w.cell? ⟨b, o, none⟩ = some (.int k (m.val b o))
 free : ∀ b o k, m.kd b o = some k → m.ro b = false → w.frozen? ⟨b, o, none⟩ = false
 cello : ∀ b o v, m.ob b o = some v → w.cell? ⟨b, o, none⟩ = some v
 freeo : ∀ b o v, m.ob b o = some v → m.ro b = false → w.frozen? ⟨b, o, none⟩ = false
 dis : ∀ b o v, m.ob b o = some v → m.kd b o = none
 os : w.os = w0.os
 tape : w.tape = w0.tape
 output : w.output = w0.output
 size : w0.heap.size ≤ w.heap.size
 frame : ∀ b, b < w0.heap.size → w.heap[b]? = w0.heap[b]?
 old : ∀ b, b < w0.heap.size → m.ro b = true ∨ m.fresh b
theorem Holds.lt {w0 w : World} {m : Mem} (h : Holds w0 w m) {b o : Nat} {k : IntKind} (hk : m.kd b o = some k) : b < w.heap.size :=
 World.block_lt_of_cell? w _ (h.cell b o k hk)
theorem Holds.lto {w0 w : World} {m : Mem} (h : Holds w0 w m) {b o : Nat} {v : Value} (hk : m.ob b o = some v) : b < w.heap.size :=
 World.block_lt_of_cell? w _ (h.cello b o v hk)
theorem Holds.fresh {w0 w : World} {m : Mem} (h : Holds w0 w m) : m.fresh w.heap.size := by
 intro o
 constructor
 ·cases hk : m.kd w.heap.size o with
  | none => rfl
  | some k => exact absurd (h.lt hk) (Nat.lt_irrefl _)
 ·cases hk : m.ob w.heap.size o with
  | none => rfl
  | some k => exact absurd (h.lto hk) (Nat.lt_irrefl _)
theorem Holds.drew {w0 w : World} {m : Mem} (h : Holds w0 w m) : Holds w0 w.drew m :=
 ⟨h.cell, h.free, h.cello, h.freeo, h.dis, h.os, h.tape, h.output, h.size, h.frame, h.old⟩
theorem Holds.drewN {w0 w : World} {m : Mem} (h : Holds w0 w m) (n : Nat) : Holds w0 (w.drewN n) m :=
 ⟨h.cell, h.free, h.cello, h.freeo, h.dis, h.os, h.tape, h.output, h.size, h.frame, h.old⟩
theorem Holds.ne_old {w0 w : World} {m : Mem} (h : Holds w0 w m) {b : Nat} (hr : m.ro b = false) {o : Nat} (hk : m.kd b o ≠ none ∨ m.ob b o ≠ none) {b' : Nat} (hb' : b' < w0.heap.size) : b' ≠ b := by
 rintro rfl
 rcases h.old b' hb' with hf | hf
 ·rw [hr] at hf; cases hf
 ·rcases hk with hk | hk
  ·exact hk (hf o).1
  ·exact hk (hf o).2
theorem Holds.st {w0 w : World} {m : Mem} (h : Holds w0 w m) {b o : Nat} {k : IntKind} (hk : m.kd b o = some k) (hr : m.ro b = false) (v : Int) :
  Holds w0 (w.setCell ⟨b, o, none⟩ (.int k v)) (m.st b o v) := by
 have hne : ∀ b' o' v', m.ob b' o' = some v' → (⟨b, o, none⟩ : Addr) ≠ ⟨b', o', none⟩ := fun b' o' v' h' e => by
  cases e
  have := h.dis _ _ _ h'
  rw [hk] at this; cases this
 refine ⟨fun b' o' k' hk' => ?_, fun b' o' k' hk' hr' => ?_, fun b' o' v' h' => ?_, fun b' o' v' h' hr' => ?_, h.dis, h.os, h.tape, h.output, ?_, fun b' hb' => ?_, h.old⟩
 ·have hc := h.cell b' o' k' hk'
  simp only [Mem.st]
  by_cases he : b' = b ∧ o' = o
  ·obtain ⟨rfl, rfl⟩ := he
   have : k' = k := by
    have hh : m.kd b' o' = some k' := hk'
    rw [hk] at hh
    exact (Option.some.inj hh).symm
   subst this
   rw [World.cell?_setCell_same w _ _ hc]
   simp
  ·rw [World.cell?_setCell_other w _ _ _ (fun e => he (by cases e; exact ⟨rfl, rfl⟩)), if_neg he]
   exact hc
 ·rw [World.frozen?_setCell]; exact h.free b' o' k' hk' hr'
 ·rw [World.cell?_setCell_other w _ _ _ (hne _ _ _ h')]
  exact h.cello _ _ _ h'
 ·rw [World.frozen?_setCell]; exact h.freeo b' o' v' h' hr'
 ·rw [World.size_setCell]; exact h.size
 ·rw [RowKit.Below.heap_setCell _ _ _ _ (h.ne_old hr (.inl (by rw [hk]; simp)) hb')]
  exact h.frame b' hb'
theorem Holds.so {w0 w : World} {m : Mem} (h : Holds w0 w m) {b o : Nat} {u : Value} (hk : m.ob b o = some u) (hr : m.ro b = false) (v : Value) :
  Holds w0 (w.setCell ⟨b, o, none⟩ v) (m.so b o v) := by
 have hne : ∀ b' o' k', m.kd b' o' = some k' → (⟨b, o, none⟩ : Addr) ≠ ⟨b', o', none⟩ := fun b' o' v' h' e => by
  cases e
  have := h.dis _ _ _ hk
  rw [h'] at this; cases this
 refine ⟨fun b' o' k' hk' => ?_, fun b' o' k' hk' hr' => ?_, fun b' o' v' h' => ?_, fun b' o' v' h' hr' => ?_, fun b' o' v' h' => ?_, h.os, h.tape, h.output, ?_, fun b' hb' => ?_, fun b' hb' => ?_⟩
 ·rw [World.cell?_setCell_other w _ _ _ (hne _ _ _ hk')]
  exact h.cell _ _ _ hk'
 ·rw [World.frozen?_setCell]; exact h.free b' o' k' hk' hr'
 ·simp only [Mem.so] at h'
  by_cases he : b' = b ∧ o' = o
  ·rw [if_pos he] at h'
   obtain ⟨rfl, rfl⟩ := he
   rw [World.cell?_setCell_same w _ _ (h.cello _ _ _ hk)]
   exact h'
  ·rw [if_neg he] at h'
   rw [World.cell?_setCell_other w _ _ _ (fun e => he (by cases e; exact ⟨rfl, rfl⟩))]
   exact h.cello _ _ _ h'
 ·rw [World.frozen?_setCell]
  simp only [Mem.so] at h' hr'
  by_cases he : b' = b ∧ o' = o
  ·obtain ⟨rfl, rfl⟩ := he
   exact h.freeo _ _ _ hk hr
  ·rw [if_neg he] at h'
   exact h.freeo b' o' v' h' hr'
 ·simp only [Mem.so] at h' ⊢
  by_cases he : b' = b ∧ o' = o
  ·obtain ⟨rfl, rfl⟩ := he
   exact h.dis _ _ _ hk
  ·rw [if_neg he] at h'
   exact h.dis _ _ _ h'
 ·rw [World.size_setCell]; exact h.size
 ·rw [RowKit.Below.heap_setCell _ _ _ _ (h.ne_old hr (.inr (by rw [hk]; simp)) hb')]
  exact h.frame b' hb'
 ·have hne := h.ne_old hr (.inr (by rw [hk]; simp) : m.kd b o ≠ none ∨ m.ob b o ≠ none) hb'
  rcases h.old b' hb' with h1 | h1
  ·exact .inl h1
  ·refine .inr fun o' => ⟨(h1 o').1, ?_⟩
   simp only [Mem.so]
   rw [if_neg (fun e => hne e.1)]
   exact (h1 o').2
theorem Holds.newC {w0 w : World} {m : Mem} (h : Holds w0 w m) (cs : List Value) (c : Array Value) (e : TypeId)
  (hc : ∀ (i : Nat) (v : Value), cs[i]? = some v → c[i]? = some v) : Holds w0 (w.alloc (.cells c e)) (m.newC w.heap.size cs) := by
 have key : ∀ {o v}, cs[o]? = some v → (w.alloc (.cells c e)).cell? ⟨w.heap.size, o, none⟩ = some v := fun {o v} hv => by
  rw [World.cell?_alloc_new]; exact hc _ _ hv
 refine ⟨fun b o k' hk' => ?_, fun b o k' hk' hr' => ?_, fun b o v' h' => ?_, fun b o v' h' hr' => ?_, fun b o v' h' => ?_, h.os, h.tape, h.output, ?_, fun b' hb' => ?_, fun b' hb' => ?_⟩
 ·simp only [Mem.newC] at hk' ⊢
  by_cases hb : b = w.heap.size
  ·subst hb
   simp only [if_true] at hk' ⊢
   cases hv : cs[o]? with
   | none => rw [hv] at hk'; cases hk'
   | some v =>
    rw [hv] at hk'
    rw [key hv]
    cases v <;> simp only [Value.kd?] at hk' <;> first | (cases hk'; done) | skip
    cases hk'; rfl
  ·rw [if_neg hb] at hk' ⊢
   rw [World.cell?_alloc_old w _ _ hb]
   exact h.cell b o k' hk'
 ·simp only [Mem.newC] at hk' hr'
  by_cases hb : b = w.heap.size
  ·subst hb
   rw [World.frozen?_alloc_new]
  ·rw [if_neg hb] at hk' hr'
   rw [World.frozen?_alloc_old w _ _ hb]
   exact h.free b o k' hk' hr'
 ·simp only [Mem.newC] at h'
  by_cases hb : b = w.heap.size
  ·subst hb
   simp only [if_true] at h'
   cases hv : cs[o]? with
   | none => rw [hv] at h'; cases h'
   | some v =>
    rw [hv] at h'
    rw [key hv]
    cases v <;> simp only [Value.obj?] at h' <;> first | (cases h'; done) | exact h'
  ·rw [if_neg hb] at h'
   rw [World.cell?_alloc_old w _ _ hb]
   exact h.cello b o v' h'
 ·simp only [Mem.newC] at h' hr'
  by_cases hb : b = w.heap.size
  ·subst hb
   rw [World.frozen?_alloc_new]
  ·rw [if_neg hb] at h' hr'
   rw [World.frozen?_alloc_old w _ _ hb]
   exact h.freeo b o v' h' hr'
 ·simp only [Mem.newC] at h' ⊢
  by_cases hb : b = w.heap.size
  ·subst hb
   simp only [if_true] at h' ⊢
   cases hv : cs[o]? with
   | none => rfl
   | some v =>
    rw [hv] at h'
    cases v <;> simp only [Value.obj?] at h' <;> first | (cases h'; done) | rfl
  ·rw [if_neg hb] at h' ⊢
   exact h.dis _ _ _ h'
 ·rw [World.size_alloc]; have := h.size; omega
 ·have hs := h.size
  rw [RowKit.Below.heap_alloc _ _ _ (by omega)]
  exact h.frame b' hb'
 ·have hs := h.size
  have hne : b' ≠ w.heap.size := by omega
  rcases h.old b' hb' with h1 | h1
  ·exact .inl (by simp only [Mem.newC, if_neg hne]; exact h1)
  ·exact .inr fun o' => by simp only [Mem.newC, if_neg hne]; exact h1 o'
theorem Holds.new {w0 w : World} {m : Mem} (h : Holds w0 w m) (k : IntKind) (n : Nat) (f : Nat → Int) (c : Array Value) (e : TypeId)
  (hn : n ≤ c.size) (hc : ∀ i, i < n → c[i]? = some (.int k (f i))) : Holds w0 (w.alloc (.cells c e)) (m.new w.heap.size k n f) := by
 have hno : ∀ b o v, m.ob b o = some v → b ≠ w.heap.size := fun b o v h' e => by
  subst e
  have := (h.fresh o).2
  rw [h'] at this; cases this
 refine ⟨fun b o k' hk' => ?_, fun b o k' hk' hr' => ?_, fun b o v' h' => ?_, fun b o v' h' hr' => ?_, fun b o v' h' => ?_, h.os, h.tape, h.output, ?_, fun b' hb' => ?_, fun b' hb' => ?_⟩
 ·simp only [Mem.new] at hk' ⊢
  by_cases hb : b = w.heap.size
  ·subst hb
   simp only [if_true] at hk' ⊢
   rw [World.cell?_alloc_new]
   by_cases ho : o < n
   ·rw [if_pos ho] at hk'
    cases hk'
    exact hc o ho
   ·rw [if_neg ho] at hk'; cases hk'
  ·rw [if_neg hb] at hk' ⊢
   rw [World.cell?_alloc_old w _ _ hb]
   exact h.cell b o k' hk'
 ·simp only [Mem.new] at hk' hr'
  by_cases hb : b = w.heap.size
  ·subst hb
   rw [World.frozen?_alloc_new]
  ·rw [if_neg hb] at hk' hr'
   rw [World.frozen?_alloc_old w _ _ hb]
   exact h.free b o k' hk' hr'
 ·have h'' : m.ob b o = some v' := h'
  rw [World.cell?_alloc_old w _ _ (hno _ _ _ h'')]
  exact h.cello b o v' h''
 ·have h'' : m.ob b o = some v' := h'
  simp only [Mem.new] at hr'
  rw [if_neg (hno _ _ _ h'')] at hr'
  rw [World.frozen?_alloc_old w _ _ (hno _ _ _ h'')]
  exact h.freeo b o v' h'' hr'
 ·have h'' : m.ob b o = some v' := h'
  simp only [Mem.new]
  rw [if_neg (hno _ _ _ h'')]
  exact h.dis _ _ _ h''
 ·rw [World.size_alloc]; have := h.size; omega
 ·have hs := h.size
  rw [RowKit.Below.heap_alloc _ _ _ (by omega)]
  exact h.frame b' hb'
 ·have hs := h.size
  have hne : b' ≠ w.heap.size := by omega
  rcases h.old b' hb' with h1 | h1
  ·exact .inl (by simp only [Mem.new, if_neg hne]; exact h1)
  ·exact .inr fun o' => by
    simp only [Mem.new, if_neg hne]; exact h1 o'
structure Ext (a b : Mem) : Prop where
 kd : ∀ x o k, a.kd x o = some k → b.kd x o = some k
 val : ∀ x o k, a.kd x o = some k → b.val x o = a.val x o
 ob : ∀ x o v, a.ob x o = some v → b.ob x o = some v
 ro : ∀ x, a.ro x = false → b.ro x = false
theorem Ext.refl (m : Mem) : Ext m m := ⟨fun _ _ _ h => h, fun _ _ _ _ => rfl, fun _ _ _ h => h, fun _ h => h⟩
theorem Ext.trans {a b c : Mem} (h : Ext a b) (k : Ext b c) : Ext a c :=
 ⟨fun x o i hi => k.kd _ _ _ (h.kd _ _ _ hi), fun x o i hi => (k.val _ _ _ (h.kd _ _ _ hi)).trans (h.val _ _ _ hi), fun x o v hv => k.ob _ _ _ (h.ob _ _ _ hv), fun x hx => k.ro _ (h.ro _ hx)⟩
theorem Ext.fresh {a b : Mem} (h : Ext a b) {x : Nat} (hf : b.fresh x) : a.fresh x := fun o => by
 constructor
 ·cases hk : a.kd x o with
  | none => rfl
  | some k => have := h.kd _ _ _ hk; rw [(hf o).1] at this; cases this
 ·cases hk : a.ob x o with
  | none => rfl
  | some k => have := h.ob _ _ _ hk; rw [(hf o).2] at this; cases this
theorem Ext.newC (m : Mem) {B : Nat} (hB : m.fresh B) (cs : List Value) : Ext m (m.newC B cs) := by
 have h1 : ∀ x o k, m.kd x o = some k → x ≠ B := fun x o k h e => by subst e; rw [(hB o).1] at h; cases h
 have h2 : ∀ x o v, m.ob x o = some v → x ≠ B := fun x o k h e => by subst e; rw [(hB o).2] at h; cases h
 refine ⟨fun x o k h => ?_, fun x o k h => ?_, fun x o v h => ?_, fun x h => ?_⟩
 ·simp only [Mem.newC, if_neg (h1 _ _ _ h)]; exact h
 ·simp only [Mem.newC, if_neg (h1 _ _ _ h)]
 ·simp only [Mem.newC, if_neg (h2 _ _ _ h)]; exact h
 ·simp only [Mem.newC]; split
  ·rfl
  ·exact h
theorem Ext.new (m : Mem) {B : Nat} (hB : m.fresh B) (k : IntKind) (n : Nat) (f : Nat → Int) : Ext m (m.new B k n f) := by
 have h1 : ∀ x o k, m.kd x o = some k → x ≠ B := fun x o k h e => by subst e; rw [(hB o).1] at h; cases h
 refine ⟨fun x o k h => ?_, fun x o k h => ?_, fun x o v h => h, fun x h => ?_⟩
 ·simp only [Mem.new, if_neg (h1 _ _ _ h)]; exact h
 ·simp only [Mem.new, if_neg (h1 _ _ _ h)]
 ·simp only [Mem.new]; split
  ·rfl
  ·exact h
theorem Holds.ext {w0 w : World} {a m : Mem} (e : Ext a m) (h : Holds w0 w m) : Holds w0 w a := by
 refine ⟨fun b o k hk => ?_, fun b o k hk hr => h.free _ _ _ (e.kd _ _ _ hk) (e.ro _ hr), fun b o v hv => h.cello _ _ _ (e.ob _ _ _ hv), fun b o v hv hr => h.freeo _ _ _ (e.ob _ _ _ hv) (e.ro _ hr), fun b o v hv => ?_, h.os, h.tape, h.output, h.size, h.frame, fun b hb => ?_⟩
 ·rw [← e.val _ _ _ hk]; exact h.cell _ _ _ (e.kd _ _ _ hk)
 ·cases hk : a.kd b o with
  | none => rfl
  | some k => have := h.dis _ _ _ (e.ob _ _ _ hv); rw [e.kd _ _ _ hk] at this; cases this
 ·rcases h.old b hb with h1 | h1
  ·refine .inl ?_
   cases hr : a.ro b with
   | true => rfl
   | false => rw [e.ro _ hr] at h1; cases h1
  ·exact .inr (e.fresh h1)
def Mem.lock (m : Mem) : Mem := { m with ro := fun _ => true }
theorem Holds.lock {w0 w : World} {m : Mem} (h : Holds w0 w m) : Holds w w m.lock :=
 ⟨h.cell, fun _ _ _ _ hr => (by cases hr), h.cello, fun _ _ _ _ hr => (by cases hr), h.dis, rfl, rfl, rfl, Nat.le_refl _, fun _ _ => rfl, fun _ _ => .inl rfl⟩
theorem Holds.grown {w0 w w' : World} {m m' : Mem} (h : Holds w0 w m) (g : Holds w w' m') : Holds w0 w' m := by
 have B : RowKit.Below w.heap.size w w' := ⟨g.os, g.tape, g.output, g.size, g.frame⟩
 refine ⟨fun b o k hk => ?_, fun b o k hk hr => ?_, fun b o v hv => ?_, fun b o v hv hr => ?_, h.dis, g.os.trans h.os, g.tape.trans h.tape, g.output.trans h.output, Nat.le_trans h.size g.size, fun b hb => (g.frame b (Nat.lt_of_lt_of_le hb h.size)).trans (h.frame b hb), h.old⟩
 ·rw [B.cell (h.lt hk)]; exact h.cell _ _ _ hk
 ·rw [B.frozen (h.lt hk)]; exact h.free _ _ _ hk hr
 ·rw [B.cell (h.lto hv)]; exact h.cello _ _ _ hv
 ·rw [B.frozen (h.lto hv)]; exact h.freeo _ _ _ hv hr
end Go.Proofs.YtdhifgedhaapjaaGreatDoor
namespace Go.Proofs.YtdhifgedhaapjaaGreatDoor
open Go
def doesU (P : Program) (R : Value → World → Prop) : Result Next → Prop
 | .ok (.value u) w' => R u w'
 | .ok .skip w' => R undef w'
 | .ok (.enter f args) w' => Calls P f args w' fun e w'' => ∃ v, e = .returned v ∧ R v w''
 | _ => False
theorem doesU_mono {P : Program} {R R' : Value → World → Prop} (h : ∀ v w, R v w → R' v w) : ∀ {r : Result Next}, doesU P R r → doesU P R' r := by
 intro r hr
 cases r with
 | ok n w =>
  cases n <;> simp only [doesU] at hr ⊢
  case value u => exact h _ _ hr
  case skip => exact h _ _ hr
  case enter f args => exact hr.mono fun e w' ⟨v, he, hv⟩ => ⟨v, he, h _ _ hv⟩
 | halt x w => simp only [doesU] at hr
theorem wp_of_doesU {P : Program} {o : Oper} {a : Act} {w : World} {K : Act → World → Prop} {Q : Exit → Act → World → Prop}
  (h : doesU P (fun v w' => K (a.put o.dst v) w') ((execOp a.eval o).run P w)) : o.wp P a w K Q := by
 unfold Oper.wp
 generalize (execOp a.eval o).run P w = r at *
 cases r with
 | ok n w' =>
  cases n <;> simp only [doesU] at h <;> simp only [Oper.upon]
  case value u => exact h
  case skip => exact h
  case enter f args => exact h.mono fun e w'' ⟨v, he, hv⟩ => by subst he; exact hv
 | halt x w' => simp only [doesU] at h
section
variable {P : Program} {ops : Array Oper} {md : Region.Mode} {kw : Nat} {C0 C1 : World → Prop}
def okW (P : Program) (kw : Nat) (C0 C1 : World → Prop) (i : Nat) (o : Oper) (a : Act) (v : Value) : Prop :=
 if i = kw then ∀ w, C0 w → doesU P (fun u w' => u = v ∧ C1 w') ((execOp a.eval o).run P w)
 else (∀ w, C0 w → doesU P (fun u w' => u = v ∧ C0 w') ((execOp a.eval o).run P w)) ∧ ∀ w, C1 w → doesU P (fun u w' => u = v ∧ C1 w') ((execOp a.eval o).run P w)
def yieldW (P : Program) (ops : Array Oper) (kw : Nat) (C0 C1 : World → Prop) (i : Nat) (o : Oper) (v : Value) (a : Act) : Prop :=
 (Region.wanted o (yielded ops a.tmps) = true ∧ okW P kw C0 C1 i o a v) ∨ (Region.wanted o (yielded ops a.tmps) = false ∧ i ≠ kw ∧ v = undef)
def qOpW (P : Program) (ops : Array Oper) (kw : Nat) (C0 C1 : World → Prop) (i : Nat) (K : Act → Prop) (a : Act) : Prop :=
 match ops[i]? with
 | none => False
 | some o => ∃ v, yieldW P ops kw C0 C1 i o v a ∧ K (a.put o.dst v)
theorem qOpW_mono {i : Nat} {a : Act} {K K' : Act → Prop} (h : ∀ a, K a → K' a) (hh : qOpW P ops kw C0 C1 i K a) : qOpW P ops kw C0 C1 i K' a := by
 unfold qOpW at *
 split at hh
 ·exact hh.elim
 ·obtain ⟨v, h1, h2⟩ := hh
  exact ⟨v, h1, h _ h2⟩
def wpAnyW (P : Program) (md : Region.Mode) (ops : Array Oper) (kw : Nat) (C0 C1 : World → Prop) (Q : Bool → Act → Prop) : Nat → Array Bool → Act → Prop
 | 0, listed, a => Region.ready md ops listed = [] ∧ Q (listed.getD kw false) a
 | fuel + 1, listed, a =>
  (Region.ready md ops listed = [] → Q (listed.getD kw false) a) ∧
  ∀ i ∈ Region.ready md ops listed, qOpW P ops kw C0 C1 i (wpAnyW P md ops kw C0 C1 Q fuel (listed.setIfInBounds i true)) a
def clsW (C0 C1 : World → Prop) : Bool → World → Prop
 | false => C0
 | true => C1
theorem getD_set_self {listed : Array Bool} {i : Nat} (h : i < listed.size) : (listed.setIfInBounds i true).getD i false = true := by
 simp [h]
theorem wpAny_of_W {Q : Bool → Act → Prop} {Q' : Exit → Act → World → Prop} (hQ : ∀ b a w, clsW C0 C1 b w → Q b a → Q' .normal a w) :
  ∀ (fuel : Nat) (listed : Array Bool) (a : Act) (w : World), listed.size = ops.size → clsW C0 C1 (listed.getD kw false) w →
  wpAnyW P md ops kw C0 C1 Q fuel listed a → wpAny P md ops Q' fuel listed a w
 | 0, _, _, _, _, hw, h => ⟨h.1, hQ _ _ _ hw h.2⟩
 | fuel + 1, listed, a, w, hs, hw, h => by
  refine ⟨fun h0 => hQ _ _ _ hw (h.1 h0), fun i hi => ?_⟩
  have hq := h.2 i hi
  obtain ⟨hun, o, ho, _⟩ := mem_ready.1 hi
  have hlt : i < listed.size := by rw [hs]; exact (Array.getElem?_eq_some_iff.1 ho).1
  unfold qOpW at hq
  simp only [ho] at hq
  obtain ⟨v, hy, hK⟩ := hq
  have hrc : ∀ (w' : World), clsW C0 C1 ((listed.setIfInBounds i true).getD kw false) w' → wpAny P md ops Q' fuel (listed.setIfInBounds i true) (a.put o.dst v) w' :=
   fun w' hw' => wpAny_of_W hQ fuel _ _ w' (by simpa using hs) hw' hK
  unfold wpOp
  simp only [ho]
  rcases hy with ⟨hwant, hok⟩ | ⟨hwant, hne, rfl⟩
  ·rw [if_pos hwant]
   refine .inl (wp_of_doesU ?_)
   unfold okW at hok
   by_cases hik : i = kw
   ·subst hik
    rw [if_pos rfl] at hok
    rw [getD_set_self hlt] at hrc
    have hb : listed.getD i false = false := by
     simp [hlt] at hun ⊢; exact hun
    rw [hb] at hw
    exact doesU_mono (fun u w' ⟨e, hc⟩ => by subst e; exact hrc _ hc) (hok w hw)
   ·rw [if_neg hik] at hok
    rw [getD_set_ne false hik] at hrc
    cases hb : listed.getD kw false with
    | false =>
     rw [hb] at hw hrc
     exact doesU_mono (fun u w' ⟨e, hc⟩ => by subst e; exact hrc _ hc) (hok.1 w hw)
    | true =>
     rw [hb] at hw hrc
     exact doesU_mono (fun u w' ⟨e, hc⟩ => by subst e; exact hrc _ hc) (hok.2 w hw)
  ·rw [if_neg (by rw [hwant]; decide)]
   rw [getD_set_ne false hne] at hrc
   exact hrc w hw
theorem yieldW.of_same {i : Nat} {o : Oper} {v : Value} {a a' : Act} (hy : yieldW P ops kw C0 C1 i o v a) (he : execOp a'.eval o = execOp a.eval o)
  (hw : Region.wanted o (yielded ops a'.tmps) = Region.wanted o (yielded ops a.tmps)) : yieldW P ops kw C0 C1 i o v a' := by
 unfold yieldW okW at *
 rw [he, hw]
 exact hy
theorem qOpW_put {i j : Nat} {oi oj : Oper} {v : Value} (hj : ops[j]? = some oj) (hap : oi.apart ops oj = true)
  (hsi : ∀ cs b, oi.op ≠ .select cs b) (hsj : ∀ cs b, oj.op ≠ .select cs b) {K : Act → Prop} {a : Act}
  (hy : yieldW P ops kw C0 C1 i oi v a) (h : qOpW P ops kw C0 C1 j K (a.put oi.dst v)) :
  qOpW P ops kw C0 C1 j (fun a' => yieldW P ops kw C0 C1 i oi v a' ∧ K (a'.put oi.dst v)) a := by
 obtain ⟨h1, h2, h3⟩ := Oper.apart_spec hap
 have keep : ∀ (a : Act), yieldW P ops kw C0 C1 i oi v a → ∀ u, yieldW P ops kw C0 C1 i oi v (a.put oj.dst u) := fun a hy u =>
  hy.of_same (execOp_put oi hsi a oj.dst u h3) (wanted_put oi a oj.dst u h3)
 unfold qOpW at *
 simp only [hj] at *
 obtain ⟨u, hu, hK⟩ := h
 refine ⟨u, hu.of_same (execOp_put oj hsj a oi.dst v h1).symm (wanted_put oj a oi.dst v h1).symm, keep a hy u, ?_⟩
 rw [← Act.put_comm a v u h2]; exact hK
theorem wpAnyW_first {Q : Bool → Act → Prop} {i : Nat} {oi : Oper} {v : Value} (hi : ops[i]? = some oi) (hsel : ∀ (j : Nat) (o : Oper) cs b, ops[j]? = some o → o.op ≠ .select cs b) :
  ∀ (fuel : Nat) (listed : Array Bool) (a : Act),
   (∀ j oj, ops[j]? = some oj → j ≠ i → listed.getD j true = false → (∀ e ∈ oj.after, Region.binds md e = true → e.on ≠ i) → oi.apart ops oj = true) →
   i ∈ Region.ready md ops listed → yieldW P ops kw C0 C1 i oi v a →
   wpAnyW P md ops kw C0 C1 Q fuel (listed.setIfInBounds i true) (a.put oi.dst v) → wpAnyW P md ops kw C0 C1 Q (fuel + 1) listed a := by
 intro fuel
 induction fuel with
 | zero =>
  intro listed a _ hr hy H
  refine ⟨fun h => (by rw [h] at hr; cases hr), fun j hj => ?_⟩
  by_cases hji : j = i
  ·subst hji
   unfold qOpW
   simp only [hi]
   exact ⟨v, hy, H⟩
  ·have := ready_mono hj hji
   rw [H.1] at this
   cases this
 | succ fuel ih =>
  intro listed a hfree hr hy H
  refine ⟨fun h => (by rw [h] at hr; cases hr), fun j hj => ?_⟩
  by_cases hji : j = i
  ·subst hji
   unfold qOpW
   simp only [hi]
   exact ⟨v, hy, H⟩
  ·have h1 := H.2 j (ready_mono hj hji)
   obtain ⟨hjun, oj, hoj, hall⟩ := mem_ready.1 hj
   have hnot : ∀ e ∈ oj.after, Region.binds md e = true → e.on ≠ i := fun e he hb heq => by
    have h1 := hall e he hb
    have h0 := (mem_ready.1 hr).1
    rw [heq] at h1
    rcases Nat.lt_or_ge i listed.size with h' | h'
    ·simp [h'] at h0 h1; rw [h0] at h1; cases h1
    ·simp [Array.getElem?_eq_none h'] at h1
   have h2 := qOpW_put hoj (hfree j oj hoj hji hjun hnot) (fun cs b => hsel i oi cs b hi) (fun cs b => hsel j oj cs b hoj) hy h1
   have hfree' : ∀ k ok, ops[k]? = some ok → k ≠ i → (listed.setIfInBounds j true).getD k true = false →
     (∀ e ∈ ok.after, Region.binds md e = true → e.on ≠ i) → oi.apart ops ok = true := fun k ok hk hki hun hno => by
    refine hfree k ok hk hki ?_ hno
    by_cases hjk : j = k
    ·subst hjk; exact hjun
    ·rw [getD_set_ne true hjk] at hun; exact hun
   refine qOpW_mono (fun a' h3 => ih (listed.setIfInBounds j true) a' hfree' (ready_mono hr (Ne.symm hji)) h3.1 ?_) h2
   rw [Array.setIfInBounds_comm _ _ hji]
   exact h3.2
def wpLexW (P : Program) (ops : Array Oper) (kw : Nat) (C0 C1 : World → Prop) (Q : Act → Prop) : List Oper → Nat → Act → Prop
 | [], _, a => Q a
 | o :: l, k, a => ∃ v, yieldW P ops kw C0 C1 k o v a ∧ wpLexW P ops kw C0 C1 Q l (k + 1) (a.put o.dst v)
theorem wpAnyW_lex {Q : Act → Prop} (hs : Region.noSelect ops = true) : ∀ (l : List Oper) (k : Nat) (listed : Array Bool) (a : Act), (∀ j, l[j]? = ops[k + j]?) →
  listed.size = ops.size → k + l.length = ops.size → (listed.getD kw false = decide (kw < k)) →
  Region.lexFrom md ops l.length k listed = true → wpLexW P ops kw C0 C1 Q l k a → wpAnyW P md ops kw C0 C1 (fun b a' => b = decide (kw < ops.size) ∧ Q a') l.length listed a
 | [], k, listed, _, _, _, hk, hf, hB, h => ⟨by simpa [Region.lexFrom] using hB, by
   rw [hf]; have : k = ops.size := by simpa using hk
   rw [this], h⟩
 | o :: l, k, listed, a, hl, hsz, hk, hf0, hB, h => by
  have h0 : ops[k]? = some o := by simpa using (hl 0).symm
  simp only [List.length_cons, Region.lexFrom, Bool.and_eq_true] at hB
  obtain ⟨⟨hr, hf⟩, hB'⟩ := hB
  obtain ⟨v, hy, hK⟩ := h
  have hlt : k < listed.size := by simp only [List.length_cons] at hk; omega
  refine wpAnyW_first h0 (Region.noSelect_spec hs) l.length listed a (Region.free_spec h0 hf) (by simpa using hr) hy
   (wpAnyW_lex hs l (k + 1) _ _ (fun j => by have := hl (j + 1); simpa [Nat.add_assoc, Nat.add_comm 1 j] using this) (by simpa using hsz) (by simp only [List.length_cons] at hk; omega) ?_ hB' hK)
  by_cases hkk : k = kw
  ·subst hkk
   rw [getD_set_self hlt]
   simp
  ·rw [getD_set_ne false hkk, hf0]
   congr 1
   exact propext ⟨fun h => by omega, fun h => by omega⟩
theorem wp_region_W {id : Nat} {Q : Exit → Act → World → Prop} {a : Act} {w : World} (hm : P.follows .mixedOrders = true) (hB : Region.lexB .any ops = true) (hC : C0 w.drew)
  (h : wpLexW P ops kw C0 C1 (fun a' => ∀ w', clsW C0 C1 (decide (kw < ops.size)) w' → Q .normal a' w') ops.toList 0 a) : (Code.region id ops true).wp P Q a w := by
 simp only [Region.lexB, Bool.and_eq_true] at hB
 have hrep : (Array.replicate ops.size false).getD kw false = decide (kw < 0) := by
  rcases Nat.lt_or_ge kw ops.size with h | h
  ·simp [h]
  ·simp [h]
 have H := wpAnyW_lex (md := .any) hB.1 ops.toList 0 (Array.replicate ops.size false) a (by simp) (by simp) (by simp) hrep (by simpa using hB.2) h
 refine wp_region_any hm ?_
 refine wpAny_of_W (C0 := C0) (C1 := C1) (kw := kw) (fun b a' w' hw' hq => ?_) ops.size _ a _ (by simp) (by rw [hrep]; exact hC) (by simpa using H)
 rw [hq.1] at hw'
 exact hq.2 w' hw'
/-! ### one operation that floats, others that leave the world alone, and a tail in its order -/
def sinkB1 (md : Region.Mode) (ops : Array Oper) (n : Nat) : Bool :=
 (List.range n).all fun i => Nat.beq i 0 || (List.range (n + 1)).any fun j => decide (i < j) && Region.waitsFor md ops j i
theorem tail_waits1 {n : Nat} {listed : Array Bool} (hs : sinkB1 md ops n = true) (hc : Region.chainB md ops n = true) (hn : n < ops.size) (inv : HeadInv md ops n listed) (h0 : listed.getD 0 false = true) :
  ∀ (d i : Nat), n - i = d → i < n → listed.getD i true = false → ∀ t, n ≤ t → t ∉ Region.ready md ops listed := by
 intro d
 induction d using Nat.strongRecOn with
 | _ d ih =>
  intro i hd hi hun t ht hr
  have hi0 : i ≠ 0 := by
   rintro rfl
   have := getD_both hun
   rw [h0] at this; cases this
  obtain ⟨_, ot, hot, hall⟩ := mem_ready.1 hr
  have htlt : t < ops.size := (Array.getElem?_eq_some_iff.1 hot).1
  by_cases htn : t = n
  ·subst htn
   have h1 := List.all_eq_true.1 hs i (List.mem_range.2 hi)
   simp only [Bool.or_eq_true] at h1
   have h1 := h1.resolve_left (fun h => hi0 (Nat.eq_of_beq_eq_true h))
   obtain ⟨j, hj, hj2⟩ := List.any_eq_true.1 h1
   simp only [Bool.and_eq_true, decide_eq_true_eq] at hj2
   obtain ⟨oj, hoj, e, he, hb, hon⟩ := Region.waitsFor_spec hj2.2
   have hjle : j ≤ t := by have := List.mem_range.1 hj; omega
   by_cases hjt : j = t
   ·subst hjt
    have : oj = ot := Option.some.inj (hoj.symm.trans hot)
    subst this
    have h2 := hall e he hb
    rw [hon, getD_both hun] at h2
    cases h2
   ·cases hl : listed.getD j false with
    | true =>
     have h2 := inv.closed j oj hoj hl e he hb
     rw [hon, getD_both hun] at h2
     cases h2
    | false =>
     have hjs : j < listed.size := by rw [inv.size]; omega
     exact ih (t - j) (by omega) j rfl (by omega) (getD_in hjs hl) t (Nat.le_refl _) hr
  ·have h1 := List.all_eq_true.1 hc t (List.mem_range.2 htlt)
   simp only [Bool.or_eq_true, decide_eq_true_eq] at h1
   rcases h1 with h1 | h1
   ·omega
   ·obtain ⟨o', ho', e, he, hb, hon⟩ := Region.waitsFor_spec h1
    have : o' = ot := Option.some.inj (ho'.symm.trans hot)
    subst this
    have h2 := hall e he hb
    rw [hon, getD_both (inv.tail (t - 1) (by omega) (by omega))] at h2
    cases h2
theorem wpAnyL_first1 {w : World} {n i : Nat} {oi : Oper} {v : Value} {L : Array Bool → Act → Prop} (hi : ops[i]? = some oi) (hsel : ∀ (j : Nat) (o : Oper) cs b, ops[j]? = some o → o.op ≠ .select cs b)
  (hs : sinkB1 md ops n = true) (hc : Region.chainB md ops n = true) (hn : n < ops.size) (hin : i < n)
  (hdone : ∀ listed a, L listed a → ∀ j ∈ Region.ready md ops listed, n ≤ j) :
  ∀ (f : Nat) (listed : Array Bool) (a : Act), HeadInv md ops n listed → listed.getD 0 false = true →
   (∀ j oj, ops[j]? = some oj → j ≠ i → listed.getD j true = false → (∀ e ∈ oj.after, Region.binds md e = true → e.on ≠ i) → oi.apart ops oj = true) →
   i ∈ Region.ready md ops listed → YieldsAt P ops w oi v a →
   wpAnyL P md ops w n L f (listed.setIfInBounds i true) (a.put oi.dst v) → wpAnyL P md ops w n L (f + 1) listed a := by
 intro f
 induction f with
 | zero =>
  intro listed a inv h0 _ hr hy H
  have hun := (mem_ready.1 hr).1
  refine ⟨fun h => (by rw [h] at hr; cases hr), fun j hj => ?_⟩
  have hjn : j < n := by
   rcases Nat.lt_or_ge j n with h | h
   ·exact h
   ·exact absurd hj (tail_waits1 hs hc hn inv h0 _ i rfl hin hun j h)
  refine ⟨hjn, ?_⟩
  by_cases hji : j = i
  ·subst hji; exact hy.stOp hi H
  ·have := hdone _ _ H j (ready_mono hj hji)
   omega
 | succ f ih =>
  intro listed a inv h0 hfree hr hy H
  have hun := (mem_ready.1 hr).1
  refine ⟨fun h => (by rw [h] at hr; cases hr), fun j hj => ?_⟩
  have hjn : j < n := by
   rcases Nat.lt_or_ge j n with h | h
   ·exact h
   ·exact absurd hj (tail_waits1 hs hc hn inv h0 _ i rfl hin hun j h)
  refine ⟨hjn, ?_⟩
  by_cases hji : j = i
  ·subst hji; exact hy.stOp hi H
  ·have h1 := (H.2 j (ready_mono hj hji)).2
   obtain ⟨hjun, oj, hoj, hall⟩ := mem_ready.1 hj
   have hnot : ∀ e ∈ oj.after, Region.binds md e = true → e.on ≠ i := fun e he hb heq => by
    have h1 := hall e he hb
    rw [heq, getD_both hun] at h1
    cases h1
   have h2 := stOp_put hoj (hfree j oj hoj hji hjun hnot) (fun cs b => hsel i oi cs b hi) (fun cs b => hsel j oj cs b hoj) hy h1
   have hfree' : ∀ k ok, ops[k]? = some ok → k ≠ i → (listed.setIfInBounds j true).getD k true = false →
     (∀ e ∈ ok.after, Region.binds md e = true → e.on ≠ i) → oi.apart ops ok = true := fun k ok hk hki hun hno => by
    refine hfree k ok hk hki ?_ hno
    by_cases hjk : j = k
    ·subst hjk; exact hjun
    ·rw [getD_set_ne true hjk] at hun; exact hun
   refine stOp_mono (fun a' h3 => ih (listed.setIfInBounds j true) a' (inv.set hj hjn) (getD_set_true h0) hfree' (ready_mono hr (Ne.symm hji)) h3.1 ?_) h2
   rw [Array.setIfInBounds_comm _ _ hji]
   exact h3.2
theorem wpAnyL_lex1 {w : World} {n g : Nat} {Lq : Act → Prop} (hsel : Region.noSelect ops = true) (hs : sinkB1 md ops n = true) (hc : Region.chainB md ops n = true) (hn : n < ops.size) :
  ∀ (l : List Oper) (k : Nat) (listed : Array Bool) (a : Act), (∀ j, j < l.length → l[j]? = ops[k + j]?) → k + l.length = n → HeadInv md ops n listed → listed.getD 0 false = true →
  Region.lexHead md ops g l.length k listed = true → wpStill P ops w Lq l a →
  wpAnyL P md ops w n (fun listed' a' => Region.seqB md ops g n listed' = true ∧ Lq a') l.length listed a
 | [], k, listed, a, _, hk, _, _, hB, h => by
  have : k = n := by simpa using hk
  subst this
  exact ⟨by simpa [Region.lexHead] using hB, h⟩
 | o :: l, k, listed, a, hl, hk, inv, hz, hB, h => by
  have h0 : ops[k]? = some o := by simpa using (hl 0 (by simp)).symm
  simp only [List.length_cons, Region.lexHead, Bool.and_eq_true] at hB
  obtain ⟨⟨hr, hf⟩, hB'⟩ := hB
  have hkn : k < n := by simp only [List.length_cons] at hk; omega
  have hr' : k ∈ Region.ready md ops listed := by simpa using hr
  have hst : stOp P ops w k (wpStill P ops w Lq l) a := by unfold stOp; simp only [h0]; exact h
  obtain ⟨v, hy, hK⟩ := yieldsAt_of_stOp h0 hst
  exact wpAnyL_first1 h0 (Region.noSelect_spec hsel) hs hc hn hkn (fun listed' a' hL => seqB_ready hL.1) l.length listed a inv hz (Region.free_spec h0 hf) hr' hy
   (wpAnyL_lex1 hsel hs hc hn l (k + 1) _ _ (fun j hj => by have := hl (j + 1) (by simp; omega); simpa [Nat.add_assoc, Nat.add_comm 1 j] using this) (by simp only [List.length_cons] at hk; omega) (inv.set hr' hkn) (getD_set_true hz) hB' hK)
def floatB (md : Region.Mode) (ops : Array Oper) (n : Nat) : Bool :=
 Region.noSelect ops && decide (n < ops.size) && decide (0 < n) && sinkB1 md ops n && Region.chainB md ops n && Region.lexHead md ops (ops.size - n) n 0 (Array.replicate ops.size false)
theorem wp_region_float {id n : Nat} {Q : Exit → Act → World → Prop} {a : Act} {w : World} {o0 : Oper} {v : Value} (hm : P.follows .mixedOrders = true) (hB : floatB .any ops n = true) (ho : ops[0]? = some o0) (hy : Yields P ops o0 v a)
  (hQ : ∀ c a w, ¬ Q (.panic c) a w)
  (h : wpStill P ops w.drew (fun a' => wpList P ops Q (ops.toList.drop n) a' w.drew) ((ops.toList.take n).drop 1) (a.put o0.dst v)) : (Code.region id ops true).wp P Q a w := by
 simp only [floatB, Bool.and_eq_true, decide_eq_true_eq] at hB
 obtain ⟨⟨⟨⟨⟨hsel, hn⟩, hn0⟩, hs⟩, hc⟩, hlex⟩ := hB
 have htl : (ops.toList.take n).length = n := by simp; omega
 have hdl : (ops.toList.drop n).length = ops.size - n := by simp
 have inv0 : HeadInv .any ops n (Array.replicate ops.size false) :=
  ⟨by simp, fun j oj _ hl => (by rw [getD_replicate_false] at hl; cases hl), fun t _ ht => getD_in (by simpa using ht) (getD_replicate_false _ _)⟩
 obtain ⟨k, rfl⟩ : ∃ k, n = k + 1 := ⟨n - 1, by omega⟩
 simp only [Region.lexHead, Bool.and_eq_true] at hlex
 obtain ⟨⟨hr, hf⟩, hlex'⟩ := hlex
 have hr' : 0 ∈ Region.ready .any ops (Array.replicate ops.size false) := by simpa using hr
 have hlen : ((ops.toList.take (k + 1)).drop 1).length = k := by rw [List.length_drop, htl]; rfl
 have H := wpAnyL_lex1 (md := .any) (g := ops.size - (k + 1)) hsel hs hc hn ((ops.toList.take (k + 1)).drop 1) 1 _ (a.put o0.dst v) (fun j hj => by
  rw [hlen] at hj
  rw [List.getElem?_drop, List.getElem?_take, if_pos (by omega)]
  simp) (by rw [hlen]; omega) (inv0.set hr' hn0) (getD_set_self (by simp; omega)) (by rw [hlen]; exact hlex') h
 refine wp_region_any hm ?_
 have h2 := wpAny_of_head (Q' := Q) (g := ops.size - (k + 1)) (fun listed a' hL => by
  have := wpAny_of_seq (md := .any) (Q' := Q) (ops.toList.drop (k + 1)) (k + 1) listed a' w.drew (fun j => by simp [List.getElem?_drop]) (by rw [hdl]; exact hL.1) hL.2
  rwa [hdl] at this) _ _ _ H
 rw [hlen] at h2
 have h3 := wpAny_first (md := .any) (Q := Q) ho (Region.noSelect_spec hsel) (fun c a w h => (hQ _ _ _ h).elim) (k + (ops.size - (k + 1))) (Array.replicate ops.size false) a w.drew (Region.free_spec ho hf) hr' hy h2
 rw [show k + (ops.size - (k + 1)) + 1 = ops.size by omega] at h3
 exact h3
end
end Go.Proofs.YtdhifgedhaapjaaGreatDoor
namespace Go.Proofs.YtdhifgedhaapjaaGreatDoor
open Go
inductive TD where
 | int (k : IntKind)
 | slice (e : Nat) (k : IntKind)
 | bool
 | other
 | ptr
 | iface
 | fn
 | nilS
 | osl
 | slS
 | st (fs : List (Nat × Nat)) (zs : List Value) (ts : List Nat)
 | tup (ts : List Nat)
 | mode (n : Nat)
 | wm (g : Nat)
 | rm (g : Nat)
 | eqm (T : Nat)
def oneT : TD → Bool
 | .bool | .slice _ _ | .ptr | .iface | .fn => true
 | _ => false
def aggD : TypeDesc → Bool
 | .struct _ | .array _ _ => true
 | _ => false
def ifaceD : TypeDesc → Bool
 | .interface _ => true
 | _ => false
def oneC : Value → Bool
 | .agg _ | .tuple _ => false
 | _ => true
structure TTok (P : Program) (tt : Nat → TD) : Prop where
 int : ∀ T k, tt T = .int k → P.underlying T = some (.int k) ∧ ∃ i, P.info? T = some i ∧ i.size = 1 ∧ i.zero = some (.int k 0) ∧ i.bytes ≤ 8
 slice : ∀ T e k, tt T = .slice e k → P.underlying T = some (.slice e) ∧ tt e = .int k
 one : ∀ T, oneT (tt T) = true → ∃ d, P.underlying T = some d ∧ aggD d = false ∧ ∃ i, P.info? T = some i ∧ i.size = 1
 ptr : ∀ T, tt T = .ptr → ∃ d, P.underlying T = some d ∧ ifaceD d = false
 st : ∀ T fs zs ts, tt T = .st fs zs ts → ∃ F, P.underlying T = some (.struct F) ∧ (∀ w, (F.mapM (fun (f : Field) => (do pure (f.offset, ← sizeOf f.type) : Sem (Nat × Nat)))).run P w = .ok fs.toArray w) ∧
  (∀ (i off sz : Nat), fs[i]? = some (off, sz) → ∃ f : Field, F[i]? = some f ∧ f.offset = off ∧ (∀ w, (sizeOf f.type).run P w = .ok sz w) ∧ sz ≠ 0) ∧
  ∃ inf, P.info? T = some inf ∧ inf.size = zs.length ∧ inf.zero = some (.agg zs.toArray) ∧ ts.length = zs.length
 write : ∀ T g, tt (3000 + T) = .wm g → ∀ a w, (Go.method (P.types.size + Made.depth) T (.pointer (some a)) "Write").run P w = .ok (g, .pointer (some a)) w ∧ (Go.nilAhead (P.types.size + Made.depth) T (.pointer (some a)) "Write").run P w = .ok (some false) w
 read : ∀ T g, tt (4000 + T) = .rm g → ∀ a w, (Go.method (P.types.size + Made.depth) T (.pointer (some a)) "Read").run P w = .ok (g, .pointer (some a)) w ∧ (Go.nilAhead (P.types.size + Made.depth) T (.pointer (some a)) "Read").run P w = .ok (some false) w
 eqI : ∀ S T, tt (5000 + S) = .eqm T → ∀ a w, (binOp .eql T (.iface S (.pointer (some a))) (.iface S (.pointer (some a)))).run P w = .ok (.bool true) w
 iface : ∀ T, tt T = .iface → ∃ ms, P.underlying T = some (.interface ms)
def mtab (tt : Nat → TD) (T : Nat) (name : String) : Option Nat :=
 if name = "Write" then (match tt (3000 + T) with
  | .wm g => some g
  | _ => none)
 else if name = "Read" then (match tt (4000 + T) with
  | .rm g => some g
  | _ => none)
 else none
def inR (k : IntKind) (x : Int) : Prop := k.wrap x = x
def binI (k : IntKind) (op : BinOp) (a b : Int) (K : Value → Prop) : Prop :=
 match op with
 | .add => match k with
  | .i64 | .i32 => inR k (a + b) ∧ K (.int k (a + b))
  | _ => K (.int k (k.wrap (a + b)))
 | .sub => match k with
  | .i64 | .i32 => inR k (a - b) ∧ K (.int k (a - b))
  | _ => K (.int k (k.wrap (a - b)))
 | .mul => match k with
  | .i64 | .i32 => inR k (a * b) ∧ K (.int k (a * b))
  | _ => K (.int k (k.wrap (a * b)))
 | .quo => 0 ≤ a ∧ 0 < b ∧ inR k (a / b) ∧ K (.int k (a / b))
 | .rem => 0 ≤ a ∧ 0 < b ∧ K (.int k (a % b))
 | .eql => K (.bool (a == b))
 | .neq => K (.bool (a != b))
 | .lss => K (.bool (decide (a < b)))
 | .leq => K (.bool (decide (a ≤ b)))
 | .gtr => K (.bool (decide (a > b)))
 | .geq => K (.bool (decide (a ≥ b)))
 | .or => K (.int k (k.wrap (BitVec.ofInt k.bits a ||| BitVec.ofInt k.bits b).toNat))
 | .and => K (.int k (k.wrap (BitVec.ofInt k.bits a &&& BitVec.ofInt k.bits b).toNat))
 | _ => False
def binV (t : TD) (op : BinOp) (x y : Value) (K : Value → Prop) : Prop :=
 match x, y with
 | .int k a, .int k' b => match op with
  | .shl => 0 ≤ b ∧ K (.int k (k.wrap (a * 2 ^ min b.toNat k.bits)))
  | .shr => 0 ≤ b ∧ K (.int k (a / 2 ^ min b.toNat k.bits))
  | _ => cond (decide (k = k')) (binI k op a b K) False
 | .slice a _ _, .slice none _ _ => match t, op with
  | .slice _ _, .eql => K (.bool a.isNone)
  | .slice _ _, .neq => K (.bool (!a.isNone))
  | _, _ => False
 | _, _ => False
def unV (op : UnOp) (x : Value) (K : Value → Prop) : Prop :=
 match op, x with
 | .not, .bool b => K (.bool (!b))
 | .neg, .int k n => inR k (0 - n) ∧ K (.int k (0 - n))
 | .xor, .int k n => K (.int k (k.wrap (BitVec.ofInt k.bits (if k.signed then -1 else k.max) ^^^ BitVec.ofInt k.bits n).toNat))
 | _, _ => False
def convV (s d : TD) (x : Value) (K : Value → Prop) : Prop :=
 match s, d, x with
 | .int _, .int k, .int ks n => match k with
  | .i64 | .i32 => match ks with
   | .u32 | .u64 => K (.int k (k.wrap n))
   | _ => inR k n ∧ K (.int k n)
  | _ => K (.int k (k.wrap n))
 | _, _, _ => False
def ixV (t : TD) (x i : Value) (K : Value → Prop) : Prop :=
 match t, x, i with
 | .slice _ _, .slice (some ⟨b, o, none⟩) len _, .int _ i => 0 ≤ i ∧ i < len ∧ K (.pointer (some ⟨b, o + i.toNat, none⟩))
 | _, _, _ => False
def exV1 (t : TD) (f : Value → Prop) : Prop :=
 match t with
 | .int k => ∃ z : Int, f (.int k z)
 | .bool => ∃ q : Bool, f (.bool q)
 | .slice _ _ => ∃ b o l c : Nat, f (.slice (some ⟨b, o, none⟩) l c)
 | .nilS => f (.slice none 0 0)
 | .osl => ∃ (sb : Option Addr) (l c : Nat), f (.slice sb l c)
 | .slS => ∃ b o l c : Nat, f (.slice (some ⟨b, o, none⟩) l c)
 | .ptr => ∃ b o : Nat, f (.pointer (some ⟨b, o, none⟩))
 | _ => ∃ v, f v
def exL (tt : Nat → TD) : List Nat → (List Value → Prop) → Prop
 | [], f => f []
 | t :: r, f => exV1 (tt t) fun v => exL tt r fun vs => f (v :: vs)
def cellsAt (m : Mem) (b : Nat) : Nat → List Value → Prop
 | _, [] => True
 | o, v :: r => m.ob b o = some v ∧ cellsAt m b (o + 1) r
def loT (t t' : TD) : TD :=
 match t' with
 | .other => t
 | t' => t'
def ldV (tt : Nat → TD) (T : Nat) (a : Value) (m : Mem) (K : Value → Prop) : Prop :=
 match a with
 | .pointer (some ⟨b, o, none⟩) => match tt T with
  | .int k => m.kd b o = some k ∧ ∀ z : Int, m.val b o = z → K (.int k z)
  | .st _ _ ts => exL tt ts fun vs => cellsAt m b o vs ∧ K (.agg vs.toArray)
  | t => cond (oneT t) (exV1 (loT t (tt (1000 + T))) fun v => m.ob b o = some v ∧ K v) False
 | _ => False
def stoL (b : Nat) : List Value → Nat → Mem → (Mem → Prop) → Prop
 | [], _, m, K => K m
 | v :: r, o, m, K => oneC v = true ∧ (m.ob b o).isSome = true ∧ m.ro b = false ∧ ∀ m' : Mem, m' = m.so b o v → stoL b r (o + 1) m' K
def stI (k : IntKind) (b o : Nat) (x : Value) (m : Mem) (K : Mem → Prop) : Prop :=
 match x with
 | .int k' v => cond (decide (k = k')) (m.kd b o = some k ∧ m.ro b = false ∧ ∀ m' : Mem, m' = m.st b o v → K m') False
 | _ => False
def stS (n b o : Nat) (x : Value) (m : Mem) (K : Mem → Prop) : Prop :=
 match x with
 | .agg vs => cond (Nat.beq vs.toList.length n) (stoL b vs.toList o m K) False
 | _ => False
def stV (tt : Nat → TD) (T : Nat) (a x : Value) (m : Mem) (K : Mem → Prop) : Prop :=
 match a with
 | .pointer (some ⟨b, o, none⟩) => match tt T with
  | .int k => stI k b o x m K
  | .st _ _ ts => stS ts.length b o x m K
  | t => cond (oneT t) (stoL b [x] o m K) False
 | _ => False
def alV (t : TD) (m : Mem) (K : Value → Mem → Prop) : Prop :=
 match t with
 | .int k => ∀ B, m.fresh B → ∀ m' : Mem, m' = m.newC B [.int k 0] → K (.pointer (some ⟨B, 0, none⟩)) m'
 | .st _ zs _ => ∀ B, m.fresh B → ∀ m' : Mem, m' = m.newC B zs → K (.pointer (some ⟨B, 0, none⟩)) m'
 | _ => False
def cellsL (v : Value) : List Value :=
 match v with
 | .agg a => a.toList
 | v => [v]
def bxV (x : Value) (m : Mem) (K : Value → Mem → Prop) : Prop :=
 ∀ B, m.fresh B → ∀ m' : Mem, m' = m.newC B (cellsL x) → K (.pointer (some ⟨B, 0, none⟩)) m'
def bdL (fs : List (Nat × Nat)) : List (Nat × Value) → List Value → Option (List Value)
 | [], cs => some cs
 | (i, v) :: r, cs => match fs[i]? with
  | some (off, sz) => cond (oneC v && Nat.beq sz 1 && Nat.blt off cs.length) (bdL fs r (cs.set off v)) none
  | none => none
def bdV (t : TD) (ps : List (Nat × Value)) (K : Value → Prop) : Prop :=
 match t with
 | .st fs zs _ => match bdL fs ps zs with
  | some cs => K (.agg cs.toArray)
  | none => False
 | _ => False
def ncV (tt : Nat → TD) (x : Value) (K : Value → Prop) : Prop :=
 match x with
 | .pointer (some a) => K (.pointer (some a))
 | .func (.method nm) ⟨[.iface T (.pointer (some a))]⟩ c => match mtab tt T nm with
  | some _ => K (.func (.method nm) ⟨[.iface T (.pointer (some a))]⟩ c)
  | none => False
 | _ => False
def faV (t : TD) (x : Value) (i : Nat) (K : Value → Prop) : Prop :=
 match t, x with
 | .st fs _ _, .pointer (some ⟨b, o, none⟩) => match fs[i]? with
  | some (off, _) => K (.pointer (some ⟨b, o + off, none⟩))
  | none => False
 | _, _ => False
def miV (t : TD) (T : Nat) (x : Value) (K : Value → Prop) : Prop :=
 match t with
 | .ptr => K (.iface T x)
 | _ => False
def extV (x : Value) (i : Nat) (K : Value → Prop) : Prop :=
 match x with
 | .tuple a => match a.toList[i]? with
  | some v => K v
  | none => False
 | _ => False
def isI : Value → Bool
 | .iface _ _ | .nilIface => true
 | _ => false
def isN : Value → Bool
 | .nilIface => true
 | _ => false
def eqIV (tt : Nat → TD) (T : Nat) (x y : Value) (K : Value → Prop) : Prop :=
 x = y ∧ (∃ S a, x = .iface S (.pointer (some a)) ∧ tt (5000 + S) = .eqm T) ∧ K (.bool true)
def niV (t : TD) (op : BinOp) (x : Value) (K : Value → Prop) : Prop :=
 match t, op with
 | .iface, .eql => isI x = true ∧ K (.bool (isN x))
 | .iface, .neq => isI x = true ∧ K (.bool (!isN x))
 | _, _ => False
def slV (t : TD) (x : Value) (lo hi : Option Value) (K : Value → Prop) : Prop :=
 match t, x, lo, hi with
 | .slice _ _, .slice (some ⟨b, o, none⟩) _ cap, none, some (.int _ h) => 0 ≤ h ∧ h ≤ cap ∧ K (.slice (some ⟨b, o, none⟩) h.toNat cap)
 | .slice _ _, .slice (some ⟨b, o, none⟩) len cap, some (.int _ l), none =>
  0 ≤ l ∧ l ≤ len ∧ l < cap ∧ K (.slice (some ⟨b, o + l.toNat, none⟩) (len - l.toNat) (cap - l.toNat))
 | .slice _ _, .slice (some ⟨b, o, none⟩) _ cap, some (.int _ l), some (.int _ h) =>
  0 ≤ l ∧ l ≤ h ∧ h ≤ cap ∧ l < cap ∧ K (.slice (some ⟨b, o + l.toNat, none⟩) (h.toNat - l.toNat) (cap - l.toNat))
 | _, _, _, _ => False
def slG (t g : TD) (x : Value) (lo hi : Option Value) (K : Value → Prop) : Prop :=
 match g with
 | .mode _ => match t, x, lo, hi with
  | .slice _ _, .slice (some ⟨b, o, none⟩) len cap, some (.int _ l), none =>
   0 ≤ l ∧ l ≤ len ∧ len ≤ cap ∧ K (.slice (some ⟨b, o + (if l.toNat = cap then 0 else l.toNat), none⟩) (len - l.toNat) (cap - l.toNat))
  | .slice _ _, .slice (some ⟨b, o, none⟩) _ cap, some (.int _ l), some (.int _ h) =>
   0 ≤ l ∧ l ≤ h ∧ h ≤ cap ∧ K (.slice (some ⟨b, o + (if l.toNat = cap then 0 else l.toNat), none⟩) (h.toNat - l.toNat) (cap - l.toNat))
  | _, _, _, _ => slV t x lo hi K
 | _ => slV t x lo hi K
def mkV (t : TD) (l c : Value) (m : Mem) (K : Value → Mem → Prop) : Prop :=
 match t, l, c with
 | .slice _ k, .int .i64 l, .int .i64 c => 0 ≤ l ∧ l ≤ c ∧ c ≤ 1000000000 ∧
  ∀ B, m.fresh B → ∀ m' : Mem, m' = m.new B k c.toNat (fun _ => 0) → K (.slice (some ⟨B, 0, none⟩) l.toNat c.toNat) m'
 | _, _, _ => False
def Callable (P : Program) (f : Nat) : Prop := ∃ fn, P.funcs[f]? = some fn ∧ fn.body.isNone = false ∧ (fn.name == "runtime.NumGoroutine") = false
def callV (P : Program) (w0 : World) (f : Nat) (args : List Value) (m : Mem) (K : Value → Mem → Prop) : Prop :=
 Callable P f ∧ ∀ w, Holds w0 w m → Calls P f args.toArray w fun e w' => ∃ v m', e = .returned v ∧ Holds w0 w' m' ∧ K v m'
def resV (tt : Nat → TD) (t : TD) (K : Value → Mem → Prop) (v : Value) (m : Mem) : Prop :=
 match t with
 | .int k => ∃ z, v = .int k z ∧ K (.int k z) m
 | .bool => ∃ z, v = .bool z ∧ K (.bool z) m
 | .slice e _ => cond (Nat.beq e 3) (K v m) (∃ b o l c, v = .slice (some ⟨b, o, none⟩) l c ∧ K (.slice (some ⟨b, o, none⟩) l c) m)
 | .nilS => v = .slice none 0 0 ∧ K (.slice none 0 0) m
 | .osl => ∃ (sb : Option Addr) (l c : Nat), v = .slice sb l c ∧ K (.slice sb l c) m
 | .slS => ∃ b o l c : Nat, v = .slice (some ⟨b, o, none⟩) l c ∧ K (.slice (some ⟨b, o, none⟩) l c) m
 | .ptr => ∃ b o : Nat, v = .pointer (some ⟨b, o, none⟩) ∧ K (.pointer (some ⟨b, o, none⟩)) m
 | .st _ _ ts => exL tt ts fun vs => v = .agg vs.toArray ∧ K (.agg vs.toArray) m
 | .tup ts => exL tt ts fun vs => v = .tuple vs.toArray ∧ K (.tuple vs.toArray) m
 | _ => K v m
def capV (ts : List TD) (args : List Value) (K : Value → Prop) : Prop :=
 match ts, args with
 | [.slice _ _], [.slice _ _ n] => K (.int .i64 n)
 | _, _ => False
def minV (args : List Value) (K : Value → Prop) : Prop :=
 match args with
 | [.int k a, .int _ b] => K (.int k (if b < a then b else a))
 | _ => False
def fnV (P : Program) (w0 : World) (f : Value) (args : List Value) (m : Mem) (K : Value → Mem → Prop) : Prop :=
 match f with
 | .func (.func g) fst cap => callV P w0 g (fst.toList ++ args ++ cap.toList) m K
 | _ => False
def invV (P : Program) (w0 : World) (tt : Nat → TD) (x : Value) (name : String) (args : List Value) (m : Mem) (K : Value → Mem → Prop) : Prop :=
 match x with
 | .iface T (.pointer (some a)) => match mtab tt T name with
  | some g => callV P w0 g (.pointer (some a) :: args) m K
  | none => False
 | _ => False
def lenV (ts : List TD) (args : List Value) (K : Value → Prop) : Prop :=
 match ts, args with
 | [.slice _ _], [.slice _ n _] => K (.int .i64 n)
 | _, _ => False
def clearV (ts : List TD) (args : List Value) (m : Mem) (K : Value → Mem → Prop) : Prop :=
 match ts, args with
 | [.slice _ k], [.slice (some ⟨b, o, none⟩) n _] =>
  (∀ i, i < n → m.kd b (o + i) = some k) ∧ m.ro b = false ∧ ∀ m' : Mem, m' = m.fill b o n 0 → K (.tuple #[]) m'
 | _, _ => False
def copyV (ts : List TD) (args : List Value) (m : Mem) (K : Value → Mem → Prop) : Prop :=
 match ts, args with
 | [.slice _ k, .slice _ _], [.slice (some ⟨b, o, none⟩) n _, .slice (some ⟨sb, so, none⟩) sn _] =>
  (∀ i, i < min sn n → m.kd b (o + i) = some k ∧ m.kd sb (so + i) = some k) ∧ m.ro b = false ∧
   ∀ m' : Mem, m' = m.copy b o sb so (min sn n) → K (.int .i64 (min sn n : Nat)) m'
 | [.slice _ _, .slice _ _], [.slice (some ⟨_, _, none⟩) _ _, .slice _ sn _] => sn = 0 ∧ K (.int .i64 (0 : Nat)) m
 | _, _ => False
def rowOK (m : Mem) (k : IntKind) (sb : Option Addr) (n c : Nat) : Prop :=
 match sb with
 | some a => ∀ i, i < n → a.spot = none ∧ m.kd a.block (a.off + i) = some k
 | none => n = 0 ∧ c = 0
def elemV (m : Mem) (sb : Option Addr) (i : Nat) : Int :=
 match sb with
 | some a => m.val a.block (a.off + i)
 | none => 0
def apV (t : TD) (s x : Value) (m : Mem) (K : Value → Mem → Prop) : Prop :=
 match t, s, x with
 | .slice _ k, .slice sb n cap, .slice xb l xc =>
  rowOK m k sb n cap ∧ rowOK m k xb l xc ∧ n + l ≤ 1000000000 ∧
  (n + l ≤ cap → match sb with
   | some a => a.spot = none ∧ (∀ i, i < l → m.kd a.block (a.off + n + i) = some k) ∧ m.ro a.block = false ∧ ∀ m' : Mem, m' = m.put a.block (a.off + n) l (elemV m xb) → K (.slice sb (n + l) cap) m'
   | none => K (.slice none (n + l) cap) m) ∧
  (cap < n + l → ∀ B c, m.fresh B → n + l ≤ c → ∀ m' : Mem, m' = m.new B k c (fun i => if i < n then elemV m sb i else if i < n + l then elemV m xb (i - n) else 0) →
   K (.slice (some ⟨B, 0, none⟩) (n + l) c) m')
 | _, _, _ => False
def bsV (t : TD) (len : Nat) (parts : List (Nat × Value)) (m : Mem) (K : Value → Mem → Prop) : Prop :=
 match t, len, parts with
 | .slice _ k, 0, [] => ∀ B, m.fresh B → ∀ m' : Mem, m' = m.new B k 0 (fun _ => 0) → K (.slice (some ⟨B, 0, none⟩) 0 0) m'
 | .slice _ k, 1, [(0, .int k' z)] => cond (decide (k = k')) (∀ B, m.fresh B → ∀ m' : Mem, m' = m.new B k 1 (fun _ => z) → K (.slice (some ⟨B, 0, none⟩) 1 1) m') False
 | _, _, _ => False
def opV (P : Program) (w0 : World) (tt : Nat → TD) (op : Op) (T : Nat) (s : Env) (m : Mem) (K : Value → Mem → Prop) : Prop :=
 match op with
 | .move x => K (s.ev x) m
 | .assign x => K (s.ev x) m
 | .pick c a b => match s.ev c with
  | .bool t => cond t (K (s.ev a) m) (K (s.ev b) m)
  | _ => False
 | .binOp op t x y _ => match y with
  | .const .nilIface => niV (tt t) op (s.ev x) fun v => K v m
  | y => match tt t, op with
   | .iface, .eql => eqIV tt t (s.ev x) (s.ev y) fun v => K v m
   | t', op => binV t' op (s.ev x) (s.ev y) fun v => K v m
 | .unOp op _ x => unV op (s.ev x) fun v => K v m
 | .convert a b x => convV (tt a) (tt b) (s.ev x) fun v => K v m
 | .indexAddr t x i => ixV (tt t) (s.ev x) (s.ev i) fun v => K v m
 | .load t a => ldV tt t (s.ev a) m fun v => K v m
 | .store t a x => stV tt t (s.ev a) (s.ev x) m fun m' => K undef m'
 | .alloc t => alV (tt t) m K
 | .box _ x => bxV (s.ev x) m K
 | .build t ps => bdV (tt t) (ps.toList.map fun p => (p.1, s.ev p.2)) fun v => K v m
 | .nilCheck x => ncV tt (s.ev x) fun v => K v m
 | .fieldAddr t x i => faV (tt t) (s.ev x) i fun v => K v m
 | .makeFunc fn fs cs => K (.func fn (fs.toList.map s.ev).toArray (cs.toList.map s.ev).toArray) m
 | .makeInterface t x => miV (tt t) t (s.ev x) fun v => K v m
 | .extract x i => extV (s.ev x) i fun v => K v m
 | .slice t x lo hi none => slG (tt t) (tt (8000 + t)) (s.ev x) (lo.map s.ev) (hi.map s.ev) fun v => K v m
 | .makeSlice t l c => mkV (tt t) (s.ev l) (s.ev c) m K
 | .buildSlice t n ps => bsV (tt t) n (ps.toList.map fun p => (p.1, s.ev p.2)) m K
 | .call c => match c.callee with
  | .value (.func f) => callV P w0 f (c.args.toList.map s.ev) m (resV tt (loT (tt T) (tt (7000 + f))) K)
  | .value (.tmp t) => fnV P w0 (s t) (c.args.toList.map s.ev) m (resV tt (tt T) K)
  | .invoke x name => invV P w0 tt (s.ev x) name (c.args.toList.map s.ev) m (resV tt (tt T) K)
  | .builtin .cap => capV (c.argTypes.toList.map tt) (c.args.toList.map s.ev) fun v => K v m
  | .builtin .min => minV (c.args.toList.map s.ev) fun v => K v m
  | .builtin .len => lenV (c.argTypes.toList.map tt) (c.args.toList.map s.ev) fun v => K v m
  | .builtin .clear => clearV (c.argTypes.toList.map tt) (c.args.toList.map s.ev) m K
  | .builtin .copy => copyV (c.argTypes.toList.map tt) (c.args.toList.map s.ev) m K
  | .builtin .append => match c.argTypes.toList, c.args.toList with
   | [t, t'], [x, y] => cond (Nat.beq t t') (apV (tt t) (s.ev x) (s.ev y) m K) False
   | _, _ => False
  | _ => False
 | _ => False
/-! ### The run of each -/
theorem inR_quo {k : IntKind} {a b : Int} (h0 : 0 ≤ a) (hb : 0 < b) (h : inR k (a / b)) : k.wrap (a.tdiv b) = a / b := by
 rw [Int.tdiv_eq_ediv_of_nonneg h0]; exact h
theorem binI_run {P : Program} {k : IntKind} {op : BinOp} {T : Nat} {a b : Int} {K : Value → Prop} (h : binI k op a b K) :
  ∃ v, (∀ w, (binOp op T (.int k a) (.int k b)).run P w = .ok v w) ∧ K v := by
 cases op <;> simp only [binI] at h
 case quo =>
  obtain ⟨h0, hb, hr, hk⟩ := h
  refine ⟨_, fun w => ?_, hk⟩
  have hne : b ≠ 0 := by omega
  simp [binOp, Op.intDiv, hne, inR_quo h0 hb hr]
 case rem =>
  obtain ⟨h0, hb, hk⟩ := h
  refine ⟨_, fun w => ?_, hk⟩
  have hne : b ≠ 0 := by omega
  simp [binOp, Op.intDiv, hne, Int.tmod_eq_emod_of_nonneg h0]
 case add => cases k <;> first | exact ⟨_, fun w => by simp [binOp, Op.intArith], h⟩ | exact ⟨_, fun w => by simp [binOp, Op.intArith, show _ = _ from h.1], h.2⟩
 case sub => cases k <;> first | exact ⟨_, fun w => by simp [binOp, Op.intArith], h⟩ | exact ⟨_, fun w => by simp [binOp, Op.intArith, show _ = _ from h.1], h.2⟩
 case mul => cases k <;> first | exact ⟨_, fun w => by simp [binOp, Op.intArith], h⟩ | exact ⟨_, fun w => by simp [binOp, Op.intArith, show _ = _ from h.1], h.2⟩
 case or => (refine ⟨_, fun w => ?_, h⟩; simp only [binOp, ne_eq, not_true_eq_false, if_false]; rfl)
 case and => (refine ⟨_, fun w => ?_, h⟩; simp only [binOp, ne_eq, not_true_eq_false, if_false]; rfl)
 all_goals first
  | exact h.elim
  | (refine ⟨_, fun w => ?_, h⟩; simp only [binOp, ne_eq, not_true_eq_false, if_false]; rfl)
theorem binV_run {P : Program} {tt : Nat → TD} (ht : TTok P tt) {op : BinOp} {T : Nat} {x y : Value} {K : Value → Prop} (h : binV (tt T) op x y K) :
  ∃ v, (∀ w, (binOp op T x y).run P w = .ok v w) ∧ K v := by
 unfold binV at h
 split at h
 ·rename_i k a k' b
  split at h
  ·obtain ⟨h0, hk⟩ := h
   have hn : ¬ b < 0 := by omega
   exact ⟨_, fun w => by simp [binOp, Op.shift, hn], hk⟩
  ·obtain ⟨h0, hk⟩ := h
   have hn : ¬ b < 0 := by omega
   refine ⟨_, fun w => ?_, hk⟩
   have : a.fdiv (2 ^ min b.toNat k.bits) = a / 2 ^ min b.toNat k.bits := Int.fdiv_eq_ediv_of_nonneg _ (Int.le_of_lt (Int.pow_pos (by decide)))
   simp [binOp, Op.shift, hn, this]
  ·by_cases hkk : k = k'
   ·subst hkk
    simp only [decide_true, cond_true] at h
    exact binI_run h
   ·simp [hkk] at h
 ·rename_i a l c l2 c2
  split at h
  ·rename_i e k he
   obtain ⟨hs, _⟩ := ht.slice _ _ _ he
   exact ⟨_, fun w => Lib.run_eql_slice_nil w _ _ _ _ _ _ _ hs, h⟩
  ·rename_i e k he
   obtain ⟨hs, _⟩ := ht.slice _ _ _ he
   exact ⟨_, fun w => run_neq_slice_nil_any w _ _ _ _ _ _ _ hs, h⟩
  ·exact h.elim
 ·exact h.elim
theorem eqGuard_int {P : Program} {w : World} {op : BinOp} {T : Nat} {x y : Operand} {k k' : IntKind} {a b : Int} :
  (eqGuard op T x y (.int k a) (.int k' b)).run P w = .ok () w := by cases op <;> rfl
theorem eqGuard_slice {P : Program} {w : World} {op : BinOp} {T : Nat} {x y : Operand} {a b : Option Addr} {l c l' c' : Nat} :
  (eqGuard op T x y (.slice a l c) (.slice b l' c')).run P w = .ok () w := by cases op <;> rfl
theorem unV_run {P : Program} {op : UnOp} {x : Value} {K : Value → Prop} (h : unV op x K) : ∃ v, (∀ w, (Op.unary op x).run P w = .ok v w) ∧ K v := by
 unfold unV at h
 split at h
 ·exact ⟨_, fun w => rfl, h⟩
 ·exact ⟨_, fun w => by simp [Op.unary, Op.intArith]; simpa [inR] using h.1, h.2⟩
 ·exact ⟨_, fun w => by simp only [Op.unary]; rfl, h⟩
 ·exact h.elim
theorem convV_run {P : Program} {tt : Nat → TD} (ht : TTok P tt) {a b : Nat} {x : Value} {K : Value → Prop} (h : convV (tt a) (tt b) x K) :
  ∃ v, (∀ w, (convert a b x).run P w = .ok v w) ∧ K v := by
 unfold convV at h
 split at h
 ·rename_i ka k ks n h1 h2
  have e : ∀ w, (convert a b (.int ks n)).run P w = .ok (.int k (k.wrap n)) w := fun w => by
   simp [convert, underlying, (ht.int _ _ h1).1, (ht.int _ _ h2).1, Conv.intToInt]
  refine Exists.imp (fun v (hv : (∀ w : World, Result.ok (.int k (k.wrap n)) w = .ok v w) ∧ K v) => ⟨fun w => (e w).trans (hv.1 w), hv.2⟩) ?_
  cases k <;> simp only at h <;> first
   | exact ⟨_, fun w => rfl, h⟩
   | (cases ks <;> simp only at h <;> first
     | exact ⟨_, fun w => rfl, h⟩
     | exact ⟨_, fun w => rfl, by rw [show _ = _ from h.1]; exact h.2⟩)
 ·exact h.elim
theorem ixV_run {P : Program} {tt : Nat → TD} (ht : TTok P tt) {T : Nat} {x i : Value} {K : Value → Prop} (h : ixV (tt T) x i K) :
  ∃ v, (∀ w, (Instr.indexAt T x i).run P w = .ok v w) ∧ K v := by
 unfold ixV at h
 split at h
 ·rename_i e k b o len cap ki i hT
  obtain ⟨h0, h1, hk⟩ := h
  obtain ⟨hs, he⟩ := ht.slice _ _ _ hT
  obtain ⟨_, inf, hi, hsz, hz, hb⟩ := ht.int _ _ he
  have ha : (Addr.add ⟨b, o, none⟩ i.toNat) = ⟨b, o + i.toNat, none⟩ := by
   unfold Addr.add; split <;> simp_all
  exact ⟨_, fun w => by simp [Instr.indexAt, asIntOf, underlying, hs, sizeOf, typeInfo, hi, hsz, h0, h1, ha], hk⟩
 ·exact h.elim
theorem add_ofNat (b o n : Nat) : Addr.add ⟨b, o, none⟩ n = ⟨b, o + n, none⟩ := by
 unfold Addr.add; split <;> simp_all
theorem exV1_elim {t : TD} {f : Value → Prop} (h : exV1 t f) : ∃ v, f v := by
 unfold exV1 at h
 split at h
 ·obtain ⟨z, h⟩ := h; exact ⟨_, h⟩
 ·obtain ⟨z, h⟩ := h; exact ⟨_, h⟩
 ·obtain ⟨_, _, _, _, h⟩ := h; exact ⟨_, h⟩
 ·exact ⟨_, h⟩
 ·obtain ⟨_, _, _, h⟩ := h; exact ⟨_, h⟩
 ·obtain ⟨_, _, _, _, h⟩ := h; exact ⟨_, h⟩
 ·obtain ⟨_, _, h⟩ := h; exact ⟨_, h⟩
 ·obtain ⟨_, h⟩ := h; exact ⟨_, h⟩
theorem exL_elim {tt : Nat → TD} : ∀ {ts : List Nat} {f : List Value → Prop}, exL tt ts f → ∃ vs, vs.length = ts.length ∧ f vs
 | [], f, h => ⟨[], rfl, h⟩
 | t :: r, f, h => by
  obtain ⟨v, h⟩ := exV1_elim h
  obtain ⟨vs, hl, h⟩ := exL_elim h
  exact ⟨v :: vs, by simp [hl], h⟩
theorem cellsAt_get {m : Mem} {b : Nat} : ∀ {vs : List Value} {o : Nat}, cellsAt m b o vs → ∀ (i : Nat) (v : Value), vs[i]? = some v → m.ob b (o + i) = some v
 | [], _, _, i, v, h => by simp at h
 | x :: r, o, hc, i, v, h => by
  cases i with
  | zero =>
   have e : x = v := by simpa using h
   subst e
   exact hc.1
  | succ i =>
   have := cellsAt_get hc.2 i v (by simpa using h)
   rw [show o + (i + 1) = o + 1 + i by omega]; exact this
theorem loadCellsO_run {P : Program} {w0 w : World} {m : Mem} {b : Nat} (h : Holds w0 w m) {o : Nat} : ∀ (vs : List Value) (i : Nat) (acc : Array Value), cellsAt m b (o + i) vs →
  (loadCellsFrom ⟨b, o, none⟩ i vs.length acc).run P w = .ok (acc ++ vs.toArray) w
 | [], i, acc, _ => by simp [loadCellsFrom]
 | v :: r, i, acc, hk => by
  have hc := h.cello _ _ _ hk.1
  simp only [List.length_cons, loadCellsFrom, Sem.run_bind, add_ofNat, run_load]
  rw [hc]
  simp only [Result.andThen_ok]
  rw [loadCellsO_run h r (i + 1) _ (by rw [show o + (i + 1) = o + i + 1 by omega]; exact hk.2)]
  simp
theorem isAgg_of {P : Program} {T : Nat} {d : TypeDesc} (h : P.underlying T = some d) (w : World) : (isAgg T).run P w = .ok (aggD d) w := by
 simp only [isAgg, Sem.run_bind, run_underlying h, Result.andThen_ok]
 cases d <;> rfl
theorem ldV_run {P : Program} {tt : Nat → TD} (ht : TTok P tt) {w0 : World} {m : Mem} {T : Nat} {x : Value} {K : Value → Prop} (h : ldV tt T x m K) :
  ∃ v, (∀ w, Holds w0 w m → (Instr.loadAt T x).run P w = .ok v w) ∧ K v := by
 unfold ldV at h
 split at h
 ·rename_i b o
  split at h
  ·rename_i k hT
   obtain ⟨h0, hk⟩ := h
   refine ⟨_, fun w hw => ?_, hk _ rfl⟩
   simp [Instr.loadAt, Instr.sureAddr, loadVar, isAgg, underlying, (ht.int _ _ hT).1, hw.cell _ _ _ h0]
  ·rename_i fs zs ts hT
   obtain ⟨vs, hl, hc, hk⟩ := exL_elim h
   obtain ⟨F, hu, _, _, inf, hi, hsz, _, hts⟩ := ht.st _ _ _ _ hT
   refine ⟨_, fun w hw => ?_, hk⟩
   have := loadCellsO_run (P := P) hw (o := o) vs 0 #[] (by simpa using hc)
   have hn : inf.size = vs.length := by rw [hsz, hl, hts]
   simp only [Instr.loadAt, Instr.sureAddr, loadVar, Sem.run_bind, Sem.run_pure, Result.andThen_ok, isAgg_of hu, aggD, if_true, sizeOf, typeInfo, run_program, hi, hn, loadCells, this]
   simp
  ·rename_i t _ _
   cases ho : oneT (tt T) with
   | false => rw [ho] at h; exact h.elim
   | true =>
    rw [ho, cond_true] at h
    obtain ⟨v, hc, hk⟩ := exV1_elim h
    obtain ⟨d, hu, hd, _⟩ := ht.one _ ho
    refine ⟨_, fun w hw => ?_, hk⟩
    simp only [Instr.loadAt, Instr.sureAddr, loadVar, Sem.run_bind, Sem.run_pure, Result.andThen_ok, isAgg_of hu, hd, Bool.false_eq_true, if_false, run_load, hw.cello _ _ _ hc]
 ·exact h.elim
theorem slV_run {P : Program} {tt : Nat → TD} (ht : TTok P tt) {T : Nat} {x : Value} {lo hi : Option Value} {K : Value → Prop} (h : slV (tt T) x lo hi K) :
  ∃ v, (∀ w, (Instr.sliceAt T x lo hi none).run P w = .ok v w) ∧ K v := by
 unfold slV at h
 split at h
 ·rename_i e k b o len cap kh hh hT
  obtain ⟨h0, h1, hk⟩ := h
  obtain ⟨hs, he⟩ := ht.slice _ _ _ hT
  obtain ⟨_, inf, hi, hsz, hz, hb⟩ := ht.int _ _ he
  refine ⟨_, fun w => ?_, hk⟩
  simp [Instr.sliceAt, Instr.slice, Instr.sliceBounds, Instr.sliceBound, asIntOf, underlying, hs, sizeOf, typeInfo, hi, hsz, h0, h1, add_ofNat]
 ·rename_i e k b o len cap kh l hT
  obtain ⟨h0, h1, h2, hk⟩ := h
  obtain ⟨hs, he⟩ := ht.slice _ _ _ hT
  obtain ⟨_, inf, hi, hsz, hz, hb⟩ := ht.int _ _ he
  refine ⟨_, fun w => ?_, hk⟩
  have : cap ≠ l.toNat := by omega
  simp [Instr.sliceAt, Instr.slice, Instr.sliceBounds, Instr.sliceBound, asIntOf, underlying, hs, sizeOf, typeInfo, hi, hsz, h0, h1, this, add_ofNat]
 ·rename_i e k b o len cap kh l kh' hh hT
  obtain ⟨h0, h1, h2, h3, hk⟩ := h
  obtain ⟨hs, he⟩ := ht.slice _ _ _ hT
  obtain ⟨_, inf, hi, hsz, hz, hb⟩ := ht.int _ _ he
  refine ⟨_, fun w => ?_, hk⟩
  have : cap ≠ l.toNat := by omega
  have h4 : 0 ≤ hh := by omega
  have h5 : l ≤ max hh 0 := by omega
  simp [Instr.sliceAt, Instr.slice, Instr.sliceBounds, Instr.sliceBound, asIntOf, underlying, hs, sizeOf, typeInfo, hi, hsz, h0, h2, h4, h5, this, add_ofNat]
 ·exact h.elim
theorem slG_run {P : Program} {tt : Nat → TD} (ht : TTok P tt) {T : Nat} {g : TD} {x : Value} {lo hi : Option Value} {K : Value → Prop} (h : slG (tt T) g x lo hi K) :
  ∃ v, (∀ w, (Instr.sliceAt T x lo hi none).run P w = .ok v w) ∧ K v := by
 unfold slG at h
 split at h
 ·split at h
  ·rename_i e k b o len cap kh l hT
   obtain ⟨h0, h1, h2, hk⟩ := h
   obtain ⟨hs, he⟩ := ht.slice _ _ _ hT
   obtain ⟨_, inf, hi, hsz, hz, hb⟩ := ht.int _ _ he
   refine ⟨_, fun w => ?_, hk⟩
   by_cases hc : l.toNat = cap
   ·simp [Instr.sliceAt, Instr.slice, Instr.sliceBounds, Instr.sliceBound, asIntOf, underlying, hs, sizeOf, typeInfo, hi, hsz, h0, h1, hc]
   ·have hc' : ¬ cap = l.toNat := fun e => hc e.symm
    simp [Instr.sliceAt, Instr.slice, Instr.sliceBounds, Instr.sliceBound, asIntOf, underlying, hs, sizeOf, typeInfo, hi, hsz, h0, h1, hc, hc', add_ofNat]
  ·rename_i e k b o len cap kh l kh' hh hT
   obtain ⟨h0, h1, h2, hk⟩ := h
   obtain ⟨hs, he⟩ := ht.slice _ _ _ hT
   obtain ⟨_, inf, hi, hsz, hz, hb⟩ := ht.int _ _ he
   have h4 : 0 ≤ hh := by omega
   have h5 : l ≤ max hh 0 := by omega
   refine ⟨_, fun w => ?_, hk⟩
   by_cases hc : l.toNat = cap
   ·simp [Instr.sliceAt, Instr.slice, Instr.sliceBounds, Instr.sliceBound, asIntOf, underlying, hs, sizeOf, typeInfo, hi, hsz, h0, h2, h4, h5, hc]
   ·have hc' : ¬ cap = l.toNat := fun e => hc e.symm
    simp [Instr.sliceAt, Instr.slice, Instr.sliceBounds, Instr.sliceBound, asIntOf, underlying, hs, sizeOf, typeInfo, hi, hsz, h0, h2, h4, h5, hc, hc', add_ofNat]
  ·exact slV_run ht h
 ·exact slV_run ht h
end Go.Proofs.YtdhifgedhaapjaaGreatDoor

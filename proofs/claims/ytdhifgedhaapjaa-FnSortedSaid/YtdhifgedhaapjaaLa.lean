/- A computed condition over the code of a function (slots as a function, memory of integers as a function of block and offset), and that it is enough for the model's own run. -/
import Derived.WalkKit
import Derived.Deep.Quiet
import Derived.BigCall
import Derived.ScopeJumps
import Derived.WalkSpells
import Derived.Deep.AppendSrc
namespace Go.Proofs.Ytdhifgedhaapjaa
open Go
/-! ## Slots -/
abbrev Env := Nat → Value
def Env.set (s : Env) (t : Nat) (v : Value) : Env := fun x => cond (Nat.beq x t) v (s x)
def Env.put (s : Env) : Option Nat → Value → Env
 | some d, v => s.set d v
 | none, _ => s
def Env.ev (s : Env) : Operand → Value
 | .tmp t => s t
 | .const v => v
 | .global g => .pointer (some ⟨g, 0, none⟩)
 | .func f => .func (.func f) #[] #[]
def envOf (a : Act) : Env := fun t => a.tmps.getD t undef
def env0 (args : List Value) : Env := fun t => args.getD t undef
def Env.hav (s g : Env) (l : List Nat) : Env := fun x => cond (l.any (Nat.beq x)) (g x) (s x)
theorem ev_envOf (a : Act) (x : Operand) : a.eval x = (envOf a).ev x := by cases x <;> rfl
theorem Env.set_same (s : Env) (t : Nat) : s.set t (s t) = s := by
 funext x
 unfold Env.set
 cases h : Nat.beq x t with
 | false => rfl
 | true => rw [Nat.eq_of_beq_eq_true h]; rfl
theorem envOf_put (a : Act) (d : Option Nat) (v : Value) (h : ∀ t, d = some t → t < a.tmps.size) : envOf (a.put d v) = (envOf a).put d v := by
 cases d with
 | none => rfl
 | some t =>
  have ht := h t rfl
  funext x
  simp only [envOf, Act.put, Env.put, Env.set]
  by_cases hx : x = t
  ·subst hx
   have : Nat.beq x x = true := Nat.beq_refl x
   simp [this, ht]
  ·have : Nat.beq x t = false := by
    cases hb : Nat.beq x t with
    | false => rfl
    | true => exact absurd (Nat.eq_of_beq_eq_true hb) hx
   simp only [this, cond_false]
   by_cases hlt : x < a.tmps.size
   ·simp [Array.getD, hlt, Array.getElem_setIfInBounds, Ne.symm hx]
   ·simp [Array.getD, hlt]
theorem size_put (a : Act) (d : Option Nat) (v : Value) : (a.put d v).tmps.size = a.tmps.size := by
 cases d <;> simp [Act.put]
theorem defers_put (a : Act) (d : Option Nat) (v : Value) : (a.put d v).defers = a.defers := by
 cases d <;> rfl
/-! ## Memory of integers -/
structure Mem where
 kd : Nat → Nat → Option IntKind
 ro : Nat → Bool
 val : Nat → Nat → Int
def Mem.st (m : Mem) (b o : Nat) (v : Int) : Mem :=
 {m with val := fun b' o' => if b' = b ∧ o' = o then v else m.val b' o' }
def Mem.fill (m : Mem) (b o n : Nat) (v : Int) : Mem :=
 {m with val := fun b' o' => if b' = b ∧ o ≤ o' ∧ o' < o + n then v else m.val b' o' }
def Mem.copy (m : Mem) (b o sb so n : Nat) : Mem :=
 {m with val := fun b' o' => if b' = b ∧ o ≤ o' ∧ o' < o + n then m.val sb (so + (o' - o)) else m.val b' o' }
def Mem.put (m : Mem) (b o n : Nat) (f : Nat → Int) : Mem :=
 {m with val := fun b' o' => if b' = b ∧ o ≤ o' ∧ o' < o + n then f (o' - o) else m.val b' o' }
def Mem.new (m : Mem) (b : Nat) (k : IntKind) (n : Nat) (f : Nat → Int) : Mem :=
 {kd := fun b' o' => if b' = b then (if o' < n then some k else none) else m.kd b' o'
  ro := fun b' => if b' = b then false else m.ro b'
  val := fun b' o' => if b' = b then f o' else m.val b' o' }
def Mem.fresh (m : Mem) (b : Nat) : Prop := ∀ o, m.kd b o = none
structure Holds (w0 w : World) (m : Mem) : Prop where
 cell : ∀ b o k, m.kd b o = some k → w.cell? ⟨b, o, none⟩ = some (.int k (m.val b o))
 free : ∀ b o k, m.kd b o = some k → m.ro b = false → w.frozen? ⟨b, o, none⟩ = false
 os : w.os = w0.os
 tape : w.tape = w0.tape
 output : w.output = w0.output
 size : w0.heap.size ≤ w.heap.size
 frame : ∀ b, b < w0.heap.size → w.heap[b]? = w0.heap[b]?
 old : ∀ b, b < w0.heap.size → m.ro b = true ∨ ∀ o, m.kd b o = none
theorem Holds.lt {w0 w : World} {m : Mem} (h : Holds w0 w m) {b o : Nat} {k : IntKind} (hk : m.kd b o = some k) : b < w.heap.size :=
 World.block_lt_of_cell? w _ (h.cell b o k hk)
theorem Holds.drew {w0 w : World} {m : Mem} (h : Holds w0 w m) : Holds w0 w.drew m :=
 ⟨h.cell, h.free, h.os, h.tape, h.output, h.size, h.frame, h.old⟩
theorem Holds.drewN {w0 w : World} {m : Mem} (h : Holds w0 w m) (n : Nat) : Holds w0 (w.drewN n) m :=
 ⟨h.cell, h.free, h.os, h.tape, h.output, h.size, h.frame, h.old⟩
theorem Holds.st {w0 w : World} {m : Mem} (h : Holds w0 w m) {b o : Nat} {k : IntKind} (hk : m.kd b o = some k) (hr : m.ro b = false) (v : Int) :
  Holds w0 (w.setCell ⟨b, o, none⟩ (.int k v)) (m.st b o v) := by
 refine ⟨fun b' o' k' hk' => ?_, fun b' o' k' hk' hr' => ?_, h.os, h.tape, h.output, ?_, fun b' hb' => ?_, h.old⟩
 ·have hc := h.cell b' o' k' hk'
  simp only [Mem.st]
  by_cases he : b' = b ∧ o' = o
  ·obtain ⟨rfl, rfl⟩ := he
   have : k' = k := by
    have hh : m.kd b' o' = some k' := hk'
    rw [hk] at hh
    exact (Option.some.inj hh).symm
   subst this
   rw [World.cell?_setCell_same w _ _ hc]
   simp
  ·rw [World.cell?_setCell_other w _ _ _ (fun e => he (by cases e; exact ⟨rfl, rfl⟩)), if_neg he]
   exact hc
 ·rw [World.frozen?_setCell]; exact h.free b' o' k' hk' hr'
 ·rw [World.size_setCell]; exact h.size
 ·have hne : b' ≠ b := by
   rintro rfl
   rcases h.old b' hb' with hf | hf
   ·have hf' : m.ro b' = true := hf
    rw [hr] at hf'; cases hf'
   ·have := hf o
    have h2 : m.kd b' o = none := this
    rw [hk] at h2; cases h2
  rw [RowKit.Below.heap_setCell _ _ _ _ hne]
  exact h.frame b' hb'
theorem Holds.new {w0 w : World} {m : Mem} (h : Holds w0 w m) (k : IntKind) (n : Nat) (f : Nat → Int) (c : Array Value) (e : TypeId)
  (hn : n ≤ c.size) (hc : ∀ i, i < n → c[i]? = some (.int k (f i))) : Holds w0 (w.alloc (.cells c e)) (m.new w.heap.size k n f) := by
 refine ⟨fun b o k' hk' => ?_, fun b o k' hk' hr' => ?_, h.os, h.tape, h.output, ?_, fun b' hb' => ?_, fun b' hb' => ?_⟩
 ·simp only [Mem.new] at hk' ⊢
  by_cases hb : b = w.heap.size
  ·subst hb
   simp only [if_true] at hk' ⊢
   rw [World.cell?_alloc_new]
   by_cases ho : o < n
   ·rw [if_pos ho] at hk'
    cases hk'
    exact hc o ho
   ·rw [if_neg ho] at hk'; cases hk'
  ·rw [if_neg hb] at hk' ⊢
   rw [World.cell?_alloc_old w _ _ hb]
   exact h.cell b o k' hk'
 ·simp only [Mem.new] at hk' hr'
  by_cases hb : b = w.heap.size
  ·subst hb
   rw [World.frozen?_alloc_new]
  ·rw [if_neg hb] at hk' hr'
   rw [World.frozen?_alloc_old w _ _ hb]
   exact h.free b o k' hk' hr'
 ·rw [World.size_alloc]; have := h.size; omega
 ·have hs := h.size
  rw [RowKit.Below.heap_alloc _ _ _ (by omega)]
  exact h.frame b' hb'
 ·have hs := h.size
  simp only [Mem.new, if_neg (show b' ≠ w.heap.size by omega)]
  exact h.old b' hb'
theorem Holds.fresh {w0 w : World} {m : Mem} (h : Holds w0 w m) : m.fresh w.heap.size := by
 intro o
 cases hk : m.kd w.heap.size o with
 | none => rfl
 | some k => exact absurd (h.lt hk) (Nat.lt_irrefl _)
end Go.Proofs.Ytdhifgedhaapjaa
namespace Go.Proofs.Ytdhifgedhaapjaa
open Go
inductive TD where
 | int (k : IntKind)
 | slice (e : Nat) (k : IntKind)
 | bool
 | other
structure TTok (P : Program) (tt : Nat → TD) : Prop where
 int : ∀ T k, tt T = .int k → P.underlying T = some (.int k) ∧ ∃ i, P.info? T = some i ∧ i.size = 1 ∧ i.zero = some (.int k 0) ∧ i.bytes ≤ 8
 slice : ∀ T e k, tt T = .slice e k → P.underlying T = some (.slice e) ∧ tt e = .int k
def inR (k : IntKind) (x : Int) : Prop := k.wrap x = x
def binI (k : IntKind) (op : BinOp) (a b : Int) (K : Value → Prop) : Prop :=
 match op with
 | .add => match k with
  | .i64 | .i32 => inR k (a + b) ∧ K (.int k (a + b))
  | _ => K (.int k (k.wrap (a + b)))
 | .sub => match k with
  | .i64 | .i32 => inR k (a - b) ∧ K (.int k (a - b))
  | _ => K (.int k (k.wrap (a - b)))
 | .mul => match k with
  | .i64 | .i32 => inR k (a * b) ∧ K (.int k (a * b))
  | _ => K (.int k (k.wrap (a * b)))
 | .quo => 0 ≤ a ∧ 0 < b ∧ inR k (a / b) ∧ K (.int k (a / b))
 | .rem => 0 ≤ a ∧ 0 < b ∧ K (.int k (a % b))
 | .eql => K (.bool (a == b))
 | .neq => K (.bool (a != b))
 | .lss => K (.bool (decide (a < b)))
 | .leq => K (.bool (decide (a ≤ b)))
 | .gtr => K (.bool (decide (a > b)))
 | .geq => K (.bool (decide (a ≥ b)))
 | .or => K (.int k (k.wrap (BitVec.ofInt k.bits a ||| BitVec.ofInt k.bits b).toNat))
 | .and => K (.int k (k.wrap (BitVec.ofInt k.bits a &&& BitVec.ofInt k.bits b).toNat))
 | _ => False
def binV (t : TD) (op : BinOp) (x y : Value) (K : Value → Prop) : Prop :=
 match x, y with
 | .int k a, .int k' b => match op with
  | .shl => 0 ≤ b ∧ K (.int k (k.wrap (a * 2 ^ min b.toNat k.bits)))
  | .shr => 0 ≤ b ∧ K (.int k (a / 2 ^ min b.toNat k.bits))
  | _ => cond (decide (k = k')) (binI k op a b K) False
 | .slice a _ _, .slice none _ _ => match t, op with
  | .slice _ _, .eql => K (.bool a.isNone)
  | .slice _ _, .neq => K (.bool (!a.isNone))
  | _, _ => False
 | _, _ => False
def unV (op : UnOp) (x : Value) (K : Value → Prop) : Prop :=
 match op, x with
 | .not, .bool b => K (.bool (!b))
 | .neg, .int k n => inR k (0 - n) ∧ K (.int k (0 - n))
 | .xor, .int k n => K (.int k (k.wrap (BitVec.ofInt k.bits (if k.signed then -1 else k.max) ^^^ BitVec.ofInt k.bits n).toNat))
 | _, _ => False
def convV (s d : TD) (x : Value) (K : Value → Prop) : Prop :=
 match s, d, x with
 | .int _, .int k, .int ks n => match k with
  | .i64 | .i32 => match ks with
   | .u32 | .u64 => K (.int k (k.wrap n))
   | _ => inR k n ∧ K (.int k n)
  | _ => K (.int k (k.wrap n))
 | _, _, _ => False
def ixV (t : TD) (x i : Value) (K : Value → Prop) : Prop :=
 match t, x, i with
 | .slice _ _, .slice (some ⟨b, o, none⟩) len _, .int _ i => 0 ≤ i ∧ i < len ∧ K (.pointer (some ⟨b, o + i.toNat, none⟩))
 | _, _, _ => False
def ldV (t : TD) (a : Value) (m : Mem) (K : Value → Prop) : Prop :=
 match t, a with
 | .int k, .pointer (some ⟨b, o, none⟩) => m.kd b o = some k ∧ ∀ z : Int, m.val b o = z → K (.int k z)
 | _, _ => False
def stV (t : TD) (a x : Value) (m : Mem) (K : Mem → Prop) : Prop :=
 match t, a, x with
 | .int k, .pointer (some ⟨b, o, none⟩), .int k' v => cond (decide (k = k')) (m.kd b o = some k ∧ m.ro b = false ∧ ∀ m' : Mem, m' = m.st b o v → K m') False
 | _, _, _ => False
def slV (t : TD) (x : Value) (lo hi : Option Value) (K : Value → Prop) : Prop :=
 match t, x, lo, hi with
 | .slice _ _, .slice (some ⟨b, o, none⟩) _ cap, none, some (.int _ h) => 0 ≤ h ∧ h ≤ cap ∧ K (.slice (some ⟨b, o, none⟩) h.toNat cap)
 | .slice _ _, .slice (some ⟨b, o, none⟩) len cap, some (.int _ l), none =>
  0 ≤ l ∧ l ≤ len ∧ l < cap ∧ K (.slice (some ⟨b, o + l.toNat, none⟩) (len - l.toNat) (cap - l.toNat))
 | .slice _ _, .slice (some ⟨b, o, none⟩) _ cap, some (.int _ l), some (.int _ h) =>
  0 ≤ l ∧ l ≤ h ∧ h ≤ cap ∧ l < cap ∧ K (.slice (some ⟨b, o + l.toNat, none⟩) (h.toNat - l.toNat) (cap - l.toNat))
 | _, _, _, _ => False
def mkV (t : TD) (l c : Value) (m : Mem) (K : Value → Mem → Prop) : Prop :=
 match t, l, c with
 | .slice _ k, .int .i64 l, .int .i64 c => 0 ≤ l ∧ l ≤ c ∧ c ≤ 1000000000 ∧
  ∀ B, m.fresh B → ∀ m' : Mem, m' = m.new B k c.toNat (fun _ => 0) → K (.slice (some ⟨B, 0, none⟩) l.toNat c.toNat) m'
 | _, _, _ => False
def Callable (P : Program) (f : Nat) : Prop := ∃ fn, P.funcs[f]? = some fn ∧ fn.body.isNone = false ∧ (fn.name == "runtime.NumGoroutine") = false
def callV (P : Program) (w0 : World) (f : Nat) (args : List Value) (m : Mem) (K : Value → Mem → Prop) : Prop :=
 Callable P f ∧ ∀ w, Holds w0 w m → Calls P f args.toArray w fun e w' => ∃ v m', e = .returned v ∧ Holds w0 w' m' ∧ K v m'
def resV (t : TD) (K : Value → Mem → Prop) (v : Value) (m : Mem) : Prop :=
 match t with
 | .int k => ∃ z, v = .int k z ∧ K (.int k z) m
 | .bool => ∃ z, v = .bool z ∧ K (.bool z) m
 | .slice e _ => cond (Nat.beq e 3) (K v m) (∃ b o l c, v = .slice (some ⟨b, o, none⟩) l c ∧ K (.slice (some ⟨b, o, none⟩) l c) m)
 | .other => K v m
def lenV (ts : List TD) (args : List Value) (K : Value → Prop) : Prop :=
 match ts, args with
 | [.slice _ _], [.slice _ n _] => K (.int .i64 n)
 | _, _ => False
def clearV (ts : List TD) (args : List Value) (m : Mem) (K : Value → Mem → Prop) : Prop :=
 match ts, args with
 | [.slice _ k], [.slice (some ⟨b, o, none⟩) n _] =>
  (∀ i, i < n → m.kd b (o + i) = some k) ∧ m.ro b = false ∧ ∀ m' : Mem, m' = m.fill b o n 0 → K (.tuple #[]) m'
 | _, _ => False
def copyV (ts : List TD) (args : List Value) (m : Mem) (K : Value → Mem → Prop) : Prop :=
 match ts, args with
 | [.slice _ k, .slice _ _], [.slice (some ⟨b, o, none⟩) n _, .slice (some ⟨sb, so, none⟩) sn _] =>
  (∀ i, i < min sn n → m.kd b (o + i) = some k ∧ m.kd sb (so + i) = some k) ∧ m.ro b = false ∧
   ∀ m' : Mem, m' = m.copy b o sb so (min sn n) → K (.int .i64 (min sn n : Nat)) m'
 | _, _ => False
def rowOK (m : Mem) (k : IntKind) (sb : Option Addr) (n c : Nat) : Prop :=
 match sb with
 | some a => ∀ i, i < n → a.spot = none ∧ m.kd a.block (a.off + i) = some k
 | none => n = 0 ∧ c = 0
def elemV (m : Mem) (sb : Option Addr) (i : Nat) : Int :=
 match sb with
 | some a => m.val a.block (a.off + i)
 | none => 0
def apV (t : TD) (s x : Value) (m : Mem) (K : Value → Mem → Prop) : Prop :=
 match t, s, x with
 | .slice _ k, .slice sb n cap, .slice xb l xc =>
  rowOK m k sb n cap ∧ rowOK m k xb l xc ∧ n + l ≤ 1000000000 ∧
  (n + l ≤ cap → match sb with
   | some a => a.spot = none ∧ (∀ i, i < l → m.kd a.block (a.off + n + i) = some k) ∧ m.ro a.block = false ∧ ∀ m' : Mem, m' = m.put a.block (a.off + n) l (elemV m xb) → K (.slice sb (n + l) cap) m'
   | none => K (.slice none (n + l) cap) m) ∧
  (cap < n + l → ∀ B c, m.fresh B → n + l ≤ c → ∀ m' : Mem, m' = m.new B k c (fun i => if i < n then elemV m sb i else if i < n + l then elemV m xb (i - n) else 0) →
   K (.slice (some ⟨B, 0, none⟩) (n + l) c) m')
 | _, _, _ => False
def bsV (t : TD) (len : Nat) (parts : List (Nat × Value)) (m : Mem) (K : Value → Mem → Prop) : Prop :=
 match t, len, parts with
 | .slice _ k, 0, [] => ∀ B, m.fresh B → ∀ m' : Mem, m' = m.new B k 0 (fun _ => 0) → K (.slice (some ⟨B, 0, none⟩) 0 0) m'
 | .slice _ k, 1, [(0, .int k' z)] => cond (decide (k = k')) (∀ B, m.fresh B → ∀ m' : Mem, m' = m.new B k 1 (fun _ => z) → K (.slice (some ⟨B, 0, none⟩) 1 1) m') False
 | _, _, _ => False
def opV (P : Program) (w0 : World) (tt : Nat → TD) (op : Op) (T : Nat) (s : Env) (m : Mem) (K : Value → Mem → Prop) : Prop :=
 match op with
 | .move x => K (s.ev x) m
 | .assign x => K (s.ev x) m
 | .pick c a b => match s.ev c with
  | .bool t => cond t (K (s.ev a) m) (K (s.ev b) m)
  | _ => False
 | .binOp op t x y _ => binV (tt t) op (s.ev x) (s.ev y) fun v => K v m
 | .unOp op _ x => unV op (s.ev x) fun v => K v m
 | .convert a b x => convV (tt a) (tt b) (s.ev x) fun v => K v m
 | .indexAddr t x i => ixV (tt t) (s.ev x) (s.ev i) fun v => K v m
 | .load t a => ldV (tt t) (s.ev a) m fun v => K v m
 | .store t a x => stV (tt t) (s.ev a) (s.ev x) m fun m' => K undef m'
 | .slice t x lo hi none => slV (tt t) (s.ev x) (lo.map s.ev) (hi.map s.ev) fun v => K v m
 | .makeSlice t l c => mkV (tt t) (s.ev l) (s.ev c) m K
 | .buildSlice t n ps => bsV (tt t) n (ps.toList.map fun p => (p.1, s.ev p.2)) m K
 | .call c => match c.callee with
  | .value (.func f) => callV P w0 f (c.args.toList.map s.ev) m (resV (tt T) K)
  | .builtin .len => lenV (c.argTypes.toList.map tt) (c.args.toList.map s.ev) fun v => K v m
  | .builtin .clear => clearV (c.argTypes.toList.map tt) (c.args.toList.map s.ev) m K
  | .builtin .copy => copyV (c.argTypes.toList.map tt) (c.args.toList.map s.ev) m K
  | .builtin .append => match c.argTypes.toList, c.args.toList with
   | [t, t'], [x, y] => cond (Nat.beq t t') (apV (tt t) (s.ev x) (s.ev y) m K) False
   | _, _ => False
  | _ => False
 | _ => False
/-! ### The run of each -/
theorem inR_quo {k : IntKind} {a b : Int} (h0 : 0 ≤ a) (hb : 0 < b) (h : inR k (a / b)) : k.wrap (a.tdiv b) = a / b := by
 rw [Int.tdiv_eq_ediv_of_nonneg h0]; exact h
theorem binI_run {P : Program} {k : IntKind} {op : BinOp} {T : Nat} {a b : Int} {K : Value → Prop} (h : binI k op a b K) :
  ∃ v, (∀ w, (binOp op T (.int k a) (.int k b)).run P w = .ok v w) ∧ K v := by
 cases op <;> simp only [binI] at h
 case quo =>
  obtain ⟨h0, hb, hr, hk⟩ := h
  refine ⟨_, fun w => ?_, hk⟩
  have hne : b ≠ 0 := by omega
  simp [binOp, Op.intDiv, hne, inR_quo h0 hb hr]
 case rem =>
  obtain ⟨h0, hb, hk⟩ := h
  refine ⟨_, fun w => ?_, hk⟩
  have hne : b ≠ 0 := by omega
  simp [binOp, Op.intDiv, hne, Int.tmod_eq_emod_of_nonneg h0]
 case add => cases k <;> first | exact ⟨_, fun w => by simp [binOp, Op.intArith], h⟩ | exact ⟨_, fun w => by simp [binOp, Op.intArith, show _ = _ from h.1], h.2⟩
 case sub => cases k <;> first | exact ⟨_, fun w => by simp [binOp, Op.intArith], h⟩ | exact ⟨_, fun w => by simp [binOp, Op.intArith, show _ = _ from h.1], h.2⟩
 case mul => cases k <;> first | exact ⟨_, fun w => by simp [binOp, Op.intArith], h⟩ | exact ⟨_, fun w => by simp [binOp, Op.intArith, show _ = _ from h.1], h.2⟩
 case or => (refine ⟨_, fun w => ?_, h⟩; simp only [binOp, ne_eq, not_true_eq_false, if_false]; rfl)
 case and => (refine ⟨_, fun w => ?_, h⟩; simp only [binOp, ne_eq, not_true_eq_false, if_false]; rfl)
 all_goals first
  | exact h.elim
  | (refine ⟨_, fun w => ?_, h⟩; simp only [binOp, ne_eq, not_true_eq_false, if_false]; rfl)
theorem binV_run {P : Program} {tt : Nat → TD} (ht : TTok P tt) {op : BinOp} {T : Nat} {x y : Value} {K : Value → Prop} (h : binV (tt T) op x y K) :
  ∃ v, (∀ w, (binOp op T x y).run P w = .ok v w) ∧ K v := by
 unfold binV at h
 split at h
 ·rename_i k a k' b
  split at h
  ·obtain ⟨h0, hk⟩ := h
   have hn : ¬ b < 0 := by omega
   exact ⟨_, fun w => by simp [binOp, Op.shift, hn], hk⟩
  ·obtain ⟨h0, hk⟩ := h
   have hn : ¬ b < 0 := by omega
   refine ⟨_, fun w => ?_, hk⟩
   have : a.fdiv (2 ^ min b.toNat k.bits) = a / 2 ^ min b.toNat k.bits := Int.fdiv_eq_ediv_of_nonneg _ (Int.le_of_lt (Int.pow_pos (by decide)))
   simp [binOp, Op.shift, hn, this]
  ·by_cases hkk : k = k'
   ·subst hkk
    simp only [decide_true, cond_true] at h
    exact binI_run h
   ·simp [hkk] at h
 ·rename_i a l c l2 c2
  split at h
  ·rename_i e k he
   obtain ⟨hs, _⟩ := ht.slice _ _ _ he
   exact ⟨_, fun w => Lib.run_eql_slice_nil w _ _ _ _ _ _ _ hs, h⟩
  ·rename_i e k he
   obtain ⟨hs, _⟩ := ht.slice _ _ _ he
   exact ⟨_, fun w => run_neq_slice_nil_any w _ _ _ _ _ _ _ hs, h⟩
  ·exact h.elim
 ·exact h.elim
theorem eqGuard_int {P : Program} {w : World} {op : BinOp} {T : Nat} {x y : Operand} {k k' : IntKind} {a b : Int} :
  (eqGuard op T x y (.int k a) (.int k' b)).run P w = .ok () w := by cases op <;> rfl
theorem eqGuard_slice {P : Program} {w : World} {op : BinOp} {T : Nat} {x y : Operand} {a b : Option Addr} {l c l' c' : Nat} :
  (eqGuard op T x y (.slice a l c) (.slice b l' c')).run P w = .ok () w := by cases op <;> rfl
theorem unV_run {P : Program} {op : UnOp} {x : Value} {K : Value → Prop} (h : unV op x K) : ∃ v, (∀ w, (Op.unary op x).run P w = .ok v w) ∧ K v := by
 unfold unV at h
 split at h
 ·exact ⟨_, fun w => rfl, h⟩
 ·exact ⟨_, fun w => by simp [Op.unary, Op.intArith]; simpa [inR] using h.1, h.2⟩
 ·exact ⟨_, fun w => by simp only [Op.unary]; rfl, h⟩
 ·exact h.elim
theorem convV_run {P : Program} {tt : Nat → TD} (ht : TTok P tt) {a b : Nat} {x : Value} {K : Value → Prop} (h : convV (tt a) (tt b) x K) :
  ∃ v, (∀ w, (convert a b x).run P w = .ok v w) ∧ K v := by
 unfold convV at h
 split at h
 ·rename_i ka k ks n h1 h2
  have e : ∀ w, (convert a b (.int ks n)).run P w = .ok (.int k (k.wrap n)) w := fun w => by
   simp [convert, underlying, (ht.int _ _ h1).1, (ht.int _ _ h2).1, Conv.intToInt]
  refine Exists.imp (fun v (hv : (∀ w : World, Result.ok (.int k (k.wrap n)) w = .ok v w) ∧ K v) => ⟨fun w => (e w).trans (hv.1 w), hv.2⟩) ?_
  cases k <;> simp only at h <;> first
   | exact ⟨_, fun w => rfl, h⟩
   | (cases ks <;> simp only at h <;> first
     | exact ⟨_, fun w => rfl, h⟩
     | exact ⟨_, fun w => rfl, by rw [show _ = _ from h.1]; exact h.2⟩)
 ·exact h.elim
theorem ixV_run {P : Program} {tt : Nat → TD} (ht : TTok P tt) {T : Nat} {x i : Value} {K : Value → Prop} (h : ixV (tt T) x i K) :
  ∃ v, (∀ w, (Instr.indexAt T x i).run P w = .ok v w) ∧ K v := by
 unfold ixV at h
 split at h
 ·rename_i e k b o len cap ki i hT
  obtain ⟨h0, h1, hk⟩ := h
  obtain ⟨hs, he⟩ := ht.slice _ _ _ hT
  obtain ⟨_, inf, hi, hsz, hz, hb⟩ := ht.int _ _ he
  have ha : (Addr.add ⟨b, o, none⟩ i.toNat) = ⟨b, o + i.toNat, none⟩ := by
   unfold Addr.add; split <;> simp_all
  exact ⟨_, fun w => by simp [Instr.indexAt, asIntOf, underlying, hs, sizeOf, typeInfo, hi, hsz, h0, h1, ha], hk⟩
 ·exact h.elim
theorem ldV_run {P : Program} {tt : Nat → TD} (ht : TTok P tt) {w0 : World} {m : Mem} {T : Nat} {x : Value} {K : Value → Prop} (h : ldV (tt T) x m K) :
  ∃ v, (∀ w, Holds w0 w m → (Instr.loadAt T x).run P w = .ok v w) ∧ K v := by
 unfold ldV at h
 split at h
 ·rename_i k b o hT
  obtain ⟨h0, hk⟩ := h
  refine ⟨_, fun w hw => ?_, hk _ rfl⟩
  simp [Instr.loadAt, Instr.sureAddr, loadVar, isAgg, underlying, (ht.int _ _ hT).1, hw.cell _ _ _ h0]
 ·exact h.elim
theorem add_ofNat (b o n : Nat) : Addr.add ⟨b, o, none⟩ n = ⟨b, o + n, none⟩ := by
 unfold Addr.add; split <;> simp_all
theorem slV_run {P : Program} {tt : Nat → TD} (ht : TTok P tt) {T : Nat} {x : Value} {lo hi : Option Value} {K : Value → Prop} (h : slV (tt T) x lo hi K) :
  ∃ v, (∀ w, (Instr.sliceAt T x lo hi none).run P w = .ok v w) ∧ K v := by
 unfold slV at h
 split at h
 ·rename_i e k b o len cap kh hh hT
  obtain ⟨h0, h1, hk⟩ := h
  obtain ⟨hs, he⟩ := ht.slice _ _ _ hT
  obtain ⟨_, inf, hi, hsz, hz, hb⟩ := ht.int _ _ he
  refine ⟨_, fun w => ?_, hk⟩
  simp [Instr.sliceAt, Instr.slice, Instr.sliceBounds, Instr.sliceBound, asIntOf, underlying, hs, sizeOf, typeInfo, hi, hsz, h0, h1, add_ofNat]
 ·rename_i e k b o len cap kh l hT
  obtain ⟨h0, h1, h2, hk⟩ := h
  obtain ⟨hs, he⟩ := ht.slice _ _ _ hT
  obtain ⟨_, inf, hi, hsz, hz, hb⟩ := ht.int _ _ he
  refine ⟨_, fun w => ?_, hk⟩
  have : cap ≠ l.toNat := by omega
  simp [Instr.sliceAt, Instr.slice, Instr.sliceBounds, Instr.sliceBound, asIntOf, underlying, hs, sizeOf, typeInfo, hi, hsz, h0, h1, this, add_ofNat]
 ·rename_i e k b o len cap kh l kh' hh hT
  obtain ⟨h0, h1, h2, h3, hk⟩ := h
  obtain ⟨hs, he⟩ := ht.slice _ _ _ hT
  obtain ⟨_, inf, hi, hsz, hz, hb⟩ := ht.int _ _ he
  refine ⟨_, fun w => ?_, hk⟩
  have : cap ≠ l.toNat := by omega
  have h4 : 0 ≤ hh := by omega
  have h5 : l ≤ max hh 0 := by omega
  simp [Instr.sliceAt, Instr.slice, Instr.sliceBounds, Instr.sliceBound, asIntOf, underlying, hs, sizeOf, typeInfo, hi, hsz, h0, h2, h4, h5, this, add_ofNat]
 ·exact h.elim
end Go.Proofs.Ytdhifgedhaapjaa
namespace Go.Proofs.Ytdhifgedhaapjaa
open Go
def pureOp : Op → Bool
 | .move _ | .assign _ | .pick .. | .binOp .. | .unOp .. | .convert .. | .indexAddr .. | .load .. => true
 | .slice _ _ _ _ none => true
 | .call c => match c.callee with
  | .builtin .len => true
  | _ => false
 | _ => false
theorem eval_eq (a : Act) : a.eval = (envOf a).ev := funext (ev_envOf a)
theorem binV_guard {P : Program} {t : TD} {w : World} {op : BinOp} {T : Nat} {x y : Operand} {a b : Value} {K : Value → Prop} (h : binV t op a b K) :
  (eqGuard op T x y a b).run P w = .ok () w := by
 unfold binV at h
 split at h
 ·exact eqGuard_int
 ·exact eqGuard_slice
 ·exact h.elim
theorem lenV_run {P : Program} {tt : Nat → TD} (ht : TTok P tt) {T : Nat} {ts : Array Nat} {args : Array Value} {K : Value → Prop} (h : lenV (ts.toList.map tt) args.toList K) :
  ∃ v, (∀ w, (Builtin.len_ ts T args).run P w = .ok v w) ∧ K v := by
 unfold lenV at h
 split at h
 ·rename_i e k b n c hts hargs
  obtain ⟨t, rfl, hT⟩ : ∃ t, ts = #[t] ∧ tt t = .slice e k := by
   obtain ⟨l⟩ := ts
   match l with
   | [] => simp at hts
   | [t] => exact ⟨t, rfl, by simpa using hts⟩
   | _ :: _ :: _ => simp at hts
  obtain rfl : args = #[.slice b n c] := by
   obtain ⟨l⟩ := args
   simp only at hargs
   rw [hargs]
  obtain ⟨hs, he⟩ := ht.slice _ _ _ hT
  refine ⟨_, fun w => ?_, h⟩
  simp [Builtin.len_, underlying, hs, goInt]
 ·exact h.elim
theorem op_pure {P : Program} {tt : Nat → TD} (ht : TTok P tt) {w0 : World} {m : Mem} {o : Oper} {a : Act} {K : Value → Mem → Prop}
  (hp : pureOp o.op = true) (h : opV P w0 tt o.op o.type (envOf a) m K) :
  ∃ v, (∀ w, Holds w0 w m → (execOp a.eval o).run P w = .ok (.value v) w) ∧ K v m := by
 rw [eval_eq]
 obtain ⟨dst, op, T, pos, after, guard⟩ := o
 simp only at hp h
 cases op <;> simp only [pureOp, Bool.false_eq_true] at hp <;> simp only [opV] at h
 case move x => exact ⟨_, fun w _ => by simp [execOp], h⟩
 case assign x => exact ⟨_, fun w _ => by simp [execOp], h⟩
 case pick c x y =>
  split at h
  ·rename_i t ht
   refine ⟨if t then (envOf a).ev x else (envOf a).ev y, fun w _ => ?_, ?_⟩
   ·simp [execOp, ht, asBool]
   ·cases t <;> exact h
  ·exact h.elim
 case binOp op t x y _ =>
  obtain ⟨v, hv, hk⟩ := binV_run ht h
  exact ⟨v, fun w _ => by simp [execOp, binV_guard h, hv w], hk⟩
 case unOp op t x =>
  obtain ⟨v, hv, hk⟩ := unV_run (P := P) h
  exact ⟨v, fun w _ => by simp [execOp, hv w], hk⟩
 case convert s d x =>
  obtain ⟨v, hv, hk⟩ := convV_run ht h
  exact ⟨v, fun w _ => by simp [execOp, hv w], hk⟩
 case indexAddr t x i =>
  obtain ⟨v, hv, hk⟩ := ixV_run ht h
  exact ⟨v, fun w _ => by simp [execOp, hv w], hk⟩
 case load t x =>
  obtain ⟨v, hv, hk⟩ := ldV_run (w0 := w0) ht h
  exact ⟨v, fun w hw => by simp [execOp, hv w hw], hk⟩
 case slice t x lo hi mx =>
  cases mx with
  | some _ => cases hp
  | none =>
   obtain ⟨v, hv, hk⟩ := slV_run ht h
   exact ⟨v, fun w _ => by simp [execOp, hv w], hk⟩
 case call c =>
  obtain ⟨callee, args, ts⟩ := c
  simp only at hp h
  split at hp
  ·simp only at h
   obtain ⟨v, hv, hk⟩ := lenV_run (T := T) (args := args.map (envOf a).ev) ht (by simpa using h)
   exact ⟨v, fun w _ => by simp [execOp, resolve, invoke, builtin, hv w], hk⟩
  ·cases hp
/-! ### Operations that write, make or call -/
def Mem.stL (m : Mem) (b o : Nat) (zs : List Int) : Mem :=
 {m with val := fun b' o' => if b' = b ∧ o ≤ o' ∧ o' < o + zs.length then zs.getD (o' - o) 0 else m.val b' o' }
theorem storeCells_run {P : Program} {w0 : World} {b o : Nat} {k : IntKind} : ∀ (zs : List Int) (i : Nat) (w : World) (m : Mem), Holds w0 w m →
  (∀ j, j < zs.length → m.kd b (o + i + j) = some k) → m.ro b = false →
  ∃ w', (storeCells ⟨b, o, none⟩ (zs.map (Value.int k)) i).run P w = .ok () w' ∧ Holds w0 w' (m.stL b (o + i) zs)
 | [], i, w, m, h, _, _ => by
  refine ⟨w, by simp [storeCells], ?_⟩
  have : m.stL b (o + i) [] = m := by
   unfold Mem.stL
   cases m with
   | mk kd ro val =>
    simp only [Mem.mk.injEq, true_and]
    funext b' o'
    rw [if_neg (by simp only [List.length_nil]; omega)]
  rw [this]; exact h
 | z :: zs, i, w, m, h, hk, hr => by
  have hk0 : m.kd b (o + i) = some k := hk 0 (by simp)
  have h1 : Holds w0 (w.setCell ⟨b, o + i, none⟩ (.int k z)) (m.st b (o + i) z) := h.st hk0 hr z
  obtain ⟨w', hw', hh⟩ := storeCells_run zs (i + 1) _ _ h1 (fun j hj => by
   have := hk (j + 1) (by simp; omega)
   simp only [Mem.st]
   rw [show o + (i + 1) + j = o + i + (j + 1) by omega]; exact this) hr
  refine ⟨w', ?_, ?_⟩
  ·have hc := h.cell _ _ _ hk0
   have hf := h.free _ _ _ hk0 hr
   simp only [List.map_cons, storeCells, Sem.run_bind, add_ofNat]
   rw [run_store P w _ _ _ rfl, hc]
   simp only [hf, Bool.false_eq_true, if_false, Result.andThen_ok]
   exact hw'
  ·have : (m.st b (o + i) z).stL b (o + (i + 1)) zs = m.stL b (o + i) (z :: zs) := by
    unfold Mem.stL Mem.st
    simp only [Mem.mk.injEq, true_and]
    funext b' o'
    simp only [List.length_cons]
    by_cases hb : b' = b
    ·subst hb
     simp only [true_and]
     by_cases h1 : o' = o + i
     ·subst h1
      rw [if_neg (by omega), if_pos rfl, if_pos (by omega)]
      simp
     ·by_cases h2 : o + (i + 1) ≤ o' ∧ o' < o + (i + 1) + zs.length
      ·rw [if_pos h2, if_pos (by omega)]
       obtain ⟨d, hd⟩ : ∃ d, o' - (o + i) = d + 1 := ⟨o' - (o + i) - 1, by omega⟩
       rw [hd, show o' - (o + (i + 1)) = d by omega]
       simp
      ·rw [if_neg h2, if_neg h1, if_neg (by omega)]
    ·simp [hb]
   rw [← this]; exact hh
theorem zeroCells_eq (k : IntKind) (n : Nat) : (Builtin.zeroCells (Value.cells (.int k 0)) n).toList = (List.replicate n (0 : Int)).map (Value.int k) := by
 apply List.ext_getElem
 ·simp [Builtin.zeroCells, Value.cells]
 ·intro i h1 h2
  simp [Builtin.zeroCells, Value.cells, Nat.mod_one]
theorem stL_replicate (m : Mem) (b o n : Nat) (v : Int) : m.stL b o (List.replicate n v) = m.fill b o n v := by
 unfold Mem.stL Mem.fill
 simp only [Mem.mk.injEq, true_and, List.length_replicate]
 funext b' o'
 split
 ·rename_i h
  rw [List.getD_eq_getElem?_getD, List.getElem?_replicate, if_pos (by omega)]; rfl
 ·rfl
theorem loadCells_run {P : Program} {w0 w : World} {m : Mem} {b o : Nat} {k : IntKind} (h : Holds w0 w m) : ∀ (n i : Nat) (acc : Array Value), (∀ j, j < n → m.kd b (o + i + j) = some k) →
  (loadCellsFrom ⟨b, o, none⟩ i n acc).run P w = .ok (acc ++ ((List.range n).map fun j => Value.int k (m.val b (o + i + j))).toArray) w
 | 0, i, acc, _ => by simp [loadCellsFrom]
 | n + 1, i, acc, hk => by
  have hc := h.cell _ _ _ (hk 0 (by omega))
  simp only [loadCellsFrom, Sem.run_bind, add_ofNat, run_load, Nat.add_zero] at hc ⊢
  rw [hc]
  simp only [Result.andThen_ok]
  rw [loadCells_run h n (i + 1) _ (fun j hj => by rw [show o + (i + 1) + j = o + i + (j + 1) by omega]; exact hk (j + 1) (by omega))]
  congr 1
  rw [List.range_succ_eq_map, List.map_cons, List.map_map]
  apply Array.ext'
  simp only [Array.toList_append, Array.toList_push, List.append_assoc, List.singleton_append, Nat.add_zero]
  congr 2
  apply List.map_congr_left
  intro j _
  simp only [Function.comp]
  rw [show o + (i + 1) + j = o + i + (j + 1) by omega]
theorem stL_copy (m : Mem) (b o sb so n : Nat) : m.stL b o ((List.range n).map fun j => m.val sb (so + j)) = m.copy b o sb so n := by
 unfold Mem.stL Mem.copy
 simp only [Mem.mk.injEq, true_and, List.length_map, List.length_range]
 funext b' o'
 split
 ·rename_i h
  rw [List.getD_eq_getElem?_getD, List.getElem?_map, List.getElem?_range (by omega)]; rfl
 ·rfl
theorem resV_elim {t : TD} {K : Value → Mem → Prop} {v : Value} {m : Mem} (h : resV t K v m) : K v m := by
 unfold resV at h
 split at h
 ·obtain ⟨z, rfl, h⟩ := h; exact h
 ·obtain ⟨z, rfl, h⟩ := h; exact h
 ·rename_i e k
  cases hb : Nat.beq e 3 with
  | true => rw [hb] at h; exact h
  | false => rw [hb] at h; obtain ⟨b, o, l, c, rfl, h⟩ := h; exact h
 ·exact h
theorem map_tt {tt : Nat → TD} {ts : Array Nat} {l : List TD} (h : ts.toList.map tt = l) : ts.size = l.length ∧ ∀ (i : Nat) t, l[i]? = some t → ∃ T, ts[i]? = some T ∧ tt T = t := by
 subst h
 refine ⟨by simp, fun i t hi => ?_⟩
 rw [List.getElem?_map] at hi
 cases hT : ts.toList[i]? with
 | none => rw [hT] at hi; cases hi
 | some T => rw [hT] at hi; exact ⟨T, by rw [← hT]; simp, Option.some.inj hi⟩
theorem clearV_run {P : Program} {tt : Nat → TD} (ht : TTok P tt) {w0 w : World} {m : Mem} (hw : Holds w0 w m) {T : Nat} {ts : Array Nat} {args : Array Value} {K : Value → Mem → Prop}
  (h : clearV (ts.toList.map tt) args.toList m K) : ∃ v w' m', (Builtin.clear_ ts T args).run P w = .ok v w' ∧ Holds w0 w' m' ∧ K v m' := by
 unfold clearV at h
 split at h
 ·rename_i e k b o n c hts hargs
  obtain ⟨hl, hi⟩ := map_tt hts
  obtain ⟨t, h0, hT⟩ := hi 0 _ rfl
  obtain rfl : args = #[.slice (some ⟨b, o, none⟩) n c] := by
   obtain ⟨l⟩ := args
   simp only at hargs
   rw [hargs]
  obtain ⟨hs, he⟩ := ht.slice _ _ _ hT
  obtain ⟨_, inf, hinf, hsz, hz, hb⟩ := ht.int _ _ he
  obtain ⟨hk, hr, hK⟩ := h
  obtain ⟨w', hrun, hh⟩ := storeCells_run (P := P) (b := b) (o := o) (k := k) (List.replicate n (0 : Int)) 0 w m hw (fun j hj => by simpa using hk j (by simpa using hj)) hr
  rw [Nat.add_zero, stL_replicate] at hh
  cases n with
  | zero =>
   refine ⟨.tuple #[], w, m.fill b o 0 0, ?_, ?_, hK _ rfl⟩
   ·simp [Builtin.clear_, h0, underlying, hs]
   ·have : m.fill b o 0 0 = m := by
     unfold Mem.fill
     cases m
     simp only [Mem.mk.injEq, true_and]
     funext b' o'
     rw [if_neg (by omega)]
    rw [this]; exact hw
  | succ n =>
   refine ⟨.tuple #[], w', _, ?_, hh, hK _ rfl⟩
   rw [← zeroCells_eq] at hrun
   simp [Builtin.clear_, h0, underlying, hs, zeroValue, typeInfo, hinf, hz, hrun]
 ·exact h.elim
theorem copyV_run {P : Program} {tt : Nat → TD} (ht : TTok P tt) {w0 w : World} {m : Mem} (hw : Holds w0 w m) {T : Nat} {ts : Array Nat} {args : Array Value} {K : Value → Mem → Prop}
  (h : copyV (ts.toList.map tt) args.toList m K) : ∃ v w' m', (Builtin.copy_ ts T args).run P w = .ok v w' ∧ Holds w0 w' m' ∧ K v m' := by
 unfold copyV at h
 split at h
 ·rename_i e k _ _ b o n c sb so sn sc hts hargs
  obtain ⟨hl, hi⟩ := map_tt hts
  obtain ⟨t, h0, hT⟩ := hi 0 _ rfl
  obtain rfl : args = #[.slice (some ⟨b, o, none⟩) n c, .slice (some ⟨sb, so, none⟩) sn sc] := by
   obtain ⟨l⟩ := args
   simp only at hargs
   rw [hargs]
  obtain ⟨hs, he⟩ := ht.slice _ _ _ hT
  obtain ⟨_, inf, hinf, hsz, hz, hb⟩ := ht.int _ _ he
  obtain ⟨hk, hr, hK⟩ := h
  have hld := loadCells_run (P := P) (b := sb) (o := so) (k := k) hw (min sn n) 0 #[] (fun j hj => by simpa using (hk j hj).2)
  obtain ⟨w', hrun, hh⟩ := storeCells_run (P := P) (b := b) (o := o) (k := k) ((List.range (min sn n)).map fun j => m.val sb (so + j)) 0 w m hw
   (fun j hj => by simpa using (hk j (by simpa using hj)).1) hr
  rw [Nat.add_zero, stL_copy] at hh
  rw [List.map_map] at hrun
  refine ⟨.int .i64 (min sn n : Nat), w', _, ?_, hh, hK _ rfl⟩
  have e1 : (loadCells ⟨sb, so, none⟩ (Nat.min sn n)).run P w = .ok ((List.range (min sn n)).map fun j => Value.int k (m.val sb (so + j))).toArray w := by
   simpa [loadCells] using hld
  have e2 : (storeCells ⟨b, o, none⟩ ((List.range (min sn n)).map fun j => Value.int k (m.val sb (so + j))) 0).run P w = .ok () w' := hrun
  simp [Builtin.copy_, h0, underlying, hs, Builtin.lenOf, Builtin.firstCells, sizeOf, typeInfo, hinf, hsz, e1, e2, goInt]
 ·exact h.elim
theorem wrap_i64 {z : Int} (h0 : -9223372036854775808 ≤ z) (h1 : z ≤ 9223372036854775807) : IntKind.i64.wrap z = z := by
 show (if (true && decide (z % (18446744073709551616 : Int) ≥ (9223372036854775808 : Int))) = true then z % (18446744073709551616 : Int) - 18446744073709551616 else z % (18446744073709551616 : Int)) = z
 by_cases h : z % (18446744073709551616 : Int) ≥ 9223372036854775808
 ·simp only [h, decide_true, Bool.and_self, if_true]; omega
 ·simp only [h, decide_false, Bool.and_false, Bool.false_eq_true, if_false]; omega
theorem wrap_i32 {z : Int} (h0 : -2147483648 ≤ z) (h1 : z ≤ 2147483647) : IntKind.i32.wrap z = z := by
 show (if (true && decide (z % (4294967296 : Int) ≥ (2147483648 : Int))) = true then z % (4294967296 : Int) - 4294967296 else z % (4294967296 : Int)) = z
 by_cases h : z % (4294967296 : Int) ≥ 2147483648
 ·simp only [h, decide_true, Bool.and_self, if_true]; omega
 ·simp only [h, decide_false, Bool.and_false, Bool.false_eq_true, if_false]; omega
theorem wrap_small {z : Int} (h0 : 0 ≤ z) (h1 : z ≤ 1000000000) : IntKind.i64.wrap z = z := wrap_i64 (by omega) (by omega)
theorem mkV_run {P : Program} {tt : Nat → TD} (ht : TTok P tt) {w0 w : World} {m : Mem} (hw : Holds w0 w m) {T : Nat} {l c : Value} {K : Value → Mem → Prop}
  (h : mkV (tt T) l c m K) : ∃ v w' m', (Instr.makeSlice T l c).run P w = .ok v w' ∧ Holds w0 w' m' ∧ K v m' := by
 unfold mkV at h
 split at h
 ·rename_i e k l c hT
  obtain ⟨h0, h1, h2, hK⟩ := h
  obtain ⟨hs, he⟩ := ht.slice _ _ _ hT
  obtain ⟨_, inf, hinf, hsz, hz, hb⟩ := ht.int _ _ he
  have hl : IntKind.i64.wrap l = l := wrap_small h0 (by omega)
  have hc : IntKind.i64.wrap c = c := wrap_small (by omega) h2
  have hbc : ¬ ((inf.bytes : Int) * c > 2 ^ 48) := by
   have : (inf.bytes : Int) * c ≤ 8 * 1000000000 := Int.mul_le_mul (by omega) h2 (by omega) (by omega)
   omega
  refine ⟨_, _, _, ?_, hw.new k c.toNat (fun _ => 0) ((Array.range (c.toNat * 1)).map ((if c.toNat * 1 = 0 then #[] else Value.cells (.int k 0))[· % (if c.toNat * 1 = 0 then #[] else Value.cells (.int k 0)).size]!)) e (by simp) ?_, hK _ hw.fresh _ rfl⟩
  ·have n1 : ¬ c < 0 := by omega
   have n2 : ¬ l < 0 := by omega
   have n3 : ¬ l > c := by omega
   simp only [Instr.makeSlice, Sem.run_bind, asInt, asIntOf, underlying, run_program, hs, typeInfo, hinf, Result.andThen_ok, Sem.run_pure, Sem.run_ite, hl, hc, n1, n2, n3, hbc,
    decide_false, Bool.or_false, Bool.false_or, Bool.false_eq_true, if_false, run_askRoom, sizeOf, hsz, zeroValue, hz]
   by_cases hc0 : c.toNat * 1 = 0
   ·simp only [hc0, if_true, Result.andThen_ok, newRow, Sem.run_bind, run_newObj, Sem.run_pure]
    rfl
   ·simp only [hc0, if_false, Result.andThen_ok, newRow, Sem.run_bind, run_newObj, Sem.run_pure]
    rfl
  ·intro i hi
   have : ¬ c.toNat * 1 = 0 := by omega
   simp [Value.cells, Nat.mod_one, hi, show ¬ c.toNat = 0 by omega]
 ·exact h.elim
theorem firstCells_run {P : Program} {w0 w : World} {m : Mem} (hw : Holds w0 w m) {k : IntKind} {sb : Option Addr} {n c : Nat} (h : rowOK m k sb n c) :
  (Builtin.firstCells 1 n (.slice sb n c)).run P w = .ok (((List.range n).map fun j => Value.int k (elemV m sb j)).toArray) w := by
 unfold rowOK at h
 split at h
 ·rename_i a
  rcases Nat.eq_zero_or_pos n with h0 | h0
  ·subst h0
   simp [Builtin.firstCells, loadCells, loadCellsFrom]
  ·obtain ⟨b, o, spot⟩ := a
   obtain rfl : spot = none := (h 0 h0).1
   have hld := loadCells_run (P := P) (b := b) (o := o) (k := k) hw n 0 #[] (fun j hj => by simpa using (h j hj).2)
   simp only [Builtin.firstCells, Nat.mul_one]
   simpa [loadCells, elemV] using hld
 ·obtain ⟨rfl, rfl⟩ := h
  simp [Builtin.firstCells]
theorem apV_run {P : Program} {tt : Nat → TD} (ht : TTok P tt) {w0 w : World} {m : Mem} (hw : Holds w0 w m) {T t : Nat} {s x : Value} {K : Value → Mem → Prop}
  (h : apV (tt t) s x m K) : ∃ v w' m', (Builtin.append_ #[t, t] T #[s, x]).run P w = .ok v w' ∧ Holds w0 w' m' ∧ K v m' := by
 unfold apV at h
 split at h
 ·rename_i e k sb n cap xb l xc hT
  obtain ⟨hs, he⟩ := ht.slice _ _ _ hT
  obtain ⟨_, inf, hinf, hsz, hz, hb⟩ := ht.int _ _ he
  obtain ⟨h1, h2, h3, h4, h5⟩ := h
  have f1 := firstCells_run (P := P) hw h1
  have f2 := firstCells_run (P := P) hw h2
  rcases Nat.lt_or_ge cap (n + l) with hg | hg
  ·have hsrc : Src P inf.size t (.slice xb l xc) l ((List.range l).map fun j => Value.int k (elemV m xb j)) w := by
    rw [hsz]
    exact ⟨.inl ⟨_, hs⟩, fun _ => rfl, f2, firstCells_run (P := P) hw.drew h2, by simp, fun u hu => by
     obtain ⟨j, _, rfl⟩ := List.mem_map.1 hu
     rfl⟩
   have hfit : Builtin.nextslicecap (n + l) cap * inf.bytes ≤ 281474976710656 := growslice_fits hg (Nat.le_trans (Nat.mul_le_mul h3 hb) (by decide))
   have hrun := run_append_grow_src (P := P) w t t T e inf (.int k 0) hs hinf hz sb n cap ((List.range n).map fun j => Value.int k (elemV m sb j))
    (by rw [hsz]; exact firstCells_run (P := P) hw.drew h1) (.slice xb l xc) l _ hsrc hg (by omega) hfit
   have hge := grownCap_ge w (n + l) cap e
   refine ⟨_, _, _, hrun, hw.drew.new k (grownCap w (n + l) cap e) (fun i => if i < n then elemV m sb i else if i < n + l then elemV m xb (i - n) else 0) _ _ ?_ ?_, h5 hg _ _ hw.fresh hge _ rfl⟩
   ·simp [size_zeroCells, Value.cells]; omega
   ·intro i hi
    simp only [Array.getElem?_append, List.size_toArray, List.length_append, List.length_map, List.length_range, List.getElem?_toArray]
    by_cases h6 : i < n + l
    ·rw [if_pos h6]
     by_cases h7 : i < n
     ·rw [List.getElem?_append_left (by simpa using h7)]
      simp [h7]
     ·have h8 : i - n < l := by omega
      rw [List.getElem?_append_right (by simpa using Nat.le_of_not_lt h7)]
      simp only [List.length_map, List.length_range, List.getElem?_map, List.getElem?_range h8, Option.map_some, h7, h6, if_false, if_true]
    ·have h8 : i - (n + l) < grownCap w (n + l) cap e - (n + l) := by omega
     rw [if_neg h6]
     have h9 : (Builtin.zeroCells (Value.cells (.int k 0)) (grownCap w (n + l) cap e - (n + l)))[i - (n + l)]? = some (Value.int k 0) := by
      rw [← Array.getElem?_toList, zeroCells_eq, List.getElem?_map, List.getElem?_replicate, if_pos h8]; rfl
     rw [h9, if_neg (by omega), if_neg h6]
  ·have h4' := h4 hg
   cases sb with
   | none =>
    obtain ⟨rfl, rfl⟩ := h1
    obtain rfl : l = 0 := by omega
    refine ⟨_, w, m, ?_, hw, h4'⟩
    simp [Builtin.append_, underlying, hs, sizeOf, typeInfo, hinf, hsz, Builtin.lenOf, f2]
   | some a =>
    obtain ⟨b, o, pth⟩ := a
    obtain ⟨g0, g1, g2, g3⟩ := h4'
    cases pth with
    | some _ => cases g0
    | none =>
     obtain ⟨w', hrun, hh⟩ := storeCells_run (P := P) (b := b) (o := o + n) (k := k) ((List.range l).map fun j => elemV m xb j) 0 w m hw (fun j hj => by simpa using g1 j (by simpa using hj)) g2
     rw [List.map_map] at hrun
     have e2 : (storeCells ⟨b, o + n, none⟩ ((List.range l).map fun j => Value.int k (elemV m xb j)) 0).run P w = .ok () w' := hrun
     have e3 : m.stL b (o + n + 0) ((List.range l).map fun j => elemV m xb j) = m.put b (o + n) l (elemV m xb) := by
      unfold Mem.stL Mem.put
      simp only [Mem.mk.injEq, true_and]
      funext b' o'
      by_cases hc : b' = b ∧ o + n ≤ o' ∧ o' < o + n + l
      ·rw [if_pos hc, if_pos (by simpa using hc)]
       have : o' - (o + n) < l := by omega
       simp [List.getD_eq_getElem?_getD, this]
      ·rw [if_neg hc, if_neg (by simpa using hc)]
     rw [e3] at hh
     refine ⟨_, w', _, ?_, hh, g3 _ rfl⟩
     simp [Builtin.append_, underlying, hs, sizeOf, typeInfo, hinf, hsz, Builtin.lenOf, hg, f2, add_ofNat, e2]
 ·exact h.elim
theorem bsV_run {P : Program} {tt : Nat → TD} (ht : TTok P tt) {w0 w : World} {m : Mem} (hw : Holds w0 w m) {t len : Nat} {ps : Array (Nat × Value)} {K : Value → Mem → Prop}
  (h : bsV (tt t) len ps.toList m K) : ∃ v w' m', (Instr.buildSlice t len ps).run P w = .ok v w' ∧ Holds w0 w' m' ∧ K v m' := by
 unfold bsV at h
 split at h
 ·rename_i e k hT hps
  obtain ⟨hs, he⟩ := ht.slice _ _ _ hT
  obtain ⟨_, inf, hinf, hsz, hz, hb⟩ := ht.int _ _ he
  refine ⟨_, _, _, ?_, hw.new k 0 (fun _ => 0) #[] e (by simp) (fun i hi => by omega), h _ hw.fresh _ rfl⟩
  simp [Instr.buildSlice, underlying, hs, sizeOf, typeInfo, hinf, hsz, hps, Instr.fill, newRow]
  congr 2
  exact Array.eq_empty_of_size_eq_zero (by simp)
 ·rename_i e k k' z hT hps
  obtain ⟨hs, he⟩ := ht.slice _ _ _ hT
  obtain ⟨_, inf, hinf, hsz, hz, hb⟩ := ht.int _ _ he
  by_cases hk : k = k'
  ·subst hk
   simp only [decide_true, cond_true] at h
   refine ⟨_, _, _, ?_, hw.new k 1 (fun _ => z) #[.int k z] e (by simp) (fun i hi => by obtain rfl : i = 0 := (by omega); rfl), h _ hw.fresh _ rfl⟩
   simp [Instr.buildSlice, underlying, hs, sizeOf, typeInfo, hinf, hsz, hz, zeroValue, hps, Instr.fill, newRow, Value.cells]
   congr 2
   apply Array.ext
   ·simp
   ·intro i h1 h2
    have : i = 0 := by simpa using h2
    subst this
    simp
  ·simp [hk] at h
 ·exact h.elim
theorem stV_run {P : Program} {tt : Nat → TD} (ht : TTok P tt) {w0 w : World} {m : Mem} (hw : Holds w0 w m) {T : Nat} {a x : Value} {K : Mem → Prop}
  (h : stV (tt T) a x m K) : ∃ w' m', (Instr.storeAt T a x).run P w = .ok () w' ∧ Holds w0 w' m' ∧ K m' := by
 unfold stV at h
 split at h
 ·rename_i k b o k' v hT
  obtain ⟨_, inf, hinf, hsz, hz, hb⟩ := ht.int _ _ hT
  by_cases hkk : k = k'
  ·subst hkk
   simp only [decide_true, cond_true] at h
   obtain ⟨hk, hr, hK⟩ := h
   refine ⟨_, _, ?_, hw.st hk hr v, hK _ rfl⟩
   have hc := hw.cell _ _ _ hk
   have hf := hw.free _ _ _ hk hr
   have hs : (store ⟨b, o, none⟩ (.int k v)).run P w = .ok () (w.setCell ⟨b, o, none⟩ (.int k v)) := by
    rw [run_store P w _ _ _ rfl, hc]
    simp [hf]
   simp [Instr.storeAt, Instr.sureAddr, storeVar, Value.cells, sizeOf, typeInfo, hinf, hsz, storeCells, add_ofNat, hs]
  ·simp [hkk] at h
 ·exact h.elim
theorem callFunc_run {P : Program} {f : Nat} (h : Callable P f) (args : Array Value) (w : World) : (callFunc f args).run P w = .ok (.enter f args) w := by
 obtain ⟨fn, hf, hb, hn⟩ := h
 have hb' : fn.body ≠ none := fun h => by rw [h] at hb; cases hb
 have hn' : fn.name ≠ "runtime.NumGoroutine" := fun h => by rw [h] at hn; simp at hn
 simp [callFunc, hf, hb', hn']
theorem op_sound {P : Program} {tt : Nat → TD} (ht : TTok P tt) {w0 w : World} {m : Mem} (hw : Holds w0 w m) {o : Oper} {a : Act} {K : Value → Mem → Prop}
  (h : opV P w0 tt o.op o.type (envOf a) m K) {next : Act → World → Prop} {Q : Exit → Act → World → Prop}
  (hn : ∀ v w' m', Holds w0 w' m' → K v m' → next (a.put o.dst v) w') : o.wp P a w next Q := by
 by_cases hp : pureOp o.op = true
 ·obtain ⟨v, hv, hk⟩ := op_pure ht hp h
  unfold Oper.wp
  rw [hv w hw]
  exact hn _ _ _ hw hk
 ·unfold Oper.wp
  have he := eval_eq a
  obtain ⟨dst, op, T, pos, after, guard⟩ := o
  simp only at hp h hn
  cases op <;> simp only [pureOp, not_true_eq_false] at hp <;> simp only [opV] at h
  case store t x y =>
   obtain ⟨w', m', hr, hh, hk⟩ := stV_run (P := P) ht hw h
   have : (execOp a.eval { dst, op := .store t x y, type := T, pos, after, guard }).run P w = .ok .skip w' := by
    rw [he]; simp [execOp, hr]
   rw [this]
   exact hn _ _ _ hh hk
  case makeSlice t l c =>
   obtain ⟨v, w', m', hr, hh, hk⟩ := mkV_run (P := P) ht hw h
   have : (execOp a.eval { dst, op := .makeSlice t l c, type := T, pos, after, guard }).run P w = .ok (.value v) w' := by
    rw [he]; simp [execOp, hr]
   rw [this]
   exact hn _ _ _ hh hk
  case buildSlice t n ps =>
   obtain ⟨v, w', m', hr, hh, hk⟩ := bsV_run (P := P) (ps := ps.map fun p => (p.1, (envOf a).ev p.2)) ht hw (by rw [Array.toList_map]; exact h)
   have : (execOp a.eval { dst, op := .buildSlice t n ps, type := T, pos, after, guard }).run P w = .ok (.value v) w' := by
    rw [he]; simp [execOp, hr]
   rw [this]
   exact hn _ _ _ hh hk
  case slice t x lo hi mx =>
   cases mx with
   | some _ => exact h.elim
   | none => exact absurd rfl hp
  case call c =>
   obtain ⟨callee, args, ts⟩ := c
   simp only at hp h
   split at h
   ·rename_i f
    obtain ⟨hf, hc⟩ := h
    have hrun : (execOp a.eval { dst, op := .call ⟨.value (.func f), args, ts⟩, type := T, pos, after, guard }).run P w = .ok (.enter f (args.map a.eval)) w := by
     rw [execOp_call_go, callFunc_run hf]
     simp
    rw [hrun]
    show Calls P f (args.map a.eval) w _
    have hc' := hc w hw
    rw [← he] at hc'
    have ea : (args.toList.map a.eval).toArray = args.map a.eval := by rw [← Array.toList_map]
    rw [ea] at hc'
    refine hc'.mono ?_
    rintro e w' ⟨v, m', rfl, hh, hk⟩
    exact hn _ _ _ hh (resV_elim hk)
   ·exact absurd rfl hp
   ·obtain ⟨v, w', m', hr, hh, hk⟩ := clearV_run (P := P) (T := T) (ts := ts) (args := args.map (envOf a).ev) (K := K) ht hw (by rw [Array.toList_map (xs := args)]; exact h)
    have hrun : (execOp a.eval { dst, op := .call ⟨.builtin .clear, args, ts⟩, type := T, pos, after, guard }).run P w = .ok (.value v) w' := by
     rw [he]; simp [execOp, resolve, invoke, builtin, hr]
    rw [hrun]
    exact hn _ _ _ hh hk
   ·obtain ⟨v, w', m', hr, hh, hk⟩ := copyV_run (P := P) (T := T) (ts := ts) (args := args.map (envOf a).ev) (K := K) ht hw (by rw [Array.toList_map (xs := args)]; exact h)
    have hrun : (execOp a.eval { dst, op := .call ⟨.builtin .copy, args, ts⟩, type := T, pos, after, guard }).run P w = .ok (.value v) w' := by
     rw [he]; simp [execOp, resolve, invoke, builtin, hr]
    rw [hrun]
    exact hn _ _ _ hh hk
   ·split at h
    ·rename_i t t' x y hts hargs
     obtain rfl : ts = #[t, t'] := by rw [← Array.toArray_toList (xs := ts), hts]
     obtain rfl : args = #[x, y] := by rw [← Array.toArray_toList (xs := args), hargs]
     cases hb : Nat.beq t t' with
     | false => rw [hb] at h; exact h.elim
     | true =>
      rw [hb] at h
      obtain rfl : t = t' := Nat.eq_of_beq_eq_true hb
      obtain ⟨v, w', m', hr, hh, hk⟩ := apV_run (P := P) (T := T) ht hw h
      have hrun : (execOp a.eval { dst, op := .call ⟨.builtin .append, #[x, y], #[t, t]⟩, type := T, pos, after, guard }).run P w = .ok (.value v) w' := by
       rw [he]; simp [execOp, resolve, invoke, builtin, hr]
      rw [hrun]
      exact hn _ _ _ hh hk
    ·exact h.elim
   ·exact h.elim
  all_goals exact h.elim
end Go.Proofs.Ytdhifgedhaapjaa

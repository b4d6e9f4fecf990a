/- The condition of a function's code, and that it is enough. -/
import Derived.Test.YtdhifgedhaapjaaLa
import Derived.Test.YtdhifgedhaapjaaProg
namespace Go.Proofs.Ytdhifgedhaapjaa
open Go
def slotOf (all : List Oper) (j : Nat) : Option Nat := (all[j]?).bind (·.dst)
def stillV (P : Program) (w0 : World) (f : Nat) (args : List Value) (m : Mem) (K : Value → Mem → Prop) : Prop :=
 Callable P f ∧ ∃ v, (∀ w, Holds w0 w m → Calls P f args.toArray w fun e w' => e = .returned v ∧ w' = w) ∧ K v m
abbrev OpF := Op → Nat → Env → Mem → (Value → Mem → Prop) → Prop
def opS (P : Program) (w0 : World) (tt : Nat → TD) : OpF := fun op T s m K =>
 match op with
 | .call c => match c.callee with
  | .value (.func f) => stillV P w0 f (c.args.toList.map s.ev) m (resV (tt T) K)
  | _ => opV P w0 tt (.call c) T s m K
 | op => opV P w0 tt op T s m K
def stillOp (op : Op) : Bool := pureOp op || match op with
 | .call c => match c.callee with
  | .value (.func _) => true
  | _ => false
 | _ => false
def vcOps (F : OpF) (all : List Oper) (K : Env → Mem → Prop) : List Oper → Env → Mem → Prop
 | [], s, m => K s m
 | o :: r, s, m =>
  match o.guard with
  | none => F o.op o.type s m fun v m' => vcOps F all K r (s.put o.dst v) m'
  | some (j, want) =>
   match slotOf all j with
   | none => False
   | some t =>
    match s t with
    | .bool v => cond v
     (cond want (F o.op o.type (s.set t (.bool true)) m fun v m' => vcOps F all K r ((s.set t (.bool true)).put o.dst v) m')
      (vcOps F all K r ((s.set t (.bool true)).put o.dst undef) m))
     (cond want (vcOps F all K r ((s.set t (.bool false)).put o.dst undef) m)
      (F o.op o.type (s.set t (.bool false)) m fun v m' => vcOps F all K r ((s.set t (.bool false)).put o.dst v) m'))
    | _ => vcOps F all K r (s.put o.dst undef) m
abbrev Post := Exit → Env → Mem → Prop
def thenV (N : Env → Mem → Prop) (Q : Post) : Post
 | .normal => N
 | e => Q e
def blockV (id : Nat) (Q : Post) : Post
 | .exit i => cond (Nat.beq i id) (Q .normal) (Q (.exit i))
 | e => Q e
def noGotoV (Q : Post) : Post
 | .goto _ => fun _ _ => False
 | e => Q e
def scopeV (jt : Nat → Post → Env → Mem → Prop) (Q : Post) : Post
 | .goto l => jt l (noGotoV Q)
 | e => Q e
def nLoops : Code → Nat
 | .seq a b => nLoops a + nLoops b
 | .cond _ a b => nLoops a + nLoops b
 | .block _ c => nLoops c
 | .scope c => nLoops c
 | .loop _ => 1
 | _ => 0
def vc (P : Program) (w0 : World) (tt : Nat → TD) (lv : Nat → Env → Mem → Post → Prop) (jt : Nat → Post → Env → Mem → Prop) : Code → Nat → Post → Env → Mem → Prop
 | .skip, _, Q, s, m => Q .normal s m
 | .region _ ops d, _, Q, s, m => cond d (vcOps (opS P w0 tt) ops.toList (Q .normal) ops.toList s m) (vcOps (opV P w0 tt) ops.toList (Q .normal) ops.toList s m)
 | .seq a b, i, Q, s, m => vc P w0 tt lv jt a i (thenV (vc P w0 tt lv jt b (i + nLoops a) Q) Q) s m
 | .cond c a b, i, Q, s, m => match s.ev c with
  | .bool t => cond t (vc P w0 tt lv jt a i Q s m) (vc P w0 tt lv jt b (i + nLoops a) Q s m)
  | _ => False
 | .block id c, i, Q, s, m => vc P w0 tt lv jt c i (blockV id Q) s m
 | .loop _, i, Q, s, m => lv i s m Q
 | .exit id, _, Q, s, m => Q (.exit id) s m
 | .label _, _, Q, s, m => Q .normal s m
 | .goto l, _, Q, s, m => Q (.goto l) s m
 | .ret, _, Q, s, m => Q .ret s m
 | .scope c, i, Q, s, m => vc P w0 tt lv jt c i (scopeV jt Q) s m
 | _, _, _, _, _ => False
/-! ### It is enough -/
def wfC (n : Nat) : Code → Bool
 | .region _ ops d => ops.toList.all (fun o => o.dst.all (fun t => Nat.blt t n)) && (!d || (ops.toList.all (fun o => stillOp o.op) && Region.lexB .any ops))
 | .seq a b => wfC n a && wfC n b
 | .cond _ a b => wfC n a && wfC n b
 | .block _ c => wfC n c
 | .scope c => wfC n c
 | _ => true
def Sat (P : Program) (w0 : World) (n : Nat) (c : Code) (Q : Post) (s : Env) (m : Mem) : Prop :=
 ∀ a w, envOf a = s → a.tmps.size = n → a.defers = [] → Holds w0 w m →
  c.wp P (fun e a' w' => a'.tmps.size = n ∧ a'.defers = [] ∧ ∃ m', Holds w0 w' m' ∧ Q e (envOf a') m') a w
def loopsOK (P : Program) (w0 : World) (n : Nat) (lv : Nat → Env → Mem → Post → Prop) (jt : Nat → Post → Env → Mem → Prop) : Code → Nat → Prop
 | .seq a b, i => loopsOK P w0 n lv jt a i ∧ loopsOK P w0 n lv jt b (i + nLoops a)
 | .cond _ a b, i => loopsOK P w0 n lv jt a i ∧ loopsOK P w0 n lv jt b (i + nLoops a)
 | .block _ c, i => loopsOK P w0 n lv jt c i
 | .scope c, i => loopsOK P w0 n lv jt c i ∧ ∀ l Q s m, jt l Q s m → ∃ rest, findLabel c l = some rest ∧ Sat P w0 n rest Q s m
 | .loop c, i => ∀ s m Q, lv i s m Q → Sat P w0 n (.loop c) Q s m
 | _, _ => True
theorem yielded_env {ops : Array Oper} {a : Act} {j t : Nat} {v : Bool} (ht : slotOf ops.toList j = some t) (hv : envOf a t = .bool v) : yielded ops a.tmps j = some v := by
 unfold slotOf at ht
 have ht' : (ops[j]?).bind (·.dst) = some t := by simpa using ht
 unfold yielded
 rw [ht']
 simp only [Option.bind_some]
 unfold envOf at hv
 by_cases hlt : t < a.tmps.size
 ·simp only [Array.getD, hlt, dite_true] at hv
  simp only [Array.getElem?_eq_getElem hlt]
  have : a.tmps[t] = .bool v := hv
  rw [this]
 ·simp only [Array.getD, hlt, dite_false] at hv
  cases hv
theorem yielded_none {ops : Array Oper} {a : Act} {j t : Nat} (ht : slotOf ops.toList j = some t) (hv : ∀ v, envOf a t ≠ .bool v) : yielded ops a.tmps j = none := by
 unfold slotOf at ht
 have ht' : (ops[j]?).bind (·.dst) = some t := by simpa using ht
 unfold yielded
 rw [ht']
 simp only [Option.bind_some]
 unfold envOf at hv
 by_cases hlt : t < a.tmps.size
 ·simp only [Array.getD, hlt, dite_true] at hv
  simp only [Array.getElem?_eq_getElem hlt]
  split
  ·rename_i b hb
   exact absurd (Option.some.inj hb) (hv b)
  ·rfl
 ·simp only [Array.getElem?_eq_none (Nat.le_of_not_lt hlt)]
theorem wanted_none {o : Oper} {y : Nat → Option Bool} (h : o.guard = none) : Region.wanted o y = true := by simp [Region.wanted, h]
theorem wanted_some {o : Oper} {y : Nat → Option Bool} {j : Nat} {want v : Bool} (h : o.guard = some (j, want)) (hy : y j = some v) : Region.wanted o y = (v == want) := by
 simp [Region.wanted, h, hy]
theorem vcOps_cons {F : OpF} {ops : Array Oper} {K : Env → Mem → Prop} {o : Oper} {r : List Oper} {a : Act} {m : Mem}
  (h : vcOps F ops.toList K (o :: r) (envOf a) m) :
  (Region.wanted o (yielded ops a.tmps) = true ∧ F o.op o.type (envOf a) m fun v m' => vcOps F ops.toList K r ((envOf a).put o.dst v) m') ∨
  (Region.wanted o (yielded ops a.tmps) = false ∧ vcOps F ops.toList K r ((envOf a).put o.dst undef) m) := by
 simp only [vcOps] at h
 split at h
 ·rename_i hg
  exact .inl ⟨wanted_none hg, h⟩
 ·rename_i j want hg
  split at h
  ·exact h.elim
  ·rename_i t ht
   split at h
   ·rename_i v hv
    have hy := yielded_env ht hv
    have hw := wanted_some (y := yielded ops a.tmps) hg hy
    have hset : ∀ b, v = b → (envOf a).set t (.bool b) = envOf a := fun b hb => by
     rw [← hb, ← hv, Env.set_same]
    cases v <;> cases want <;> simp only [cond_true, cond_false] at h
    ·rw [hset false rfl] at h; exact .inl ⟨hw, h⟩
    ·rw [hset false rfl] at h; exact .inr ⟨hw, h⟩
    ·rw [hset true rfl] at h; exact .inr ⟨hw, h⟩
    ·rw [hset true rfl] at h; exact .inl ⟨hw, h⟩
   ·rename_i hnb
    refine .inr ⟨?_, h⟩
    have hy := yielded_none (a := a) ht fun v hv => hnb v hv
    simp [Region.wanted, hg, hy]
theorem vcOps_sound {P : Program} {w0 : World} {tt : Nat → TD} (ht : TTok P tt) {ops : Array Oper} {K : Env → Mem → Prop} {Q : Exit → Act → World → Prop} {n : Nat}
  (hQ : ∀ a w m, a.tmps.size = n → a.defers = [] → Holds w0 w m → K (envOf a) m → Q .normal a w) :
  ∀ (l : List Oper) (a : Act) (w : World) (m : Mem), (∀ o ∈ l, ∀ t, o.dst = some t → t < n) → a.tmps.size = n → a.defers = [] → Holds w0 w m →
   vcOps (opV P w0 tt) ops.toList K l (envOf a) m → wpList P ops Q l a w
 | [], a, w, m, _, hs, hd, hw, h => hQ a w m hs hd hw h
 | o :: r, a, w, m, hl, hs, hd, hw, h => by
  have hdst : ∀ t, o.dst = some t → t < a.tmps.size := fun t h => hs ▸ hl o (by simp) t h
  have hr : ∀ o' ∈ r, ∀ t, o'.dst = some t → t < n := fun o' ho' => hl o' (by simp [ho'])
  unfold wpList
  rcases vcOps_cons h with ⟨hwant, hop⟩ | ⟨hwant, hop⟩
  ·rw [if_pos hwant]
   refine .inl (op_sound ht hw hop fun v w' m' hw' hk => ?_)
   refine vcOps_sound ht hQ r _ w' m' hr (by rw [size_put]; exact hs) (by rw [defers_put]; exact hd) hw' ?_
   rw [envOf_put _ _ _ hdst]; exact hk
  ·rw [if_neg (by rw [hwant]; decide)]
   refine vcOps_sound ht hQ r _ w m hr (by rw [size_put]; exact hs) (by rw [defers_put]; exact hd) hw ?_
   rw [envOf_put _ _ _ hdst]; exact hop
theorem opS_still {P : Program} {tt : Nat → TD} (ht : TTok P tt) {w0 w : World} {m : Mem} (hw : Holds w0 w m) {o : Oper} {a : Act} {K : Value → Mem → Prop}
  (hp : stillOp o.op = true) (h : opS P w0 tt o.op o.type (envOf a) m K) {N : Act → Prop} (hn : ∀ v, K v m → N (a.put o.dst v)) : o.still P a w N := by
 have pure : pureOp o.op = true → opV P w0 tt o.op o.type (envOf a) m K → o.still P a w N := fun hp h => by
  obtain ⟨v, hv, hk⟩ := op_pure ht hp h
  unfold Oper.still
  rw [hv w hw]
  exact ⟨rfl, hn v hk⟩
 have he := eval_eq a
 obtain ⟨dst, op, T, pos, after, guard⟩ := o
 simp only at hp h hn pure
 cases op
 case call c =>
  obtain ⟨callee, args, ts⟩ := c
  simp only [opS] at h
  split at h
  ·rename_i f
   obtain ⟨hf, v, hc, hk⟩ := h
   have hrun : (execOp a.eval { dst, op := .call ⟨.value (.func f), args, ts⟩, type := T, pos, after, guard }).run P w = .ok (.enter f (args.map a.eval)) w := by
    rw [execOp_call_go, callFunc_run hf]
    simp
   unfold Oper.still
   rw [hrun]
   have hc' := hc w hw
   rw [← he] at hc'
   have ea : (args.toList.map a.eval).toArray = args.map a.eval := by rw [← Array.toList_map]
   rw [ea] at hc'
   exact ⟨rfl, v, hc', hn v (resV_elim hk)⟩
  ·rename_i hne
   refine pure ?_ h
   simp only [stillOp, Bool.or_eq_true] at hp
   rcases hp with hp | hp
   ·exact hp
   ·cases hp
 all_goals exact pure (by simpa [stillOp] using hp) h
theorem vcOps_still {P : Program} {w0 w : World} {tt : Nat → TD} (ht : TTok P tt) {ops : Array Oper} {K : Env → Mem → Prop} {n : Nat} {m : Mem} (hw : Holds w0 w m) {Q : Act → Prop}
  (hQ : ∀ a, a.tmps.size = n → a.defers = [] → K (envOf a) m → Q a) :
  ∀ (l : List Oper) (a : Act), (∀ o ∈ l, ∀ t, o.dst = some t → t < n) → (∀ o ∈ l, stillOp o.op = true) → a.tmps.size = n → a.defers = [] →
   vcOps (opS P w0 tt) ops.toList K l (envOf a) m → wpStill P ops w Q l a
 | [], a, _, _, hs, hd, h => hQ a hs hd h
 | o :: r, a, hl, hp, hs, hd, h => by
  have hdst : ∀ t, o.dst = some t → t < a.tmps.size := fun t h => hs ▸ hl o (by simp) t h
  have hr : ∀ o' ∈ r, ∀ t, o'.dst = some t → t < n := fun o' ho' => hl o' (by simp [ho'])
  have hpr : ∀ o' ∈ r, stillOp o'.op = true := fun o' ho' => hp o' (by simp [ho'])
  unfold wpStill
  rcases vcOps_cons h with ⟨hwant, hop⟩ | ⟨hwant, hop⟩
  ·rw [if_pos hwant]
   refine opS_still ht hw (hp o (by simp)) hop fun v hk => ?_
   refine vcOps_still ht hw hQ r _ hr hpr (by rw [size_put]; exact hs) (by rw [defers_put]; exact hd) ?_
   rw [envOf_put _ _ _ hdst]; exact hk
  ·rw [if_neg (by rw [hwant]; decide)]
   refine vcOps_still ht hw hQ r _ hr hpr (by rw [size_put]; exact hs) (by rw [defers_put]; exact hd) ?_
   rw [envOf_put _ _ _ hdst]; exact hop
theorem wp_scope_fwd {P : Program} {a : Act} {w : World} {Q : Exit → Act → World → Prop} {c : Code}
  (first : c.wp P (fun e a w => match e with
   | .goto l => ∃ rest, findLabel c l = some rest ∧ rest.wp P (Exit.noGoto Q) a w
   | e => Q e a w) a w) : (Code.scope c).wp P Q a w := by
 intro b k cs
 obtain ⟨e, a₁, w₁, hq, harr⟩ := first b (.inScope c :: k) cs
 have norm : ∀ {m : Machine} {a w}, Steps P m (lone (b.at a (.inScope c :: k)) cs w) → Steps P m (lone (b.at a k) cs w) := fun h => Steps.trans h (.one step_inScope)
 cases e with
 | normal => exact ⟨.normal, a₁, w₁, hq, .head step_scope (norm harr)⟩
 | exit id => exact ⟨.exit id, a₁, w₁, hq, fun k' hk => .head step_scope (harr k' (by simp [exitTo, hk]))⟩
 | goto l =>
  obtain ⟨rest, hf, hr⟩ := hq
  have hg : gotoIn l (.inScope c :: k) = some (.code rest :: .inScope c :: k) := by simp [gotoIn, hf]
  have h1 : Steps P (lone (b.at a (.code (.scope c) :: k)) cs w) (lone (b.at a₁ (.code rest :: .inScope c :: k)) cs w₁) := .head step_scope (harr _ hg)
  obtain ⟨e₂, a₂, w₂, hq₂, harr₂⟩ := hr b (.inScope c :: k) cs
  cases e₂ with
  | normal => exact ⟨.normal, a₂, w₂, hq₂, Steps.trans h1 (norm harr₂)⟩
  | exit id => exact ⟨.exit id, a₂, w₂, hq₂, fun k' hk => Steps.trans h1 (harr₂ k' (by simp [exitTo, hk]))⟩
  | goto l => exact hq₂.elim
  | ret => exact ⟨_, a₂, w₂, hq₂, .of_steps h1 harr₂⟩
  | panic ch => exact ⟨_, a₂, w₂, hq₂, .of_steps h1 harr₂⟩
  | outgrown => exact ⟨_, a₂, w₂, hq₂, .of_steps h1 harr₂⟩
 | ret => exact ⟨_, a₁, w₁, hq, .of_steps (.one step_scope) harr⟩
 | panic ch => exact ⟨_, a₁, w₁, hq, .of_steps (.one step_scope) harr⟩
 | outgrown => exact ⟨_, a₁, w₁, hq, .of_steps (.one step_scope) harr⟩
theorem vc_sound {P : Program} (hm : P.follows .mixedOrders = true) {w0 : World} {tt : Nat → TD} (ht : TTok P tt) {n : Nat} {lv : Nat → Env → Mem → Post → Prop} {jt : Nat → Post → Env → Mem → Prop} :
  ∀ (c : Code) (i : Nat) (Q : Post) (s : Env) (m : Mem), wfC n c = true → loopsOK P w0 n lv jt c i → vc P w0 tt lv jt c i Q s m → Sat P w0 n c Q s m := by
 intro c
 induction c with
 | skip =>
  intro i Q s m _ _ h a w he hs hd hw
  subst he
  exact wp_skip ⟨hs, hd, m, hw, h⟩
 | region id ops d =>
  intro i Q s m hwf _ h a w he hs hd hw
  subst he
  simp only [wfC, Bool.and_eq_true, List.all_eq_true, Bool.or_eq_true, Bool.not_eq_true'] at hwf
  obtain ⟨hdst, hdraw⟩ := hwf
  have hdst' : ∀ o ∈ ops.toList, ∀ t, o.dst = some t → t < n := fun o ho t ht => by
   have := hdst o ho
   rw [ht] at this
   simp only [Option.all_some, Nat.blt, Nat.ble_eq] at this
   exact this
  simp only [vc] at h
  cases d with
  | false =>
   exact wp_region_list (vcOps_sound (K := Q .normal) ht (fun a w m h1 h2 h3 h4 => ⟨h1, h2, m, h3, h4⟩) ops.toList a w m hdst' hs hd hw h)
  | true =>
   have hdr := hdraw.resolve_left (by simp)
   exact wp_region_still hm hdr.2 (vcOps_still (w := w.drew) (K := Q .normal) ht hw.drew (fun a h1 h2 h3 => ⟨h1, h2, m, hw.drew, h3⟩) ops.toList a hdst' hdr.1 hs hd h)
 | seq x y ihx ihy =>
  intro i Q s m hwf hl h a w he hs hd hw
  simp only [wfC, Bool.and_eq_true] at hwf
  simp only [vc] at h
  refine wp_seq (wp_mono (ihx i _ s m hwf.1 hl.1 h a w he hs hd hw) ?_)
  rintro e a' w' ⟨h1, h2, m', h3, h4⟩
  cases e with
  | normal => exact ihy _ Q _ m' hwf.2 hl.2 h4 a' w' rfl h1 h2 h3
  | _ => exact ⟨h1, h2, m', h3, h4⟩
 | cond cc x y ihx ihy =>
  intro i Q s m hwf hl h a w he hs hd hw
  simp only [wfC, Bool.and_eq_true] at hwf
  simp only [vc] at h
  split at h
  ·rename_i t hc
   have hc' : a.eval cc = .bool t := by rw [ev_envOf, he]; exact hc
   refine wp_cond hc' ?_
   cases t with
   | true => exact ihx i Q s m hwf.1 hl.1 h a w he hs hd hw
   | false => exact ihy _ Q s m hwf.2 hl.2 h a w he hs hd hw
  ·exact h.elim
 | block id x ih =>
  intro i Q s m hwf hl h a w he hs hd hw
  simp only [vc] at h
  refine wp_block (wp_mono (ih i _ s m hwf hl h a w he hs hd hw) ?_)
  rintro e a' w' ⟨h1, h2, m', h3, h4⟩
  cases e with
  | exit j =>
   simp only [blockV] at h4
   simp only [Exit.inBlock]
   by_cases hj : j = id
   ·subst hj
    rw [if_pos rfl]
    rw [Nat.beq_refl] at h4
    exact ⟨h1, h2, m', h3, h4⟩
   ·rw [if_neg hj]
    have : Nat.beq j id = false := by
     cases hb : Nat.beq j id with
     | false => rfl
     | true => exact absurd (Nat.eq_of_beq_eq_true hb) hj
    rw [this] at h4
    exact ⟨h1, h2, m', h3, h4⟩
  | _ => exact ⟨h1, h2, m', h3, h4⟩
 | loop x _ =>
  intro i Q s m _ hl h
  exact hl s m Q h
 | exit id =>
  intro i Q s m _ _ h a w he hs hd hw
  subst he
  exact wp_exit ⟨hs, hd, m, hw, h⟩
 | label l =>
  intro i Q s m _ _ h a w he hs hd hw
  subst he
  exact wp_label ⟨hs, hd, m, hw, h⟩
 | goto l =>
  intro i Q s m _ _ h a w he hs hd hw
  subst he
  exact wp_goto ⟨hs, hd, m, hw, h⟩
 | ret =>
  intro i Q s m _ _ h a w he hs hd hw
  subst he
  exact wp_ret ⟨hs, hd, m, hw, h⟩
 | scope x ih =>
  intro i Q s m hwf hl h a w he hs hd hw
  simp only [vc] at h
  refine wp_scope_fwd (wp_mono (ih i _ s m hwf hl.1 h a w he hs hd hw) ?_)
  rintro e a' w' ⟨h1, h2, m', h3, h4⟩
  cases e with
  | goto l =>
   obtain ⟨rest, hf, hr⟩ := hl.2 l _ _ _ h4
   refine ⟨rest, hf, wp_mono (hr a' w' rfl h1 h2 h3) ?_⟩
   rintro e a'' w'' ⟨g1, g2, m'', g3, g4⟩
   cases e with
   | goto _ => exact g4.elim
   | _ => exact ⟨g1, g2, m'', g3, g4⟩
  | _ => exact ⟨h1, h2, m', h3, h4⟩
 | rangeFunc _ _ _ _ => intro i Q s m _ _ h; exact h.elim
 | refuse _ => intro i Q s m _ _ h; exact h.elim
end Go.Proofs.Ytdhifgedhaapjaa
namespace Go.Proofs.Ytdhifgedhaapjaa
open Go
def retV (rs : List ResultVar) (s : Env) (K : Value → Prop) : Prop :=
 match rs with
 | [] => K (.tuple #[])
 | [.tmp t] => K (s t)
 | [.tmp t, .tmp u] => K (.tuple #[s t, s u])
 | _ => False
def postV (rs : List ResultVar) (K : Value → Mem → Prop) : Post
 | .normal => fun s m => retV rs s fun v => K v m
 | .ret => fun s m => retV rs s fun v => K v m
 | _ => fun _ _ => False
theorem retV_run {P : Program} {fn : Func} {a : Act} {K : Value → Prop} (h : retV fn.results.toList (envOf a) K) : ∃ v, (∀ w, (results fn a.tmps).run P w = .ok v w) ∧ K v := by
 unfold retV at h
 split at h
 ·rename_i hr
  have : fn.results = #[] := by rw [← Array.toArray_toList (xs := fn.results), hr]
  exact ⟨_, fun w => results_none this _ _ _, h⟩
 ·rename_i t hr
  have : fn.results = #[.tmp t] := by rw [← Array.toArray_toList (xs := fn.results), hr]
  exact ⟨_, fun w => results_tmp this _ _ _, h⟩
 ·rename_i t u hr
  have : fn.results = #[.tmp t, .tmp u] := by rw [← Array.toArray_toList (xs := fn.results), hr]
  exact ⟨_, fun w => results_tmp2 this _ _ _, h⟩
 ·exact h.elim
theorem env0_eq (args : List Value) (k : Nat) : envOf { tmps := args.toArray ++ Array.replicate k undef, defers := [] } = env0 args := by
 funext t
 simp only [envOf, env0, Array.getD_eq_getD_getElem?, List.getD_eq_getElem?_getD]
 rw [Array.getElem?_append]
 split
 ·simp
 ·rename_i h
  have h' : args.length ≤ t := by simpa using h
  rw [List.getElem?_eq_none h', Array.getElem?_replicate]
  split <;> rfl
theorem callV_of {P : Program} (hm : P.follows .mixedOrders = true) {w0 : World} {tt : Nat → TD} (ht : TTok P tt) {lv : Nat → Env → Mem → Post → Prop} {jt : Nat → Post → Env → Mem → Prop}
  {f : Nat} {fn : Func} {c : Code} (hf : P.funcs[f]? = some fn) (hb : fn.body = some c) (hn : (fn.name == "runtime.NumGoroutine") = false)
  {args : List Value} (hargs : args.length ≤ fn.ntmps) (hwf : wfC fn.ntmps c = true) (hl : loopsOK P w0 fn.ntmps lv jt c 0) {m : Mem} {K : Value → Mem → Prop}
  (h : vc P w0 tt lv jt c 0 (postV fn.results.toList K) (env0 args) m) : callV P w0 f args m K := by
 refine ⟨⟨fn, hf, by rw [hb]; rfl, hn⟩, fun w hw => calls_of_wp hf hb ?_⟩
 have hs := vc_sound hm ht c 0 _ _ m hwf hl h
 have hsz : ((args.toArray ++ Array.replicate (fn.ntmps - args.toArray.size) undef : Array Value)).size = fn.ntmps := by
  simp; omega
 refine wp_mono (hs _ w (env0_eq args _) hsz rfl hw) ?_
 rintro e a' w' ⟨h1, h2, m', h3, h4⟩
 cases e with
 | normal =>
  have h5 : retV fn.results.toList (envOf a') (fun v => K v m') := h4
  obtain ⟨v, hv, hk⟩ := retV_run (P := P) h5
  exact ⟨h2, v, hv w', v, m', rfl, h3, hk⟩
 | ret =>
  have h5 : retV fn.results.toList (envOf a') (fun v => K v m') := h4
  obtain ⟨v, hv, hk⟩ := retV_run (P := P) h5
  exact ⟨h2, v, hv w', v, m', rfl, h3, hk⟩
 | _ => exact h4.elim
theorem callV.mono {P : Program} {w0 : World} {f : Nat} {args : List Value} {m : Mem} {K K' : Value → Mem → Prop} (h : callV P w0 f args m K) (hk : ∀ v m', K v m' → K' v m') :
  callV P w0 f args m K' :=
 ⟨h.1, fun w hw => (h.2 w hw).mono fun _ _ ⟨v, m', he, hh, hk'⟩ => ⟨v, m', he, hh, hk v m' hk'⟩⟩
def roundV (Q : Post) (N : Env → Mem → Prop) : Post
 | .normal => N
 | e => Q e
theorem loop_sat {P : Program} (hm : P.follows .mixedOrders = true) {w0 : World} {tt : Nat → TD} (ht : TTok P tt) {n : Nat} {lv : Nat → Env → Mem → Post → Prop} {jt : Nat → Post → Env → Mem → Prop}
  {c : Code} (hwf : wfC n c = true) (hl : loopsOK P w0 n lv jt c 0) {Q : Post} {Nx : Nat → Env → Mem → Prop} {k0 : Nat} {s : Env} {m : Mem} (h0 : Nx k0 s m)
  (hz : ∀ s m, ¬ Nx 0 s m)
  (hb : ∀ k s m, Nx (k + 1) s m → vc P w0 tt lv jt c 0 (roundV Q (Nx k)) s m) : Sat P w0 n (.loop c) Q s m := by
 intro a w he hs hd hw
 let J : Nat → Act → World → Prop := fun k a w => a.tmps.size = n ∧ a.defers = [] ∧ ∃ m, Holds w0 w m ∧ Nx k (envOf a) m
 have hstep : ∀ k a w, J (k + 1) a w → c.wp P (fun e a' w' => match e with
   | .normal => J k a' w'
   | e => a'.tmps.size = n ∧ a'.defers = [] ∧ ∃ m', Holds w0 w' m' ∧ Q e (envOf a') m') a w := by
  rintro k a w ⟨hs, hd, m, hw, hN⟩
  refine wp_mono (vc_sound hm ht c 0 _ _ m hwf hl (hb k _ m hN) a w rfl hs hd hw) ?_
  rintro e a' w' ⟨h1, h2, m', h3, h4⟩
  cases e with
  | normal => exact ⟨h1, h2, m', h3, h4⟩
  | _ => exact ⟨h1, h2, m', h3, h4⟩
 have hJ0 : J k0 a w := ⟨hs, hd, m, hw, by rw [he]; exact h0⟩
 clear he hs hd hw h0
 intro b k cs
 have key : ∀ j a w, J j a w → ∃ e a' w', (a'.tmps.size = n ∧ a'.defers = [] ∧ ∃ m', Holds w0 w' m' ∧ Q e (envOf a') m') ∧ Arrives P (lone (b.at a (.code c :: .inLoop c :: k)) cs w) b k cs e a' w' := by
  intro j
  induction j with
  | zero =>
   rintro a w ⟨_, _, m, _, hN⟩
   exact absurd hN (hz _ _)
  | succ j ih =>
   intro a w hJ
   obtain ⟨e, a₁, w₁, hq, harr⟩ := hstep j a w hJ b (.inLoop c :: k) cs
   cases e with
   | normal =>
    obtain ⟨e₂, a₂, w₂, hq₂, harr₂⟩ := ih a₁ w₁ hq
    exact ⟨e₂, a₂, w₂, hq₂, .of_steps (Steps.trans harr (.one step_inLoop)) harr₂⟩
   | exit id => exact ⟨_, a₁, w₁, hq, .pass (x := .inLoop c) rfl (fun _ _ => .inl (by simp)) harr⟩
   | goto l => exact ⟨_, a₁, w₁, hq, .pass (x := .inLoop c) rfl (fun _ _ => .inl (by simp)) harr⟩
   | ret => exact ⟨_, a₁, w₁, hq, .pass (x := .inLoop c) rfl (fun _ _ => .inl (by simp)) harr⟩
   | panic ch => exact ⟨_, a₁, w₁, hq, .pass (x := .inLoop c) rfl (fun _ _ => .inl (by simp)) harr⟩
   | outgrown => exact ⟨_, a₁, w₁, hq, .pass (x := .inLoop c) rfl (fun _ _ => .inl (by simp)) harr⟩
 obtain ⟨e, a', w', hq, harr⟩ := key _ a w hJ0
 exact ⟨e, a', w', hq, .of_steps (.one step_loop) harr⟩
theorem set_of (s : Env) {t : Nat} {v : Value} (h : s t = v) : s.set t v = s := by rw [← h, Env.set_same]
def asI (k : IntKind) (v : Value) (f : Int → Prop) : Prop :=
 match v with
 | .int k' z => cond (decide (k' = k)) (f z) False
 | _ => False
def asB (v : Value) (f : Bool → Prop) : Prop :=
 match v with
 | .bool z => f z
 | _ => False
theorem asI_elim {k : IntKind} {v : Value} {f : Int → Prop} (h : asI k v f) : ∃ z, v = .int k z ∧ f z := by
 unfold asI at h
 split at h
 ·rename_i k' z
  by_cases hk : k' = k
  ·subst hk
   simp only [decide_true, cond_true] at h
   exact ⟨z, rfl, h⟩
  ·simp [hk] at h
 ·exact h.elim
theorem asB_elim {v : Value} {f : Bool → Prop} (h : asB v f) : ∃ z, v = .bool z ∧ f z := by
 unfold asB at h
 split at h
 ·exact ⟨_, rfl, h⟩
 ·exact h.elim
/-! ### Parts of a code, by name -/
def loopsOf : Code → List Code
 | .seq a b => loopsOf a ++ loopsOf b
 | .cond _ a b => loopsOf a ++ loopsOf b
 | .block _ c => loopsOf c
 | .scope c => loopsOf c
 | .loop c => [c]
 | _ => []
def scopesOf : Code → List Code
 | .seq a b => scopesOf a ++ scopesOf b
 | .cond _ a b => scopesOf a ++ scopesOf b
 | .block _ c => scopesOf c
 | .scope c => c :: scopesOf c
 | _ => []
def bodyOf (fn : Func) : Code := fn.body.getD .skip
def roundOf (c : Code) (i : Nat) : Code := (loopsOf c).getD i .skip
/-! ### Jumps forward in a scope -/
def lvF : Nat → Env → Mem → Post → Prop := fun _ _ _ _ => False
def jtF : Nat → Post → Env → Mem → Prop := fun _ _ _ _ => False
def jtOf (P : Program) (w0 : World) (tt : Nat → TD) (c : Code) : Nat → Post → Env → Mem → Prop := fun l Q s m =>
 match findLabel c l with
 | some rest => vc P w0 tt lvF jtF rest 0 Q s m
 | none => False
theorem loopsOK_F {P : Program} {w0 : World} {n : Nat} : ∀ (c : Code) (i : Nat), loopsOK P w0 n lvF jtF c i := by
 intro c
 induction c with
 | seq a b iha ihb => exact fun i => ⟨iha i, ihb _⟩
 | cond _ a b iha ihb => exact fun i => ⟨iha i, ihb _⟩
 | block _ c ih => exact fun i => ih i
 | scope c ih => exact fun i => ⟨ih i, fun _ _ _ _ h => h.elim⟩
 | loop c _ => exact fun i s m Q h => h.elim
 | _ => exact fun _ => trivial
theorem wfC_find {n l : Nat} : ∀ (c rest : Code), wfC n c = true → findLabel c l = some rest → wfC n rest = true := by
 intro c
 induction c with
 | label l' =>
  intro rest _ h
  simp only [findLabel] at h
  split at h
  ·cases h; rfl
  ·cases h
 | seq a b iha ihb =>
  intro rest hwf h
  simp only [wfC, Bool.and_eq_true] at hwf
  simp only [findLabel] at h
  split at h
  ·rename_i r hr
   cases h
   simp only [wfC, Bool.and_eq_true]
   exact ⟨iha _ hwf.1 hr, hwf.2⟩
  ·exact ihb _ hwf.2 h
 | _ => intro rest _ h; simp [findLabel] at h
theorem jtOf_ok {P : Program} (hm : P.follows .mixedOrders = true) {w0 : World} {tt : Nat → TD} (ht : TTok P tt) {n : Nat} {c : Code} (hwf : wfC n c = true) (l : Nat) (Q : Post) (s : Env) (m : Mem)
  (h : jtOf P w0 tt c l Q s m) : ∃ rest, findLabel c l = some rest ∧ Sat P w0 n rest Q s m := by
 unfold jtOf at h
 split at h
 ·rename_i rest hf
  exact ⟨rest, hf, vc_sound hm ht rest 0 Q s m (wfC_find c rest hwf hf) (loopsOK_F rest 0) h⟩
 ·exact h.elim
theorem Sat.mono {P : Program} {w0 : World} {n : Nat} {c : Code} {Q Q' : Post} {s : Env} {m : Mem} (h : Sat P w0 n c Q s m) (hq : ∀ e s m, Q e s m → Q' e s m) : Sat P w0 n c Q' s m :=
 fun a w h1 h2 h3 h4 => wp_mono (h a w h1 h2 h3 h4) fun _ _ _ ⟨g1, g2, m', g3, g4⟩ => ⟨g1, g2, m', g3, hq _ _ _ g4⟩
/-! ### All loops, all scopes -/
theorem nLoops_len : ∀ c : Code, nLoops c = (loopsOf c).length := by
 intro c
 induction c with
 | seq a b iha ihb => simp [nLoops, loopsOf, iha, ihb]
 | cond _ a b iha ihb => simp [nLoops, loopsOf, iha, ihb]
 | block _ c ih => simpa [nLoops, loopsOf] using ih
 | scope c ih => simpa [nLoops, loopsOf] using ih
 | loop c _ => rfl
 | _ => rfl
theorem loopsOK_of {P : Program} {w0 : World} {n : Nat} {lv : Nat → Env → Mem → Post → Prop} {jt : Nat → Post → Env → Mem → Prop} :
  ∀ (c : Code) (i : Nat), (∀ j b, (loopsOf c)[j]? = some b → ∀ s m Q, lv (i + j) s m Q → Sat P w0 n (.loop b) Q s m) →
   (∀ sc ∈ scopesOf c, ∀ l Q s m, jt l Q s m → ∃ rest, findLabel sc l = some rest ∧ Sat P w0 n rest Q s m) → loopsOK P w0 n lv jt c i := by
 intro c
 induction c with
 | seq a b iha ihb =>
  intro i h hs
  refine ⟨iha i (fun j b hj => h j b ?_) (fun sc h1 => hs sc (List.mem_append.2 (.inl h1))), ihb _ (fun j b hj => ?_) (fun sc h1 => hs sc (List.mem_append.2 (.inr h1)))⟩
  ·have : j < (loopsOf a).length := by
    rcases Nat.lt_or_ge j (loopsOf a).length with h | h
    ·exact h
    ·rw [List.getElem?_eq_none h] at hj; cases hj
   simp only [loopsOf]; rw [List.getElem?_append_left this]; exact hj
  ·have := h ((loopsOf a).length + j) b (by simp only [loopsOf]; rw [List.getElem?_append_right (by omega)]; rw [← hj]; congr 1; omega)
   rw [nLoops_len]
   rw [← Nat.add_assoc] at this
   exact this
 | cond _ a b iha ihb =>
  intro i h hs
  refine ⟨iha i (fun j b hj => h j b ?_) (fun sc h1 => hs sc (List.mem_append.2 (.inl h1))), ihb _ (fun j b hj => ?_) (fun sc h1 => hs sc (List.mem_append.2 (.inr h1)))⟩
  ·have : j < (loopsOf a).length := by
    rcases Nat.lt_or_ge j (loopsOf a).length with h | h
    ·exact h
    ·rw [List.getElem?_eq_none h] at hj; cases hj
   simp only [loopsOf]; rw [List.getElem?_append_left this]; exact hj
  ·have := h ((loopsOf a).length + j) b (by simp only [loopsOf]; rw [List.getElem?_append_right (by omega)]; rw [← hj]; congr 1; omega)
   rw [nLoops_len]
   rw [← Nat.add_assoc] at this
   exact this
 | block _ c ih => exact fun i h hs => ih i h hs
 | scope c ih =>
  intro i h hs
  refine ⟨ih i h (fun sc h1 => ?_), hs c (by simp [scopesOf])⟩
  exact hs sc (by simp only [scopesOf]; exact List.mem_cons_of_mem _ h1)
 | loop c _ => exact fun i h _ s m Q hl => h 0 c rfl s m Q hl
 | _ => exact fun _ _ _ => trivial
theorem loops0 {P : Program} {w0 : World} {n : Nat} {lv : Nat → Env → Mem → Post → Prop} {c : Code} (h : (loopsOf c).length = 0) :
  ∀ j b, (loopsOf c)[j]? = some b → ∀ s m Q, lv (0 + j) s m Q → Sat P w0 n (.loop b) Q s m := fun j b hj => by
 rw [List.getElem?_eq_none (by omega)] at hj; cases hj
theorem loops1 {P : Program} {w0 : World} {n : Nat} {lv : Nat → Env → Mem → Post → Prop} {c : Code} (h : (loopsOf c).length = 1)
  (h0 : ∀ s m Q, lv 0 s m Q → Sat P w0 n (.loop (roundOf c 0)) Q s m) :
  ∀ j b, (loopsOf c)[j]? = some b → ∀ s m Q, lv (0 + j) s m Q → Sat P w0 n (.loop b) Q s m := fun j b hj => by
 have hlt : j < (loopsOf c).length := by
  rcases Nat.lt_or_ge j (loopsOf c).length with h | h
  ·exact h
  ·rw [List.getElem?_eq_none h] at hj; cases hj
 obtain rfl : j = 0 := by omega
 have : roundOf c 0 = b := by unfold roundOf; rw [List.getD_eq_getElem?_getD, hj]; rfl
 rw [← this]; exact h0
theorem loops2 {P : Program} {w0 : World} {n : Nat} {lv : Nat → Env → Mem → Post → Prop} {c : Code} (h : (loopsOf c).length = 2)
  (h0 : ∀ s m Q, lv 0 s m Q → Sat P w0 n (.loop (roundOf c 0)) Q s m) (h1 : ∀ s m Q, lv 1 s m Q → Sat P w0 n (.loop (roundOf c 1)) Q s m) :
  ∀ j b, (loopsOf c)[j]? = some b → ∀ s m Q, lv (0 + j) s m Q → Sat P w0 n (.loop b) Q s m := fun j b hj => by
 have hlt : j < (loopsOf c).length := by
  rcases Nat.lt_or_ge j (loopsOf c).length with h | h
  ·exact h
  ·rw [List.getElem?_eq_none h] at hj; cases hj
 have hr : roundOf c j = b := by unfold roundOf; rw [List.getD_eq_getElem?_getD, hj]; rfl
 rw [← hr, Nat.zero_add]
 rcases (show j = 0 ∨ j = 1 by omega) with rfl | rfl
 ·exact h0
 ·exact h1
theorem scopes0 {P : Program} {w0 : World} {n : Nat} {jt : Nat → Post → Env → Mem → Prop} {c : Code} (h : (scopesOf c).length = 0) :
  ∀ sc ∈ scopesOf c, ∀ l Q s m, jt l Q s m → ∃ rest, findLabel sc l = some rest ∧ Sat P w0 n rest Q s m := fun sc hsc => by
 rw [List.eq_nil_of_length_eq_zero h] at hsc; cases hsc
theorem scopes1 {P : Program} (hm : P.follows .mixedOrders = true) {w0 : World} {tt : Nat → TD} (ht : TTok P tt) {n : Nat} {c : Code} (h : (scopesOf c).length = 1) (hwf : wfC n ((scopesOf c).getD 0 .skip) = true) :
  ∀ sc ∈ scopesOf c, ∀ l Q s m, jtOf P w0 tt ((scopesOf c).getD 0 .skip) l Q s m → ∃ rest, findLabel sc l = some rest ∧ Sat P w0 n rest Q s m := fun sc hsc => by
 obtain ⟨x, hx⟩ := List.length_eq_one_iff.1 h
 rw [hx] at hsc hwf ⊢
 obtain rfl : sc = x := by simpa using hsc
 exact fun l Q s m hj => jtOf_ok hm ht hwf l Q s m hj
def asS (v : Value) (f : Nat → Nat → Nat → Nat → Prop) : Prop :=
 match v with
 | .slice (some ⟨b, o, none⟩) l c => f b o l c
 | _ => False
def asV (v : Value) (f : Value → Prop) : Prop := f v
theorem asS_elim {v : Value} {f : Nat → Nat → Nat → Nat → Prop} (h : asS v f) : ∃ b o l c, v = .slice (some ⟨b, o, none⟩) l c ∧ f b o l c := by
 unfold asS at h
 split at h
 ·exact ⟨_, _, _, _, rfl, h⟩
 ·exact h.elim
theorem asV_elim {v : Value} {f : Value → Prop} (h : asV v f) : ∃ z, v = z ∧ f z := ⟨v, rfl, h⟩
theorem cond_beq {a b : Nat} {p q : Prop} (h : cond (Nat.beq a b) p q) : (a = b ∧ p) ∨ q := by
 cases hb : Nat.beq a b with
 | true => rw [hb] at h; exact .inl ⟨Nat.eq_of_beq_eq_true hb, h⟩
 | false => rw [hb] at h; exact .inr h
theorem cond_of {t : Bool} {a b : Prop} (ha : t = true → a) (hb : t = false → b) : cond t a b := by cases t <;> simp_all
end Go.Proofs.Ytdhifgedhaapjaa
namespace Go.Proofs.Ytdhifgedhaapjaa
open Go
inductive SV where
 | sl (b o l c : Nat)
 | iv (k : IntKind) (z : Int)
 | bv (q : Bool)
 | vv (x : Value)
def SV.val : SV → Value
 | .sl b o l c => .slice (some ⟨b, o, none⟩) l c
 | .iv k z => .int k z
 | .bv q => .bool q
 | .vv x => x
inductive PK where
 | sl
 | iv (k : IntKind)
 | bv
 | vv
def decV (k : PK) (x : Value) (f : SV → Prop) : Prop :=
 match k with
 | .sl => asS x fun b o l c => f (.sl b o l c)
 | .iv k => asI k x fun z => f (.iv k z)
 | .bv => asB x fun q => f (.bv q)
 | .vv => f (.vv x)
def decW : List (Nat × PK) → List Value → (List SV → Prop) → Prop
 | [], _, f => f []
 | (_, k) :: r, x :: xs, f => decV k x fun v => decW r xs fun vs => f (v :: vs)
 | _ :: _, [], _ => False
def slotsOf (s : Env) : List (Nat × PK) → List Value
 | [] => []
 | (t, _) :: r => s t :: slotsOf s r
def allV (k : PK) (f : SV → Prop) : Prop :=
 match k with
 | .sl => ∀ b o l c : Nat, f (.sl b o l c)
 | .iv k => ∀ z : Int, f (.iv k z)
 | .bv => ∀ q : Bool, f (.bv q)
 | .vv => ∀ x : Value, f (.vv x)
def allK : List (Nat × PK) → (List SV → Prop) → Prop
 | [], f => f []
 | (_, k) :: r, f => allV k fun v => allK r fun vs => f (v :: vs)
def chainL (g : Env) : List (Nat × PK) → List SV → Env
 | (t, _) :: r, v :: vs => (chainL g r vs).set t v.val
 | _, _ => g
def isV (k : PK) (v : SV) : Prop :=
 match k, v with
 | .sl, .sl .. => True
 | .iv k, .iv k' _ => k' = k
 | .bv, .bv _ => True
 | .vv, .vv _ => True
 | _, _ => False
def isK : List (Nat × PK) → List SV → Prop
 | [], [] => True
 | (_, k) :: r, v :: vs => isV k v ∧ isK r vs
 | _, _ => False
structure LS where
 ps : List (Nat × PK)
 ls : List (Nat × PK)
 ex : List Exit
abbrev LI := List SV → List SV → Mem → Prop
abbrev LX := Nat → List SV → List SV → Mem → Prop
abbrev LM := List SV → List SV → Nat
def exAll (A : Nat → Exit → Prop) : Nat → List Exit → Prop
 | _, [] => True
 | j, [e] => A j e
 | j, e :: r => A j e ∧ exAll A (j + 1) r
def lv1 (L : LS) (I : LI) (X : LX) (s : Env) (m : Mem) (Q : Post) : Prop :=
 decW L.ps (slotsOf s L.ps) fun ps => decW L.ls (slotsOf s L.ls) fun ls => I ps ls m ∧
  exAll (fun j e => allK L.ls fun ls' => ∀ m' : Mem, X j ps ls' m' → ∀ g : Env, Q e (chainL (chainL g L.ps ps) L.ls ls') m') 0 L.ex
def KF (L : LS) (I : LI) (mu : LM) (ps : List SV) (n : Nat) (vs ws : List Value) (m : Mem) : Prop :=
 vs = ps.map SV.val ∧ decW L.ls ws fun ls => I ps ls m ∧ mu ps ls < n
def KF1 (L : LS) (I : LI) (mu : LM) (ps : List SV) (n : Nat) (ws : List Value) (m : Mem) : Prop := KF L I mu ps n (ps.map SV.val) ws m
def XF (L : LS) (X : LX) (j : Nat) (ps : List SV) (vs ws : List Value) (m : Mem) : Prop :=
 vs = ps.map SV.val ∧ decW L.ls ws fun ls => X j ps ls m
def XF1 (L : LS) (X : LX) (j : Nat) (ps : List SV) (ws : List Value) (m : Mem) : Prop := XF L X j ps (ps.map SV.val) ws m
theorem KF1_mk {L : LS} {I : LI} {mu : LM} {ps : List SV} {n : Nat} {ws : List Value} {m : Mem} (h : decW L.ls ws fun ls => I ps ls m ∧ mu ps ls < n) : KF1 L I mu ps n ws m := ⟨rfl, h⟩
theorem XF1_mk {L : LS} {X : LX} {j : Nat} {ps : List SV} {ws : List Value} {m : Mem} (h : decW L.ls ws fun ls => X j ps ls m) : XF1 L X j ps ws m := ⟨rfl, h⟩
def beqExit : Exit → Exit → Bool
 | .exit a, .exit b => Nat.beq a b
 | .goto a, .goto b => Nat.beq a b
 | .ret, .ret => true
 | _, _ => false
theorem beqExit_eq : ∀ {a b : Exit}, beqExit a b = true → a = b := by
 intro a b h
 cases a <;> cases b <;> simp only [beqExit, Bool.false_eq_true] at h <;> first | rfl | (rw [Nat.eq_of_beq_eq_true h])
def QX (L : LS) (X : LX) (ps : List SV) (e : Exit) (s : Env) (m : Mem) : Nat → List Exit → Prop
 | _, [] => False
 | j, x :: r => cond (beqExit e x) (XF L X j ps (slotsOf s L.ps) (slotsOf s L.ls) m) (QX L X ps e s m (j + 1) r)
def QL (L : LS) (X : LX) (ps : List SV) : Post := fun e s m => QX L X ps e s m 0 L.ex
def KL (L : LS) (I : LI) (mu : LM) (ps : List SV) (n : Nat) : Env → Mem → Prop := fun s m => KF L I mu ps n (slotsOf s L.ps) (slotsOf s L.ls) m
theorem decV_elim {k : PK} {x : Value} {f : SV → Prop} (h : decV k x f) : ∃ v, isV k v ∧ x = v.val ∧ f v := by
 cases k with
 | sl => obtain ⟨b, o, l, c, e, h⟩ := asS_elim h; exact ⟨.sl b o l c, trivial, e, h⟩
 | iv k => obtain ⟨z, e, h⟩ := asI_elim h; exact ⟨.iv k z, rfl, e, h⟩
 | bv => obtain ⟨z, e, h⟩ := asB_elim h; exact ⟨.bv z, trivial, e, h⟩
 | vv => exact ⟨.vv x, trivial, rfl, h⟩
theorem decV_mk {k : PK} {v : SV} {f : SV → Prop} (hk : isV k v) (h : f v) : decV k v.val f := by
 cases k <;> cases v <;> simp only [isV] at hk <;> simp only [decV, SV.val, asS, asI, asB]
 ·exact h
 ·subst hk; simpa using h
 ·exact h
 ·exact h
theorem decW_elim {s : Env} : ∀ {l : List (Nat × PK)} {f : List SV → Prop}, decW l (slotsOf s l) f → ∃ vs, isK l vs ∧ slotsOf s l = vs.map SV.val ∧ f vs
 | [], _, h => ⟨[], trivial, rfl, h⟩
 | (t, k) :: r, f, h => by
  obtain ⟨v, hv, e, h⟩ := decV_elim (show decV k (s t) _ from h)
  obtain ⟨vs, hvs, es, h⟩ := decW_elim h
  exact ⟨v :: vs, ⟨hv, hvs⟩, by simp only [slotsOf, List.map_cons, e, es], h⟩
theorem decW_mk : ∀ {l : List (Nat × PK)} {vs : List SV} {f : List SV → Prop}, isK l vs → f vs → decW l (vs.map SV.val) f
 | [], [], _, _, h => h
 | (t, k) :: r, v :: vs, f, hk, h => decV_mk hk.1 (decW_mk (f := fun vs => f (v :: vs)) hk.2 h)
 | [], _ :: _, _, hk, _ => hk.elim
 | _ :: _, [], _, hk, _ => hk.elim
theorem allV_elim {k : PK} {f : SV → Prop} (h : allV k f) {v : SV} (hv : isV k v) : f v := by
 cases k <;> cases v <;> simp only [isV] at hv <;> simp only [allV] at h
 ·exact h _ _ _ _
 ·subst hv; exact h _
 ·exact h _
 ·exact h _
theorem allK_elim : ∀ {l : List (Nat × PK)} {f : List SV → Prop}, allK l f → ∀ {vs : List SV}, isK l vs → f vs
 | [], _, h, [], _ => h
 | (t, k) :: r, f, h, v :: vs, hk => allK_elim (f := fun vs => f (v :: vs)) (allV_elim h hk.1) hk.2
 | [], _, _, _ :: _, hk => hk.elim
 | _ :: _, _, _, [], hk => hk.elim
theorem chainL_same (s : Env) : ∀ {l : List (Nat × PK)} {vs : List SV}, slotsOf s l = vs.map SV.val → chainL s l vs = s
 | [], _, _ => rfl
 | (t, k) :: r, [], h => by simp [slotsOf] at h
 | (t, k) :: r, v :: vs, h => by
  simp only [slotsOf, List.map_cons, List.cons.injEq] at h
  rw [chainL, chainL_same s h.2, set_of s h.1]
theorem exAll_get {A : Nat → Exit → Prop} : ∀ {l : List Exit} {j : Nat}, exAll A j l → ∀ i e, l[i]? = some e → A (j + i) e
 | [], _, _, i, e, h => by simp at h
 | [x], j, hA, i, e, h => by
  cases i with
  | zero => simp at h; subst h; exact hA
  | succ i => simp at h
 | x :: y :: r, j, hA, i, e, h => by
  cases i with
  | zero => simp at h; subst h; exact hA.1
  | succ i =>
   have := exAll_get (l := y :: r) hA.2 i e (by simpa using h)
   rw [show j + (i + 1) = j + 1 + i by omega]; exact this
theorem QX_get {L : LS} {X : LX} {ps : List SV} {e : Exit} {s : Env} {m : Mem} : ∀ {l : List Exit} {j : Nat}, QX L X ps e s m j l → ∃ i, l[i]? = some e ∧ XF L X (j + i) ps (slotsOf s L.ps) (slotsOf s L.ls) m
 | [], _, h => h.elim
 | x :: r, j, h => by
  simp only [QX] at h
  cases hb : beqExit e x with
  | true =>
   rw [hb] at h
   exact ⟨0, by rw [beqExit_eq hb]; rfl, h⟩
  | false =>
   rw [hb] at h
   obtain ⟨i, hi, hx⟩ := QX_get h
   exact ⟨i + 1, by simpa using hi, by rw [show j + (i + 1) = j + 1 + i by omega]; exact hx⟩
theorem loopG {P : Program} (hm : P.follows .mixedOrders = true) {w0 : World} {tt : Nat → TD} (ht : TTok P tt) {n : Nat} {lv : Nat → Env → Mem → Post → Prop} {jt : Nat → Post → Env → Mem → Prop}
  {c : Code} (hwf : wfC n c = true) (hl : loopsOK P w0 n lv jt c 0) (L : LS) {I : LI} {X : LX} {mu : LM}
  (hB : allK L.ps fun ps => allK L.ls fun ls => ∀ (k : Nat) (m : Mem), I ps ls m → mu ps ls < k + 1 → ∀ g : Env,
   vc P w0 tt lv jt c 0 (roundV (QL L X ps) (KL L I mu ps k)) (chainL (chainL g L.ps ps) L.ls ls) m) :
  ∀ s m Q, lv1 L I X s m Q → Sat P w0 n (.loop c) Q s m := by
 intro s m Q h
 obtain ⟨ps, hps, eps, h⟩ := decW_elim h
 obtain ⟨ls, hls, els, hI, hX⟩ := decW_elim h
 refine Sat.mono (Q := QL L X ps) (loop_sat hm ht hwf hl (Nx := fun k => KL L I mu ps k) (k0 := mu ps ls + 1) ?_ ?_ ?_) ?_
 ·refine ⟨eps, ?_⟩
  rw [els]
  exact decW_mk hls ⟨hI, Nat.lt_succ_self _⟩
 ·rintro s m ⟨_, h⟩
  obtain ⟨_, _, _, _, h⟩ := decW_elim h
  exact absurd h (Nat.not_lt_zero _)
 ·rintro k s m ⟨e1, h⟩
  obtain ⟨ls, hls, e2, hI, hmu⟩ := decW_elim h
  have := allK_elim (allK_elim hB hps) hls k m hI hmu s
  rw [chainL_same s e1, chainL_same s e2] at this
  exact this
 ·intro e s m h
  obtain ⟨i, hi, e1, h⟩ := QX_get h
  obtain ⟨ls, hls, e2, h⟩ := decW_elim h
  have := allK_elim (exAll_get hX i e hi) hls m h s
  rw [chainL_same s e1, chainL_same s e2] at this
  exact this
end Go.Proofs.Ytdhifgedhaapjaa
namespace Go.Proofs.Ytdhifgedhaapjaa
open Go
def xorI (k : IntKind) (n : Int) : Int := k.wrap (BitVec.ofInt k.bits (if k.signed then -1 else k.max) ^^^ BitVec.ofInt k.bits n).toNat
def orI (k : IntKind) (a b : Int) : Int := k.wrap (BitVec.ofInt k.bits a ||| BitVec.ofInt k.bits b).toNat
def TryTt : Nat → TD
 | 2 => .int .i64
 | 3 => .int .i64
 | 4 => .bool
 | 5 => .int .u8
 | 21 => .int .i32
 | 22 => .slice 5 .u8
 | 24 => .slice 3 .i64
 | 26 => .slice 21 .i32
 | 29 => .slice 2 .i64
 | 52 => .int .u32
 | 53 => .int .u64
 | 56 => .int .u64
 | _ => .other
theorem TryTt_ok : TTok Try.prog TryTt where
 int T k h := by
  unfold TryTt at h
  split at h <;> first
   | (cases h; done)
   | (cases h; exact ⟨Try.underlying2, _, rfl, rfl, rfl, by decide⟩)
   | (cases h; exact ⟨Try.underlying3, _, rfl, rfl, rfl, by decide⟩)
   | (cases h; exact ⟨Try.underlying5, _, rfl, rfl, rfl, by decide⟩)
   | (cases h; exact ⟨Try.underlying21, _, rfl, rfl, rfl, by decide⟩)
   | (cases h; exact ⟨Try.underlying52, _, rfl, rfl, rfl, by decide⟩)
   | (cases h; exact ⟨Try.underlying53, _, rfl, rfl, rfl, by decide⟩)
   | (cases h; exact ⟨Try.underlying56, _, rfl, rfl, rfl, by decide⟩)
 slice T e k h := by
  unfold TryTt at h
  split at h <;> first
   | (cases h; done)
   | (cases h; exact ⟨Try.underlying22, rfl⟩)
   | (cases h; exact ⟨Try.underlying24, rfl⟩)
   | (cases h; exact ⟨Try.underlying26, rfl⟩)
   | (cases h; exact ⟨Try.underlying29, rfl⟩)
theorem TryMixed : Try.prog.follows .mixedOrders = true := by kernel_rfl
end Go.Proofs.Ytdhifgedhaapjaa

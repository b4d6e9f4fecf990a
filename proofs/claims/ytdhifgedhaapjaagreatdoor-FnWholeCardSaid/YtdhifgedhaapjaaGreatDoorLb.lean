/- The condition of one operation is enough for its run. -/
import Derived.Test.YtdhifgedhaapjaaGreatDoorLa
namespace Go.Proofs.YtdhifgedhaapjaaGreatDoor
open Go
def pureOp : Op → Bool
 | .move _ | .assign _ | .pick .. | .binOp .. | .unOp .. | .convert .. | .indexAddr .. | .load .. => true
 | .build .. | .nilCheck _ | .fieldAddr .. | .makeFunc .. | .makeInterface .. | .extract .. => true
 | .slice _ _ _ _ none => true
 | .call c => match c.callee with
  | .builtin .len => true
  | .builtin .cap => true
  | .builtin .min => true
  | _ => false
 | _ => false
theorem eval_eq (a : Act) : a.eval = (envOf a).ev := funext (ev_envOf a)
theorem binV_guard {P : Program} {t : TD} {w : World} {op : BinOp} {T : Nat} {x y : Operand} {a b : Value} {K : Value → Prop} (h : binV t op a b K) :
  (eqGuard op T x y a b).run P w = .ok () w := by
 unfold binV at h
 split at h
 ·exact eqGuard_int
 ·exact eqGuard_slice
 ·exact h.elim
theorem lenV_run {P : Program} {tt : Nat → TD} (ht : TTok P tt) {T : Nat} {ts : Array Nat} {args : Array Value} {K : Value → Prop} (h : lenV (ts.toList.map tt) args.toList K) :
  ∃ v, (∀ w, (Builtin.len_ ts T args).run P w = .ok v w) ∧ K v := by
 unfold lenV at h
 split at h
 ·rename_i e k b n c hts hargs
  obtain ⟨t, rfl, hT⟩ : ∃ t, ts = #[t] ∧ tt t = .slice e k := by
   obtain ⟨l⟩ := ts
   match l with
   | [] => simp at hts
   | [t] => exact ⟨t, rfl, by simpa using hts⟩
   | _ :: _ :: _ => simp at hts
  obtain rfl : args = #[.slice b n c] := by
   obtain ⟨l⟩ := args
   simp only at hargs
   rw [hargs]
  obtain ⟨hs, he⟩ := ht.slice _ _ _ hT
  refine ⟨_, fun w => ?_, h⟩
  simp [Builtin.len_, underlying, hs, goInt]
 ·exact h.elim
theorem capV_run {P : Program} {tt : Nat → TD} (ht : TTok P tt) {T : Nat} {ts : Array Nat} {args : Array Value} {K : Value → Prop} (h : capV (ts.toList.map tt) args.toList K) :
  ∃ v, (∀ w, (Builtin.cap_ ts T args).run P w = .ok v w) ∧ K v := by
 unfold capV at h
 split at h
 ·rename_i e k b c n hts hargs
  obtain ⟨t, rfl, hT⟩ : ∃ t, ts = #[t] ∧ tt t = .slice e k := by
   obtain ⟨l⟩ := ts
   match l with
   | [] => simp at hts
   | [t] => exact ⟨t, rfl, by simpa using hts⟩
   | _ :: _ :: _ => simp at hts
  obtain rfl : args = #[.slice b c n] := by
   obtain ⟨l⟩ := args
   simp only at hargs
   rw [hargs]
  obtain ⟨hs, he⟩ := ht.slice _ _ _ hT
  refine ⟨_, fun w => ?_, h⟩
  simp [Builtin.cap_, underlying, hs, goInt]
 ·exact h.elim
theorem minV_run {P : Program} {T : Nat} {ts : Array Nat} {args : Array Value} {K : Value → Prop} (h : minV args.toList K) :
  ∃ v, (∀ w, (Builtin.min_ ts T args).run P w = .ok v w) ∧ K v := by
 unfold minV at h
 split at h
 ·rename_i k a k' b hargs
  refine ⟨_, fun w => ?_, h⟩
  simp [Builtin.min_, hargs, Builtin.min2]
 ·exact h.elim
theorem cells_oneC {v : Value} (h : oneC v = true) : v.cells = #[v] := by
 cases v <;> simp_all [oneC, Value.cells]
theorem fill_run {fs : List (Nat × Nat)} : ∀ (ps : List (Nat × Value)) (cs out : List Value), bdL fs ps cs = some out → Instr.fill (fs.toArray[·]?) cs.toArray ps = some out.toArray
 | [], cs, out, h => by
  have e : cs = out := by simpa [bdL] using h
  simp [Instr.fill, e]
 | (i, v) :: r, cs, out, h => by
  simp only [bdL] at h
  split at h
  ·rename_i off sz hf
   cases hb : (oneC v && Nat.beq sz 1 && Nat.blt off cs.length) with
   | false => rw [hb] at h; cases h
   | true =>
    rw [hb, cond_true] at h
    simp only [Bool.and_eq_true] at hb
    have h1 := cells_oneC hb.1.1
    have h2 : sz = 1 := Nat.eq_of_beq_eq_true hb.1.2
    have h3 : off < cs.length := by have := hb.2; simp only [Nat.blt, Nat.ble_eq] at this; omega
    subst h2
    have := fill_run r _ _ h
    simp only [Instr.fill]
    have hf' : fs.toArray[i]? = some (off, 1) := by simpa using hf
    rw [hf']
    simp only [h1, List.size_toArray, List.length_cons, List.length_nil, Nat.zero_add, ne_eq, not_true_eq_false, decide_false, Bool.false_or, decide_eq_true_eq]
    rw [if_neg (by omega)]
    simpa using this
  ·cases h
theorem bdV_run {P : Program} {tt : Nat → TD} (ht : TTok P tt) {T : Nat} {ps : Array (Nat × Value)} {K : Value → Prop} (h : bdV (tt T) ps.toList K) :
  ∃ v, (∀ w, (Instr.build T ps).run P w = .ok v w) ∧ K v := by
 unfold bdV at h
 split at h
 ·rename_i fs zs ts hT
  split at h
  ·rename_i cs hc
   obtain ⟨F, hu, hp, _, inf, hi, hsz, hz, hts⟩ := ht.st _ _ _ _ hT
   refine ⟨_, fun w => ?_, h⟩
   have hf := fill_run ps.toList zs cs hc
   simp only [Instr.build, Sem.run_bind, zeroValue, typeInfo, run_program, hi, hz, Result.andThen_ok, Sem.run_pure, run_underlying hu, Value.cells]
   rw [hp w]
   simp only [Result.andThen_ok]
   rw [hf]
   rfl
  ·exact h.elim
 ·exact h.elim
theorem faV_run {P : Program} {tt : Nat → TD} (ht : TTok P tt) {T : Nat} {x : Value} {i : Nat} {K : Value → Prop} (h : faV (tt T) x i K) :
  ∃ v, (∀ w, (Instr.fieldAt T x i).run P w = .ok v w) ∧ K v := by
 unfold faV at h
 split at h
 ·rename_i fs zs ts b o hT
  split at h
  ·rename_i off sz hf
   obtain ⟨F, hu, _, hF, _⟩ := ht.st _ _ _ _ hT
   obtain ⟨f, hf1, hf2, hf3, hf4⟩ := hF _ _ _ hf
   refine ⟨_, fun w => ?_, h⟩
   simp only [Instr.fieldAt, Sem.run_bind, run_underlying hu, Result.andThen_ok, hf1, Instr.sureAddr, Sem.run_pure, fieldPlace, hf3, hf4, if_false, hf2, add_ofNat]
  ·exact h.elim
 ·exact h.elim
theorem mtab_ok {P : Program} {tt : Nat → TD} (ht : TTok P tt) {T g : Nat} {nm : String} (h : mtab tt T nm = some g) (a : Addr) (w : World) :
  (Go.method (P.types.size + Made.depth) T (.pointer (some a)) nm).run P w = .ok (g, .pointer (some a)) w ∧ (Go.nilAhead (P.types.size + Made.depth) T (.pointer (some a)) nm).run P w = .ok (some false) w := by
 unfold mtab at h
 by_cases h1 : nm = "Write"
 ·rw [if_pos h1] at h
  subst h1
  split at h
  ·rename_i g' hg
   cases h
   exact ht.write _ _ hg a w
  ·cases h
 ·rw [if_neg h1] at h
  by_cases h2 : nm = "Read"
  ·rw [if_pos h2] at h
   subst h2
   split at h
   ·rename_i g' hg
    cases h
    exact ht.read _ _ hg a w
   ·cases h
  ·rw [if_neg h2] at h; cases h
theorem niV_run {P : Program} {tt : Nat → TD} (ht : TTok P tt) {T : Nat} {op : BinOp} {x : Value} {y : Operand} {K : Value → Prop} (h : niV (tt T) op x K) :
  ∃ v, (∀ w, (do eqGuard op T y (.const .nilIface) x .nilIface; binOp op T x .nilIface : Sem Value).run P w = .ok v w) ∧ K v := by
 have key0 : ∀ ms, P.underlying T = some (.interface ms) → isI x = true → ∀ (w : World) (d : Nat), (Op.equalIn (d + 1) T x .nilIface).run P w = .ok (isN x) w := fun ms hu hi w d => by
  cases x <;> simp only [isI, Bool.false_eq_true] at hi <;> simp [Op.equalIn, run_underlying hu, isN]
 have key : ∀ ms, P.underlying T = some (.interface ms) → isI x = true → ∀ w, (Op.equalIn Op.maxDepth T x .nilIface).run P w = .ok (isN x) w := fun ms hu hi w => key0 ms hu hi w 9999
 unfold niV at h
 split at h
 ·rename_i hT
  obtain ⟨ms, hu⟩ := ht.iface _ hT
  obtain ⟨hi, hk⟩ := h
  refine ⟨_, fun w => ?_, hk⟩
  have := key ms hu hi w
  cases x <;> simp only [isI, Bool.false_eq_true] at hi <;> simp [eqGuard, binOp, Op.equal, this]
 ·rename_i hT
  obtain ⟨ms, hu⟩ := ht.iface _ hT
  obtain ⟨hi, hk⟩ := h
  refine ⟨_, fun w => ?_, hk⟩
  have := key ms hu hi w
  cases x <;> simp only [isI, Bool.false_eq_true] at hi <;> simp [eqGuard, binOp, Op.equal, this]
 ·exact h.elim
theorem op_pure {P : Program} {tt : Nat → TD} (ht : TTok P tt) {w0 : World} {m : Mem} {o : Oper} {a : Act} {K : Value → Mem → Prop}
  (hp : pureOp o.op = true) (h : opV P w0 tt o.op o.type (envOf a) m K) :
  ∃ v, (∀ w, Holds w0 w m → (execOp a.eval o).run P w = .ok (.value v) w) ∧ K v m := by
 rw [eval_eq]
 obtain ⟨dst, op, T, pos, after, guard⟩ := o
 simp only at hp h
 cases op <;> simp only [pureOp, Bool.false_eq_true] at hp <;> simp only [opV] at h
 case move x => exact ⟨_, fun w _ => by simp [execOp], h⟩
 case assign x => exact ⟨_, fun w _ => by simp [execOp], h⟩
 case pick c x y =>
  split at h
  ·rename_i t ht
   refine ⟨if t then (envOf a).ev x else (envOf a).ev y, fun w _ => ?_, ?_⟩
   ·simp [execOp, ht, asBool]
   ·cases t <;> exact h
  ·exact h.elim
 case binOp op t x y _ =>
  split at h
  ·obtain ⟨v, hv, hk⟩ := niV_run (y := x) ht h
   refine ⟨v, fun w _ => ?_, hk⟩
   have := hv w
   simp only [execOp, Env.ev, Sem.run_bind] at this ⊢
   rw [this]
   rfl
  ·split at h
   ·obtain ⟨e, ⟨S, a, hx, hS⟩, hk⟩ := h
    refine ⟨_, fun w _ => ?_, hk⟩
    have := ht.eqI _ _ hS a w
    simp [execOp, ← e, hx, eqGuard, this]
   ·obtain ⟨v, hv, hk⟩ := binV_run ht h
    exact ⟨v, fun w _ => by simp [execOp, binV_guard h, hv w], hk⟩
 case unOp op t x =>
  obtain ⟨v, hv, hk⟩ := unV_run (P := P) h
  exact ⟨v, fun w _ => by simp [execOp, hv w], hk⟩
 case convert s d x =>
  obtain ⟨v, hv, hk⟩ := convV_run ht h
  exact ⟨v, fun w _ => by simp [execOp, hv w], hk⟩
 case indexAddr t x i =>
  obtain ⟨v, hv, hk⟩ := ixV_run ht h
  exact ⟨v, fun w _ => by simp [execOp, hv w], hk⟩
 case load t x =>
  obtain ⟨v, hv, hk⟩ := ldV_run (w0 := w0) ht h
  exact ⟨v, fun w hw => by simp [execOp, hv w hw], hk⟩
 case slice t x lo hi mx =>
  cases mx with
  | some _ => cases hp
  | none =>
   obtain ⟨v, hv, hk⟩ := slG_run ht h
   exact ⟨v, fun w _ => by simp [execOp, hv w], hk⟩
 case build t ps =>
  obtain ⟨v, hv, hk⟩ := bdV_run (P := P) (ps := ps.map fun p => (p.1, (envOf a).ev p.2)) ht (by rw [Array.toList_map]; exact h)
  exact ⟨v, fun w _ => by simp [execOp, hv w], hk⟩
 case nilCheck x =>
  unfold ncV at h
  split at h
  ·rename_i p hp
   exact ⟨_, fun w _ => by simp [execOp, hp], h⟩
  ·rename_i nm T' p c hp
   split at h
   ·rename_i g hg
    refine ⟨_, fun w _ => ?_, h⟩
    have := (mtab_ok ht hg p w).2
    simp [execOp, hp, this]
   ·exact h.elim
  ·exact h.elim
 case fieldAddr t x i =>
  obtain ⟨v, hv, hk⟩ := faV_run ht h
  exact ⟨v, fun w _ => by simp [execOp, hv w], hk⟩
 case makeFunc fn fs cs =>
  refine ⟨_, fun w _ => ?_, h⟩
  have e1 : (fs.toList.map (envOf a).ev).toArray = fs.map (envOf a).ev := by rw [← Array.toList_map]
  have e2 : (cs.toList.map (envOf a).ev).toArray = cs.map (envOf a).ev := by rw [← Array.toList_map]
  rw [e1, e2]
  simp [execOp, Instr.makeFunc]
 case makeInterface t x =>
  unfold miV at h
  split at h
  ·rename_i hT
   obtain ⟨d, hu, hd⟩ := ht.ptr _ hT
   refine ⟨_, fun w _ => ?_, h⟩
   simp only [execOp, Instr.makeInterface, Sem.run_bind, run_underlying hu, Result.andThen_ok]
   cases d <;> simp only [ifaceD, Bool.true_eq_false] at hd <;> rfl
  ·exact h.elim
 case extract x i =>
  unfold extV at h
  split at h
  ·rename_i vs hx
   split at h
   ·rename_i v hv
    refine ⟨_, fun w _ => ?_, h⟩
    have hv' : vs[i]? = some v := by simpa using hv
    simp [execOp, hx, Instr.extract, hv']
   ·exact h.elim
  ·exact h.elim
 case call c =>
  obtain ⟨callee, args, ts⟩ := c
  simp only at hp h
  split at hp
  ·simp only at h
   obtain ⟨v, hv, hk⟩ := lenV_run (T := T) (args := args.map (envOf a).ev) ht (by simpa using h)
   exact ⟨v, fun w _ => by simp [execOp, resolve, invoke, builtin, hv w], hk⟩
  ·simp only at h
   obtain ⟨v, hv, hk⟩ := capV_run (T := T) (args := args.map (envOf a).ev) ht (by simpa using h)
   exact ⟨v, fun w _ => by simp [execOp, resolve, invoke, builtin, hv w], hk⟩
  ·simp only at h
   obtain ⟨v, hv, hk⟩ := minV_run (P := P) (T := T) (ts := ts) (args := args.map (envOf a).ev) (by simpa using h)
   exact ⟨v, fun w _ => by simp [execOp, resolve, invoke, builtin, hv w], hk⟩
  ·cases hp
/-! ### Operations that write, make or call -/
def Mem.stL (m : Mem) (b o : Nat) (zs : List Int) : Mem :=
 {m with val := fun b' o' => if b' = b ∧ o ≤ o' ∧ o' < o + zs.length then zs.getD (o' - o) 0 else m.val b' o' }
theorem storeCells_run {P : Program} {w0 : World} {b o : Nat} {k : IntKind} : ∀ (zs : List Int) (i : Nat) (w : World) (m : Mem), Holds w0 w m →
  (∀ j, j < zs.length → m.kd b (o + i + j) = some k) → m.ro b = false →
  ∃ w', (storeCells ⟨b, o, none⟩ (zs.map (Value.int k)) i).run P w = .ok () w' ∧ Holds w0 w' (m.stL b (o + i) zs)
 | [], i, w, m, h, _, _ => by
  refine ⟨w, by simp [storeCells], ?_⟩
  have : m.stL b (o + i) [] = m := by
   unfold Mem.stL
   cases m with
   | mk kd ro val ob =>
    simp only [Mem.mk.injEq, true_and, and_true]
    funext b' o'
    rw [if_neg (by simp only [List.length_nil]; omega)]
  rw [this]; exact h
 | z :: zs, i, w, m, h, hk, hr => by
  have hk0 : m.kd b (o + i) = some k := hk 0 (by simp)
  have h1 : Holds w0 (w.setCell ⟨b, o + i, none⟩ (.int k z)) (m.st b (o + i) z) := h.st hk0 hr z
  obtain ⟨w', hw', hh⟩ := storeCells_run zs (i + 1) _ _ h1 (fun j hj => by
   have := hk (j + 1) (by simp; omega)
   simp only [Mem.st]
   rw [show o + (i + 1) + j = o + i + (j + 1) by omega]; exact this) hr
  refine ⟨w', ?_, ?_⟩
  ·have hc := h.cell _ _ _ hk0
   have hf := h.free _ _ _ hk0 hr
   simp only [List.map_cons, storeCells, Sem.run_bind, add_ofNat]
   rw [run_store P w _ _ _ rfl, hc]
   simp only [hf, Bool.false_eq_true, if_false, Result.andThen_ok]
   exact hw'
  ·have : (m.st b (o + i) z).stL b (o + (i + 1)) zs = m.stL b (o + i) (z :: zs) := by
    unfold Mem.stL Mem.st
    simp only [Mem.mk.injEq, true_and, and_true]
    funext b' o'
    simp only [List.length_cons]
    by_cases hb : b' = b
    ·subst hb
     simp only [true_and]
     by_cases h1 : o' = o + i
     ·subst h1
      rw [if_neg (by omega), if_pos rfl, if_pos (by omega)]
      simp
     ·by_cases h2 : o + (i + 1) ≤ o' ∧ o' < o + (i + 1) + zs.length
      ·rw [if_pos h2, if_pos (by omega)]
       obtain ⟨d, hd⟩ : ∃ d, o' - (o + i) = d + 1 := ⟨o' - (o + i) - 1, by omega⟩
       rw [hd, show o' - (o + (i + 1)) = d by omega]
       simp
      ·rw [if_neg h2, if_neg h1, if_neg (by omega)]
    ·simp [hb]
   rw [← this]; exact hh
theorem zeroCells_eq (k : IntKind) (n : Nat) : (Builtin.zeroCells (Value.cells (.int k 0)) n).toList = (List.replicate n (0 : Int)).map (Value.int k) := by
 apply List.ext_getElem
 ·simp [Builtin.zeroCells, Value.cells]
 ·intro i h1 h2
  simp [Builtin.zeroCells, Value.cells, Nat.mod_one]
theorem stL_replicate (m : Mem) (b o n : Nat) (v : Int) : m.stL b o (List.replicate n v) = m.fill b o n v := by
 unfold Mem.stL Mem.fill
 simp only [Mem.mk.injEq, true_and, and_true, List.length_replicate]
 funext b' o'
 split
 ·rename_i h
  rw [List.getD_eq_getElem?_getD, List.getElem?_replicate, if_pos (by omega)]; rfl
 ·rfl
theorem loadCells_run {P : Program} {w0 w : World} {m : Mem} {b o : Nat} {k : IntKind} (h : Holds w0 w m) : ∀ (n i : Nat) (acc : Array Value), (∀ j, j < n → m.kd b (o + i + j) = some k) →
  (loadCellsFrom ⟨b, o, none⟩ i n acc).run P w = .ok (acc ++ ((List.range n).map fun j => Value.int k (m.val b (o + i + j))).toArray) w
 | 0, i, acc, _ => by simp [loadCellsFrom]
 | n + 1, i, acc, hk => by
  have hc := h.cell _ _ _ (hk 0 (by omega))
  simp only [loadCellsFrom, Sem.run_bind, add_ofNat, run_load, Nat.add_zero] at hc ⊢
  rw [hc]
  simp only [Result.andThen_ok]
  rw [loadCells_run h n (i + 1) _ (fun j hj => by rw [show o + (i + 1) + j = o + i + (j + 1) by omega]; exact hk (j + 1) (by omega))]
  congr 1
  rw [List.range_succ_eq_map, List.map_cons, List.map_map]
  apply Array.ext'
  simp only [Array.toList_append, Array.toList_push, List.append_assoc, List.singleton_append, Nat.add_zero]
  congr 2
  apply List.map_congr_left
  intro j _
  simp only [Function.comp]
  rw [show o + (i + 1) + j = o + i + (j + 1) by omega]
theorem stL_copy (m : Mem) (b o sb so n : Nat) : m.stL b o ((List.range n).map fun j => m.val sb (so + j)) = m.copy b o sb so n := by
 unfold Mem.stL Mem.copy
 simp only [Mem.mk.injEq, true_and, and_true, List.length_map, List.length_range]
 funext b' o'
 split
 ·rename_i h
  rw [List.getD_eq_getElem?_getD, List.getElem?_map, List.getElem?_range (by omega)]; rfl
 ·rfl
theorem resV_elim {tt : Nat → TD} {t : TD} {K : Value → Mem → Prop} {v : Value} {m : Mem} (h : resV tt t K v m) : K v m := by
 unfold resV at h
 split at h
 ·obtain ⟨z, rfl, h⟩ := h; exact h
 ·obtain ⟨z, rfl, h⟩ := h; exact h
 ·rename_i e k
  cases hb : Nat.beq e 3 with
  | true => rw [hb] at h; exact h
  | false => rw [hb] at h; obtain ⟨b, o, l, c, rfl, h⟩ := h; exact h
 ·obtain ⟨rfl, h⟩ := h; exact h
 ·obtain ⟨sb, l, c, rfl, h⟩ := h; exact h
 ·obtain ⟨b, o, l, c, rfl, h⟩ := h; exact h
 ·obtain ⟨b, o, rfl, h⟩ := h; exact h
 ·obtain ⟨vs, _, e, hk⟩ := exL_elim h; subst e; exact hk
 ·obtain ⟨vs, _, e, hk⟩ := exL_elim h; subst e; exact hk
 ·exact h
theorem map_tt {tt : Nat → TD} {ts : Array Nat} {l : List TD} (h : ts.toList.map tt = l) : ts.size = l.length ∧ ∀ (i : Nat) t, l[i]? = some t → ∃ T, ts[i]? = some T ∧ tt T = t := by
 subst h
 refine ⟨by simp, fun i t hi => ?_⟩
 rw [List.getElem?_map] at hi
 cases hT : ts.toList[i]? with
 | none => rw [hT] at hi; cases hi
 | some T => rw [hT] at hi; exact ⟨T, by rw [← hT]; simp, Option.some.inj hi⟩
theorem clearV_run {P : Program} {tt : Nat → TD} (ht : TTok P tt) {w0 w : World} {m : Mem} (hw : Holds w0 w m) {T : Nat} {ts : Array Nat} {args : Array Value} {K : Value → Mem → Prop}
  (h : clearV (ts.toList.map tt) args.toList m K) : ∃ v w' m', (Builtin.clear_ ts T args).run P w = .ok v w' ∧ Holds w0 w' m' ∧ K v m' := by
 unfold clearV at h
 split at h
 ·rename_i e k b o n c hts hargs
  obtain ⟨hl, hi⟩ := map_tt hts
  obtain ⟨t, h0, hT⟩ := hi 0 _ rfl
  obtain rfl : args = #[.slice (some ⟨b, o, none⟩) n c] := by
   obtain ⟨l⟩ := args
   simp only at hargs
   rw [hargs]
  obtain ⟨hs, he⟩ := ht.slice _ _ _ hT
  obtain ⟨_, inf, hinf, hsz, hz, hb⟩ := ht.int _ _ he
  obtain ⟨hk, hr, hK⟩ := h
  obtain ⟨w', hrun, hh⟩ := storeCells_run (P := P) (b := b) (o := o) (k := k) (List.replicate n (0 : Int)) 0 w m hw (fun j hj => by simpa using hk j (by simpa using hj)) hr
  rw [Nat.add_zero, stL_replicate] at hh
  cases n with
  | zero =>
   refine ⟨.tuple #[], w, m.fill b o 0 0, ?_, ?_, hK _ rfl⟩
   ·simp [Builtin.clear_, h0, underlying, hs]
   ·have : m.fill b o 0 0 = m := by
     unfold Mem.fill
     cases m
     simp only [Mem.mk.injEq, true_and, and_true]
     funext b' o'
     rw [if_neg (by omega)]
    rw [this]; exact hw
  | succ n =>
   refine ⟨.tuple #[], w', _, ?_, hh, hK _ rfl⟩
   rw [← zeroCells_eq] at hrun
   simp [Builtin.clear_, h0, underlying, hs, zeroValue, typeInfo, hinf, hz, hrun]
 ·exact h.elim
theorem copyV_run {P : Program} {tt : Nat → TD} (ht : TTok P tt) {w0 w : World} {m : Mem} (hw : Holds w0 w m) {T : Nat} {ts : Array Nat} {args : Array Value} {K : Value → Mem → Prop}
  (h : copyV (ts.toList.map tt) args.toList m K) : ∃ v w' m', (Builtin.copy_ ts T args).run P w = .ok v w' ∧ Holds w0 w' m' ∧ K v m' := by
 unfold copyV at h
 split at h
 ·rename_i e k _ _ b o n c sb so sn sc hts hargs
  obtain ⟨hl, hi⟩ := map_tt hts
  obtain ⟨t, h0, hT⟩ := hi 0 _ rfl
  obtain rfl : args = #[.slice (some ⟨b, o, none⟩) n c, .slice (some ⟨sb, so, none⟩) sn sc] := by
   obtain ⟨l⟩ := args
   simp only at hargs
   rw [hargs]
  obtain ⟨hs, he⟩ := ht.slice _ _ _ hT
  obtain ⟨_, inf, hinf, hsz, hz, hb⟩ := ht.int _ _ he
  obtain ⟨hk, hr, hK⟩ := h
  have hld := loadCells_run (P := P) (b := sb) (o := so) (k := k) hw (min sn n) 0 #[] (fun j hj => by simpa using (hk j hj).2)
  obtain ⟨w', hrun, hh⟩ := storeCells_run (P := P) (b := b) (o := o) (k := k) ((List.range (min sn n)).map fun j => m.val sb (so + j)) 0 w m hw
   (fun j hj => by simpa using (hk j (by simpa using hj)).1) hr
  rw [Nat.add_zero, stL_copy] at hh
  rw [List.map_map] at hrun
  refine ⟨.int .i64 (min sn n : Nat), w', _, ?_, hh, hK _ rfl⟩
  have e1 : (loadCells ⟨sb, so, none⟩ (Nat.min sn n)).run P w = .ok ((List.range (min sn n)).map fun j => Value.int k (m.val sb (so + j))).toArray w := by
   simpa [loadCells] using hld
  have e2 : (storeCells ⟨b, o, none⟩ ((List.range (min sn n)).map fun j => Value.int k (m.val sb (so + j))) 0).run P w = .ok () w' := hrun
  simp [Builtin.copy_, h0, underlying, hs, Builtin.lenOf, Builtin.firstCells, sizeOf, typeInfo, hinf, hsz, e1, e2, goInt]
 ·rename_i e k _ _ b o n c xb sn sc _ hts hargs
  obtain ⟨hl, hi⟩ := map_tt hts
  obtain ⟨t, h0, hT⟩ := hi 0 _ rfl
  obtain rfl : args = #[.slice (some ⟨b, o, none⟩) n c, .slice xb sn sc] := by
   obtain ⟨l⟩ := args
   simp only at hargs
   rw [hargs]
  obtain ⟨hs, he⟩ := ht.slice _ _ _ hT
  obtain ⟨_, inf, hinf, hsz, hz, hb⟩ := ht.int _ _ he
  obtain ⟨rfl, hK⟩ := h
  refine ⟨.int .i64 (0 : Nat), w, m, ?_, hw, hK⟩
  cases xb <;> simp [Builtin.copy_, h0, underlying, hs, Builtin.lenOf, Builtin.firstCells, sizeOf, typeInfo, hinf, hsz, goInt, storeCells, loadCells, loadCellsFrom]
 ·exact h.elim
theorem wrap_i64 {z : Int} (h0 : -9223372036854775808 ≤ z) (h1 : z ≤ 9223372036854775807) : IntKind.i64.wrap z = z := by
 show (if (true && decide (z % (18446744073709551616 : Int) ≥ (9223372036854775808 : Int))) = true then z % (18446744073709551616 : Int) - 18446744073709551616 else z % (18446744073709551616 : Int)) = z
 by_cases h : z % (18446744073709551616 : Int) ≥ 9223372036854775808
 ·simp only [h, decide_true, Bool.and_self, if_true]; omega
 ·simp only [h, decide_false, Bool.and_false, Bool.false_eq_true, if_false]; omega
theorem wrap_i32 {z : Int} (h0 : -2147483648 ≤ z) (h1 : z ≤ 2147483647) : IntKind.i32.wrap z = z := by
 show (if (true && decide (z % (4294967296 : Int) ≥ (2147483648 : Int))) = true then z % (4294967296 : Int) - 4294967296 else z % (4294967296 : Int)) = z
 by_cases h : z % (4294967296 : Int) ≥ 2147483648
 ·simp only [h, decide_true, Bool.and_self, if_true]; omega
 ·simp only [h, decide_false, Bool.and_false, Bool.false_eq_true, if_false]; omega
theorem wrap_small {z : Int} (h0 : 0 ≤ z) (h1 : z ≤ 1000000000) : IntKind.i64.wrap z = z := wrap_i64 (by omega) (by omega)
theorem mkV_run {P : Program} {tt : Nat → TD} (ht : TTok P tt) {w0 w : World} {m : Mem} (hw : Holds w0 w m) {T : Nat} {l c : Value} {K : Value → Mem → Prop}
  (h : mkV (tt T) l c m K) : ∃ v w' m', (Instr.makeSlice T l c).run P w = .ok v w' ∧ Holds w0 w' m' ∧ K v m' := by
 unfold mkV at h
 split at h
 ·rename_i e k l c hT
  obtain ⟨h0, h1, h2, hK⟩ := h
  obtain ⟨hs, he⟩ := ht.slice _ _ _ hT
  obtain ⟨_, inf, hinf, hsz, hz, hb⟩ := ht.int _ _ he
  have hl : IntKind.i64.wrap l = l := wrap_small h0 (by omega)
  have hc : IntKind.i64.wrap c = c := wrap_small (by omega) h2
  have hbc : ¬ ((inf.bytes : Int) * c > 2 ^ 48) := by
   have : (inf.bytes : Int) * c ≤ 8 * 1000000000 := Int.mul_le_mul (by omega) h2 (by omega) (by omega)
   omega
  refine ⟨_, _, _, ?_, hw.new k c.toNat (fun _ => 0) ((Array.range (c.toNat * 1)).map ((if c.toNat * 1 = 0 then #[] else Value.cells (.int k 0))[· % (if c.toNat * 1 = 0 then #[] else Value.cells (.int k 0)).size]!)) e (by simp) ?_, hK _ hw.fresh _ rfl⟩
  ·have n1 : ¬ c < 0 := by omega
   have n2 : ¬ l < 0 := by omega
   have n3 : ¬ l > c := by omega
   simp only [Instr.makeSlice, Sem.run_bind, asInt, asIntOf, underlying, run_program, hs, typeInfo, hinf, Result.andThen_ok, Sem.run_pure, Sem.run_ite, hl, hc, n1, n2, n3, hbc,
    decide_false, Bool.or_false, Bool.false_or, Bool.false_eq_true, if_false, run_askRoom, sizeOf, hsz, zeroValue, hz]
   by_cases hc0 : c.toNat * 1 = 0
   ·simp only [hc0, if_true, Result.andThen_ok, newRow, Sem.run_bind, run_newObj, Sem.run_pure]
    rfl
   ·simp only [hc0, if_false, Result.andThen_ok, newRow, Sem.run_bind, run_newObj, Sem.run_pure]
    rfl
  ·intro i hi
   have : ¬ c.toNat * 1 = 0 := by omega
   simp [Value.cells, Nat.mod_one, hi, show ¬ c.toNat = 0 by omega]
 ·exact h.elim
theorem firstCells_run {P : Program} {w0 w : World} {m : Mem} (hw : Holds w0 w m) {k : IntKind} {sb : Option Addr} {n c : Nat} (h : rowOK m k sb n c) :
  (Builtin.firstCells 1 n (.slice sb n c)).run P w = .ok (((List.range n).map fun j => Value.int k (elemV m sb j)).toArray) w := by
 unfold rowOK at h
 split at h
 ·rename_i a
  rcases Nat.eq_zero_or_pos n with h0 | h0
  ·subst h0
   simp [Builtin.firstCells, loadCells, loadCellsFrom]
  ·obtain ⟨b, o, spot⟩ := a
   obtain rfl : spot = none := (h 0 h0).1
   have hld := loadCells_run (P := P) (b := b) (o := o) (k := k) hw n 0 #[] (fun j hj => by simpa using (h j hj).2)
   simp only [Builtin.firstCells, Nat.mul_one]
   simpa [loadCells, elemV] using hld
 ·obtain ⟨rfl, rfl⟩ := h
  simp [Builtin.firstCells]
theorem apV_run {P : Program} {tt : Nat → TD} (ht : TTok P tt) {w0 w : World} {m : Mem} (hw : Holds w0 w m) {T t : Nat} {s x : Value} {K : Value → Mem → Prop}
  (h : apV (tt t) s x m K) : ∃ v w' m', (Builtin.append_ #[t, t] T #[s, x]).run P w = .ok v w' ∧ Holds w0 w' m' ∧ K v m' := by
 unfold apV at h
 split at h
 ·rename_i e k sb n cap xb l xc hT
  obtain ⟨hs, he⟩ := ht.slice _ _ _ hT
  obtain ⟨_, inf, hinf, hsz, hz, hb⟩ := ht.int _ _ he
  obtain ⟨h1, h2, h3, h4, h5⟩ := h
  have f1 := firstCells_run (P := P) hw h1
  have f2 := firstCells_run (P := P) hw h2
  rcases Nat.lt_or_ge cap (n + l) with hg | hg
  ·have hsrc : Src P inf.size t (.slice xb l xc) l ((List.range l).map fun j => Value.int k (elemV m xb j)) w := by
    rw [hsz]
    exact ⟨.inl ⟨_, hs⟩, fun _ => rfl, f2, firstCells_run (P := P) hw.drew h2, by simp, fun u hu => by
     obtain ⟨j, _, rfl⟩ := List.mem_map.1 hu
     rfl⟩
   have hfit : Builtin.nextslicecap (n + l) cap * inf.bytes ≤ 281474976710656 := growslice_fits hg (Nat.le_trans (Nat.mul_le_mul h3 hb) (by decide))
   have hrun := run_append_grow_src (P := P) w t t T e inf (.int k 0) hs hinf hz sb n cap ((List.range n).map fun j => Value.int k (elemV m sb j))
    (by rw [hsz]; exact firstCells_run (P := P) hw.drew h1) (.slice xb l xc) l _ hsrc hg (by omega) hfit
   have hge := grownCap_ge w (n + l) cap e
   refine ⟨_, _, _, hrun, hw.drew.new k (grownCap w (n + l) cap e) (fun i => if i < n then elemV m sb i else if i < n + l then elemV m xb (i - n) else 0) _ _ ?_ ?_, h5 hg _ _ hw.fresh hge _ rfl⟩
   ·simp [size_zeroCells, Value.cells]; omega
   ·intro i hi
    simp only [Array.getElem?_append, List.size_toArray, List.length_append, List.length_map, List.length_range, List.getElem?_toArray]
    by_cases h6 : i < n + l
    ·rw [if_pos h6]
     by_cases h7 : i < n
     ·rw [List.getElem?_append_left (by simpa using h7)]
      simp [h7]
     ·have h8 : i - n < l := by omega
      rw [List.getElem?_append_right (by simpa using Nat.le_of_not_lt h7)]
      simp only [List.length_map, List.length_range, List.getElem?_map, List.getElem?_range h8, Option.map_some, h7, h6, if_false, if_true]
    ·have h8 : i - (n + l) < grownCap w (n + l) cap e - (n + l) := by omega
     rw [if_neg h6]
     have h9 : (Builtin.zeroCells (Value.cells (.int k 0)) (grownCap w (n + l) cap e - (n + l)))[i - (n + l)]? = some (Value.int k 0) := by
      rw [← Array.getElem?_toList, zeroCells_eq, List.getElem?_map, List.getElem?_replicate, if_pos h8]; rfl
     rw [h9, if_neg (by omega), if_neg h6]
  ·have h4' := h4 hg
   cases sb with
   | none =>
    obtain ⟨rfl, rfl⟩ := h1
    obtain rfl : l = 0 := by omega
    refine ⟨_, w, m, ?_, hw, h4'⟩
    simp [Builtin.append_, underlying, hs, sizeOf, typeInfo, hinf, hsz, Builtin.lenOf, f2]
   | some a =>
    obtain ⟨b, o, pth⟩ := a
    obtain ⟨g0, g1, g2, g3⟩ := h4'
    cases pth with
    | some _ => cases g0
    | none =>
     obtain ⟨w', hrun, hh⟩ := storeCells_run (P := P) (b := b) (o := o + n) (k := k) ((List.range l).map fun j => elemV m xb j) 0 w m hw (fun j hj => by simpa using g1 j (by simpa using hj)) g2
     rw [List.map_map] at hrun
     have e2 : (storeCells ⟨b, o + n, none⟩ ((List.range l).map fun j => Value.int k (elemV m xb j)) 0).run P w = .ok () w' := hrun
     have e3 : m.stL b (o + n + 0) ((List.range l).map fun j => elemV m xb j) = m.put b (o + n) l (elemV m xb) := by
      unfold Mem.stL Mem.put
      simp only [Mem.mk.injEq, true_and, and_true]
      funext b' o'
      by_cases hc : b' = b ∧ o + n ≤ o' ∧ o' < o + n + l
      ·rw [if_pos hc, if_pos (by simpa using hc)]
       have : o' - (o + n) < l := by omega
       simp [List.getD_eq_getElem?_getD, this]
      ·rw [if_neg hc, if_neg (by simpa using hc)]
     rw [e3] at hh
     refine ⟨_, w', _, ?_, hh, g3 _ rfl⟩
     simp [Builtin.append_, underlying, hs, sizeOf, typeInfo, hinf, hsz, Builtin.lenOf, hg, f2, add_ofNat, e2]
 ·exact h.elim
theorem bsV_run {P : Program} {tt : Nat → TD} (ht : TTok P tt) {w0 w : World} {m : Mem} (hw : Holds w0 w m) {t len : Nat} {ps : Array (Nat × Value)} {K : Value → Mem → Prop}
  (h : bsV (tt t) len ps.toList m K) : ∃ v w' m', (Instr.buildSlice t len ps).run P w = .ok v w' ∧ Holds w0 w' m' ∧ K v m' := by
 unfold bsV at h
 split at h
 ·rename_i e k hT hps
  obtain ⟨hs, he⟩ := ht.slice _ _ _ hT
  obtain ⟨_, inf, hinf, hsz, hz, hb⟩ := ht.int _ _ he
  refine ⟨_, _, _, ?_, hw.new k 0 (fun _ => 0) #[] e (by simp) (fun i hi => by omega), h _ hw.fresh _ rfl⟩
  simp [Instr.buildSlice, underlying, hs, sizeOf, typeInfo, hinf, hsz, hps, Instr.fill, newRow]
  congr 2
  exact Array.eq_empty_of_size_eq_zero (by simp)
 ·rename_i e k k' z hT hps
  obtain ⟨hs, he⟩ := ht.slice _ _ _ hT
  obtain ⟨_, inf, hinf, hsz, hz, hb⟩ := ht.int _ _ he
  by_cases hk : k = k'
  ·subst hk
   simp only [decide_true, cond_true] at h
   refine ⟨_, _, _, ?_, hw.new k 1 (fun _ => z) #[.int k z] e (by simp) (fun i hi => by obtain rfl : i = 0 := (by omega); rfl), h _ hw.fresh _ rfl⟩
   simp [Instr.buildSlice, underlying, hs, sizeOf, typeInfo, hinf, hsz, hz, zeroValue, hps, Instr.fill, newRow, Value.cells]
   congr 2
   apply Array.ext
   ·simp
   ·intro i h1 h2
    have : i = 0 := by simpa using h2
    subst this
    simp
  ·simp [hk] at h
 ·exact h.elim
theorem stoL_run {P : Program} {w0 : World} {b o : Nat} : ∀ (vs : List Value) (i : Nat) (w : World) (m : Mem) (K : Mem → Prop), Holds w0 w m → stoL b vs (o + i) m K →
  ∃ w' m', (storeCells ⟨b, o, none⟩ vs i).run P w = .ok () w' ∧ Holds w0 w' m' ∧ K m'
 | [], i, w, m, K, hw, h => ⟨w, m, by simp [storeCells], hw, h⟩
 | v :: r, i, w, m, K, hw, h => by
  obtain ⟨h0, h1, h2, h3⟩ := h
  obtain ⟨u, hu⟩ := Option.isSome_iff_exists.1 h1
  obtain ⟨w', m', hr, hh, hk⟩ := stoL_run (P := P) r (i + 1) _ _ K (hw.so hu h2 v) (by rw [show o + (i + 1) = o + i + 1 by omega]; exact h3 _ rfl)
  refine ⟨w', m', ?_, hh, hk⟩
  have hc := hw.cello _ _ _ hu
  have hf := hw.freeo _ _ _ hu h2
  have h1c : v.oneCell' = true := by cases v <;> simp_all [oneC, Value.oneCell']
  simp only [storeCells, Sem.run_bind, add_ofNat]
  rw [run_store P w _ _ _ h1c, hc]
  simp only [hf, Bool.false_eq_true, if_false, Result.andThen_ok]
  exact hr
theorem stV_run {P : Program} {tt : Nat → TD} (ht : TTok P tt) {w0 w : World} {m : Mem} (hw : Holds w0 w m) {T : Nat} {a x : Value} {K : Mem → Prop}
  (h : stV tt T a x m K) : ∃ w' m', (Instr.storeAt T a x).run P w = .ok () w' ∧ Holds w0 w' m' ∧ K m' := by
 unfold stV at h
 split at h
 ·rename_i b o
  split at h
  ·rename_i k hT
   obtain ⟨_, inf, hinf, hsz, hz, hb⟩ := ht.int _ _ hT
   unfold stI at h
   split at h
   ·rename_i k' v
    by_cases hkk : k = k'
    ·subst hkk
     simp only [decide_true, cond_true] at h
     obtain ⟨hk, hr, hK⟩ := h
     refine ⟨_, _, ?_, hw.st hk hr v, hK _ rfl⟩
     have hc := hw.cell _ _ _ hk
     have hf := hw.free _ _ _ hk hr
     have hs : (store ⟨b, o, none⟩ (.int k v)).run P w = .ok () (w.setCell ⟨b, o, none⟩ (.int k v)) := by
      rw [run_store P w _ _ _ rfl, hc]
      simp [hf]
     simp [Instr.storeAt, Instr.sureAddr, storeVar, Value.cells, sizeOf, typeInfo, hinf, hsz, storeCells, add_ofNat, hs]
    ·simp [hkk] at h
   ·exact h.elim
  ·rename_i fs zs ts hT
   obtain ⟨F, hu, _, _, inf, hi, hsz, hz, hts⟩ := ht.st _ _ _ _ hT
   unfold stS at h
   split at h
   ·rename_i vs
    cases hb : Nat.beq vs.toList.length ts.length with
    | false => rw [hb] at h; exact h.elim
    | true =>
     rw [hb, cond_true] at h
     have hl := Nat.eq_of_beq_eq_true hb
     obtain ⟨w', m', hr, hh, hk⟩ := stoL_run (P := P) (o := o) vs.toList 0 w m K hw (by simpa using h)
     refine ⟨w', m', ?_, hh, hk⟩
     have hn : vs.size = inf.size := by rw [hsz, ← hts, ← hl]; simp
     simp only [Instr.storeAt, Instr.sureAddr, storeVar, Value.cells, sizeOf, typeInfo, Sem.run_bind, run_program, hi, Result.andThen_ok, Sem.run_pure, hn, ne_eq, not_true_eq_false, if_false]
     exact hr
   ·exact h.elim
  ·rename_i t _ _
   cases ho : oneT (tt T) with
   | false => rw [ho] at h; exact h.elim
   | true =>
    rw [ho, cond_true] at h
    obtain ⟨d, hu, hd, inf, hi, hsz⟩ := ht.one _ ho
    obtain ⟨w', m', hr, hh, hk⟩ := stoL_run (P := P) (o := o) [x] 0 w m K hw (by simpa using h)
    refine ⟨w', m', ?_, hh, hk⟩
    have h1 := cells_oneC h.1
    simp only [Instr.storeAt, Instr.sureAddr, storeVar, h1, sizeOf, typeInfo, Sem.run_bind, run_program, hi, hsz, Result.andThen_ok, Sem.run_pure]
    simpa using hr
 ·exact h.elim
theorem cellsL_eq (v : Value) : v.cells.toList = cellsL v := by cases v <;> rfl
theorem newVar_run {P : Program} {w0 w : World} {m : Mem} (hw : Holds w0 w m) (T : Nat) (v : Value) {K : Value → Mem → Prop}
  (hK : ∀ B, m.fresh B → ∀ m' : Mem, m' = m.newC B (cellsL v) → K (.pointer (some ⟨B, 0, none⟩)) m') :
  ∃ u w' m', (do pure (.pointer (some (← newVar T v))) : Sem Value).run P w = .ok u w' ∧ Holds w0 w' m' ∧ K u m' := by
 refine ⟨_, _, _, ?_, hw.newC (cellsL v) v.cells T (fun i u hu => by rw [← cellsL_eq] at hu; simpa using hu), hK _ hw.fresh _ rfl⟩
 simp only [newVar, newRow, Sem.run_bind, run_newObj, Sem.run_pure, Result.andThen_ok]
 rfl
theorem alV_run {P : Program} {tt : Nat → TD} (ht : TTok P tt) {w0 w : World} {m : Mem} (hw : Holds w0 w m) {T : Nat} {K : Value → Mem → Prop}
  (h : alV (tt T) m K) : ∃ u w' m', (Instr.alloc T true (.tuple #[])).run P w = .ok u w' ∧ Holds w0 w' m' ∧ K u m' := by
 unfold alV at h
 split at h
 ·rename_i k hT
  obtain ⟨_, inf, hinf, hsz, hz, hb⟩ := ht.int _ _ hT
  obtain ⟨u, w', m', hr, hh, hk⟩ := newVar_run (P := P) hw T (.int k 0) h
  refine ⟨u, w', m', ?_, hh, hk⟩
  simp only [Instr.alloc, Sem.run_bind, zeroValue, typeInfo, run_program, hinf, hz, Result.andThen_ok, Sem.run_pure] at hr ⊢
  exact hr
 ·rename_i fs zs ts hT
  obtain ⟨F, hu, _, _, inf, hi, hsz, hz, hts⟩ := ht.st _ _ _ _ hT
  obtain ⟨u, w', m', hr, hh, hk⟩ := newVar_run (P := P) hw T (.agg zs.toArray) h
  refine ⟨u, w', m', ?_, hh, hk⟩
  simp only [Instr.alloc, Sem.run_bind, zeroValue, typeInfo, run_program, hi, hz, Result.andThen_ok, Sem.run_pure] at hr ⊢
  exact hr
 ·exact h.elim
theorem callFunc_run {P : Program} {f : Nat} (h : Callable P f) (args : Array Value) (w : World) : (callFunc f args).run P w = .ok (.enter f args) w := by
 obtain ⟨fn, hf, hb, hn⟩ := h
 have hb' : fn.body ≠ none := fun h => by rw [h] at hb; cases hb
 have hn' : fn.name ≠ "runtime.NumGoroutine" := fun h => by rw [h] at hn; simp at hn
 simp [callFunc, hf, hb', hn']
theorem op_does {P : Program} {tt : Nat → TD} (ht : TTok P tt) {w0 w : World} {m : Mem} (hw : Holds w0 w m) {o : Oper} {a : Act} {K : Value → Mem → Prop}
  (h : opV P w0 tt o.op o.type (envOf a) m K) : doesU P (fun v w' => ∃ m', Holds w0 w' m' ∧ K v m') ((execOp a.eval o).run P w) := by
 by_cases hp : pureOp o.op = true
 ·obtain ⟨v, hv, hk⟩ := op_pure ht hp h
  rw [hv w hw]
  exact ⟨_, hw, hk⟩
 ·have he := eval_eq a
  obtain ⟨dst, op, T, pos, after, guard⟩ := o
  simp only at hp h
  have ent : ∀ {f : Nat} {args : List Value} {t : TD} {K : Value → Mem → Prop}, callV P w0 f args m (resV tt t K) → doesU P (fun v w' => ∃ m', Holds w0 w' m' ∧ K v m') (.ok (.enter f args.toArray) w) := fun {f args t K} hc =>
   (hc.2 w hw).mono fun e w' ⟨v, m', he, hh, hk⟩ => ⟨v, he, m', hh, resV_elim hk⟩
  cases op <;> simp only [pureOp, not_true_eq_false] at hp <;> simp only [opV] at h
  case store t x y =>
   obtain ⟨w', m', hr, hh, hk⟩ := stV_run (P := P) ht hw h
   have : (execOp a.eval { dst, op := .store t x y, type := T, pos, after, guard }).run P w = .ok .skip w' := by
    rw [he]; simp [execOp, hr]
   rw [this]
   exact ⟨_, hh, hk⟩
  case alloc t =>
   obtain ⟨v, w', m', hr, hh, hk⟩ := alV_run (P := P) ht hw h
   have : (execOp a.eval { dst, op := .alloc t, type := T, pos, after, guard }).run P w = .ok (.value v) w' := by
    simp [execOp, hr]
   rw [this]
   exact ⟨_, hh, hk⟩
  case box t x =>
   obtain ⟨v, w', m', hr, hh, hk⟩ := newVar_run (P := P) hw t _ h
   have : (execOp a.eval { dst, op := .box t x, type := T, pos, after, guard }).run P w = .ok (.value v) w' := by
    rw [he]; simp only [execOp, Instr.box, Sem.run_bind] at hr ⊢; rw [hr]; rfl
   rw [this]
   exact ⟨_, hh, hk⟩
  case makeSlice t l c =>
   obtain ⟨v, w', m', hr, hh, hk⟩ := mkV_run (P := P) ht hw h
   have : (execOp a.eval { dst, op := .makeSlice t l c, type := T, pos, after, guard }).run P w = .ok (.value v) w' := by
    rw [he]; simp [execOp, hr]
   rw [this]
   exact ⟨_, hh, hk⟩
  case buildSlice t n ps =>
   obtain ⟨v, w', m', hr, hh, hk⟩ := bsV_run (P := P) (ps := ps.map fun p => (p.1, (envOf a).ev p.2)) ht hw (by rw [Array.toList_map]; exact h)
   have : (execOp a.eval { dst, op := .buildSlice t n ps, type := T, pos, after, guard }).run P w = .ok (.value v) w' := by
    rw [he]; simp [execOp, hr]
   rw [this]
   exact ⟨_, hh, hk⟩
  case slice t x lo hi mx =>
   cases mx with
   | some _ => exact h.elim
   | none => exact absurd rfl hp
  case call c =>
   obtain ⟨callee, args, ts⟩ := c
   simp only at hp h
   have ea : (args.toList.map a.eval).toArray = args.map a.eval := by rw [← Array.toList_map]
   split at h
   ·rename_i f
    have hrun : (execOp a.eval { dst, op := .call ⟨.value (.func f), args, ts⟩, type := T, pos, after, guard }).run P w = .ok (.enter f (args.map a.eval)) w := by
     rw [execOp_call_go, callFunc_run h.1]
     simp
    rw [hrun]
    rw [← he] at h
    have := ent h
    rw [ea] at this
    exact this
   ·rename_i t
    unfold fnV at h
    split at h
    ·rename_i g fst cap hx
     have hrun : (execOp a.eval { dst, op := .call ⟨.value (.tmp t), args, ts⟩, type := T, pos, after, guard }).run P w = .ok (.enter g (fst ++ args.map a.eval ++ cap)) w := by
      have hx' : a.eval (.tmp t) = .func (.func g) fst cap := by rw [he]; exact hx
      simp only [execOp, resolve, hx', Deferred.ofValue, Sem.run_bind, Sem.run_pure, Result.andThen_ok, invoke]
      exact callFunc_run h.1 _ _
     rw [hrun]
     rw [← he] at h
     have := ent h
     have e2 : (fst.toList ++ args.toList.map a.eval ++ cap.toList).toArray = fst ++ args.map a.eval ++ cap := by
      apply Array.ext'
      simp
     rw [e2] at this
     exact this
    ·exact h.elim
   ·rename_i x nm
    unfold invV at h
    split at h
    ·rename_i T' p hx
     split at h
     ·rename_i g hg
      have hrun : (execOp a.eval { dst, op := .call ⟨.invoke x nm, args, ts⟩, type := T, pos, after, guard }).run P w = .ok (.enter g (#[.pointer (some p)] ++ args.map a.eval)) w := by
       have hx' : a.eval x = .iface T' (.pointer (some p)) := by rw [he]; exact hx
       have hm := (mtab_ok ht hg p w).1
       have e3 : ∀ X : Value, (#[X] ++ args.map a.eval).extract 1 (#[X] ++ args.map a.eval).size = args.map a.eval := fun X => by
        apply Array.ext'
        simp [List.take_of_length_le]
       have e4 : ∀ X : Value, (#[X] ++ args.map a.eval)[0]? = some X := fun X => by rw [Array.getElem?_append_left (by simp)]; rfl
       simp only [execOp, resolve, Sem.run_bind, Sem.run_pure, Result.andThen_ok, invoke, hx']
       rw [e3, e4]
       simp only [callMethod, Sem.run_bind, run_program, Result.andThen_ok, hm]
       exact callFunc_run h.1 _ _
      rw [hrun]
      rw [← he] at h
      have := ent h
      have e2 : (Value.pointer (some p) :: args.toList.map a.eval).toArray = #[.pointer (some p)] ++ args.map a.eval := by
       apply Array.ext'
       simp
      rw [e2] at this
      exact this
     ·exact h.elim
    ·exact h.elim
   ·exact absurd rfl hp
   ·exact absurd rfl hp
   ·exact absurd rfl hp
   ·obtain ⟨v, w', m', hr, hh, hk⟩ := clearV_run (P := P) (T := T) (ts := ts) (args := args.map (envOf a).ev) (K := K) ht hw (by rw [Array.toList_map (xs := args)]; exact h)
    have hrun : (execOp a.eval { dst, op := .call ⟨.builtin .clear, args, ts⟩, type := T, pos, after, guard }).run P w = .ok (.value v) w' := by
     rw [he]; simp [execOp, resolve, invoke, builtin, hr]
    rw [hrun]
    exact ⟨_, hh, hk⟩
   ·obtain ⟨v, w', m', hr, hh, hk⟩ := copyV_run (P := P) (T := T) (ts := ts) (args := args.map (envOf a).ev) (K := K) ht hw (by rw [Array.toList_map (xs := args)]; exact h)
    have hrun : (execOp a.eval { dst, op := .call ⟨.builtin .copy, args, ts⟩, type := T, pos, after, guard }).run P w = .ok (.value v) w' := by
     rw [he]; simp [execOp, resolve, invoke, builtin, hr]
    rw [hrun]
    exact ⟨_, hh, hk⟩
   ·split at h
    ·rename_i t t' x y hts hargs
     obtain rfl : ts = #[t, t'] := by rw [← Array.toArray_toList (xs := ts), hts]
     obtain rfl : args = #[x, y] := by rw [← Array.toArray_toList (xs := args), hargs]
     cases hb : Nat.beq t t' with
     | false => rw [hb] at h; exact h.elim
     | true =>
      rw [hb] at h
      obtain rfl : t = t' := Nat.eq_of_beq_eq_true hb
      obtain ⟨v, w', m', hr, hh, hk⟩ := apV_run (P := P) (T := T) ht hw h
      have hrun : (execOp a.eval { dst, op := .call ⟨.builtin .append, #[x, y], #[t, t]⟩, type := T, pos, after, guard }).run P w = .ok (.value v) w' := by
       rw [he]; simp [execOp, resolve, invoke, builtin, hr]
      rw [hrun]
      exact ⟨_, hh, hk⟩
    ·exact h.elim
   ·exact h.elim
  all_goals exact h.elim
theorem op_sound {P : Program} {tt : Nat → TD} (ht : TTok P tt) {w0 w : World} {m : Mem} (hw : Holds w0 w m) {o : Oper} {a : Act} {K : Value → Mem → Prop}
  (h : opV P w0 tt o.op o.type (envOf a) m K) {next : Act → World → Prop} {Q : Exit → Act → World → Prop}
  (hn : ∀ v w' m', Holds w0 w' m' → K v m' → next (a.put o.dst v) w') : o.wp P a w next Q :=
 wp_of_doesU (doesU_mono (fun v w' ⟨m', hh, hk⟩ => hn v w' m' hh hk) (op_does ht hw h))
end Go.Proofs.YtdhifgedhaapjaaGreatDoor
namespace Go.Proofs.YtdhifgedhaapjaaGreatDoor
open Go
def slotOf (all : List Oper) (j : Nat) : Option Nat := (all[j]?).bind (·.dst)
abbrev OpF := Op → Nat → Env → Mem → (Value → Mem → Prop) → Prop
def quietV (P : Program) (f : Nat) (args : List Value) (m : Mem) (v : Value) : Prop := ∀ w1, callV P w1 f args m.lock fun v' _ => v' = v
def exR (tt : Nat → TD) (t : TD) (f : Value → Prop) : Prop :=
 match t with
 | .int k => ∃ z : Int, f (.int k z)
 | .bool => ∃ z : Bool, f (.bool z)
 | .slice e _ => cond (Nat.beq e 3) (∃ v, f v) (∃ b o l c : Nat, f (.slice (some ⟨b, o, none⟩) l c))
 | .nilS => f (.slice none 0 0)
 | .osl => ∃ (sb : Option Addr) (l c : Nat), f (.slice sb l c)
 | .slS => ∃ b o l c : Nat, f (.slice (some ⟨b, o, none⟩) l c)
 | .ptr => ∃ b o : Nat, f (.pointer (some ⟨b, o, none⟩))
 | .st _ _ ts => exL tt ts fun vs => f (.agg vs.toArray)
 | .tup ts => exL tt ts fun vs => f (.tuple vs.toArray)
 | _ => ∃ v, f v
def opQ (P : Program) (w0 : World) (tt : Nat → TD) : OpF := fun op T s m K =>
 match op with
 | .call c => match c.callee with
  | .value (.func f) => exR tt (loT (tt T) (tt (7000 + f))) fun v => quietV P f (c.args.toList.map s.ev) m v ∧ K v m
  | _ => opV P w0 tt (.call c) T s m K
 | op => opV P w0 tt op T s m K
def stillOp (op : Op) : Bool := pureOp op || match op with
 | .call c => match c.callee with
  | .value (.func _) => true
  | _ => false
 | _ => false
def wrOp (tt : Nat → TD) : Op → Bool
 | .store .. | .alloc _ | .box .. | .makeSlice .. | .buildSlice .. => true
 | .call c => match c.callee with
  | .value (.func f) => match tt (6000 + f) with
   | .mode _ => true
   | _ => false
  | .builtin .len | .builtin .cap | .builtin .min => false
  | _ => true
 | _ => false
def wrIx (tt : Nat → TD) : List Oper → Nat
 | [] => 0
 | o :: r => cond (wrOp tt o.op) 0 (wrIx tt r + 1)
def opW (P : Program) (w0 : World) (tt : Nat → TD) (m : Mem) (R : Mem → Prop) : OpF := fun op T s mc K =>
 cond (wrOp tt op) (exR tt (tt T) fun v => opV P w0 tt op T s m (fun v' m2 => v' = v ∧ R m2) ∧ K v mc) (opQ P w0 tt op T s mc K)
def twoW (tt : Nat → TD) (l : List Oper) : Bool := Nat.blt (wrIx tt l + 1 + wrIx tt (l.drop (wrIx tt l + 1))) l.length
def moveB : List Oper → Bool
 | o :: _ => o.guard.isNone && match o.op with
  | .move _ => true
  | _ => false
 | [] => false
def vcOps (F : OpF) (all : List Oper) (K : Env → Mem → Prop) : List Oper → Env → Mem → Prop
 | [], s, m => K s m
 | o :: r, s, m =>
  match o.guard with
  | none => F o.op o.type s m fun v m' => vcOps F all K r (s.put o.dst v) m'
  | some (j, want) =>
   match slotOf all j with
   | none => False
   | some t =>
    match s t with
    | .bool v => cond v
     (cond want (F o.op o.type (s.set t (.bool true)) m fun v m' => vcOps F all K r ((s.set t (.bool true)).put o.dst v) m')
      (vcOps F all K r ((s.set t (.bool true)).put o.dst undef) m))
     (cond want (vcOps F all K r ((s.set t (.bool false)).put o.dst undef) m)
      (F o.op o.type (s.set t (.bool false)) m fun v m' => vcOps F all K r ((s.set t (.bool false)).put o.dst v) m'))
    | _ => vcOps F all K r (s.put o.dst undef) m
abbrev Post := Exit → Env → Mem → Prop
def thenV (N : Env → Mem → Prop) (Q : Post) : Post
 | .normal => N
 | e => Q e
def blockV (id : Nat) (Q : Post) : Post
 | .exit i => cond (Nat.beq i id) (Q .normal) (Q (.exit i))
 | e => Q e
def noGotoV (Q : Post) : Post
 | .goto _ => fun _ _ => False
 | e => Q e
def scopeV (jt : Nat → Post → Env → Mem → Prop) (Q : Post) : Post
 | .goto l => jt l (noGotoV Q)
 | e => Q e
def nLoops : Code → Nat
 | .seq a b => nLoops a + nLoops b
 | .cond _ a b => nLoops a + nLoops b
 | .block _ c => nLoops c
 | .scope c => nLoops c
 | .loop _ => 1
 | _ => 0
def vc (P : Program) (w0 : World) (tt : Nat → TD) (lv : Nat → Env → Mem → Post → Prop) (jt : Nat → Post → Env → Mem → Prop) : Code → Nat → Post → Env → Mem → Prop
 | .skip, _, Q, s, m => Q .normal s m
 | .region _ ops d, _, Q, s, m => cond d
  (cond (twoW tt ops.toList) (vcOps (opV P w0 tt) ops.toList (Q .normal) ops.toList s m) <|
  cond (Nat.blt (wrIx tt ops.toList) ops.toList.length)
   (∃ mc : Mem, Ext mc m ∧ ∃ R : Mem → Prop, (∀ m2, R m2 → Ext mc m2) ∧ vcOps (opW P w0 tt m R) ops.toList (fun s _ => ∀ m2 : Mem, R m2 → Q .normal s m2) ops.toList s mc)
   (vcOps (opQ P w0 tt) ops.toList (Q .normal) ops.toList s m))
  (vcOps (opV P w0 tt) ops.toList (Q .normal) ops.toList s m)
 | .seq a b, i, Q, s, m => vc P w0 tt lv jt a i (thenV (vc P w0 tt lv jt b (i + nLoops a) Q) Q) s m
 | .cond c a b, i, Q, s, m => match s.ev c with
  | .bool t => cond t (vc P w0 tt lv jt a i Q s m) (vc P w0 tt lv jt b (i + nLoops a) Q s m)
  | _ => False
 | .block id c, i, Q, s, m => vc P w0 tt lv jt c i (blockV id Q) s m
 | .loop _, i, Q, s, m => lv i s m Q
 | .exit id, _, Q, s, m => Q (.exit id) s m
 | .label _, _, Q, s, m => Q .normal s m
 | .goto l, _, Q, s, m => Q (.goto l) s m
 | .ret, _, Q, s, m => Q .ret s m
 | .scope c, i, Q, s, m => vc P w0 tt lv jt c i (scopeV jt Q) s m
 | _, _, _, _, _ => False
/-! ### It is enough -/
def wrOK (tt : Nat → TD) (kw : Nat) : List Oper → Nat → Bool
 | [], _ => true
 | o :: r, k => (wrOp tt o.op == Nat.beq k kw) && (wrOp tt o.op || stillOp o.op) && (!wrOp tt o.op || o.guard.isNone) && wrOK tt kw r (k + 1)
def wfC (tt : Nat → TD) (n : Nat) : Code → Bool
 | .region _ ops d => ops.toList.all (fun o => o.dst.all (fun t => Nat.blt t n)) && (!d || cond (twoW tt ops.toList)
  (moveB ops.toList && (ops.toList.take (wrIx tt ops.toList)).all (fun o => pureOp o.op) && floatB .any ops (wrIx tt ops.toList))
  (wrOK tt (wrIx tt ops.toList) ops.toList 0 && Region.lexB .any ops))
 | .seq a b => wfC tt n a && wfC tt n b
 | .cond _ a b => wfC tt n a && wfC tt n b
 | .block _ c => wfC tt n c
 | .scope c => wfC tt n c
 | _ => true
def Sat (P : Program) (w0 : World) (n : Nat) (c : Code) (Q : Post) (s : Env) (m : Mem) : Prop :=
 ∀ a w, envOf a = s → a.tmps.size = n → a.defers = [] → Holds w0 w m →
  c.wp P (fun e a' w' => a'.tmps.size = n ∧ a'.defers = [] ∧ ∃ m', Holds w0 w' m' ∧ Q e (envOf a') m') a w
def loopsOK (P : Program) (w0 : World) (n : Nat) (lv : Nat → Env → Mem → Post → Prop) (jt : Nat → Post → Env → Mem → Prop) : Code → Nat → Prop
 | .seq a b, i => loopsOK P w0 n lv jt a i ∧ loopsOK P w0 n lv jt b (i + nLoops a)
 | .cond _ a b, i => loopsOK P w0 n lv jt a i ∧ loopsOK P w0 n lv jt b (i + nLoops a)
 | .block _ c, i => loopsOK P w0 n lv jt c i
 | .scope c, i => loopsOK P w0 n lv jt c i ∧ ∀ l Q s m, jt l Q s m → ∃ rest, findLabel c l = some rest ∧ Sat P w0 n rest Q s m
 | .loop c, i => ∀ s m Q, lv i s m Q → Sat P w0 n (.loop c) Q s m
 | _, _ => True
theorem yielded_env {ops : Array Oper} {a : Act} {j t : Nat} {v : Bool} (ht : slotOf ops.toList j = some t) (hv : envOf a t = .bool v) : yielded ops a.tmps j = some v := by
 unfold slotOf at ht
 have ht' : (ops[j]?).bind (·.dst) = some t := by simpa using ht
 unfold yielded
 rw [ht']
 simp only [Option.bind_some]
 unfold envOf at hv
 by_cases hlt : t < a.tmps.size
 ·simp only [Array.getD, hlt, dite_true] at hv
  simp only [Array.getElem?_eq_getElem hlt]
  have : a.tmps[t] = .bool v := hv
  rw [this]
 ·simp only [Array.getD, hlt, dite_false] at hv
  cases hv
theorem yielded_none {ops : Array Oper} {a : Act} {j t : Nat} (ht : slotOf ops.toList j = some t) (hv : ∀ v, envOf a t ≠ .bool v) : yielded ops a.tmps j = none := by
 unfold slotOf at ht
 have ht' : (ops[j]?).bind (·.dst) = some t := by simpa using ht
 unfold yielded
 rw [ht']
 simp only [Option.bind_some]
 unfold envOf at hv
 by_cases hlt : t < a.tmps.size
 ·simp only [Array.getD, hlt, dite_true] at hv
  simp only [Array.getElem?_eq_getElem hlt]
  split
  ·rename_i b hb
   exact absurd (Option.some.inj hb) (hv b)
  ·rfl
 ·simp only [Array.getElem?_eq_none (Nat.le_of_not_lt hlt)]
theorem wanted_none {o : Oper} {y : Nat → Option Bool} (h : o.guard = none) : Region.wanted o y = true := by simp [Region.wanted, h]
theorem wanted_some {o : Oper} {y : Nat → Option Bool} {j : Nat} {want v : Bool} (h : o.guard = some (j, want)) (hy : y j = some v) : Region.wanted o y = (v == want) := by
 simp [Region.wanted, h, hy]
theorem vcOps_cons {F : OpF} {ops : Array Oper} {K : Env → Mem → Prop} {o : Oper} {r : List Oper} {a : Act} {m : Mem}
  (h : vcOps F ops.toList K (o :: r) (envOf a) m) :
  (Region.wanted o (yielded ops a.tmps) = true ∧ F o.op o.type (envOf a) m fun v m' => vcOps F ops.toList K r ((envOf a).put o.dst v) m') ∨
  (Region.wanted o (yielded ops a.tmps) = false ∧ vcOps F ops.toList K r ((envOf a).put o.dst undef) m) := by
 simp only [vcOps] at h
 split at h
 ·rename_i hg
  exact .inl ⟨wanted_none hg, h⟩
 ·rename_i j want hg
  split at h
  ·exact h.elim
  ·rename_i t ht
   split at h
   ·rename_i v hv
    have hy := yielded_env ht hv
    have hw := wanted_some (y := yielded ops a.tmps) hg hy
    have hset : ∀ b, v = b → (envOf a).set t (.bool b) = envOf a := fun b hb => by
     rw [← hb, ← hv, Env.set_same]
    cases v <;> cases want <;> simp only [cond_true, cond_false] at h
    ·rw [hset false rfl] at h; exact .inl ⟨hw, h⟩
    ·rw [hset false rfl] at h; exact .inr ⟨hw, h⟩
    ·rw [hset true rfl] at h; exact .inr ⟨hw, h⟩
    ·rw [hset true rfl] at h; exact .inl ⟨hw, h⟩
   ·rename_i hnb
    refine .inr ⟨?_, h⟩
    have hy := yielded_none (a := a) ht fun v hv => hnb v hv
    simp [Region.wanted, hg, hy]
theorem vcOps_sound {P : Program} {w0 : World} {tt : Nat → TD} (ht : TTok P tt) {ops : Array Oper} {K : Env → Mem → Prop} {Q : Exit → Act → World → Prop} {n : Nat}
  (hQ : ∀ a w m, a.tmps.size = n → a.defers = [] → Holds w0 w m → K (envOf a) m → Q .normal a w) :
  ∀ (l : List Oper) (a : Act) (w : World) (m : Mem), (∀ o ∈ l, ∀ t, o.dst = some t → t < n) → a.tmps.size = n → a.defers = [] → Holds w0 w m →
   vcOps (opV P w0 tt) ops.toList K l (envOf a) m → wpList P ops Q l a w
 | [], a, w, m, _, hs, hd, hw, h => hQ a w m hs hd hw h
 | o :: r, a, w, m, hl, hs, hd, hw, h => by
  have hdst : ∀ t, o.dst = some t → t < a.tmps.size := fun t h => hs ▸ hl o (by simp) t h
  have hr : ∀ o' ∈ r, ∀ t, o'.dst = some t → t < n := fun o' ho' => hl o' (by simp [ho'])
  unfold wpList
  rcases vcOps_cons h with ⟨hwant, hop⟩ | ⟨hwant, hop⟩
  ·rw [if_pos hwant]
   refine .inl (op_sound ht hw hop fun v w' m' hw' hk => ?_)
   refine vcOps_sound ht hQ r _ w' m' hr (by rw [size_put]; exact hs) (by rw [defers_put]; exact hd) hw' ?_
   rw [envOf_put _ _ _ hdst]; exact hk
  ·rw [if_neg (by rw [hwant]; decide)]
   refine vcOps_sound ht hQ r _ w m hr (by rw [size_put]; exact hs) (by rw [defers_put]; exact hd) hw ?_
   rw [envOf_put _ _ _ hdst]; exact hop
theorem exR_elim {tt : Nat → TD} {t : TD} {f : Value → Prop} (h : exR tt t f) : ∃ v, f v := by
 unfold exR at h
 split at h
 ·obtain ⟨z, h⟩ := h; exact ⟨_, h⟩
 ·obtain ⟨z, h⟩ := h; exact ⟨_, h⟩
 ·rename_i e k
  cases hb : Nat.beq e 3 with
  | true => rw [hb] at h; exact h
  | false => rw [hb] at h; obtain ⟨b, o, l, c, h⟩ := h; exact ⟨_, h⟩
 ·exact ⟨_, h⟩
 ·obtain ⟨sb, l, c, h⟩ := h; exact ⟨_, h⟩
 ·obtain ⟨b, o, l, c, h⟩ := h; exact ⟨_, h⟩
 ·obtain ⟨b, o, h⟩ := h; exact ⟨_, h⟩
 ·obtain ⟨vs, _, h⟩ := exL_elim h; exact ⟨_, h⟩
 ·obtain ⟨vs, _, h⟩ := exL_elim h; exact ⟨_, h⟩
 ·exact h
def ReadsV (P : Program) (w0 : World) (mc : Mem) (o : Oper) (a : Act) (K : Value → Mem → Prop) : Prop :=
 ∃ v, K v mc ∧ ∀ (M : Mem → Prop), (∀ m, M m → Ext mc m) → ∀ w, (∃ m, M m ∧ Holds w0 w m) → doesU P (fun u w' => u = v ∧ ∃ m, M m ∧ Holds w0 w' m) ((execOp a.eval o).run P w)
theorem opQ_does {P : Program} {tt : Nat → TD} (ht : TTok P tt) {w0 : World} {mc : Mem} {o : Oper} {a : Act} {K : Value → Mem → Prop}
  (hp : stillOp o.op = true) (h : opQ P w0 tt o.op o.type (envOf a) mc K) : ReadsV P w0 mc o a K := by
 have pure : pureOp o.op = true → opV P w0 tt o.op o.type (envOf a) mc K → ReadsV P w0 mc o a K := fun hp h => by
  obtain ⟨v, hv, hk⟩ := op_pure ht hp h
  refine ⟨v, hk, fun M hM w ⟨m, hm, hw⟩ => ?_⟩
  rw [hv w (hw.ext (hM m hm))]
  exact ⟨rfl, m, hm, hw⟩
 have he := eval_eq a
 obtain ⟨dst, op, T, pos, after, guard⟩ := o
 simp only at hp h pure
 cases op
 case call c =>
  obtain ⟨callee, args, ts⟩ := c
  simp only [opQ] at h
  split at h
  ·rename_i f
   obtain ⟨v, hq, hk⟩ := exR_elim h
   refine ⟨v, hk, fun M hM w ⟨m, hm, hw⟩ => ?_⟩
   have hc := hq w
   have hrun : (execOp a.eval { dst, op := .call ⟨.value (.func f), args, ts⟩, type := T, pos, after, guard }).run P w = .ok (.enter f (args.map a.eval)) w := by
    rw [execOp_call_go, callFunc_run hc.1]
    simp
   rw [hrun]
   have hc' := hc.2 w (hw.ext (hM m hm)).lock
   rw [← he] at hc'
   have ea : (args.toList.map a.eval).toArray = args.map a.eval := by rw [← Array.toList_map]
   rw [ea] at hc'
   exact hc'.mono fun e w' ⟨v', m', e1, hh, e2⟩ => ⟨v', e1, e2, m, hm, hw.grown hh⟩
  ·rename_i hne
   refine pure ?_ h
   simp only [stillOp, Bool.or_eq_true] at hp
   rcases hp with hp | hp
   ·exact hp
   ·cases hp
 all_goals exact pure (by simpa [stillOp] using hp) h
theorem wrOK_get {tt : Nat → TD} {kw : Nat} : ∀ {l : List Oper} {k : Nat}, wrOK tt kw l k = true → ∀ (j : Nat) (o : Oper), l[j]? = some o →
  (wrOp tt o.op = Nat.beq (k + j) kw) ∧ (wrOp tt o.op = true ∨ stillOp o.op = true) ∧ (wrOp tt o.op = true → o.guard = none)
 | [], _, _, j, o, h => by simp at h
 | x :: r, k, hw, j, o, h => by
  simp only [wrOK, Bool.and_eq_true, beq_iff_eq, Bool.or_eq_true, Bool.not_eq_true'] at hw
  cases j with
  | zero =>
   have e : x = o := by simpa using h
   subst e
   refine ⟨hw.1.1.1, hw.1.1.2, fun h => ?_⟩
   rcases hw.1.2 with h' | h'
   ·rw [h] at h'; cases h'
   ·cases hg : x.guard with
    | none => rfl
    | some _ => rw [hg] at h'; cases h'
  | succ j =>
   have := wrOK_get hw.2 j o (by simpa using h)
   rw [show k + (j + 1) = k + 1 + j by omega]; exact this
theorem vcOps_lexW {P : Program} {F : OpF} {ops : Array Oper} {kw n : Nat} {C0 C1 : World → Prop} {mc : Mem} {K : Env → Mem → Prop} {Q : Act → Prop} {tt : Nat → TD}
  (hF : ∀ (o : Oper) (k : Nat) (a : Act) (K' : Value → Mem → Prop), k < ops.size → wrOp tt o.op = Nat.beq k kw → (wrOp tt o.op = true ∨ stillOp o.op = true) → F o.op o.type (envOf a) mc K' → ∃ v, okW P kw C0 C1 k o a v ∧ K' v mc)
  (hQ : ∀ a, a.tmps.size = n → a.defers = [] → K (envOf a) mc → Q a) :
  ∀ (l : List Oper) (k : Nat) (a : Act), (∀ o ∈ l, ∀ t, o.dst = some t → t < n) → k + l.length ≤ ops.size → wrOK tt kw l k = true → a.tmps.size = n → a.defers = [] →
   vcOps F ops.toList K l (envOf a) mc → wpLexW P ops kw C0 C1 Q l k a
 | [], _, a, _, _, _, hs, hd, h => hQ a hs hd h
 | o :: r, k, a, hl, hlen, hok, hs, hd, h => by
  have hdst : ∀ t, o.dst = some t → t < a.tmps.size := fun t h => hs ▸ hl o (by simp) t h
  have hr : ∀ o' ∈ r, ∀ t, o'.dst = some t → t < n := fun o' ho' => hl o' (by simp [ho'])
  simp only [List.length_cons] at hlen
  have h0 := wrOK_get hok 0 o rfl
  have hok' : wrOK tt kw r (k + 1) = true := by
   simp only [wrOK, Bool.and_eq_true] at hok; exact hok.2
  have hrec : ∀ v, vcOps F ops.toList K r ((envOf a).put o.dst v) mc → wpLexW P ops kw C0 C1 Q r (k + 1) (a.put o.dst v) := fun v hk => by
   refine vcOps_lexW hF hQ r (k + 1) _ hr (by omega) hok' (by rw [size_put]; exact hs) (by rw [defers_put]; exact hd) ?_
   rw [envOf_put _ _ _ hdst]; exact hk
  rcases vcOps_cons h with ⟨hwant, hop⟩ | ⟨hwant, hop⟩
  ·obtain ⟨v, hv, hk⟩ := hF o k a _ (by omega) h0.1 h0.2.1 hop
   exact ⟨v, .inl ⟨hwant, hv⟩, hrec v hk⟩
  ·refine ⟨undef, .inr ⟨hwant, ?_, rfl⟩, hrec _ hop⟩
   intro e
   have hb : wrOp tt o.op = true := by
    have := h0.1
    rw [Nat.add_zero, e, Nat.beq_refl] at this
    exact this
   have := wanted_none (y := yielded ops a.tmps) (h0.2.2 hb)
   rw [this] at hwant; cases hwant
theorem vcOps_quiet {P : Program} (hm : P.follows .mixedOrders = true) {w0 w : World} {tt : Nat → TD} (ht : TTok P tt) {ops : Array Oper} {K : Env → Mem → Prop} {n id : Nat} {m : Mem} (hw : Holds w0 w m) {Q : Exit → Act → World → Prop}
  (hQ : ∀ a w' m', a.tmps.size = n → a.defers = [] → Holds w0 w' m' → K (envOf a) m' → Q .normal a w') {a : Act} (hl : ∀ o ∈ ops.toList, ∀ t, o.dst = some t → t < n) (hok : wrOK tt (wrIx tt ops.toList) ops.toList 0 = true)
  (hB : Region.lexB .any ops = true) (hs : a.tmps.size = n) (hd : a.defers = []) (hnw : ¬ wrIx tt ops.toList < ops.size)
  (h : vcOps (opQ P w0 tt) ops.toList K ops.toList (envOf a) m) : (Code.region id ops true).wp P Q a w := by
 refine wp_region_W (kw := wrIx tt ops.toList) (C0 := fun w' => ∃ m', m' = m ∧ Holds w0 w' m') (C1 := fun w' => ∃ m', m' = m ∧ Holds w0 w' m') hm hB ⟨m, rfl, hw.drew⟩
  (vcOps_lexW (tt := tt) (K := K) (n := n) (fun o k a K' hk0 h1 h2 h => ?_) (fun a h1 h2 h3 => ?_) ops.toList 0 a hl (by simp) hok hs hd h)
 ·by_cases hst : stillOp o.op = true
  ·obtain ⟨v, hk, hv⟩ := opQ_does ht hst h
   refine ⟨v, ?_, hk⟩
   have := hv (fun m' => m' = m) (fun m' e => e ▸ Ext.refl _)
   unfold okW
   split
   ·exact this
   ·exact ⟨this, this⟩
  ·exfalso
   rcases h2 with h2 | h2
   ·rw [h2] at h1
    have := Nat.eq_of_beq_eq_true h1.symm
    omega
   ·exact hst h2
 ·intro w' hw'
  have : decide (wrIx tt ops.toList < ops.size) = false := by simpa using hnw
  rw [this] at hw'
  obtain ⟨m', rfl, hh⟩ := hw'
  exact hQ a w' _ h1 h2 hh h3
theorem vcOps_writes {P : Program} (hm : P.follows .mixedOrders = true) {w0 w : World} {tt : Nat → TD} (ht : TTok P tt) {ops : Array Oper} {K : Env → Mem → Prop} {n id : Nat} {m mc : Mem} (hw : Holds w0 w m) {Q : Exit → Act → World → Prop} {R : Mem → Prop}
  (hQ : ∀ a w' m', a.tmps.size = n → a.defers = [] → Holds w0 w' m' → K (envOf a) m' → Q .normal a w') {a : Act} (hl : ∀ o ∈ ops.toList, ∀ t, o.dst = some t → t < n) (hok : wrOK tt (wrIx tt ops.toList) ops.toList 0 = true)
  (hB : Region.lexB .any ops = true) (hs : a.tmps.size = n) (hd : a.defers = []) (hkw : wrIx tt ops.toList < ops.size) (hE : Ext mc m) (hR : ∀ m2, R m2 → Ext mc m2)
  (h : vcOps (opW P w0 tt m R) ops.toList (fun s _ => ∀ m2 : Mem, R m2 → K s m2) ops.toList (envOf a) mc) : (Code.region id ops true).wp P Q a w := by
 refine wp_region_W (kw := wrIx tt ops.toList) (C0 := fun w' => ∃ m', m' = m ∧ Holds w0 w' m') (C1 := fun w' => ∃ m', R m' ∧ Holds w0 w' m') hm hB ⟨m, rfl, hw.drew⟩
  (vcOps_lexW (tt := tt) (n := n) (fun o k a K' hk0 h1 h2 h => ?_) (fun a h1 h2 h3 => ?_) ops.toList 0 a hl (by simp) hok hs hd h)
 ·unfold opW at h
  cases hwr : wrOp tt o.op with
  | true =>
   rw [hwr, cond_true] at h
   obtain ⟨v, hop, hk⟩ := exR_elim h
   refine ⟨v, ?_, hk⟩
   have hkk : k = wrIx tt ops.toList := Nat.eq_of_beq_eq_true (by rw [← h1]; exact hwr)
   unfold okW
   rw [if_pos hkk]
   rintro w' ⟨m', rfl, hh⟩
   exact doesU_mono (fun u w'' ⟨m2, g1, g2, g3⟩ => ⟨g2, m2, g3, g1⟩) (op_does ht hh hop)
  | false =>
   rw [hwr, cond_false] at h
   have hst : stillOp o.op = true := h2.resolve_left (by rw [hwr]; simp)
   obtain ⟨v, hk, hv⟩ := opQ_does ht hst h
   refine ⟨v, ?_, hk⟩
   have hne : k ≠ wrIx tt ops.toList := fun e => by
    rw [e, Nat.beq_refl, hwr] at h1; cases h1
   unfold okW
   rw [if_neg hne]
   exact ⟨hv (fun m' => m' = m) (fun m' e => e ▸ hE), hv R hR⟩
 ·intro w' hw'
  have : decide (wrIx tt ops.toList < ops.size) = true := by simpa using hkw
  rw [this] at hw'
  obtain ⟨m', hR', hh⟩ := hw'
  exact hQ a w' _ h1 h2 hh (h3 m' hR')
theorem wpStill_imp {P : Program} {ops : Array Oper} {w : World} {Q Q' : Act → Prop} (h : ∀ a, Q a → Q' a) : ∀ {l : List Oper} {a : Act}, wpStill P ops w Q l a → wpStill P ops w Q' l a
 | [], _, hh => h _ hh
 | o :: l, a, hh => by
  unfold wpStill at hh ⊢
  split
  ·rename_i hw; rw [if_pos hw] at hh; exact Oper.still_mono (fun a' h' => wpStill_imp h h') hh
  ·rename_i hw; rw [if_neg hw] at hh; exact wpStill_imp h hh
theorem vcOps_still {P : Program} {w0 w : World} {tt : Nat → TD} (ht : TTok P tt) {ops : Array Oper} {K : Env → Mem → Prop} {n : Nat} {m : Mem} (hw : Holds w0 w m) (r : List Oper) :
  ∀ (l : List Oper) (a : Act), (∀ o ∈ l, pureOp o.op = true) → (∀ o ∈ l, ∀ t, o.dst = some t → t < n) → a.tmps.size = n → a.defers = [] → vcOps (opV P w0 tt) ops.toList K (l ++ r) (envOf a) m →
   wpStill P ops w (fun a' => a'.tmps.size = n ∧ a'.defers = [] ∧ vcOps (opV P w0 tt) ops.toList K r (envOf a') m) l a
 | [], _, _, _, hs, hd, h => ⟨hs, hd, h⟩
 | o :: l, a, hp, hl, hs, hd, h => by
  have hdst : ∀ t, o.dst = some t → t < a.tmps.size := fun t h => hs ▸ hl o (by simp) t h
  have hrec : ∀ v, vcOps (opV P w0 tt) ops.toList K (l ++ r) ((envOf a).put o.dst v) m → wpStill P ops w (fun a' => a'.tmps.size = n ∧ a'.defers = [] ∧ vcOps (opV P w0 tt) ops.toList K r (envOf a') m) l (a.put o.dst v) := fun v hk => by
   refine vcOps_still ht hw r l _ (fun o ho => hp o (by simp [ho])) (fun o ho => hl o (by simp [ho])) (by rw [size_put]; exact hs) (by rw [defers_put]; exact hd) ?_
   rw [envOf_put _ _ _ hdst]; exact hk
  unfold wpStill
  rcases vcOps_cons (show vcOps (opV P w0 tt) ops.toList K (o :: (l ++ r)) (envOf a) m from h) with ⟨hwant, hop⟩ | ⟨hwant, hop⟩
  ·rw [if_pos hwant]
   obtain ⟨v, hv, hk⟩ := op_pure ht (hp o (by simp)) hop
   unfold Oper.still
   rw [hv w hw, Oper.stillUpon_value]
   exact hrec v hk
  ·rw [if_neg (by rw [hwant]; decide)]
   exact hrec _ hop
theorem vcOps_float {P : Program} (hm : P.follows .mixedOrders = true) {w0 w : World} {tt : Nat → TD} (ht : TTok P tt) {ops : Array Oper} {K : Env → Mem → Prop} {n id k : Nat} {m : Mem} (hw : Holds w0 w m) {Q : Exit → Act → World → Prop}
  (hQ : ∀ a w' m', a.tmps.size = n → a.defers = [] → Holds w0 w' m' → K (envOf a) m' → Q .normal a w') {a : Act} (hl : ∀ o ∈ ops.toList, ∀ t, o.dst = some t → t < n) (hmv : moveB ops.toList = true)
  (hp : (ops.toList.take k).all (fun o => pureOp o.op) = true) (hB : floatB .any ops k = true) (hs : a.tmps.size = n) (hd : a.defers = [])
  (h : vcOps (opV P w0 tt) ops.toList K ops.toList (envOf a) m) : (Code.region id ops true).wp P Q a w := by
 have hk0 : 0 < k := by
  simp only [floatB, Bool.and_eq_true, decide_eq_true_eq] at hB
  exact hB.1.1.1.2
 refine wp_mono (Q := fun e a w => match e with | .normal => Q .normal a w | _ => False) ?_ fun e a w h => by cases e <;> first | exact h | exact h.elim
 cases hol : ops.toList with
 | nil => rw [hol] at hmv; cases hmv
 | cons o l =>
  have ho : ops[0]? = some o := by rw [← Array.getElem?_toList, hol]; rfl
  obtain ⟨j, rfl⟩ : ∃ j, k = j + 1 := ⟨k - 1, by omega⟩
  have hdst : ∀ t, o.dst = some t → t < a.tmps.size := fun t h => hs ▸ hl o (by rw [hol]; simp) t h
  have hg : o.guard = none := by
   rw [hol] at hmv
   simp only [moveB, Bool.and_eq_true] at hmv
   cases hg : o.guard with
   | none => rfl
   | some _ => rw [hg] at hmv; cases hmv.1
  obtain ⟨x, hx⟩ : ∃ x, o.op = .move x := by
   rw [hol] at hmv
   simp only [moveB, Bool.and_eq_true] at hmv
   have := hmv.2
   split at this
   ·rename_i x hx; exact ⟨x, hx⟩
   ·cases this
  have hrun : ∀ w, (execOp a.eval o).run P w = .ok (.value (a.eval x)) w := fun w => by
   obtain ⟨dst, op, T, pos, after, guard⟩ := o
   simp only at hx
   subst hx
   simp [execOp]
  rw [hol] at h
  rcases vcOps_cons (ops := ops) (by rw [hol]; exact h) with ⟨hwant, hop⟩ | ⟨hwant, _⟩
  ·refine wp_region_float (v := a.eval x) hm hB ho (.inl ⟨hwant, hrun⟩) (fun _ _ _ h => h) ?_
   rw [hx] at hop
   have hop' : vcOps (opV P w0 tt) ops.toList K l ((envOf a).put o.dst ((envOf a).ev x)) m := hop
   rw [← ev_envOf, ← envOf_put _ _ _ hdst] at hop'
   have hd1 : (ops.toList.take (j + 1)).drop 1 = l.take j := by rw [hol]; simp
   have hd2 : ops.toList.drop (j + 1) = l.drop j := by rw [hol]; simp
   rw [hd1, hd2]
   refine wpStill_imp ?_ (vcOps_still (n := n) ht hw.drew (l.drop j) (l.take j) _ (fun o' ho' => ?_) (fun o' ho' => hl o' (by rw [hol]; exact List.mem_cons_of_mem _ (List.mem_of_mem_take ho'))) (by rw [size_put]; exact hs) (by rw [defers_put]; exact hd) (by rw [List.take_append_drop]; exact hop'))
   ·rintro a' ⟨h1, h2, h3⟩
    exact vcOps_sound ht (K := K) (n := n) (Q := fun e a w => match e with | .normal => Q .normal a w | _ => False) (fun a w m g1 g2 g3 g4 => hQ a w m g1 g2 g3 g4) (l.drop j) a' w.drew m (fun o' ho' => hl o' (by rw [hol]; exact List.mem_cons_of_mem _ (List.mem_of_mem_drop ho'))) h1 h2 hw.drew h3
   ·rw [hol] at hp
    simp only [List.take_succ_cons, List.all_cons, Bool.and_eq_true] at hp
    exact List.all_eq_true.1 hp.2 o' ho'
  ·rw [wanted_none hg] at hwant; cases hwant
theorem wp_scope_fwd {P : Program} {a : Act} {w : World} {Q : Exit → Act → World → Prop} {c : Code}
  (first : c.wp P (fun e a w => match e with
   | .goto l => ∃ rest, findLabel c l = some rest ∧ rest.wp P (Exit.noGoto Q) a w
   | e => Q e a w) a w) : (Code.scope c).wp P Q a w := by
 intro b k cs
 obtain ⟨e, a₁, w₁, hq, harr⟩ := first b (.inScope c :: k) cs
 have norm : ∀ {m : Machine} {a w}, Steps P m (lone (b.at a (.inScope c :: k)) cs w) → Steps P m (lone (b.at a k) cs w) := fun h => Steps.trans h (.one step_inScope)
 cases e with
 | normal => exact ⟨.normal, a₁, w₁, hq, .head step_scope (norm harr)⟩
 | exit id => exact ⟨.exit id, a₁, w₁, hq, fun k' hk => .head step_scope (harr k' (by simp [exitTo, hk]))⟩
 | goto l =>
  obtain ⟨rest, hf, hr⟩ := hq
  have hg : gotoIn l (.inScope c :: k) = some (.code rest :: .inScope c :: k) := by simp [gotoIn, hf]
  have h1 : Steps P (lone (b.at a (.code (.scope c) :: k)) cs w) (lone (b.at a₁ (.code rest :: .inScope c :: k)) cs w₁) := .head step_scope (harr _ hg)
  obtain ⟨e₂, a₂, w₂, hq₂, harr₂⟩ := hr b (.inScope c :: k) cs
  cases e₂ with
  | normal => exact ⟨.normal, a₂, w₂, hq₂, Steps.trans h1 (norm harr₂)⟩
  | exit id => exact ⟨.exit id, a₂, w₂, hq₂, fun k' hk => Steps.trans h1 (harr₂ k' (by simp [exitTo, hk]))⟩
  | goto l => exact hq₂.elim
  | ret => exact ⟨_, a₂, w₂, hq₂, .of_steps h1 harr₂⟩
  | panic ch => exact ⟨_, a₂, w₂, hq₂, .of_steps h1 harr₂⟩
  | outgrown => exact ⟨_, a₂, w₂, hq₂, .of_steps h1 harr₂⟩
 | ret => exact ⟨_, a₁, w₁, hq, .of_steps (.one step_scope) harr⟩
 | panic ch => exact ⟨_, a₁, w₁, hq, .of_steps (.one step_scope) harr⟩
 | outgrown => exact ⟨_, a₁, w₁, hq, .of_steps (.one step_scope) harr⟩
theorem vc_sound {P : Program} (hm : P.follows .mixedOrders = true) {w0 : World} {tt : Nat → TD} (ht : TTok P tt) {n : Nat} {lv : Nat → Env → Mem → Post → Prop} {jt : Nat → Post → Env → Mem → Prop} :
  ∀ (c : Code) (i : Nat) (Q : Post) (s : Env) (m : Mem), wfC tt n c = true → loopsOK P w0 n lv jt c i → vc P w0 tt lv jt c i Q s m → Sat P w0 n c Q s m := by
 intro c
 induction c with
 | skip =>
  intro i Q s m _ _ h a w he hs hd hw
  subst he
  exact wp_skip ⟨hs, hd, m, hw, h⟩
 | region id ops d =>
  intro i Q s m hwf _ h a w he hs hd hw
  subst he
  simp only [wfC, Bool.and_eq_true, List.all_eq_true, Bool.or_eq_true, Bool.not_eq_true'] at hwf
  obtain ⟨hdst, hdraw⟩ := hwf
  have hdst' : ∀ o ∈ ops.toList, ∀ t, o.dst = some t → t < n := fun o ho t ht => by
   have := hdst o ho
   rw [ht] at this
   simp only [Option.all_some, Nat.blt, Nat.ble_eq] at this
   exact this
  simp only [vc] at h
  cases d with
  | false =>
   exact wp_region_list (vcOps_sound (K := Q .normal) ht (fun a w m h1 h2 h3 h4 => ⟨h1, h2, m, h3, h4⟩) ops.toList a w m hdst' hs hd hw h)
  | true =>
   have hdr := hdraw.resolve_left (by simp)
   rw [cond_true] at h
   have hsz : ops.toList.length = ops.size := by simp
   cases htw : twoW tt ops.toList with
   | true =>
    rw [htw, cond_true] at h hdr
    simp only [Bool.and_eq_true] at hdr
    exact vcOps_float (K := Q .normal) hm ht hw (fun a w' m' h1 h2 h3 h4 => ⟨h1, h2, m', h3, h4⟩) hdst' hdr.1.1 hdr.1.2 hdr.2 hs hd h
   | false =>
   rw [htw, cond_false] at h hdr
   simp only [Bool.and_eq_true] at hdr
   cases hb : Nat.blt (wrIx tt ops.toList) ops.toList.length with
   | true =>
    rw [hb, cond_true] at h
    obtain ⟨mc, hE, R, hR, h⟩ := h
    have hlt : wrIx tt ops.toList < ops.size := by simp only [Nat.blt, Nat.ble_eq] at hb; omega
    exact vcOps_writes (K := Q .normal) hm ht hw (fun a w' m' h1 h2 h3 h4 => ⟨h1, h2, m', h3, h4⟩) hdst' hdr.1 hdr.2 hs hd hlt hE hR h
   | false =>
    rw [hb, cond_false] at h
    have hlt : ¬ wrIx tt ops.toList < ops.size := fun hlt => by
     have : Nat.blt (wrIx tt ops.toList) ops.toList.length = true := by simp only [Nat.blt, Nat.ble_eq]; omega
     rw [hb] at this; cases this
    exact vcOps_quiet (K := Q .normal) hm ht hw (fun a w' m' h1 h2 h3 h4 => ⟨h1, h2, m', h3, h4⟩) hdst' hdr.1 hdr.2 hs hd hlt h
 | seq x y ihx ihy =>
  intro i Q s m hwf hl h a w he hs hd hw
  simp only [wfC, Bool.and_eq_true] at hwf
  simp only [vc] at h
  refine wp_seq (wp_mono (ihx i _ s m hwf.1 hl.1 h a w he hs hd hw) ?_)
  rintro e a' w' ⟨h1, h2, m', h3, h4⟩
  cases e with
  | normal => exact ihy _ Q _ m' hwf.2 hl.2 h4 a' w' rfl h1 h2 h3
  | _ => exact ⟨h1, h2, m', h3, h4⟩
 | cond cc x y ihx ihy =>
  intro i Q s m hwf hl h a w he hs hd hw
  simp only [wfC, Bool.and_eq_true] at hwf
  simp only [vc] at h
  split at h
  ·rename_i t hc
   have hc' : a.eval cc = .bool t := by rw [ev_envOf, he]; exact hc
   refine wp_cond hc' ?_
   cases t with
   | true => exact ihx i Q s m hwf.1 hl.1 h a w he hs hd hw
   | false => exact ihy _ Q s m hwf.2 hl.2 h a w he hs hd hw
  ·exact h.elim
 | block id x ih =>
  intro i Q s m hwf hl h a w he hs hd hw
  simp only [vc] at h
  refine wp_block (wp_mono (ih i _ s m hwf hl h a w he hs hd hw) ?_)
  rintro e a' w' ⟨h1, h2, m', h3, h4⟩
  cases e with
  | exit j =>
   simp only [blockV] at h4
   simp only [Exit.inBlock]
   by_cases hj : j = id
   ·subst hj
    rw [if_pos rfl]
    rw [Nat.beq_refl] at h4
    exact ⟨h1, h2, m', h3, h4⟩
   ·rw [if_neg hj]
    have : Nat.beq j id = false := by
     cases hb : Nat.beq j id with
     | false => rfl
     | true => exact absurd (Nat.eq_of_beq_eq_true hb) hj
    rw [this] at h4
    exact ⟨h1, h2, m', h3, h4⟩
  | _ => exact ⟨h1, h2, m', h3, h4⟩
 | loop x _ =>
  intro i Q s m _ hl h
  exact hl s m Q h
 | exit id =>
  intro i Q s m _ _ h a w he hs hd hw
  subst he
  exact wp_exit ⟨hs, hd, m, hw, h⟩
 | label l =>
  intro i Q s m _ _ h a w he hs hd hw
  subst he
  exact wp_label ⟨hs, hd, m, hw, h⟩
 | goto l =>
  intro i Q s m _ _ h a w he hs hd hw
  subst he
  exact wp_goto ⟨hs, hd, m, hw, h⟩
 | ret =>
  intro i Q s m _ _ h a w he hs hd hw
  subst he
  exact wp_ret ⟨hs, hd, m, hw, h⟩
 | scope x ih =>
  intro i Q s m hwf hl h a w he hs hd hw
  simp only [vc] at h
  refine wp_scope_fwd (wp_mono (ih i _ s m hwf hl.1 h a w he hs hd hw) ?_)
  rintro e a' w' ⟨h1, h2, m', h3, h4⟩
  cases e with
  | goto l =>
   obtain ⟨rest, hf, hr⟩ := hl.2 l _ _ _ h4
   refine ⟨rest, hf, wp_mono (hr a' w' rfl h1 h2 h3) ?_⟩
   rintro e a'' w'' ⟨g1, g2, m'', g3, g4⟩
   cases e with
   | goto _ => exact g4.elim
   | _ => exact ⟨g1, g2, m'', g3, g4⟩
  | _ => exact ⟨h1, h2, m', h3, h4⟩
 | rangeFunc _ _ _ _ => intro i Q s m _ _ h; exact h.elim
 | refuse _ => intro i Q s m _ _ h; exact h.elim
end Go.Proofs.YtdhifgedhaapjaaGreatDoor

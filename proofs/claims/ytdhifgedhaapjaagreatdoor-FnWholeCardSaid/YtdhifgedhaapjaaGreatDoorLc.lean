/- A function's contract out of the condition of its code; a loop's out of that of its round. -/
import Derived.Test.YtdhifgedhaapjaaGreatDoorLb
import Derived.Test.YtdhifgedhaapjaaGreatDoorProg
import Derived.LaidEql
namespace Go.Proofs.YtdhifgedhaapjaaGreatDoor
open Go
def retV (tt : Nat → TD) (rs : List ResultVar) (s : Env) (m : Mem) (K : Value → Prop) : Prop :=
 match rs with
 | [] => K (.tuple #[])
 | [.tmp t] => K (s t)
 | [.cell t T] => ldV tt T (s t) m K
 | [.tmp t, .tmp u] => K (.tuple #[s t, s u])
 | [.tmp t, .tmp u, .tmp x, .tmp y] => K (.tuple #[s t, s u, s x, s y])
 | _ => False
def postV (tt : Nat → TD) (rs : List ResultVar) (K : Value → Mem → Prop) : Post
 | .normal => fun s m => retV tt rs s m fun v => K v m
 | .ret => fun s m => retV tt rs s m fun v => K v m
 | _ => fun _ _ => False
theorem retV_run {P : Program} {tt : Nat → TD} (ht : TTok P tt) {w0 : World} {m : Mem} {fn : Func} {a : Act} {K : Value → Prop} (h : retV tt fn.results.toList (envOf a) m K) : ∃ v, (∀ w, Holds w0 w m → (results fn a.tmps).run P w = .ok v w) ∧ K v := by
 unfold retV at h
 split at h
 ·rename_i hr
  have : fn.results = #[] := by rw [← Array.toArray_toList (xs := fn.results), hr]
  exact ⟨_, fun w _ => results_none this _ _ _, h⟩
 ·rename_i t hr
  have : fn.results = #[.tmp t] := by rw [← Array.toArray_toList (xs := fn.results), hr]
  exact ⟨_, fun w _ => results_tmp this _ _ _, h⟩
 ·rename_i t T hr
  have : fn.results = #[.cell t T] := by rw [← Array.toArray_toList (xs := fn.results), hr]
  have hp : ∃ p, envOf a t = .pointer (some p) := by
   unfold ldV at h
   split at h
   ·rename_i b o hb; exact ⟨_, hb⟩
   ·exact h.elim
  obtain ⟨p, hp⟩ := hp
  obtain ⟨v, hv, hk⟩ := ldV_run (P := P) (w0 := w0) ht h
  refine ⟨v, fun w hw => ?_, hk⟩
  have h1 := hv w hw
  have hp' : a.tmps.getD t undef = .pointer (some p) := hp
  rw [hp] at h1
  simp only [Instr.loadAt, Instr.sureAddr, Sem.run_bind, Sem.run_pure, Result.andThen_ok] at h1
  have hp2 : a.tmps[t]?.getD undef = .pointer (some p) := by simpa using hp'
  simp [results, this, hp2, asAddr, h1]
 ·rename_i t u hr
  have : fn.results = #[.tmp t, .tmp u] := by rw [← Array.toArray_toList (xs := fn.results), hr]
  exact ⟨_, fun w _ => results_tmp2 this _ _ _, h⟩
 ·rename_i t u x y hr
  have : fn.results = #[.tmp t, .tmp u, .tmp x, .tmp y] := by rw [← Array.toArray_toList (xs := fn.results), hr]
  refine ⟨_, fun w _ => ?_, h⟩
  simp [results, this, envOf]
 ·exact h.elim
theorem env0_eq (args : List Value) (k : Nat) : envOf { tmps := args.toArray ++ Array.replicate k undef, defers := [] } = env0 args := by
 funext t
 simp only [envOf, env0, Array.getD_eq_getD_getElem?, List.getD_eq_getElem?_getD]
 rw [Array.getElem?_append]
 split
 ·simp
 ·rename_i h
  have h' : args.length ≤ t := by simpa using h
  rw [List.getElem?_eq_none h', Array.getElem?_replicate]
  split <;> rfl
theorem callV_of {P : Program} (hm : P.follows .mixedOrders = true) {w0 : World} {tt : Nat → TD} (ht : TTok P tt) {lv : Nat → Env → Mem → Post → Prop} {jt : Nat → Post → Env → Mem → Prop}
  {f : Nat} {fn : Func} {c : Code} (hf : P.funcs[f]? = some fn) (hb : fn.body = some c) (hn : (fn.name == "runtime.NumGoroutine") = false)
  {args : List Value} (hargs : args.length ≤ fn.ntmps) (hwf : wfC tt fn.ntmps c = true) (hl : loopsOK P w0 fn.ntmps lv jt c 0) {m : Mem} {K : Value → Mem → Prop}
  (h : vc P w0 tt lv jt c 0 (postV tt fn.results.toList K) (env0 args) m) : callV P w0 f args m K := by
 refine ⟨⟨fn, hf, by rw [hb]; rfl, hn⟩, fun w hw => calls_of_wp hf hb ?_⟩
 have hs := vc_sound hm ht c 0 _ _ m hwf hl h
 have hsz : ((args.toArray ++ Array.replicate (fn.ntmps - args.toArray.size) undef : Array Value)).size = fn.ntmps := by
  simp; omega
 refine wp_mono (hs _ w (env0_eq args _) hsz rfl hw) ?_
 rintro e a' w' ⟨h1, h2, m', h3, h4⟩
 cases e with
 | normal =>
  have h5 : retV tt fn.results.toList (envOf a') m' (fun v => K v m') := h4
  obtain ⟨v, hv, hk⟩ := retV_run (P := P) (w0 := w0) ht h5
  exact ⟨h2, v, hv w' h3, v, m', rfl, h3, hk⟩
 | ret =>
  have h5 : retV tt fn.results.toList (envOf a') m' (fun v => K v m') := h4
  obtain ⟨v, hv, hk⟩ := retV_run (P := P) (w0 := w0) ht h5
  exact ⟨h2, v, hv w' h3, v, m', rfl, h3, hk⟩
 | _ => exact h4.elim
theorem callV.mono {P : Program} {w0 : World} {f : Nat} {args : List Value} {m : Mem} {K K' : Value → Mem → Prop} (h : callV P w0 f args m K) (hk : ∀ v m', K v m' → K' v m') :
  callV P w0 f args m K' :=
 ⟨h.1, fun w hw => (h.2 w hw).mono fun _ _ ⟨v, m', he, hh, hk'⟩ => ⟨v, m', he, hh, hk v m' hk'⟩⟩
def roundV (Q : Post) (N : Env → Mem → Prop) : Post
 | .normal => N
 | e => Q e
theorem loop_sat {P : Program} (hm : P.follows .mixedOrders = true) {w0 : World} {tt : Nat → TD} (ht : TTok P tt) {n : Nat} {lv : Nat → Env → Mem → Post → Prop} {jt : Nat → Post → Env → Mem → Prop}
  {c : Code} (hwf : wfC tt n c = true) (hl : loopsOK P w0 n lv jt c 0) {Q : Post} {Nx : Nat → Env → Mem → Prop} {k0 : Nat} {s : Env} {m : Mem} (h0 : Nx k0 s m)
  (hz : ∀ s m, ¬ Nx 0 s m)
  (hb : ∀ k s m, Nx (k + 1) s m → vc P w0 tt lv jt c 0 (roundV Q (Nx k)) s m) : Sat P w0 n (.loop c) Q s m := by
 intro a w he hs hd hw
 let J : Nat → Act → World → Prop := fun k a w => a.tmps.size = n ∧ a.defers = [] ∧ ∃ m, Holds w0 w m ∧ Nx k (envOf a) m
 have hstep : ∀ k a w, J (k + 1) a w → c.wp P (fun e a' w' => match e with
   | .normal => J k a' w'
   | e => a'.tmps.size = n ∧ a'.defers = [] ∧ ∃ m', Holds w0 w' m' ∧ Q e (envOf a') m') a w := by
  rintro k a w ⟨hs, hd, m, hw, hN⟩
  refine wp_mono (vc_sound hm ht c 0 _ _ m hwf hl (hb k _ m hN) a w rfl hs hd hw) ?_
  rintro e a' w' ⟨h1, h2, m', h3, h4⟩
  cases e with
  | normal => exact ⟨h1, h2, m', h3, h4⟩
  | _ => exact ⟨h1, h2, m', h3, h4⟩
 have hJ0 : J k0 a w := ⟨hs, hd, m, hw, by rw [he]; exact h0⟩
 clear he hs hd hw h0
 intro b k cs
 have key : ∀ j a w, J j a w → ∃ e a' w', (a'.tmps.size = n ∧ a'.defers = [] ∧ ∃ m', Holds w0 w' m' ∧ Q e (envOf a') m') ∧ Arrives P (lone (b.at a (.code c :: .inLoop c :: k)) cs w) b k cs e a' w' := by
  intro j
  induction j with
  | zero =>
   rintro a w ⟨_, _, m, _, hN⟩
   exact absurd hN (hz _ _)
  | succ j ih =>
   intro a w hJ
   obtain ⟨e, a₁, w₁, hq, harr⟩ := hstep j a w hJ b (.inLoop c :: k) cs
   cases e with
   | normal =>
    obtain ⟨e₂, a₂, w₂, hq₂, harr₂⟩ := ih a₁ w₁ hq
    exact ⟨e₂, a₂, w₂, hq₂, .of_steps (Steps.trans harr (.one step_inLoop)) harr₂⟩
   | exit id => exact ⟨_, a₁, w₁, hq, .pass (x := .inLoop c) rfl (fun _ _ => .inl (by simp)) harr⟩
   | goto l => exact ⟨_, a₁, w₁, hq, .pass (x := .inLoop c) rfl (fun _ _ => .inl (by simp)) harr⟩
   | ret => exact ⟨_, a₁, w₁, hq, .pass (x := .inLoop c) rfl (fun _ _ => .inl (by simp)) harr⟩
   | panic ch => exact ⟨_, a₁, w₁, hq, .pass (x := .inLoop c) rfl (fun _ _ => .inl (by simp)) harr⟩
   | outgrown => exact ⟨_, a₁, w₁, hq, .pass (x := .inLoop c) rfl (fun _ _ => .inl (by simp)) harr⟩
 obtain ⟨e, a', w', hq, harr⟩ := key _ a w hJ0
 exact ⟨e, a', w', hq, .of_steps (.one step_loop) harr⟩
theorem set_of (s : Env) {t : Nat} {v : Value} (h : s t = v) : s.set t v = s := by rw [← h, Env.set_same]
def asI (k : IntKind) (v : Value) (f : Int → Prop) : Prop :=
 match v with
 | .int k' z => cond (decide (k' = k)) (f z) False
 | _ => False
def asB (v : Value) (f : Bool → Prop) : Prop :=
 match v with
 | .bool z => f z
 | _ => False
theorem asI_elim {k : IntKind} {v : Value} {f : Int → Prop} (h : asI k v f) : ∃ z, v = .int k z ∧ f z := by
 unfold asI at h
 split at h
 ·rename_i k' z
  by_cases hk : k' = k
  ·subst hk
   simp only [decide_true, cond_true] at h
   exact ⟨z, rfl, h⟩
  ·simp [hk] at h
 ·exact h.elim
theorem asB_elim {v : Value} {f : Bool → Prop} (h : asB v f) : ∃ z, v = .bool z ∧ f z := by
 unfold asB at h
 split at h
 ·exact ⟨_, rfl, h⟩
 ·exact h.elim
/-! ### Parts of a code, by name -/
def loopsOf : Code → List Code
 | .seq a b => loopsOf a ++ loopsOf b
 | .cond _ a b => loopsOf a ++ loopsOf b
 | .block _ c => loopsOf c
 | .scope c => loopsOf c
 | .loop c => [c]
 | _ => []
def scopesOf : Code → List Code
 | .seq a b => scopesOf a ++ scopesOf b
 | .cond _ a b => scopesOf a ++ scopesOf b
 | .block _ c => scopesOf c
 | .scope c => c :: scopesOf c
 | _ => []
def bodyOf (fn : Func) : Code := fn.body.getD .skip
def roundOf (c : Code) (i : Nat) : Code := (loopsOf c).getD i .skip
/-! ### Jumps forward in a scope -/
def lvF : Nat → Env → Mem → Post → Prop := fun _ _ _ _ => False
def jtF : Nat → Post → Env → Mem → Prop := fun _ _ _ _ => False
def jtOf (P : Program) (w0 : World) (tt : Nat → TD) (c : Code) : Nat → Post → Env → Mem → Prop := fun l Q s m =>
 match findLabel c l with
 | some rest => vc P w0 tt lvF jtF rest 0 Q s m
 | none => False
theorem loopsOK_F {P : Program} {w0 : World} {n : Nat} : ∀ (c : Code) (i : Nat), loopsOK P w0 n lvF jtF c i := by
 intro c
 induction c with
 | seq a b iha ihb => exact fun i => ⟨iha i, ihb _⟩
 | cond _ a b iha ihb => exact fun i => ⟨iha i, ihb _⟩
 | block _ c ih => exact fun i => ih i
 | scope c ih => exact fun i => ⟨ih i, fun _ _ _ _ h => h.elim⟩
 | loop c _ => exact fun i s m Q h => h.elim
 | _ => exact fun _ => trivial
theorem wfC_find {tt : Nat → TD} {n l : Nat} : ∀ (c rest : Code), wfC tt n c = true → findLabel c l = some rest → wfC tt n rest = true := by
 intro c
 induction c with
 | label l' =>
  intro rest _ h
  simp only [findLabel] at h
  split at h
  ·cases h; rfl
  ·cases h
 | seq a b iha ihb =>
  intro rest hwf h
  simp only [wfC, Bool.and_eq_true] at hwf
  simp only [findLabel] at h
  split at h
  ·rename_i r hr
   cases h
   simp only [wfC, Bool.and_eq_true]
   exact ⟨iha _ hwf.1 hr, hwf.2⟩
  ·exact ihb _ hwf.2 h
 | _ => intro rest _ h; simp [findLabel] at h
theorem jtOf_ok {P : Program} (hm : P.follows .mixedOrders = true) {w0 : World} {tt : Nat → TD} (ht : TTok P tt) {n : Nat} {c : Code} (hwf : wfC tt n c = true) (l : Nat) (Q : Post) (s : Env) (m : Mem)
  (h : jtOf P w0 tt c l Q s m) : ∃ rest, findLabel c l = some rest ∧ Sat P w0 n rest Q s m := by
 unfold jtOf at h
 split at h
 ·rename_i rest hf
  exact ⟨rest, hf, vc_sound hm ht rest 0 Q s m (wfC_find c rest hwf hf) (loopsOK_F rest 0) h⟩
 ·exact h.elim
theorem Sat.mono {P : Program} {w0 : World} {n : Nat} {c : Code} {Q Q' : Post} {s : Env} {m : Mem} (h : Sat P w0 n c Q s m) (hq : ∀ e s m, Q e s m → Q' e s m) : Sat P w0 n c Q' s m :=
 fun a w h1 h2 h3 h4 => wp_mono (h a w h1 h2 h3 h4) fun _ _ _ ⟨g1, g2, m', g3, g4⟩ => ⟨g1, g2, m', g3, hq _ _ _ g4⟩
/-! ### All loops, all scopes -/
theorem nLoops_len : ∀ c : Code, nLoops c = (loopsOf c).length := by
 intro c
 induction c with
 | seq a b iha ihb => simp [nLoops, loopsOf, iha, ihb]
 | cond _ a b iha ihb => simp [nLoops, loopsOf, iha, ihb]
 | block _ c ih => simpa [nLoops, loopsOf] using ih
 | scope c ih => simpa [nLoops, loopsOf] using ih
 | loop c _ => rfl
 | _ => rfl
theorem loopsOK_of {P : Program} {w0 : World} {n : Nat} {lv : Nat → Env → Mem → Post → Prop} {jt : Nat → Post → Env → Mem → Prop} :
  ∀ (c : Code) (i : Nat), (∀ j b, (loopsOf c)[j]? = some b → ∀ s m Q, lv (i + j) s m Q → Sat P w0 n (.loop b) Q s m) →
   (∀ sc ∈ scopesOf c, ∀ l Q s m, jt l Q s m → ∃ rest, findLabel sc l = some rest ∧ Sat P w0 n rest Q s m) → loopsOK P w0 n lv jt c i := by
 intro c
 induction c with
 | seq a b iha ihb =>
  intro i h hs
  refine ⟨iha i (fun j b hj => h j b ?_) (fun sc h1 => hs sc (List.mem_append.2 (.inl h1))), ihb _ (fun j b hj => ?_) (fun sc h1 => hs sc (List.mem_append.2 (.inr h1)))⟩
  ·have : j < (loopsOf a).length := by
    rcases Nat.lt_or_ge j (loopsOf a).length with h | h
    ·exact h
    ·rw [List.getElem?_eq_none h] at hj; cases hj
   simp only [loopsOf]; rw [List.getElem?_append_left this]; exact hj
  ·have := h ((loopsOf a).length + j) b (by simp only [loopsOf]; rw [List.getElem?_append_right (by omega)]; rw [← hj]; congr 1; omega)
   rw [nLoops_len]
   rw [← Nat.add_assoc] at this
   exact this
 | cond _ a b iha ihb =>
  intro i h hs
  refine ⟨iha i (fun j b hj => h j b ?_) (fun sc h1 => hs sc (List.mem_append.2 (.inl h1))), ihb _ (fun j b hj => ?_) (fun sc h1 => hs sc (List.mem_append.2 (.inr h1)))⟩
  ·have : j < (loopsOf a).length := by
    rcases Nat.lt_or_ge j (loopsOf a).length with h | h
    ·exact h
    ·rw [List.getElem?_eq_none h] at hj; cases hj
   simp only [loopsOf]; rw [List.getElem?_append_left this]; exact hj
  ·have := h ((loopsOf a).length + j) b (by simp only [loopsOf]; rw [List.getElem?_append_right (by omega)]; rw [← hj]; congr 1; omega)
   rw [nLoops_len]
   rw [← Nat.add_assoc] at this
   exact this
 | block _ c ih => exact fun i h hs => ih i h hs
 | scope c ih =>
  intro i h hs
  refine ⟨ih i h (fun sc h1 => ?_), hs c (by simp [scopesOf])⟩
  exact hs sc (by simp only [scopesOf]; exact List.mem_cons_of_mem _ h1)
 | loop c _ => exact fun i h _ s m Q hl => h 0 c rfl s m Q hl
 | _ => exact fun _ _ _ => trivial
theorem loops0 {P : Program} {w0 : World} {n : Nat} {lv : Nat → Env → Mem → Post → Prop} {c : Code} (h : (loopsOf c).length = 0) :
  ∀ j b, (loopsOf c)[j]? = some b → ∀ s m Q, lv (0 + j) s m Q → Sat P w0 n (.loop b) Q s m := fun j b hj => by
 rw [List.getElem?_eq_none (by omega)] at hj; cases hj
theorem loops1 {P : Program} {w0 : World} {n : Nat} {lv : Nat → Env → Mem → Post → Prop} {c : Code} (h : (loopsOf c).length = 1)
  (h0 : ∀ s m Q, lv 0 s m Q → Sat P w0 n (.loop (roundOf c 0)) Q s m) :
  ∀ j b, (loopsOf c)[j]? = some b → ∀ s m Q, lv (0 + j) s m Q → Sat P w0 n (.loop b) Q s m := fun j b hj => by
 have hlt : j < (loopsOf c).length := by
  rcases Nat.lt_or_ge j (loopsOf c).length with h | h
  ·exact h
  ·rw [List.getElem?_eq_none h] at hj; cases hj
 obtain rfl : j = 0 := by omega
 have : roundOf c 0 = b := by unfold roundOf; rw [List.getD_eq_getElem?_getD, hj]; rfl
 rw [← this]; exact h0
theorem loops2 {P : Program} {w0 : World} {n : Nat} {lv : Nat → Env → Mem → Post → Prop} {c : Code} (h : (loopsOf c).length = 2)
  (h0 : ∀ s m Q, lv 0 s m Q → Sat P w0 n (.loop (roundOf c 0)) Q s m) (h1 : ∀ s m Q, lv 1 s m Q → Sat P w0 n (.loop (roundOf c 1)) Q s m) :
  ∀ j b, (loopsOf c)[j]? = some b → ∀ s m Q, lv (0 + j) s m Q → Sat P w0 n (.loop b) Q s m := fun j b hj => by
 have hlt : j < (loopsOf c).length := by
  rcases Nat.lt_or_ge j (loopsOf c).length with h | h
  ·exact h
  ·rw [List.getElem?_eq_none h] at hj; cases hj
 have hr : roundOf c j = b := by unfold roundOf; rw [List.getD_eq_getElem?_getD, hj]; rfl
 rw [← hr, Nat.zero_add]
 rcases (show j = 0 ∨ j = 1 by omega) with rfl | rfl
 ·exact h0
 ·exact h1
theorem scopes0 {P : Program} {w0 : World} {n : Nat} {jt : Nat → Post → Env → Mem → Prop} {c : Code} (h : (scopesOf c).length = 0) :
  ∀ sc ∈ scopesOf c, ∀ l Q s m, jt l Q s m → ∃ rest, findLabel sc l = some rest ∧ Sat P w0 n rest Q s m := fun sc hsc => by
 rw [List.eq_nil_of_length_eq_zero h] at hsc; cases hsc
theorem scopes1 {P : Program} (hm : P.follows .mixedOrders = true) {w0 : World} {tt : Nat → TD} (ht : TTok P tt) {n : Nat} {c : Code} (h : (scopesOf c).length = 1) (hwf : wfC tt n ((scopesOf c).getD 0 .skip) = true) :
  ∀ sc ∈ scopesOf c, ∀ l Q s m, jtOf P w0 tt ((scopesOf c).getD 0 .skip) l Q s m → ∃ rest, findLabel sc l = some rest ∧ Sat P w0 n rest Q s m := fun sc hsc => by
 obtain ⟨x, hx⟩ := List.length_eq_one_iff.1 h
 rw [hx] at hsc hwf ⊢
 obtain rfl : sc = x := by simpa using hsc
 exact fun l Q s m hj => jtOf_ok hm ht hwf l Q s m hj
def asS (v : Value) (f : Nat → Nat → Nat → Nat → Prop) : Prop :=
 match v with
 | .slice (some ⟨b, o, none⟩) l c => f b o l c
 | _ => False
def asV (v : Value) (f : Value → Prop) : Prop := f v
theorem asS_elim {v : Value} {f : Nat → Nat → Nat → Nat → Prop} (h : asS v f) : ∃ b o l c, v = .slice (some ⟨b, o, none⟩) l c ∧ f b o l c := by
 unfold asS at h
 split at h
 ·exact ⟨_, _, _, _, rfl, h⟩
 ·exact h.elim
theorem asV_elim {v : Value} {f : Value → Prop} (h : asV v f) : ∃ z, v = z ∧ f z := ⟨v, rfl, h⟩
theorem cond_beq {a b : Nat} {p q : Prop} (h : cond (Nat.beq a b) p q) : (a = b ∧ p) ∨ q := by
 cases hb : Nat.beq a b with
 | true => rw [hb] at h; exact .inl ⟨Nat.eq_of_beq_eq_true hb, h⟩
 | false => rw [hb] at h; exact .inr h
theorem cond_of {t : Bool} {a b : Prop} (ha : t = true → a) (hb : t = false → b) : cond t a b := by cases t <;> simp_all
end Go.Proofs.YtdhifgedhaapjaaGreatDoor
namespace Go.Proofs.YtdhifgedhaapjaaGreatDoor
open Go
inductive SV where
 | sl (b o l c : Nat)
 | iv (k : IntKind) (z : Int)
 | bv (q : Bool)
 | vv (x : Value)
 | pt (b o : Nat)
 | os (sb : Option Addr) (l c : Nat)
 | fv (g : Nat) (cap : Array Value)
 | ip (T b o : Nat)
 | nl
 | ni
def SV.val : SV → Value
 | .sl b o l c => .slice (some ⟨b, o, none⟩) l c
 | .iv k z => .int k z
 | .bv q => .bool q
 | .vv x => x
 | .pt b o => .pointer (some ⟨b, o, none⟩)
 | .os sb l c => .slice sb l c
 | .fv g cap => .func (.func g) #[] cap
 | .ip T b o => .iface T (.pointer (some ⟨b, o, none⟩))
 | .nl => .slice none 0 0
 | .ni => .nilIface
inductive PK where
 | sl
 | iv (k : IntKind)
 | bv
 | vv
 | pt
 | os
 | fv
 | ip
 | nl
 | ni
 | iq (T : Nat)
def asN (v : Value) (f : Prop) : Prop :=
 match v with
 | .slice none 0 0 => f
 | _ => False
def asE (v : Value) (f : Prop) : Prop :=
 match v with
 | .nilIface => f
 | _ => False
def asP (v : Value) (f : Nat → Nat → Prop) : Prop :=
 match v with
 | .pointer (some ⟨b, o, none⟩) => f b o
 | _ => False
def asO (v : Value) (f : Option Addr → Nat → Nat → Prop) : Prop :=
 match v with
 | .slice sb l c => f sb l c
 | _ => False
def asF (v : Value) (f : Nat → Array Value → Prop) : Prop :=
 match v with
 | .func (.func g) ⟨[]⟩ cap => f g cap
 | _ => False
def asIP (v : Value) (f : Nat → Nat → Nat → Prop) : Prop :=
 match v with
 | .iface T (.pointer (some ⟨b, o, none⟩)) => f T b o
 | _ => False
def decV (k : PK) (x : Value) (f : SV → Prop) : Prop :=
 match k with
 | .sl => asS x fun b o l c => f (.sl b o l c)
 | .iv k => asI k x fun z => f (.iv k z)
 | .bv => asB x fun q => f (.bv q)
 | .vv => f (.vv x)
 | .pt => asP x fun b o => f (.pt b o)
 | .os => asO x fun sb l c => f (.os sb l c)
 | .fv => asF x fun g cap => f (.fv g cap)
 | .ip => asIP x fun T b o => f (.ip T b o)
 | .iq T => asIP x fun T' b o => cond (Nat.beq T' T) (f (.ip T b o)) False
 | .nl => asN x (f .nl)
 | .ni => asE x (f .ni)
def decW : List (Nat × PK) → List Value → (List SV → Prop) → Prop
 | [], _, f => f []
 | (_, k) :: r, x :: xs, f => decV k x fun v => decW r xs fun vs => f (v :: vs)
 | _ :: _, [], _ => False
def slotsOf (s : Env) : List (Nat × PK) → List Value
 | [] => []
 | (t, _) :: r => s t :: slotsOf s r
def allV (k : PK) (f : SV → Prop) : Prop :=
 match k with
 | .sl => ∀ b o l c : Nat, f (.sl b o l c)
 | .iv k => ∀ z : Int, f (.iv k z)
 | .bv => ∀ q : Bool, f (.bv q)
 | .vv => ∀ x : Value, f (.vv x)
 | .pt => ∀ b o : Nat, f (.pt b o)
 | .os => ∀ (sb : Option Addr) (l c : Nat), f (.os sb l c)
 | .fv => ∀ (g : Nat) (cap : Array Value), f (.fv g cap)
 | .ip => ∀ T b o : Nat, f (.ip T b o)
 | .nl => f .nl
 | .ni => f .ni
 | .iq T => ∀ b o : Nat, f (.ip T b o)
def allK : List (Nat × PK) → (List SV → Prop) → Prop
 | [], f => f []
 | (_, k) :: r, f => allV k fun v => allK r fun vs => f (v :: vs)
def chainL (g : Env) : List (Nat × PK) → List SV → Env
 | (t, _) :: r, v :: vs => (chainL g r vs).set t v.val
 | _, _ => g
def isV (k : PK) (v : SV) : Prop :=
 match k, v with
 | .sl, .sl .. => True
 | .iv k, .iv k' _ => k' = k
 | .bv, .bv _ => True
 | .vv, .vv _ => True
 | .pt, .pt .. => True
 | .os, .os .. => True
 | .fv, .fv .. => True
 | .ip, .ip .. => True
 | .nl, .nl => True
 | .ni, .ni => True
 | .iq T, .ip T' _ _ => T' = T
 | _, _ => False
def isK : List (Nat × PK) → List SV → Prop
 | [], [] => True
 | (_, k) :: r, v :: vs => isV k v ∧ isK r vs
 | _, _ => False
structure LS where
 ps : List (Nat × PK)
 ls : List (Nat × PK)
 ex : List Exit
abbrev LI := List SV → List SV → Mem → Prop
abbrev LX := Nat → List SV → List SV → Mem → Prop
abbrev LM := List SV → List SV → Nat
def exAll (A : Nat → Exit → Prop) : Nat → List Exit → Prop
 | _, [] => True
 | j, [e] => A j e
 | j, e :: r => A j e ∧ exAll A (j + 1) r
def lv1 (L : LS) (I : LI) (X : LX) (s : Env) (m : Mem) (Q : Post) : Prop :=
 decW L.ps (slotsOf s L.ps) fun ps => decW L.ls (slotsOf s L.ls) fun ls => I ps ls m ∧
  exAll (fun j e => allK L.ls fun ls' => ∀ m' : Mem, X j ps ls' m' → ∀ g : Env, Q e (chainL (chainL g L.ps ps) L.ls ls') m') 0 L.ex
def KF (L : LS) (I : LI) (mu : LM) (ps : List SV) (n : Nat) (vs ws : List Value) (m : Mem) : Prop :=
 vs = ps.map SV.val ∧ decW L.ls ws fun ls => I ps ls m ∧ mu ps ls < n
def KF1 (L : LS) (I : LI) (mu : LM) (ps : List SV) (n : Nat) (ws : List Value) (m : Mem) : Prop := KF L I mu ps n (ps.map SV.val) ws m
def XF (L : LS) (X : LX) (j : Nat) (ps : List SV) (vs ws : List Value) (m : Mem) : Prop :=
 vs = ps.map SV.val ∧ decW L.ls ws fun ls => X j ps ls m
def XF1 (L : LS) (X : LX) (j : Nat) (ps : List SV) (ws : List Value) (m : Mem) : Prop := XF L X j ps (ps.map SV.val) ws m
theorem KF1_mk {L : LS} {I : LI} {mu : LM} {ps : List SV} {n : Nat} {ws : List Value} {m : Mem} (h : decW L.ls ws fun ls => I ps ls m ∧ mu ps ls < n) : KF1 L I mu ps n ws m := ⟨rfl, h⟩
theorem XF1_mk {L : LS} {X : LX} {j : Nat} {ps : List SV} {ws : List Value} {m : Mem} (h : decW L.ls ws fun ls => X j ps ls m) : XF1 L X j ps ws m := ⟨rfl, h⟩
def beqExit : Exit → Exit → Bool
 | .exit a, .exit b => Nat.beq a b
 | .goto a, .goto b => Nat.beq a b
 | .ret, .ret => true
 | _, _ => false
theorem beqExit_eq : ∀ {a b : Exit}, beqExit a b = true → a = b := by
 intro a b h
 cases a <;> cases b <;> simp only [beqExit, Bool.false_eq_true] at h <;> first | rfl | (rw [Nat.eq_of_beq_eq_true h])
def QX (L : LS) (X : LX) (ps : List SV) (e : Exit) (s : Env) (m : Mem) : Nat → List Exit → Prop
 | _, [] => False
 | j, x :: r => cond (beqExit e x) (XF L X j ps (slotsOf s L.ps) (slotsOf s L.ls) m) (QX L X ps e s m (j + 1) r)
def QL (L : LS) (X : LX) (ps : List SV) : Post := fun e s m => QX L X ps e s m 0 L.ex
def KL (L : LS) (I : LI) (mu : LM) (ps : List SV) (n : Nat) : Env → Mem → Prop := fun s m => KF L I mu ps n (slotsOf s L.ps) (slotsOf s L.ls) m
theorem decV_elim {k : PK} {x : Value} {f : SV → Prop} (h : decV k x f) : ∃ v, isV k v ∧ x = v.val ∧ f v := by
 cases k with
 | sl => obtain ⟨b, o, l, c, e, h⟩ := asS_elim h; exact ⟨.sl b o l c, trivial, e, h⟩
 | iv k => obtain ⟨z, e, h⟩ := asI_elim h; exact ⟨.iv k z, rfl, e, h⟩
 | bv => obtain ⟨z, e, h⟩ := asB_elim h; exact ⟨.bv z, trivial, e, h⟩
 | vv => exact ⟨.vv x, trivial, rfl, h⟩
 | pt =>
  simp only [decV] at h
  unfold asP at h
  split at h
  ·exact ⟨.pt _ _, trivial, rfl, h⟩
  ·exact h.elim
 | os =>
  simp only [decV] at h
  unfold asO at h
  split at h
  ·exact ⟨.os _ _ _, trivial, rfl, h⟩
  ·exact h.elim
 | fv =>
  simp only [decV] at h
  unfold asF at h
  split at h
  ·exact ⟨.fv _ _, trivial, rfl, h⟩
  ·exact h.elim
 | ip =>
  simp only [decV] at h
  unfold asIP at h
  split at h
  ·exact ⟨.ip _ _ _, trivial, rfl, h⟩
  ·exact h.elim
 | iq T =>
  simp only [decV] at h
  unfold asIP at h
  split at h
  ·rename_i T' b o
   rcases cond_beq h with ⟨e, h⟩ | h
   ·subst e; exact ⟨.ip T' _ _, rfl, rfl, h⟩
   ·exact h.elim
  ·exact h.elim
 | nl =>
  simp only [decV] at h
  unfold asN at h
  split at h
  ·exact ⟨.nl, trivial, rfl, h⟩
  ·exact h.elim
 | ni =>
  simp only [decV] at h
  unfold asE at h
  split at h
  ·exact ⟨.ni, trivial, rfl, h⟩
  ·exact h.elim
theorem decV_mk {k : PK} {v : SV} {f : SV → Prop} (hk : isV k v) (h : f v) : decV k v.val f := by
 cases k <;> cases v <;> simp only [isV] at hk <;> simp only [decV, SV.val, asS, asI, asB, asP, asO, asF, asIP, asN, asE]
 ·exact h
 ·subst hk; simpa using h
 all_goals first | exact h | (subst hk; rw [Nat.beq_refl]; exact h)
theorem decW_elim {s : Env} : ∀ {l : List (Nat × PK)} {f : List SV → Prop}, decW l (slotsOf s l) f → ∃ vs, isK l vs ∧ slotsOf s l = vs.map SV.val ∧ f vs
 | [], _, h => ⟨[], trivial, rfl, h⟩
 | (t, k) :: r, f, h => by
  obtain ⟨v, hv, e, h⟩ := decV_elim (show decV k (s t) _ from h)
  obtain ⟨vs, hvs, es, h⟩ := decW_elim h
  exact ⟨v :: vs, ⟨hv, hvs⟩, by simp only [slotsOf, List.map_cons, e, es], h⟩
theorem decW_mk : ∀ {l : List (Nat × PK)} {vs : List SV} {f : List SV → Prop}, isK l vs → f vs → decW l (vs.map SV.val) f
 | [], [], _, _, h => h
 | (t, k) :: r, v :: vs, f, hk, h => decV_mk hk.1 (decW_mk (f := fun vs => f (v :: vs)) hk.2 h)
 | [], _ :: _, _, hk, _ => hk.elim
 | _ :: _, [], _, hk, _ => hk.elim
theorem allV_elim {k : PK} {f : SV → Prop} (h : allV k f) {v : SV} (hv : isV k v) : f v := by
 cases k <;> cases v <;> simp only [isV] at hv <;> simp only [allV] at h
 ·exact h _ _ _ _
 ·subst hv; exact h _
 ·exact h _
 ·exact h _
 ·exact h _ _
 ·exact h _ _ _
 ·exact h _ _
 ·exact h _ _ _
 ·exact h
 ·exact h
 ·subst hv; exact h _ _
theorem allK_elim : ∀ {l : List (Nat × PK)} {f : List SV → Prop}, allK l f → ∀ {vs : List SV}, isK l vs → f vs
 | [], _, h, [], _ => h
 | (t, k) :: r, f, h, v :: vs, hk => allK_elim (f := fun vs => f (v :: vs)) (allV_elim h hk.1) hk.2
 | [], _, _, _ :: _, hk => hk.elim
 | _ :: _, _, _, [], hk => hk.elim
theorem chainL_same (s : Env) : ∀ {l : List (Nat × PK)} {vs : List SV}, slotsOf s l = vs.map SV.val → chainL s l vs = s
 | [], _, _ => rfl
 | (t, k) :: r, [], h => by simp [slotsOf] at h
 | (t, k) :: r, v :: vs, h => by
  simp only [slotsOf, List.map_cons, List.cons.injEq] at h
  rw [chainL, chainL_same s h.2, set_of s h.1]
theorem exAll_get {A : Nat → Exit → Prop} : ∀ {l : List Exit} {j : Nat}, exAll A j l → ∀ i e, l[i]? = some e → A (j + i) e
 | [], _, _, i, e, h => by simp at h
 | [x], j, hA, i, e, h => by
  cases i with
  | zero => simp at h; subst h; exact hA
  | succ i => simp at h
 | x :: y :: r, j, hA, i, e, h => by
  cases i with
  | zero => simp at h; subst h; exact hA.1
  | succ i =>
   have := exAll_get (l := y :: r) hA.2 i e (by simpa using h)
   rw [show j + (i + 1) = j + 1 + i by omega]; exact this
theorem QX_get {L : LS} {X : LX} {ps : List SV} {e : Exit} {s : Env} {m : Mem} : ∀ {l : List Exit} {j : Nat}, QX L X ps e s m j l → ∃ i, l[i]? = some e ∧ XF L X (j + i) ps (slotsOf s L.ps) (slotsOf s L.ls) m
 | [], _, h => h.elim
 | x :: r, j, h => by
  simp only [QX] at h
  cases hb : beqExit e x with
  | true =>
   rw [hb] at h
   exact ⟨0, by rw [beqExit_eq hb]; rfl, h⟩
  | false =>
   rw [hb] at h
   obtain ⟨i, hi, hx⟩ := QX_get h
   exact ⟨i + 1, by simpa using hi, by rw [show j + (i + 1) = j + 1 + i by omega]; exact hx⟩
theorem loopG {P : Program} (hm : P.follows .mixedOrders = true) {w0 : World} {tt : Nat → TD} (ht : TTok P tt) {n : Nat} {lv : Nat → Env → Mem → Post → Prop} {jt : Nat → Post → Env → Mem → Prop}
  {c : Code} (hwf : wfC tt n c = true) (hl : loopsOK P w0 n lv jt c 0) (L : LS) {I : LI} {X : LX} {mu : LM}
  (hB : allK L.ps fun ps => allK L.ls fun ls => ∀ (k : Nat) (m : Mem), I ps ls m → mu ps ls < k + 1 → ∀ g : Env,
   vc P w0 tt lv jt c 0 (roundV (QL L X ps) (KL L I mu ps k)) (chainL (chainL g L.ps ps) L.ls ls) m) :
  ∀ s m Q, lv1 L I X s m Q → Sat P w0 n (.loop c) Q s m := by
 intro s m Q h
 obtain ⟨ps, hps, eps, h⟩ := decW_elim h
 obtain ⟨ls, hls, els, hI, hX⟩ := decW_elim h
 refine Sat.mono (Q := QL L X ps) (loop_sat hm ht hwf hl (Nx := fun k => KL L I mu ps k) (k0 := mu ps ls + 1) ?_ ?_ ?_) ?_
 ·refine ⟨eps, ?_⟩
  rw [els]
  exact decW_mk hls ⟨hI, Nat.lt_succ_self _⟩
 ·rintro s m ⟨_, h⟩
  obtain ⟨_, _, _, _, h⟩ := decW_elim h
  exact absurd h (Nat.not_lt_zero _)
 ·rintro k s m ⟨e1, h⟩
  obtain ⟨ls, hls, e2, hI, hmu⟩ := decW_elim h
  have := allK_elim (allK_elim hB hps) hls k m hI hmu s
  rw [chainL_same s e1, chainL_same s e2] at this
  exact this
 ·intro e s m h
  obtain ⟨i, hi, e1, h⟩ := QX_get h
  obtain ⟨ls, hls, e2, h⟩ := decW_elim h
  have := allK_elim (exAll_get hX i e hi) hls m h s
  rw [chainL_same s e1, chainL_same s e2] at this
  exact this
end Go.Proofs.YtdhifgedhaapjaaGreatDoor
namespace Go.Proofs.YtdhifgedhaapjaaGreatDoor
open Go
abbrev LMm := List SV → List SV → Mem → Nat
def KFm (L : LS) (I : LI) (mu : LMm) (ps : List SV) (n : Nat) (vs ws : List Value) (m : Mem) : Prop :=
 vs = ps.map SV.val ∧ decW L.ls ws fun ls => I ps ls m ∧ mu ps ls m < n
def KFm1 (L : LS) (I : LI) (mu : LMm) (ps : List SV) (n : Nat) (ws : List Value) (m : Mem) : Prop := KFm L I mu ps n (ps.map SV.val) ws m
theorem KFm1_mk {L : LS} {I : LI} {mu : LMm} {ps : List SV} {n : Nat} {ws : List Value} {m : Mem} (h : decW L.ls ws fun ls => I ps ls m ∧ mu ps ls m < n) : KFm1 L I mu ps n ws m := ⟨rfl, h⟩
def KLm (L : LS) (I : LI) (mu : LMm) (ps : List SV) (n : Nat) : Env → Mem → Prop := fun s m => KFm L I mu ps n (slotsOf s L.ps) (slotsOf s L.ls) m
theorem loopGm {P : Program} (hm : P.follows .mixedOrders = true) {w0 : World} {tt : Nat → TD} (ht : TTok P tt) {n : Nat} {lv : Nat → Env → Mem → Post → Prop} {jt : Nat → Post → Env → Mem → Prop}
  {c : Code} (hwf : wfC tt n c = true) (hl : loopsOK P w0 n lv jt c 0) (L : LS) {I : LI} {X : LX} {mu : LMm}
  (hB : allK L.ps fun ps => allK L.ls fun ls => ∀ (k : Nat) (m : Mem), I ps ls m → mu ps ls m < k + 1 → ∀ g : Env,
   vc P w0 tt lv jt c 0 (roundV (QL L X ps) (KLm L I mu ps k)) (chainL (chainL g L.ps ps) L.ls ls) m) :
  ∀ s m Q, lv1 L I X s m Q → Sat P w0 n (.loop c) Q s m := by
 intro s m Q h
 obtain ⟨ps, hps, eps, h⟩ := decW_elim h
 obtain ⟨ls, hls, els, hI, hX⟩ := decW_elim h
 refine Sat.mono (Q := QL L X ps) (loop_sat hm ht hwf hl (Nx := fun k => KLm L I mu ps k) (k0 := mu ps ls m + 1) ?_ ?_ ?_) ?_
 ·refine ⟨eps, ?_⟩
  rw [els]
  exact decW_mk hls ⟨hI, Nat.lt_succ_self _⟩
 ·rintro s m ⟨_, h⟩
  obtain ⟨_, _, _, _, h⟩ := decW_elim h
  exact absurd h (Nat.not_lt_zero _)
 ·rintro k s m ⟨e1, h⟩
  obtain ⟨ls, hls, e2, hI, hmu⟩ := decW_elim h
  have := allK_elim (allK_elim hB hps) hls k m hI hmu s
  rw [chainL_same s e1, chainL_same s e2] at this
  exact this
 ·intro e s m h
  obtain ⟨i, hi, e1, h⟩ := QX_get h
  obtain ⟨ls, hls, e2, h⟩ := decW_elim h
  have := allK_elim (exAll_get hX i e hi) hls m h s
  rw [chainL_same s e1, chainL_same s e2] at this
  exact this
end Go.Proofs.YtdhifgedhaapjaaGreatDoor
set_option maxRecDepth 100000
namespace Go.Proofs.YtdhifgedhaapjaaGreatDoor
open Go
def xorI (k : IntKind) (n : Int) : Int := k.wrap (BitVec.ofInt k.bits (if k.signed then -1 else k.max) ^^^ BitVec.ofInt k.bits n).toNat
def orI (k : IntKind) (a b : Int) : Int := k.wrap (BitVec.ofInt k.bits a ||| BitVec.ofInt k.bits b).toNat
theorem TryzTt_st42 : ∃ F, Tryz.prog.underlying 42 = some (.struct F) ∧ (∀ w, (F.mapM (fun (f : Field) => (do pure (f.offset, ← sizeOf f.type) : Sem (Nat × Nat)))).run Tryz.prog w = .ok ([(0, 1), (1, 1), (2, 1)] : List (Nat × Nat)).toArray w) ∧
  (∀ (i off sz : Nat), ([(0, 1), (1, 1), (2, 1)] : List (Nat × Nat))[i]? = some (off, sz) → ∃ f : Field, F[i]? = some f ∧ f.offset = off ∧ (∀ w, (sizeOf f.type).run Tryz.prog w = .ok sz w) ∧ sz ≠ 0) ∧
  ∃ inf, Tryz.prog.info? 42 = some inf ∧ inf.size = ([.slice none 0 0, .int .i64 0, .int .i8 0] : List Value).length ∧ inf.zero = some (.agg ([.slice none 0 0, .int .i64 0, .int .i8 0] : List Value).toArray) ∧ ([22, 3, 40] : List Nat).length = ([.slice none 0 0, .int .i64 0, .int .i8 0] : List Value).length := by
 refine ⟨_, Tryz.underlying42, fun w => by kernel_rfl, fun i off sz h => ?_, _, rfl, rfl, rfl, rfl⟩
 rcases i with _ | i
 ·cases h; exact ⟨_, rfl, rfl, fun w => by kernel_rfl, by decide⟩
 rcases i with _ | i
 ·cases h; exact ⟨_, rfl, rfl, fun w => by kernel_rfl, by decide⟩
 rcases i with _ | i
 ·cases h; exact ⟨_, rfl, rfl, fun w => by kernel_rfl, by decide⟩
 ·simp at h
theorem TryzTt_st62 : ∃ F, Tryz.prog.underlying 62 = some (.struct F) ∧ (∀ w, (F.mapM (fun (f : Field) => (do pure (f.offset, ← sizeOf f.type) : Sem (Nat × Nat)))).run Tryz.prog w = .ok ([(0, 1), (1, 1)] : List (Nat × Nat)).toArray w) ∧
  (∀ (i off sz : Nat), ([(0, 1), (1, 1)] : List (Nat × Nat))[i]? = some (off, sz) → ∃ f : Field, F[i]? = some f ∧ f.offset = off ∧ (∀ w, (sizeOf f.type).run Tryz.prog w = .ok sz w) ∧ sz ≠ 0) ∧
  ∃ inf, Tryz.prog.info? 62 = some inf ∧ inf.size = ([.slice none 0 0, .slice none 0 0] : List Value).length ∧ inf.zero = some (.agg ([.slice none 0 0, .slice none 0 0] : List Value).toArray) ∧ ([36, 1060] : List Nat).length = ([.slice none 0 0, .slice none 0 0] : List Value).length := by
 refine ⟨_, Tryz.underlying62, fun w => by kernel_rfl, fun i off sz h => ?_, _, rfl, rfl, rfl, rfl⟩
 rcases i with _ | i
 ·cases h; exact ⟨_, rfl, rfl, fun w => by kernel_rfl, by decide⟩
 rcases i with _ | i
 ·cases h; exact ⟨_, rfl, rfl, fun w => by kernel_rfl, by decide⟩
 ·simp at h
theorem TryzTt_st64 : ∃ F, Tryz.prog.underlying 64 = some (.struct F) ∧ (∀ w, (F.mapM (fun (f : Field) => (do pure (f.offset, ← sizeOf f.type) : Sem (Nat × Nat)))).run Tryz.prog w = .ok ([(0, 1), (1, 2)] : List (Nat × Nat)).toArray w) ∧
  (∀ (i off sz : Nat), ([(0, 1), (1, 2)] : List (Nat × Nat))[i]? = some (off, sz) → ∃ f : Field, F[i]? = some f ∧ f.offset = off ∧ (∀ w, (sizeOf f.type).run Tryz.prog w = .ok sz w) ∧ sz ≠ 0) ∧
  ∃ inf, Tryz.prog.info? 64 = some inf ∧ inf.size = ([.slice none 0 0, .slice none 0 0, .slice none 0 0] : List Value).length ∧ inf.zero = some (.agg ([.slice none 0 0, .slice none 0 0, .slice none 0 0] : List Value).toArray) ∧ ([22, 36, 1060] : List Nat).length = ([.slice none 0 0, .slice none 0 0, .slice none 0 0] : List Value).length := by
 refine ⟨_, Tryz.underlying64, fun w => by kernel_rfl, fun i off sz h => ?_, _, rfl, rfl, rfl, rfl⟩
 rcases i with _ | i
 ·cases h; exact ⟨_, rfl, rfl, fun w => by kernel_rfl, by decide⟩
 rcases i with _ | i
 ·cases h; exact ⟨_, rfl, rfl, fun w => by kernel_rfl, by decide⟩
 ·simp at h
theorem TryzTt_write (a : Addr) (w : World) : (Go.method (Tryz.prog.types.size + Made.depth) 48 (.pointer (some a)) "Write").run Tryz.prog w = .ok (148, .pointer (some a)) w ∧ (Go.nilAhead (Tryz.prog.types.size + Made.depth) 48 (.pointer (some a)) "Write").run Tryz.prog w = .ok (some false) w := ⟨by kernel_rfl, by kernel_rfl⟩
theorem TryzTt_read (a : Addr) (w : World) : (Go.method (Tryz.prog.types.size + Made.depth) 48 (.pointer (some a)) "Read").run Tryz.prog w = .ok (145, .pointer (some a)) w ∧ (Go.nilAhead (Tryz.prog.types.size + Made.depth) 48 (.pointer (some a)) "Read").run Tryz.prog w = .ok (some false) w := ⟨by kernel_rfl, by kernel_rfl⟩
theorem TryzTt_eqI (a : Addr) (w : World) : (binOp .eql 44 (.iface 154 (.pointer (some a))) (.iface 154 (.pointer (some a)))).run Tryz.prog w = .ok (.bool true) w :=
 run_eql_iface_ptr_same w a Tryz.underlying44 Tryz.underlying154 rfl rfl rfl
def TryzTt : Nat → TD
 | 2 => .int .i64
 | 3 => .int .i64
 | 4 => .bool
 | 5 => .int .u8
 | 21 => .int .i32
 | 22 => .slice 5 .u8
 | 23 => .tup [22, 4]
 | 25 => .slice 3 .i64
 | 26 => .tup [9001, 9001, 3, 4]
 | 36 => .slice 21 .i32
 | 40 => .int .i8
 | 42 => .st [(0, 1), (1, 1), (2, 1)] [.slice none 0 0, .int .i64 0, .int .i8 0] [22, 3, 40]
 | 44 => .iface
 | 45 => .ptr
 | 48 => .ptr
 | 57 => .tup [3, 4]
 | 60 => .slice 2 .i64
 | 62 => .st [(0, 1), (1, 1)] [.slice none 0 0, .slice none 0 0] [36, 1060]
 | 64 => .st [(0, 1), (1, 2)] [.slice none 0 0, .slice none 0 0, .slice none 0 0] [22, 36, 1060]
 | 68 => .iface
 | 70 => .tup [3, 44]
 | 75 => .iface
 | 76 => .tup [2, 44]
 | 80 => .int .u64
 | 84 => .int .u64
 | 86 => .fn
 | 90 => .ptr
 | 93 => .tup [2, 3]
 | 96 => .tup [80, 3]
 | 109 => .int .u32
 | 154 => .ptr
 | 1060 => .nilS
 | 3048 => .wm 148
 | 4048 => .rm 145
 | 5154 => .eqm 44
 | 6032 => .mode 1
 | 6034 => .mode 1
 | 6036 => .mode 1
 | 6037 => .mode 1
 | 6038 => .mode 1
 | 6048 => .mode 1
 | 6049 => .mode 1
 | 6146 => .mode 1
 | 6150 => .mode 1
 | 6151 => .mode 1
 | 6152 => .mode 1
 | 9001 => .osl
 | _ => .other
theorem TryzTt_ok : TTok Tryz.prog TryzTt where
 int T k h := by
  unfold TryzTt at h
  split at h <;> first
   | (cases h; done)
   | (cases h; exact ⟨Tryz.underlying2, _, rfl, rfl, rfl, by decide⟩)
   | (cases h; exact ⟨Tryz.underlying3, _, rfl, rfl, rfl, by decide⟩)
   | (cases h; exact ⟨Tryz.underlying5, _, rfl, rfl, rfl, by decide⟩)
   | (cases h; exact ⟨Tryz.underlying21, _, rfl, rfl, rfl, by decide⟩)
   | (cases h; exact ⟨Tryz.underlying40, _, rfl, rfl, rfl, by decide⟩)
   | (cases h; exact ⟨Tryz.underlying80, _, rfl, rfl, rfl, by decide⟩)
   | (cases h; exact ⟨Tryz.underlying84, _, rfl, rfl, rfl, by decide⟩)
   | (cases h; exact ⟨Tryz.underlying109, _, rfl, rfl, rfl, by decide⟩)
 slice T e k h := by
  unfold TryzTt at h
  split at h <;> first
   | (cases h; done)
   | (cases h; exact ⟨Tryz.underlying22, rfl⟩)
   | (cases h; exact ⟨Tryz.underlying25, rfl⟩)
   | (cases h; exact ⟨Tryz.underlying36, rfl⟩)
   | (cases h; exact ⟨Tryz.underlying60, rfl⟩)
 one T h := by
  unfold TryzTt at h
  split at h <;> first
   | (cases h; done)
   | (exact ⟨_, Tryz.underlying4, rfl, _, rfl, rfl⟩)
   | (exact ⟨_, Tryz.underlying22, rfl, _, rfl, rfl⟩)
   | (exact ⟨_, Tryz.underlying25, rfl, _, rfl, rfl⟩)
   | (exact ⟨_, Tryz.underlying36, rfl, _, rfl, rfl⟩)
   | (exact ⟨_, Tryz.underlying44, rfl, _, rfl, rfl⟩)
   | (exact ⟨_, Tryz.underlying45, rfl, _, rfl, rfl⟩)
   | (exact ⟨_, Tryz.underlying48, rfl, _, rfl, rfl⟩)
   | (exact ⟨_, Tryz.underlying60, rfl, _, rfl, rfl⟩)
   | (exact ⟨_, Tryz.underlying68, rfl, _, rfl, rfl⟩)
   | (exact ⟨_, Tryz.underlying75, rfl, _, rfl, rfl⟩)
   | (exact ⟨_, Tryz.underlying86, rfl, _, rfl, rfl⟩)
   | (exact ⟨_, Tryz.underlying90, rfl, _, rfl, rfl⟩)
   | (exact ⟨_, Tryz.underlying154, rfl, _, rfl, rfl⟩)
 ptr T h := by
  unfold TryzTt at h
  split at h <;> first
   | (cases h; done)
   | (exact ⟨_, Tryz.underlying45, rfl⟩)
   | (exact ⟨_, Tryz.underlying48, rfl⟩)
   | (exact ⟨_, Tryz.underlying90, rfl⟩)
   | (exact ⟨_, Tryz.underlying154, rfl⟩)
 iface T h := by
  unfold TryzTt at h
  split at h <;> first
   | (cases h; done)
   | (exact ⟨_, Tryz.underlying44⟩)
   | (exact ⟨_, Tryz.underlying68⟩)
   | (exact ⟨_, Tryz.underlying75⟩)
 st T fs zs ts h := by
  unfold TryzTt at h
  split at h <;> first
   | (cases h; done)
   | (cases h; exact TryzTt_st42)
   | (cases h; exact TryzTt_st62)
   | (cases h; exact TryzTt_st64)
 write T g h a w := by
  unfold TryzTt at h
  split at h <;> first
   | (cases h; done)
   | (rename_i e; obtain rfl : T = 48 := (by omega); cases h; exact TryzTt_write a w)
   | (cases h; exact TryzTt_write a w)
 read T g h a w := by
  unfold TryzTt at h
  split at h <;> first
   | (cases h; done)
   | (rename_i e; obtain rfl : T = 48 := (by omega); cases h; exact TryzTt_read a w)
   | (cases h; exact TryzTt_read a w)
 eqI S T h a w := by
  unfold TryzTt at h
  split at h <;> first
   | (cases h; done)
   | (rename_i e; obtain rfl : S = 154 := (by omega); cases h; exact TryzTt_eqI a w)
   | (cases h; exact TryzTt_eqI a w)
def TryzTtH : Nat → TD
 | 2 => .int .i64
 | 3 => .int .i64
 | 4 => .bool
 | 5 => .int .u8
 | 21 => .int .i32
 | 22 => .slice 5 .u8
 | 23 => .tup [22, 4]
 | 25 => .slice 3 .i64
 | 26 => .tup [9001, 9001, 3, 4]
 | 36 => .slice 21 .i32
 | 40 => .int .i8
 | 42 => .st [(0, 1), (1, 1), (2, 1)] [.slice none 0 0, .int .i64 0, .int .i8 0] [22, 3, 40]
 | 44 => .iface
 | 45 => .ptr
 | 48 => .ptr
 | 57 => .tup [3, 4]
 | 60 => .slice 2 .i64
 | 62 => .st [(0, 1), (1, 1)] [.slice none 0 0, .slice none 0 0] [36, 1060]
 | 64 => .st [(0, 1), (1, 2)] [.slice none 0 0, .slice none 0 0, .slice none 0 0] [22, 36, 1060]
 | 68 => .iface
 | 70 => .tup [3, 44]
 | 75 => .iface
 | 76 => .tup [2, 44]
 | 80 => .int .u64
 | 84 => .int .u64
 | 86 => .fn
 | 90 => .ptr
 | 93 => .tup [2, 3]
 | 96 => .tup [80, 3]
 | 109 => .int .u32
 | 154 => .ptr
 | 1060 => .nilS
 | 3048 => .wm 148
 | 4048 => .rm 145
 | 5154 => .eqm 44
 | 6032 => .mode 1
 | 6034 => .mode 1
 | 6036 => .mode 1
 | 6037 => .mode 1
 | 6038 => .mode 1
 | 6048 => .mode 1
 | 6049 => .mode 1
 | 6146 => .mode 1
 | 6150 => .mode 1
 | 6151 => .mode 1
 | 6152 => .mode 1
 | 8022 => .mode 1
 | 8025 => .mode 1
 | 8036 => .mode 1
 | 9001 => .osl
 | _ => .other
theorem TryzTtH_ok : TTok Tryz.prog TryzTtH where
 int T k h := by
  unfold TryzTtH at h
  split at h <;> first
   | (cases h; done)
   | (cases h; exact ⟨Tryz.underlying2, _, rfl, rfl, rfl, by decide⟩)
   | (cases h; exact ⟨Tryz.underlying3, _, rfl, rfl, rfl, by decide⟩)
   | (cases h; exact ⟨Tryz.underlying5, _, rfl, rfl, rfl, by decide⟩)
   | (cases h; exact ⟨Tryz.underlying21, _, rfl, rfl, rfl, by decide⟩)
   | (cases h; exact ⟨Tryz.underlying40, _, rfl, rfl, rfl, by decide⟩)
   | (cases h; exact ⟨Tryz.underlying80, _, rfl, rfl, rfl, by decide⟩)
   | (cases h; exact ⟨Tryz.underlying84, _, rfl, rfl, rfl, by decide⟩)
   | (cases h; exact ⟨Tryz.underlying109, _, rfl, rfl, rfl, by decide⟩)
 slice T e k h := by
  unfold TryzTtH at h
  split at h <;> first
   | (cases h; done)
   | (cases h; exact ⟨Tryz.underlying22, rfl⟩)
   | (cases h; exact ⟨Tryz.underlying25, rfl⟩)
   | (cases h; exact ⟨Tryz.underlying36, rfl⟩)
   | (cases h; exact ⟨Tryz.underlying60, rfl⟩)
 one T h := by
  unfold TryzTtH at h
  split at h <;> first
   | (cases h; done)
   | (exact ⟨_, Tryz.underlying4, rfl, _, rfl, rfl⟩)
   | (exact ⟨_, Tryz.underlying22, rfl, _, rfl, rfl⟩)
   | (exact ⟨_, Tryz.underlying25, rfl, _, rfl, rfl⟩)
   | (exact ⟨_, Tryz.underlying36, rfl, _, rfl, rfl⟩)
   | (exact ⟨_, Tryz.underlying44, rfl, _, rfl, rfl⟩)
   | (exact ⟨_, Tryz.underlying45, rfl, _, rfl, rfl⟩)
   | (exact ⟨_, Tryz.underlying48, rfl, _, rfl, rfl⟩)
   | (exact ⟨_, Tryz.underlying60, rfl, _, rfl, rfl⟩)
   | (exact ⟨_, Tryz.underlying68, rfl, _, rfl, rfl⟩)
   | (exact ⟨_, Tryz.underlying75, rfl, _, rfl, rfl⟩)
   | (exact ⟨_, Tryz.underlying86, rfl, _, rfl, rfl⟩)
   | (exact ⟨_, Tryz.underlying90, rfl, _, rfl, rfl⟩)
   | (exact ⟨_, Tryz.underlying154, rfl, _, rfl, rfl⟩)
 ptr T h := by
  unfold TryzTtH at h
  split at h <;> first
   | (cases h; done)
   | (exact ⟨_, Tryz.underlying45, rfl⟩)
   | (exact ⟨_, Tryz.underlying48, rfl⟩)
   | (exact ⟨_, Tryz.underlying90, rfl⟩)
   | (exact ⟨_, Tryz.underlying154, rfl⟩)
 iface T h := by
  unfold TryzTtH at h
  split at h <;> first
   | (cases h; done)
   | (exact ⟨_, Tryz.underlying44⟩)
   | (exact ⟨_, Tryz.underlying68⟩)
   | (exact ⟨_, Tryz.underlying75⟩)
 st T fs zs ts h := by
  unfold TryzTtH at h
  split at h <;> first
   | (cases h; done)
   | (cases h; exact TryzTt_st42)
   | (cases h; exact TryzTt_st62)
   | (cases h; exact TryzTt_st64)
 write T g h a w := by
  unfold TryzTtH at h
  split at h <;> first
   | (cases h; done)
   | (rename_i e; obtain rfl : T = 48 := (by omega); cases h; exact TryzTt_write a w)
   | (cases h; exact TryzTt_write a w)
 read T g h a w := by
  unfold TryzTtH at h
  split at h <;> first
   | (cases h; done)
   | (rename_i e; obtain rfl : T = 48 := (by omega); cases h; exact TryzTt_read a w)
   | (cases h; exact TryzTt_read a w)
 eqI S T h a w := by
  unfold TryzTtH at h
  split at h <;> first
   | (cases h; done)
   | (rename_i e; obtain rfl : S = 154 := (by omega); cases h; exact TryzTt_eqI a w)
   | (cases h; exact TryzTt_eqI a w)
def TryzTtS : Nat → TD
 | 2 => .int .i64
 | 3 => .int .i64
 | 4 => .bool
 | 5 => .int .u8
 | 21 => .int .i32
 | 22 => .slice 5 .u8
 | 23 => .tup [22, 4]
 | 25 => .slice 3 .i64
 | 26 => .tup [9001, 9001, 3, 4]
 | 36 => .slice 21 .i32
 | 40 => .int .i8
 | 42 => .st [(0, 1), (1, 1), (2, 1)] [.slice none 0 0, .int .i64 0, .int .i8 0] [22, 3, 40]
 | 44 => .iface
 | 45 => .ptr
 | 48 => .ptr
 | 57 => .tup [3, 4]
 | 60 => .slice 2 .i64
 | 62 => .st [(0, 1), (1, 1)] [.slice none 0 0, .slice none 0 0] [36, 1060]
 | 64 => .st [(0, 1), (1, 2)] [.slice none 0 0, .slice none 0 0, .slice none 0 0] [22, 36, 1060]
 | 68 => .iface
 | 70 => .tup [3, 44]
 | 75 => .iface
 | 76 => .tup [2, 44]
 | 80 => .int .u64
 | 84 => .int .u64
 | 86 => .fn
 | 90 => .ptr
 | 93 => .tup [2, 3]
 | 96 => .tup [80, 3]
 | 109 => .int .u32
 | 154 => .ptr
 | 1060 => .nilS
 | 3048 => .wm 148
 | 4048 => .rm 145
 | 5154 => .eqm 44
 | 6032 => .mode 1
 | 6034 => .mode 1
 | 6036 => .mode 1
 | 6037 => .mode 1
 | 6038 => .mode 1
 | 6048 => .mode 1
 | 6049 => .mode 1
 | 6146 => .mode 1
 | 6150 => .mode 1
 | 6151 => .mode 1
 | 6152 => .mode 1
 | 7024 => .slS
 | 7025 => .slS
 | 8022 => .mode 1
 | 8025 => .mode 1
 | 8036 => .mode 1
 | 9001 => .osl
 | _ => .other
theorem TryzTtS_ok : TTok Tryz.prog TryzTtS where
 int T k h := by
  unfold TryzTtS at h
  split at h <;> first
   | (cases h; done)
   | (cases h; exact ⟨Tryz.underlying2, _, rfl, rfl, rfl, by decide⟩)
   | (cases h; exact ⟨Tryz.underlying3, _, rfl, rfl, rfl, by decide⟩)
   | (cases h; exact ⟨Tryz.underlying5, _, rfl, rfl, rfl, by decide⟩)
   | (cases h; exact ⟨Tryz.underlying21, _, rfl, rfl, rfl, by decide⟩)
   | (cases h; exact ⟨Tryz.underlying40, _, rfl, rfl, rfl, by decide⟩)
   | (cases h; exact ⟨Tryz.underlying80, _, rfl, rfl, rfl, by decide⟩)
   | (cases h; exact ⟨Tryz.underlying84, _, rfl, rfl, rfl, by decide⟩)
   | (cases h; exact ⟨Tryz.underlying109, _, rfl, rfl, rfl, by decide⟩)
 slice T e k h := by
  unfold TryzTtS at h
  split at h <;> first
   | (cases h; done)
   | (cases h; exact ⟨Tryz.underlying22, rfl⟩)
   | (cases h; exact ⟨Tryz.underlying25, rfl⟩)
   | (cases h; exact ⟨Tryz.underlying36, rfl⟩)
   | (cases h; exact ⟨Tryz.underlying60, rfl⟩)
 one T h := by
  unfold TryzTtS at h
  split at h <;> first
   | (cases h; done)
   | (exact ⟨_, Tryz.underlying4, rfl, _, rfl, rfl⟩)
   | (exact ⟨_, Tryz.underlying22, rfl, _, rfl, rfl⟩)
   | (exact ⟨_, Tryz.underlying25, rfl, _, rfl, rfl⟩)
   | (exact ⟨_, Tryz.underlying36, rfl, _, rfl, rfl⟩)
   | (exact ⟨_, Tryz.underlying44, rfl, _, rfl, rfl⟩)
   | (exact ⟨_, Tryz.underlying45, rfl, _, rfl, rfl⟩)
   | (exact ⟨_, Tryz.underlying48, rfl, _, rfl, rfl⟩)
   | (exact ⟨_, Tryz.underlying60, rfl, _, rfl, rfl⟩)
   | (exact ⟨_, Tryz.underlying68, rfl, _, rfl, rfl⟩)
   | (exact ⟨_, Tryz.underlying75, rfl, _, rfl, rfl⟩)
   | (exact ⟨_, Tryz.underlying86, rfl, _, rfl, rfl⟩)
   | (exact ⟨_, Tryz.underlying90, rfl, _, rfl, rfl⟩)
   | (exact ⟨_, Tryz.underlying154, rfl, _, rfl, rfl⟩)
 ptr T h := by
  unfold TryzTtS at h
  split at h <;> first
   | (cases h; done)
   | (exact ⟨_, Tryz.underlying45, rfl⟩)
   | (exact ⟨_, Tryz.underlying48, rfl⟩)
   | (exact ⟨_, Tryz.underlying90, rfl⟩)
   | (exact ⟨_, Tryz.underlying154, rfl⟩)
 iface T h := by
  unfold TryzTtS at h
  split at h <;> first
   | (cases h; done)
   | (exact ⟨_, Tryz.underlying44⟩)
   | (exact ⟨_, Tryz.underlying68⟩)
   | (exact ⟨_, Tryz.underlying75⟩)
 st T fs zs ts h := by
  unfold TryzTtS at h
  split at h <;> first
   | (cases h; done)
   | (cases h; exact TryzTt_st42)
   | (cases h; exact TryzTt_st62)
   | (cases h; exact TryzTt_st64)
 write T g h a w := by
  unfold TryzTtS at h
  split at h <;> first
   | (cases h; done)
   | (rename_i e; obtain rfl : T = 48 := (by omega); cases h; exact TryzTt_write a w)
   | (cases h; exact TryzTt_write a w)
 read T g h a w := by
  unfold TryzTtS at h
  split at h <;> first
   | (cases h; done)
   | (rename_i e; obtain rfl : T = 48 := (by omega); cases h; exact TryzTt_read a w)
   | (cases h; exact TryzTt_read a w)
 eqI S T h a w := by
  unfold TryzTtS at h
  split at h <;> first
   | (cases h; done)
   | (rename_i e; obtain rfl : S = 154 := (by omega); cases h; exact TryzTt_eqI a w)
   | (cases h; exact TryzTt_eqI a w)
def TryzTtN : Nat → TD
 | 2 => .int .i64
 | 3 => .int .i64
 | 4 => .bool
 | 5 => .int .u8
 | 21 => .int .i32
 | 22 => .slice 5 .u8
 | 23 => .tup [22, 4]
 | 25 => .slice 3 .i64
 | 26 => .tup [9001, 9001, 3, 4]
 | 36 => .slice 21 .i32
 | 40 => .int .i8
 | 42 => .st [(0, 1), (1, 1), (2, 1)] [.slice none 0 0, .int .i64 0, .int .i8 0] [22, 3, 40]
 | 44 => .iface
 | 45 => .ptr
 | 48 => .ptr
 | 57 => .tup [3, 4]
 | 60 => .slice 2 .i64
 | 62 => .st [(0, 1), (1, 1)] [.slice none 0 0, .slice none 0 0] [36, 1060]
 | 64 => .st [(0, 1), (1, 2)] [.slice none 0 0, .slice none 0 0, .slice none 0 0] [22, 36, 1060]
 | 68 => .iface
 | 70 => .tup [3, 44]
 | 75 => .iface
 | 76 => .tup [2, 44]
 | 80 => .int .u64
 | 84 => .int .u64
 | 86 => .fn
 | 90 => .ptr
 | 93 => .tup [2, 3]
 | 96 => .tup [80, 3]
 | 109 => .int .u32
 | 154 => .ptr
 | 1060 => .nilS
 | 3048 => .wm 148
 | 4048 => .rm 145
 | 5154 => .eqm 44
 | 6032 => .mode 1
 | 6034 => .mode 1
 | 6036 => .mode 1
 | 6037 => .mode 1
 | 6038 => .mode 1
 | 6048 => .mode 1
 | 6049 => .mode 1
 | 6146 => .mode 1
 | 6150 => .mode 1
 | 6151 => .mode 1
 | 6152 => .mode 1
 | 7024 => .osl
 | 7025 => .nilS
 | 8022 => .mode 1
 | 8025 => .mode 1
 | 8036 => .mode 1
 | 9001 => .osl
 | _ => .other
theorem TryzTtN_ok : TTok Tryz.prog TryzTtN where
 int T k h := by
  unfold TryzTtN at h
  split at h <;> first
   | (cases h; done)
   | (cases h; exact ⟨Tryz.underlying2, _, rfl, rfl, rfl, by decide⟩)
   | (cases h; exact ⟨Tryz.underlying3, _, rfl, rfl, rfl, by decide⟩)
   | (cases h; exact ⟨Tryz.underlying5, _, rfl, rfl, rfl, by decide⟩)
   | (cases h; exact ⟨Tryz.underlying21, _, rfl, rfl, rfl, by decide⟩)
   | (cases h; exact ⟨Tryz.underlying40, _, rfl, rfl, rfl, by decide⟩)
   | (cases h; exact ⟨Tryz.underlying80, _, rfl, rfl, rfl, by decide⟩)
   | (cases h; exact ⟨Tryz.underlying84, _, rfl, rfl, rfl, by decide⟩)
   | (cases h; exact ⟨Tryz.underlying109, _, rfl, rfl, rfl, by decide⟩)
 slice T e k h := by
  unfold TryzTtN at h
  split at h <;> first
   | (cases h; done)
   | (cases h; exact ⟨Tryz.underlying22, rfl⟩)
   | (cases h; exact ⟨Tryz.underlying25, rfl⟩)
   | (cases h; exact ⟨Tryz.underlying36, rfl⟩)
   | (cases h; exact ⟨Tryz.underlying60, rfl⟩)
 one T h := by
  unfold TryzTtN at h
  split at h <;> first
   | (cases h; done)
   | (exact ⟨_, Tryz.underlying4, rfl, _, rfl, rfl⟩)
   | (exact ⟨_, Tryz.underlying22, rfl, _, rfl, rfl⟩)
   | (exact ⟨_, Tryz.underlying25, rfl, _, rfl, rfl⟩)
   | (exact ⟨_, Tryz.underlying36, rfl, _, rfl, rfl⟩)
   | (exact ⟨_, Tryz.underlying44, rfl, _, rfl, rfl⟩)
   | (exact ⟨_, Tryz.underlying45, rfl, _, rfl, rfl⟩)
   | (exact ⟨_, Tryz.underlying48, rfl, _, rfl, rfl⟩)
   | (exact ⟨_, Tryz.underlying60, rfl, _, rfl, rfl⟩)
   | (exact ⟨_, Tryz.underlying68, rfl, _, rfl, rfl⟩)
   | (exact ⟨_, Tryz.underlying75, rfl, _, rfl, rfl⟩)
   | (exact ⟨_, Tryz.underlying86, rfl, _, rfl, rfl⟩)
   | (exact ⟨_, Tryz.underlying90, rfl, _, rfl, rfl⟩)
   | (exact ⟨_, Tryz.underlying154, rfl, _, rfl, rfl⟩)
 ptr T h := by
  unfold TryzTtN at h
  split at h <;> first
   | (cases h; done)
   | (exact ⟨_, Tryz.underlying45, rfl⟩)
   | (exact ⟨_, Tryz.underlying48, rfl⟩)
   | (exact ⟨_, Tryz.underlying90, rfl⟩)
   | (exact ⟨_, Tryz.underlying154, rfl⟩)
 iface T h := by
  unfold TryzTtN at h
  split at h <;> first
   | (cases h; done)
   | (exact ⟨_, Tryz.underlying44⟩)
   | (exact ⟨_, Tryz.underlying68⟩)
   | (exact ⟨_, Tryz.underlying75⟩)
 st T fs zs ts h := by
  unfold TryzTtN at h
  split at h <;> first
   | (cases h; done)
   | (cases h; exact TryzTt_st42)
   | (cases h; exact TryzTt_st62)
   | (cases h; exact TryzTt_st64)
 write T g h a w := by
  unfold TryzTtN at h
  split at h <;> first
   | (cases h; done)
   | (rename_i e; obtain rfl : T = 48 := (by omega); cases h; exact TryzTt_write a w)
   | (cases h; exact TryzTt_write a w)
 read T g h a w := by
  unfold TryzTtN at h
  split at h <;> first
   | (cases h; done)
   | (rename_i e; obtain rfl : T = 48 := (by omega); cases h; exact TryzTt_read a w)
   | (cases h; exact TryzTt_read a w)
 eqI S T h a w := by
  unfold TryzTtN at h
  split at h <;> first
   | (cases h; done)
   | (rename_i e; obtain rfl : S = 154 := (by omega); cases h; exact TryzTt_eqI a w)
   | (cases h; exact TryzTt_eqI a w)
def TryzTtB : Nat → TD
 | 2 => .int .i64
 | 3 => .int .i64
 | 4 => .bool
 | 5 => .int .u8
 | 21 => .int .i32
 | 22 => .slice 5 .u8
 | 23 => .tup [22, 4]
 | 25 => .slice 3 .i64
 | 26 => .tup [9001, 9001, 3, 4]
 | 36 => .slice 21 .i32
 | 40 => .int .i8
 | 42 => .st [(0, 1), (1, 1), (2, 1)] [.slice none 0 0, .int .i64 0, .int .i8 0] [22, 3, 40]
 | 44 => .iface
 | 45 => .ptr
 | 48 => .ptr
 | 57 => .tup [3, 4]
 | 60 => .slice 2 .i64
 | 62 => .st [(0, 1), (1, 1)] [.slice none 0 0, .slice none 0 0] [36, 1060]
 | 64 => .st [(0, 1), (1, 2)] [.slice none 0 0, .slice none 0 0, .slice none 0 0] [22, 36, 1060]
 | 68 => .iface
 | 70 => .tup [3, 44]
 | 75 => .iface
 | 76 => .tup [2, 44]
 | 80 => .int .u64
 | 84 => .int .u64
 | 86 => .fn
 | 90 => .ptr
 | 93 => .tup [2, 3]
 | 96 => .tup [80, 3]
 | 109 => .int .u32
 | 154 => .ptr
 | 1022 => .osl
 | 1060 => .nilS
 | 3048 => .wm 148
 | 4048 => .rm 145
 | 5154 => .eqm 44
 | 6032 => .mode 1
 | 6034 => .mode 1
 | 6036 => .mode 1
 | 6037 => .mode 1
 | 6038 => .mode 1
 | 6048 => .mode 1
 | 6049 => .mode 1
 | 6146 => .mode 1
 | 6150 => .mode 1
 | 6151 => .mode 1
 | 6152 => .mode 1
 | 8022 => .mode 1
 | 8025 => .mode 1
 | 8036 => .mode 1
 | 9001 => .osl
 | _ => .other
theorem TryzTtB_ok : TTok Tryz.prog TryzTtB where
 int T k h := by
  unfold TryzTtB at h
  split at h <;> first
   | (cases h; done)
   | (cases h; exact ⟨Tryz.underlying2, _, rfl, rfl, rfl, by decide⟩)
   | (cases h; exact ⟨Tryz.underlying3, _, rfl, rfl, rfl, by decide⟩)
   | (cases h; exact ⟨Tryz.underlying5, _, rfl, rfl, rfl, by decide⟩)
   | (cases h; exact ⟨Tryz.underlying21, _, rfl, rfl, rfl, by decide⟩)
   | (cases h; exact ⟨Tryz.underlying40, _, rfl, rfl, rfl, by decide⟩)
   | (cases h; exact ⟨Tryz.underlying80, _, rfl, rfl, rfl, by decide⟩)
   | (cases h; exact ⟨Tryz.underlying84, _, rfl, rfl, rfl, by decide⟩)
   | (cases h; exact ⟨Tryz.underlying109, _, rfl, rfl, rfl, by decide⟩)
 slice T e k h := by
  unfold TryzTtB at h
  split at h <;> first
   | (cases h; done)
   | (cases h; exact ⟨Tryz.underlying22, rfl⟩)
   | (cases h; exact ⟨Tryz.underlying25, rfl⟩)
   | (cases h; exact ⟨Tryz.underlying36, rfl⟩)
   | (cases h; exact ⟨Tryz.underlying60, rfl⟩)
 one T h := by
  unfold TryzTtB at h
  split at h <;> first
   | (cases h; done)
   | (exact ⟨_, Tryz.underlying4, rfl, _, rfl, rfl⟩)
   | (exact ⟨_, Tryz.underlying22, rfl, _, rfl, rfl⟩)
   | (exact ⟨_, Tryz.underlying25, rfl, _, rfl, rfl⟩)
   | (exact ⟨_, Tryz.underlying36, rfl, _, rfl, rfl⟩)
   | (exact ⟨_, Tryz.underlying44, rfl, _, rfl, rfl⟩)
   | (exact ⟨_, Tryz.underlying45, rfl, _, rfl, rfl⟩)
   | (exact ⟨_, Tryz.underlying48, rfl, _, rfl, rfl⟩)
   | (exact ⟨_, Tryz.underlying60, rfl, _, rfl, rfl⟩)
   | (exact ⟨_, Tryz.underlying68, rfl, _, rfl, rfl⟩)
   | (exact ⟨_, Tryz.underlying75, rfl, _, rfl, rfl⟩)
   | (exact ⟨_, Tryz.underlying86, rfl, _, rfl, rfl⟩)
   | (exact ⟨_, Tryz.underlying90, rfl, _, rfl, rfl⟩)
   | (exact ⟨_, Tryz.underlying154, rfl, _, rfl, rfl⟩)
 ptr T h := by
  unfold TryzTtB at h
  split at h <;> first
   | (cases h; done)
   | (exact ⟨_, Tryz.underlying45, rfl⟩)
   | (exact ⟨_, Tryz.underlying48, rfl⟩)
   | (exact ⟨_, Tryz.underlying90, rfl⟩)
   | (exact ⟨_, Tryz.underlying154, rfl⟩)
 iface T h := by
  unfold TryzTtB at h
  split at h <;> first
   | (cases h; done)
   | (exact ⟨_, Tryz.underlying44⟩)
   | (exact ⟨_, Tryz.underlying68⟩)
   | (exact ⟨_, Tryz.underlying75⟩)
 st T fs zs ts h := by
  unfold TryzTtB at h
  split at h <;> first
   | (cases h; done)
   | (cases h; exact TryzTt_st42)
   | (cases h; exact TryzTt_st62)
   | (cases h; exact TryzTt_st64)
 write T g h a w := by
  unfold TryzTtB at h
  split at h <;> first
   | (cases h; done)
   | (rename_i e; obtain rfl : T = 48 := (by omega); cases h; exact TryzTt_write a w)
   | (cases h; exact TryzTt_write a w)
 read T g h a w := by
  unfold TryzTtB at h
  split at h <;> first
   | (cases h; done)
   | (rename_i e; obtain rfl : T = 48 := (by omega); cases h; exact TryzTt_read a w)
   | (cases h; exact TryzTt_read a w)
 eqI S T h a w := by
  unfold TryzTtB at h
  split at h <;> first
   | (cases h; done)
   | (rename_i e; obtain rfl : S = 154 := (by omega); cases h; exact TryzTt_eqI a w)
   | (cases h; exact TryzTt_eqI a w)
def TryzTtC : Nat → TD
 | 2 => .int .i64
 | 3 => .int .i64
 | 4 => .bool
 | 5 => .int .u8
 | 21 => .int .i32
 | 22 => .slice 5 .u8
 | 23 => .tup [22, 4]
 | 25 => .slice 3 .i64
 | 26 => .tup [9001, 9001, 3, 4]
 | 36 => .slice 21 .i32
 | 40 => .int .i8
 | 42 => .st [(0, 1), (1, 1), (2, 1)] [.slice none 0 0, .int .i64 0, .int .i8 0] [22, 3, 40]
 | 44 => .iface
 | 45 => .ptr
 | 48 => .ptr
 | 57 => .tup [3, 4]
 | 60 => .slice 2 .i64
 | 62 => .st [(0, 1), (1, 1)] [.slice none 0 0, .slice none 0 0] [36, 1060]
 | 64 => .st [(0, 1), (1, 2)] [.slice none 0 0, .slice none 0 0, .slice none 0 0] [22, 36, 1060]
 | 68 => .iface
 | 70 => .tup [3, 44]
 | 75 => .iface
 | 76 => .tup [2, 44]
 | 80 => .int .u64
 | 84 => .int .u64
 | 86 => .fn
 | 90 => .ptr
 | 93 => .tup [2, 3]
 | 96 => .tup [80, 3]
 | 109 => .int .u32
 | 154 => .ptr
 | 1022 => .nilS
 | 1060 => .nilS
 | 3048 => .wm 148
 | 4048 => .rm 145
 | 5154 => .eqm 44
 | 6032 => .mode 1
 | 6034 => .mode 1
 | 6036 => .mode 1
 | 6037 => .mode 1
 | 6038 => .mode 1
 | 6048 => .mode 1
 | 6049 => .mode 1
 | 6146 => .mode 1
 | 6150 => .mode 1
 | 6151 => .mode 1
 | 6152 => .mode 1
 | 8022 => .mode 1
 | 8025 => .mode 1
 | 8036 => .mode 1
 | 9001 => .osl
 | _ => .other
theorem TryzTtC_ok : TTok Tryz.prog TryzTtC where
 int T k h := by
  unfold TryzTtC at h
  split at h <;> first
   | (cases h; done)
   | (cases h; exact ⟨Tryz.underlying2, _, rfl, rfl, rfl, by decide⟩)
   | (cases h; exact ⟨Tryz.underlying3, _, rfl, rfl, rfl, by decide⟩)
   | (cases h; exact ⟨Tryz.underlying5, _, rfl, rfl, rfl, by decide⟩)
   | (cases h; exact ⟨Tryz.underlying21, _, rfl, rfl, rfl, by decide⟩)
   | (cases h; exact ⟨Tryz.underlying40, _, rfl, rfl, rfl, by decide⟩)
   | (cases h; exact ⟨Tryz.underlying80, _, rfl, rfl, rfl, by decide⟩)
   | (cases h; exact ⟨Tryz.underlying84, _, rfl, rfl, rfl, by decide⟩)
   | (cases h; exact ⟨Tryz.underlying109, _, rfl, rfl, rfl, by decide⟩)
 slice T e k h := by
  unfold TryzTtC at h
  split at h <;> first
   | (cases h; done)
   | (cases h; exact ⟨Tryz.underlying22, rfl⟩)
   | (cases h; exact ⟨Tryz.underlying25, rfl⟩)
   | (cases h; exact ⟨Tryz.underlying36, rfl⟩)
   | (cases h; exact ⟨Tryz.underlying60, rfl⟩)
 one T h := by
  unfold TryzTtC at h
  split at h <;> first
   | (cases h; done)
   | (exact ⟨_, Tryz.underlying4, rfl, _, rfl, rfl⟩)
   | (exact ⟨_, Tryz.underlying22, rfl, _, rfl, rfl⟩)
   | (exact ⟨_, Tryz.underlying25, rfl, _, rfl, rfl⟩)
   | (exact ⟨_, Tryz.underlying36, rfl, _, rfl, rfl⟩)
   | (exact ⟨_, Tryz.underlying44, rfl, _, rfl, rfl⟩)
   | (exact ⟨_, Tryz.underlying45, rfl, _, rfl, rfl⟩)
   | (exact ⟨_, Tryz.underlying48, rfl, _, rfl, rfl⟩)
   | (exact ⟨_, Tryz.underlying60, rfl, _, rfl, rfl⟩)
   | (exact ⟨_, Tryz.underlying68, rfl, _, rfl, rfl⟩)
   | (exact ⟨_, Tryz.underlying75, rfl, _, rfl, rfl⟩)
   | (exact ⟨_, Tryz.underlying86, rfl, _, rfl, rfl⟩)
   | (exact ⟨_, Tryz.underlying90, rfl, _, rfl, rfl⟩)
   | (exact ⟨_, Tryz.underlying154, rfl, _, rfl, rfl⟩)
 ptr T h := by
  unfold TryzTtC at h
  split at h <;> first
   | (cases h; done)
   | (exact ⟨_, Tryz.underlying45, rfl⟩)
   | (exact ⟨_, Tryz.underlying48, rfl⟩)
   | (exact ⟨_, Tryz.underlying90, rfl⟩)
   | (exact ⟨_, Tryz.underlying154, rfl⟩)
 iface T h := by
  unfold TryzTtC at h
  split at h <;> first
   | (cases h; done)
   | (exact ⟨_, Tryz.underlying44⟩)
   | (exact ⟨_, Tryz.underlying68⟩)
   | (exact ⟨_, Tryz.underlying75⟩)
 st T fs zs ts h := by
  unfold TryzTtC at h
  split at h <;> first
   | (cases h; done)
   | (cases h; exact TryzTt_st42)
   | (cases h; exact TryzTt_st62)
   | (cases h; exact TryzTt_st64)
 write T g h a w := by
  unfold TryzTtC at h
  split at h <;> first
   | (cases h; done)
   | (rename_i e; obtain rfl : T = 48 := (by omega); cases h; exact TryzTt_write a w)
   | (cases h; exact TryzTt_write a w)
 read T g h a w := by
  unfold TryzTtC at h
  split at h <;> first
   | (cases h; done)
   | (rename_i e; obtain rfl : T = 48 := (by omega); cases h; exact TryzTt_read a w)
   | (cases h; exact TryzTt_read a w)
 eqI S T h a w := by
  unfold TryzTtC at h
  split at h <;> first
   | (cases h; done)
   | (rename_i e; obtain rfl : S = 154 := (by omega); cases h; exact TryzTt_eqI a w)
   | (cases h; exact TryzTt_eqI a w)
theorem TryzMixed : Tryz.prog.follows .mixedOrders = true := by kernel_rfl
end Go.Proofs.YtdhifgedhaapjaaGreatDoor

/- FnSorted: of whatever bytes the two arrays that the program makes are those of the sorted suffixes: the law's call answers true, and the bytes read as they did. No condition. -/
import Derived.Test.YtdhifgedhaapjaaRows
import Derived.Test.YtdhifgedhaapjaaLp
import Derived.ProofKit
namespace Go.Proofs.Ytdhifgedhaapjaa
open Go Sa Go.ChangeShapes Go.WideShapes Go.ChangeAt Go.RowKit
theorem own : ownKnob Try.prog.godebug = none := by kernel_rfl
theorem laidOut : laidOutB Try.prog = true := by kernel_rfl
theorem cells5 : Try.prog.cellsOf 5 = 1 := by kernel_rfl
def memOf (blk off len : Nat) (zs : List Int) : Mem where
 kd b o := if b = blk ∧ off ≤ o ∧ o < off + len then some .u8 else none
 ro _ := true
 val _ o := zs.getD (o - off) 0
theorem spot_none {w : World} {a : Addr} {v : Value} (h : w.cell? a = some v) : a.spot = none := by
 unfold World.cell? at h
 split at h
 ·cases hs : a.spot with
  | none => rfl
  | some x => rw [hs] at h; simp at h
 ·cases h
theorem memOf_holds {W : World} {a : Addr} {len : Nat} {zs : List Int} (hz : len ≤ zs.length) (hc : ∀ i, i < zs.length → W.cell? (a.add i) = some (.int .u8 (zs.getD i 0))) : Holds W W (memOf a.block a.off len zs) := by
 refine ⟨fun b o k hk => ?_, fun b o k hk hr => ?_, rfl, rfl, rfl, Nat.le_refl _, fun _ _ => rfl, fun _ _ => .inl rfl⟩
 ·simp only [memOf] at hk ⊢
  by_cases h : b = a.block ∧ a.off ≤ o ∧ o < a.off + len
  ·rw [if_pos h] at hk
   cases hk
   obtain ⟨rfl, h1, h2⟩ := h
   have h0 := hc 0 (by omega)
   have hs : a.spot = none := spot_none (by simpa [Addr.add] using h0)
   obtain ⟨blk, off, spot⟩ := a
   simp only at hs h1 h2 ⊢
   subst hs
   have := hc (o - off) (by omega)
   rw [add_ofNat, show off + (o - off) = o by omega] at this
   exact this
  ·rw [if_neg h] at hk; cases hk
 ·exact absurd hr (by simp [memOf])
theorem memOf_data {W : World} {a : Addr} {len cap : Nat} {zs : List Int} (hz : len ≤ zs.length) (hc : ∀ i, i < zs.length → W.cell? (a.add i) = some (.int .u8 (zs.getD i 0))) (hw : ∀ n ∈ zs, (Lit.int .u8 n).wf = true) (hcap : len ≤ cap) :
  DataOK (memOf a.block a.off len zs) (some a) len cap (fun i => zs.getD i 0) := by
 refine ⟨fun i hi => ⟨?_, ?_⟩, fun i hi => ?_, fun i hi => ?_, hcap⟩
 ·have h0 := hc 0 (by omega)
  exact spot_none (by simpa [Addr.add] using h0)
 ·simp only [memOf]; rw [if_pos ⟨trivial, by omega, by omega⟩]
 ·simp only [elemV, memOf]; rw [show a.off + i - a.off = i by omega]
 ·have hm : zs.getD i 0 ∈ zs := by
   rw [List.getD_eq_getElem?_getD, List.getElem?_eq_getElem (by omega)]
   simp
  have h := hw _ hm
  show 0 ≤ zs.getD i 0 ∧ zs.getD i 0 < 256
  generalize zs.getD i 0 = y at *
  simp [Lit.wf, IntKind.min, IntKind.max, IntKind.signed, IntKind.bits] at h
  omega
set_option maxHeartbeats 800000 in
set_option maxRecDepth 100000 in
theorem fnSorted_lifted (os : Os) (started : os.Started) (H : Type) (enc : TypeId × Value → H) :
  ReturnsInHanded {} Try.checked os 3 .any (Rows.fnSortedSpec.pre6 enc Try.prog Try.f3 Rows.fnSortedRow.domain false) (Rows.fnSortedSpec.post enc Try.prog Try.f3 false true false false) := by
 refine returnsInHanded_of_change (C := Try.checked) own started (by kernel_rfl) Try.func3
  (ChangeSpec.witness6 (enc := enc) (C := Try.checked) false ⟨#[], #[.slice none 0 0], []⟩ 8 (by kernel_rfl) (by kernel_rfl) (by kernel_rfl) (by kernel_rfl)) ?_
 intro W base args ds gs before hval0 hW _ _
 have hval : ∀ (j : Nat) t v, Try.f3.params[j]? = some t → args[j]? = some v → Value.okWide Try.prog W .any base t v := hval0
 have hW' := hW
 obtain ⟨p, q, hA0, hV, rfl, _, _⟩ := hW
 have hA : DataW.TrodAll enc Try.prog W 0 (fun _ => true) true Try.f3.params.toList args.toList ds p := hA0
 rw [Try.params3] at hA hval
 obtain ⟨v0, d0, rfl, rfl, h0⟩ := trodAll_one hA
 obtain ⟨rfl, rfl⟩ := trodVars_none hV
 obtain ⟨a0, len0, cap0, rfl⟩ := okWide_slice Try.underlying22 (hval 0 22 v0 rfl rfl)
 clear hA0 hval0
 simp only [List.append_nil] at hW'
 have hlt : ∀ x ∈ p, x.block < W.heap.size := fun x hx => by simpa using hW'.lt x hx
 have hcall : Calls Try.prog 3 #[.slice a0 len0 cap0] W fun e W' => e = .returned (.bool true) ∧ Below W.heap.size W W' := by
  have fin : ∀ {m : Mem} {T : Nat → Int}, Holds W W m → DataOK m a0 len0 cap0 T → Calls Try.prog 3 #[.slice a0 len0 cap0] W fun e W' => e = .returned (.bool true) ∧ Below W.heap.size W W' := by
   intro m T hm hd
   refine ((fnSorted (w0 := W) (K := fun v _ => v = .bool true) hd fun _ _ _ => rfl).2 W hm).mono ?_
   rintro e w' ⟨v, m', rfl, hh, rfl⟩
   exact ⟨rfl, hh.os, hh.tape, hh.output, hh.size, hh.frame⟩
  obtain ⟨fuel, hf⟩ := h0
  rcases open_ints Try.underlying22 Try.underlying5 cells5 hf with ⟨hcs, hx⟩ | ⟨a, len', cap', zs, hcs, _, hl, hm, hz, hx, hcell, hwz⟩
  ·simp [Value.cells] at hcs
   obtain ⟨rfl, rfl, rfl⟩ := hcs
   exact fin (m := memOf 0 0 0 []) (T := fun _ => 0) (memOf_holds (a := ⟨0, 0, none⟩) (Nat.le_refl _) fun i hi => absurd hi (Nat.not_lt_zero _)) ⟨⟨rfl, rfl⟩, fun i hi => absurd hi (Nat.not_lt_zero _), fun i hi => absurd hi (Nat.not_lt_zero _), Nat.le_refl _⟩
  ·simp [Value.cells] at hcs
   obtain ⟨rfl, rfl, rfl⟩ := hcs
   simp only [if_true] at hz
   exact fin (memOf_holds (by omega) hcell) (memOf_data (by omega) hcell hwz hl)
 refine hcall.mono fun e W' ⟨he, hb⟩ => ?_
 subst he
 have harg0 : DataW.Trod enc Try.prog W' 0 (fun b => decide (b < W.heap.size)) true 22 (.slice a0 len0 cap0) d0 p :=
  Below.trod laidOut (by kernel_rfl) (of_decide_eq_true (by kernel_rfl)) h0 hb hlt
 refine ⟨_, rfl, _, _, _, [], _, [], hW', ?_, trodAll_mk1 harg0, rfl, hb.frame _, fun h => by cases h⟩
 exact trodAll_mk1 (shut_bool Try.underlying4 _)
theorem fnSorted_holds : Rows.FnSortedSaid :=
 OpenClaim.holds_of_wide 3 Try.f3 rfl rfl rfl rfl rfl rfl rfl ⟨rfl, rfl, rfl, rfl, rfl⟩ rfl rfl rfl rfl rfl (by kernel_rfl) Try.func3 (by kernel_rfl)
  (of_decide_eq_true (by kernel_rfl)) (by unfold Func.isWrapper; first | (rw [if_pos (by decide +kernel)]; kernel_rfl) | (rw [if_neg (by decide +kernel)]; exact ⟨rfl, rfl⟩))
  (fun os started H enc _ => fnSorted_lifted os started H enc)
#print axioms fnSorted_holds
end Go.Proofs.Ytdhifgedhaapjaa

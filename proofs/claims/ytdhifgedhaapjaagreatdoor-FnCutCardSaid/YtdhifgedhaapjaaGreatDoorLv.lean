/- FnCut: an index whose bytes are cut short is not read: the law's call answers true, and what it was handed reads as it did. Condition: the package variables hold what the program's text lays in them (the card ties it). -/
import Derived.Test.YtdhifgedhaapjaaGreatDoorRows
import Derived.Test.YtdhifgedhaapjaaGreatDoorCards
import Derived.Test.YtdhifgedhaapjaaGreatDoorTie
import Derived.Test.YtdhifgedhaapjaaGreatDoorLu
import Derived.OpenShut
namespace Go.Proofs.YtdhifgedhaapjaaGreatDoor
open Go Sa Go.ChangeShapes Go.WideShapes Go.ChangeAt Go.RowKit
set_option maxHeartbeats 1600000 in
set_option maxRecDepth 100000 in
theorem fnCut_lifted (os : Os) (started : os.Started) (H : Type) (enc : TypeId × Value → H) :
  ReturnsInHanded {} Tryz.checked os 3 .any (fun w args => (Rows.fnCutSpec.pre enc Tryz.prog Tryz.f3 [] false w args ∧ laidMetH Tryz.prog Rows.fnCutRow.laid w) ∧ sizedMet enc Tryz.prog Tryz.f3 (OpenSpec.ofChange Rows.fnCutSpec) false w args)
   (Rows.fnCutSpec.post enc Tryz.prog Tryz.f3 false true false false) := by
 refine returnsInHanded_of_change_and (C := Tryz.checked) (X := fun w _ => laidMetH Tryz.prog Rows.fnCutRow.laid w) (fun _ _ _ hh h => h.of_heap hh) own started (by kernel_rfl) Tryz.func3
  (ChangeSpec.witness_shaped (enc := enc) (C := Tryz.checked) (os := os) (X := fun w _ => laidMetH Tryz.prog Rows.fnCutRow.laid w) false (World.doorLaid Tryz.prog 108 os) #[.slice none 0 0, .int .i64 0] 8 rfl (World.shaped_of_RefB (by kernel_rfl) (by kernel_rfl)) (by kernel_rfl) (by kernel_rfl) (by kernel_rfl) (five_met os _)) ?_
 intro W base args ds gs before hval0 hW _ _ hL _
 have hval : ∀ (j : Nat) t v, Tryz.f3.params[j]? = some t → args[j]? = some v → Value.okWide Tryz.prog W .any base t v := hval0
 have hW' := hW
 obtain ⟨p, q, hA0, hV, rfl, hfz, hnd⟩ := hW
 have hA : DataW.TrodAll enc Tryz.prog W 0 (fun _ => true) true Tryz.f3.params.toList args.toList ds p := hA0
 rw [Tryz.params3] at hA hval
 obtain ⟨v0, v1, d0, d1, p0, p1, rfl, rfl, rfl, h0, h1⟩ := trodAll_two hA
 obtain ⟨a0, len0, cap0, rfl⟩ := okWide_slice Tryz.underlying22 (hval 0 22 v0 rfl rfl)
 obtain ⟨nn, rfl, rfl, rfl, hwn⟩ := open_int Tryz.underlying3 (hval 1 3 v1 rfl rfl) h1
 obtain ⟨g1, t1, cs1, f1, dg1, pg1, g2, t2, cs2, f2, dg2, pg2, rfl, _⟩ := trodVars_two hV
 obtain ⟨hg, ⟨ea, he⟩, ⟨ub, hu⟩⟩ := five_of hL
 obtain ⟨T, hd⟩ := dt_arg h0
 clear hA0 hval0
 have hnn : nn ≤ 9223372036854775807 := by
  simp [Lit.wf, IntKind.min, IntKind.max, IntKind.signed, IntKind.bits] at hwn
  omega
 have hcall : Calls Tryz.prog 3 #[.slice a0 len0 cap0, .int .i64 nn] W fun e W' => e = .returned (.bool true) ∧ Below W.heap.size W W' := by
  refine ((fnCut_3 (w0 := W) (K := fun v _ => v = .bool true) hd hnn (ea := ea) (ub := ub) (by simp only [memW, he, Value.obj?]) (by simp only [memW, hu, Value.obj?]) (by simp only [memW, hg, Value.kd?]) (by simp only [memW, hg, Value.num?]) fun _ => rfl).2 W (memW_holds W)).mono ?_
  rintro e w' ⟨v, m', rfl, hh, rfl⟩
  exact ⟨rfl, hh.os, hh.tape, hh.output, hh.size, hh.frame⟩
 refine hcall.mono fun e W' ⟨he, hb⟩ => ?_
 subst he
 have hlt : ∀ x ∈ p0, x.block < W.heap.size := fun x hx => hW'.lt x (by simp only [List.append_nil, List.mem_append] at hx ⊢; exact .inl hx)
 have b0 : DataW.Trod enc Tryz.prog W' 0 (fun b => decide (b < W.heap.size)) true 22 (.slice a0 len0 cap0) d0 p0 :=
  Below.trod laidOut (by kernel_rfl) (of_decide_eq_true (by kernel_rfl)) h0 hb fun x hx => hlt x hx
 have b1 : DataW.Trod enc Tryz.prog W' 0 (fun b => decide (b < W.heap.size)) true 3 (.int .i64 nn) (.lit (.int .i64 nn)) [] := shut_int Tryz.underlying3 hwn
 refine ⟨_, rfl, _, _, _, [], _, _, hW', ?_, trodAll_mk2 b0 b1, Below.trodVars laidOut hb (by kernel_rfl) hV, hb.frame _, fun h => by cases h⟩
 exact trodAll_mk1 (shut_bool Tryz.underlying4 _)
theorem fnCut_holds : Rows.FnCutSaid :=
 OpenClaim.holds_of_wide 3 Tryz.f3 rfl rfl rfl rfl rfl rfl rfl ⟨rfl, rfl, rfl, rfl, rfl⟩ rfl rfl rfl rfl rfl (by kernel_rfl) Tryz.func3 (by kernel_rfl)
  (of_decide_eq_true (by kernel_rfl)) (by unfold Func.isWrapper; first | (rw [if_pos (by decide +kernel)]; kernel_rfl) | (rw [if_neg (by decide +kernel)]; exact ⟨rfl, rfl⟩))
  (fun os started H enc _ => fnCut_lifted os started H enc)
theorem fnCutCard_holds : Rows.FnCutCardSaid :=
 Claim7.holds_tied_plain_at .later [] [.sentinel, .sentinel, .sentinel, .data, .sentinel] true (true, "f3086a16e9aea9d975da33e205c700d430919eda99c942596de9c00afb58b9e7") true
  fnCut_holds (fun _ h => by cases h) (by kernel_rfl) (fun _ h => by cases h) fnCut_row_tie rfl ⟨rfl, rfl⟩ (by kernel_rfl) rfl
  (fun f fn hf hfn => by
   obtain rfl : f = 3 := Option.some.inj ((show Tryz.prog.funcNamed "loop.example/pub-suffixroads/laws.FnCut" = some 3 by kernel_rfl).symm.trans hf) |>.symm
   obtain rfl : fn = Tryz.f3 := (Option.some.inj (Tryz.func3.symm.trans hfn)).symm
   exact ⟨by kernel_rfl, fun j t ht => by
    rw [Tryz.params3] at ht
    have hm : t ∈ [22, 3] := by simpa using Array.mem_of_getElem? ht
    have hall : ([22, 3].all fun u => !Tryz.prog.wantsStandIn u) = true := by kernel_rfl
    exact (show Tryz.prog.wantsStandIn t = false by simpa using List.all_eq_true.1 hall t hm)⟩)
  (by kernel_rfl)
#print axioms fnCutCard_holds
end Go.Proofs.YtdhifgedhaapjaaGreatDoor

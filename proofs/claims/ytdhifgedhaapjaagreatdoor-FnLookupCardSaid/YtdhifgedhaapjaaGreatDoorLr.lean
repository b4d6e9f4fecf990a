/- FnLookup: whatever bytes are looked up in whatever bytes, the places that are told are such at which they stand, none twice, as many as are asked for, or all: the law's call answers true, and what it was handed reads as it did. Condition: the package variable maxData32 holds what the program's text lays in it (the card ties it). -/
import Derived.Test.YtdhifgedhaapjaaGreatDoorRows
import Derived.Test.YtdhifgedhaapjaaGreatDoorCards
import Derived.Test.YtdhifgedhaapjaaGreatDoorTie
import Derived.Test.YtdhifgedhaapjaaGreatDoorLq
import Derived.ProofKit
import Derived.LaidMore
import Derived.OpenShut
import Derived.OpenVars
import Derived.Stop.Joined
import Derived.SevenTiedAt
namespace Go.Proofs.YtdhifgedhaapjaaGreatDoor
open Go Sa Go.ChangeShapes Go.WideShapes Go.ChangeAt Go.RowKit
theorem own : ownKnob Tryz.prog.godebug = none := by kernel_rfl
theorem laidOut : laidOutB Tryz.prog = true := by kernel_rfl
theorem cells5 : Tryz.prog.cellsOf 5 = 1 := by kernel_rfl
theorem gMax : Tryz.prog.globalNamed "loop.example/pub-suffixroads/pub/suffixarray.maxData32" = some 0 := by kernel_rfl
theorem tMax : (Tryz.prog.globals[0]?).map (·.type) = some 3 := by kernel_rfl
def memW (W : World) : Mem where
 kd b o := Value.kd? (W.cell? ⟨b, o, none⟩)
 ro _ := true
 val b o := Value.num? (W.cell? ⟨b, o, none⟩)
 ob b o := Value.obj? (W.cell? ⟨b, o, none⟩)
theorem memW_holds (W : World) : Holds W W (memW W) := by
 refine ⟨fun b o k hk => ?_, fun b o k _ hr => absurd hr (by simp [memW]), fun b o v hv => ?_, fun b o v _ hr => absurd hr (by simp [memW]), fun b o v hv => ?_, rfl, rfl, rfl, Nat.le_refl _, fun _ _ => rfl, fun _ _ => .inl rfl⟩
 ·simp only [memW] at hk ⊢
  generalize W.cell? ⟨b, o, none⟩ = c at *
  match c, hk with
  | some (.int k' z), hk => simp only [Value.kd?] at hk; cases hk; rfl
 ·simp only [memW] at hv
  generalize W.cell? ⟨b, o, none⟩ = c at *
  match c, hv with
  | some v', hv =>
   cases v' <;> simp only [Value.obj?] at hv <;> first | (cases hv; done) | exact hv
 ·simp only [memW] at hv ⊢
  generalize W.cell? ⟨b, o, none⟩ = c at *
  match c, hv with
  | some v', hv =>
   cases v' <;> simp only [Value.obj?] at hv <;> first | (cases hv; done) | rfl
theorem spot_none {w : World} {a : Addr} {v : Value} (h : w.cell? a = some v) : a.spot = none := by
 unfold World.cell? at h
 split at h
 ·cases hs : a.spot with
  | none => rfl
  | some x => rw [hs] at h; simp at h
 ·cases h
theorem dt_of {W : World} {a : Addr} {len cap : Nat} {zs : List Int} (hz : len ≤ zs.length) (hc : ∀ i, i < zs.length → W.cell? (a.add i) = some (.int .u8 (zs.getD i 0))) (hw : ∀ n ∈ zs, (Lit.int .u8 n).wf = true) (hcap : len ≤ cap) :
  Dt (memW W) (some a) len cap (fun i => zs.getD i 0) := by
 refine ⟨fun hn => ?_, fun e => (by cases e), hcap⟩
 have h0 := hc 0 (by omega)
 have hs : a.spot = none := spot_none (by simpa [Addr.add] using h0)
 obtain ⟨b, o, sp⟩ := a
 simp only at hs
 subst hs
 refine ⟨b, o, rfl, fun i hi => ?_, fun i hi => ?_, fun i hi => ?_⟩
 ·have := hc i (by omega)
  rw [add_ofNat] at this
  simp only [memW, this, Value.kd?]
 ·have := hc i (by omega)
  rw [add_ofNat] at this
  simp only [memW, this, Value.num?]
 ·have hm : zs.getD i 0 ∈ zs := by
   rw [List.getD_eq_getElem?_getD, List.getElem?_eq_getElem (by omega)]
   simp
  have h := hw _ hm
  show 0 ≤ zs.getD i 0 ∧ zs.getD i 0 < 256
  generalize zs.getD i 0 = y at *
  simp [Lit.wf, IntKind.min, IntKind.max, IntKind.signed, IntKind.bits] at h
  omega
theorem dt_nil (W : World) : Dt (memW W) none 0 0 (fun _ => 0) := ⟨fun h => by omega, fun _ => ⟨rfl, rfl⟩, Nat.le_refl _⟩
theorem dt_arg {H : Type} {enc : TypeId × Value → H} {W : World} {base : Nat} {sp : Nat → Bool} {held : Bool} {a0 : Option Addr} {len0 cap0 : Nat} {d0 : DataW H} {p : List MemPlace}
  (h0 : DataW.Trod enc Tryz.prog W base sp held 22 (.slice a0 len0 cap0) d0 p) : ∃ T, Dt (memW W) a0 len0 cap0 T := by
 obtain ⟨fuel, hf⟩ := h0
 rcases open_ints Tryz.underlying22 Tryz.underlying5 cells5 hf with ⟨hcs, hx⟩ | ⟨a, len', cap', zs, hcs, _, hl, hm, hz, hx, hcell, hwz⟩
 ·simp [Value.cells] at hcs
  obtain ⟨rfl, rfl, rfl⟩ := hcs
  exact ⟨_, dt_nil W⟩
 ·simp [Value.cells] at hcs
  obtain ⟨rfl, rfl, rfl⟩ := hcs
  exact ⟨_, dt_of (by split at hz <;> omega) hcell hwz hl⟩
theorem maxD_of {W : World} (h : laidMetH Tryz.prog [("loop.example/pub-suffixroads/pub/suffixarray.maxData32", Rows.laid_loop_example_pub_suffixroads_pub_suffixarray_maxData32)] W) : W.cell? ⟨0, 0, none⟩ = some (.int .i64 2147483647) := by
 rw [MakeChecks.laidMetH_plain _ _ _ (by kernel_rfl)] at h
 obtain ⟨ps, ⟨g0, t0, cs0, f0, p0, q0, hg0, ht0, hv0, hd0, _⟩, _⟩ := h
 obtain rfl := Option.some.inj (gMax.symm.trans hg0)
 obtain rfl := Option.some.inj (tMax.symm.trans ht0)
 obtain ⟨k, e1, e2, _⟩ := DataW.trod_int Tryz.underlying3 hd0
 have hk : k = 2147483647 := by
  have h2 := e2.symm
  simp [Rows.laid_loop_example_pub_suffixroads_pub_suffixarray_maxData32] at h2
  exact h2.1
 subst hk
 have := World.var?_cell hg0 hv0 0
 obtain ⟨l⟩ := cs0
 simp only at e1
 subst e1
 simpa using this
theorem door_met (os : Os) (args : Array Value) : laidMetH Tryz.prog [("loop.example/pub-suffixroads/pub/suffixarray.maxData32", Rows.laid_loop_example_pub_suffixroads_pub_suffixarray_maxData32)] ((World.doorLaid Tryz.prog 108 os).forCall (fun _ _ => 0) ⟨#[], args, []⟩).memory :=
 laidMetH_of_parts3 (fuel := 8) (laidMet_of_run' 8 (by kernel_rfl) (by kernel_rfl)) (by kernel_rfl) (by kernel_rfl)
set_option maxHeartbeats 1600000 in
set_option maxRecDepth 100000 in
theorem fnLookup_lifted (os : Os) (started : os.Started) (H : Type) (enc : TypeId × Value → H) :
  ReturnsInHanded {} Tryz.checked os 4 .any (fun w args => (Rows.fnLookupSpec.pre enc Tryz.prog Tryz.f4 [] false w args ∧ laidMetH Tryz.prog [("loop.example/pub-suffixroads/pub/suffixarray.maxData32", Rows.laid_loop_example_pub_suffixroads_pub_suffixarray_maxData32)] w) ∧ sizedMet enc Tryz.prog Tryz.f4 (OpenSpec.ofChange Rows.fnLookupSpec) false w args)
   (Rows.fnLookupSpec.post enc Tryz.prog Tryz.f4 false true false false) := by
 refine returnsInHanded_of_change_and (C := Tryz.checked) (X := fun w _ => laidMetH Tryz.prog [("loop.example/pub-suffixroads/pub/suffixarray.maxData32", Rows.laid_loop_example_pub_suffixroads_pub_suffixarray_maxData32)] w) (fun _ _ _ hh h => h.of_heap hh) own started (by kernel_rfl) Tryz.func4
  (ChangeSpec.witness_shaped (enc := enc) (C := Tryz.checked) (os := os) (X := fun w _ => laidMetH Tryz.prog [("loop.example/pub-suffixroads/pub/suffixarray.maxData32", Rows.laid_loop_example_pub_suffixroads_pub_suffixarray_maxData32)] w) false (World.doorLaid Tryz.prog 108 os) #[.slice none 0 0, .slice none 0 0, .int .i64 0] 8 rfl (World.shaped_of_RefB (by kernel_rfl) (by kernel_rfl)) (by kernel_rfl) (by kernel_rfl) (by kernel_rfl) (door_met os _)) ?_
 intro W base args ds gs before hval0 hW _ _ hL _
 have hval : ∀ (j : Nat) t v, Tryz.f4.params[j]? = some t → args[j]? = some v → Value.okWide Tryz.prog W .any base t v := hval0
 have hW' := hW
 obtain ⟨p, q, hA0, hV, rfl, hfz, hnd⟩ := hW
 have hA : DataW.TrodAll enc Tryz.prog W 0 (fun _ => true) true Tryz.f4.params.toList args.toList ds p := hA0
 rw [Tryz.params4] at hA hval
 obtain ⟨v0, v1, v2, d0, d1, d2, p0, p1, p2, rfl, rfl, rfl, h0, h1, h2⟩ := trodAll_three hA
 obtain ⟨a0, len0, cap0, rfl⟩ := okWide_slice Tryz.underlying22 (hval 0 22 v0 rfl rfl)
 obtain ⟨a1, len1, cap1, rfl⟩ := okWide_slice Tryz.underlying22 (hval 1 22 v1 rfl rfl)
 obtain ⟨nn, rfl, rfl, rfl, hwn⟩ := open_int Tryz.underlying3 (hval 2 3 v2 rfl rfl) h2
 obtain ⟨g, tg, csg, fg, dg, pg, rfl, _⟩ := trodVars_one hV
 have hg := maxD_of hL
 obtain ⟨T, hd⟩ := dt_arg h0
 obtain ⟨S, hs⟩ := dt_arg h1
 clear hA0 hval0
 have hnn : -9223372036854775808 ≤ nn := by
  simp [Lit.wf, IntKind.min, IntKind.max, IntKind.signed, IntKind.bits] at hwn
  omega
 have hcall : Calls Tryz.prog 4 #[.slice a0 len0 cap0, .slice a1 len1 cap1, .int .i64 nn] W fun e W' => e = .returned (.bool true) ∧ Below W.heap.size W W' := by
  refine ((fnLookup_4 (w0 := W) (K := fun v _ => v = .bool true) hd hs hnn (by simp only [memW, hg, Value.kd?]) (by simp only [memW, hg, Value.num?]) fun _ _ => rfl).2 W (memW_holds W)).mono ?_
  rintro e w' ⟨v, m', rfl, hh, rfl⟩
  exact ⟨rfl, hh.os, hh.tape, hh.output, hh.size, hh.frame⟩
 refine hcall.mono fun e W' ⟨he, hb⟩ => ?_
 subst he
 have hlt : ∀ x ∈ p0 ++ p1, x.block < W.heap.size := fun x hx => hW'.lt x (by simp only [List.append_nil, List.mem_append] at hx ⊢; exact .inl hx)
 have b0 : DataW.Trod enc Tryz.prog W' 0 (fun b => decide (b < W.heap.size)) true 22 (.slice a0 len0 cap0) d0 p0 :=
  Below.trod laidOut (by kernel_rfl) (of_decide_eq_true (by kernel_rfl)) h0 hb fun x hx => hlt x (List.mem_append_left _ hx)
 have b1 : DataW.Trod enc Tryz.prog W' 0 (fun b => decide (b < W.heap.size)) true 22 (.slice a1 len1 cap1) d1 p1 :=
  Below.trod laidOut (by kernel_rfl) (of_decide_eq_true (by kernel_rfl)) h1 hb fun x hx => hlt x (List.mem_append_right _ hx)
 have b2 : DataW.Trod enc Tryz.prog W' 0 (fun b => decide (b < W.heap.size)) true 3 (.int .i64 nn) (.lit (.int .i64 nn)) [] := shut_int Tryz.underlying3 hwn
 refine ⟨_, rfl, _, _, _, [], _, _, hW', ?_, trodAll_mk3 b0 b1 b2, Below.trodVars laidOut hb (by kernel_rfl) hV, hb.frame _, fun h => by cases h⟩
 exact trodAll_mk1 (shut_bool Tryz.underlying4 _)
theorem fnLookup_holds : Rows.FnLookupSaid :=
 OpenClaim.holds_of_wide 4 Tryz.f4 rfl rfl rfl rfl rfl rfl rfl ⟨rfl, rfl, rfl, rfl, rfl⟩ rfl rfl rfl rfl rfl (by kernel_rfl) Tryz.func4 (by kernel_rfl)
  (of_decide_eq_true (by kernel_rfl)) (by unfold Func.isWrapper; first | (rw [if_pos (by decide +kernel)]; kernel_rfl) | (rw [if_neg (by decide +kernel)]; exact ⟨rfl, rfl⟩))
  (fun os started H enc _ => fnLookup_lifted os started H enc)
theorem fnLookupCard_holds : Rows.FnLookupCardSaid :=
 Claim7.holds_tied_plain_at .later [] [.data] true (true, "f3086a16e9aea9d975da33e205c700d430919eda99c942596de9c00afb58b9e7") true
  fnLookup_holds (fun _ h => by cases h) (by kernel_rfl) (fun _ h => by cases h) fnLookup_row_tie rfl ⟨rfl, rfl⟩ (by kernel_rfl) rfl
  (fun f fn hf hfn => by
   obtain rfl : f = 4 := Option.some.inj ((show Tryz.prog.funcNamed "loop.example/pub-suffixroads/laws.FnLookup" = some 4 by kernel_rfl).symm.trans hf) |>.symm
   obtain rfl : fn = Tryz.f4 := (Option.some.inj (Tryz.func4.symm.trans hfn)).symm
   exact ⟨by kernel_rfl, fun j t ht => by
    rw [Tryz.params4] at ht
    have hm : t ∈ [22, 22, 3] := by simpa using Array.mem_of_getElem? ht
    have hall : ([22, 22, 3].all fun u => !Tryz.prog.wantsStandIn u) = true := by kernel_rfl
    exact (show Tryz.prog.wantsStandIn t = false by simpa using List.all_eq_true.1 hall t hm)⟩)
  (by kernel_rfl)
#print axioms fnLookupCard_holds
end Go.Proofs.YtdhifgedhaapjaaGreatDoor

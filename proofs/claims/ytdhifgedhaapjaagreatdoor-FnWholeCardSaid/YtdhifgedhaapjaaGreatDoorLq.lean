/- Contracts of slices.Clone, slices.Sort, slices.BinarySearch at []int, in the words of this layer. -/
import Derived.Test.YtdhifgedhaapjaaGreatDoorLo
import Derived.Shelf.Slices.In.SortNone
import Derived.Shelf.Sort.Plain
import Derived.Test.YtdhifgedhaapjaaGreatDoorLp
namespace Go.Proofs.YtdhifgedhaapjaaGreatDoor
open Go Sa
structure Is (m : Mem) (b o n : Nat) (L : Nat → Int) : Prop where
 kd : ∀ i, i < n → m.kd b (o + i) = some .i64
 val : ∀ i, i < n → m.val b (o + i) = L i
theorem Is.ext {m m' : Mem} {b o n : Nat} {L : Nat → Int} (h : Is m b o n L) (e : Ext m m') : Is m' b o n L :=
 ⟨fun i hi => e.kd _ _ _ (h.kd i hi), fun i hi => (e.val _ _ _ (h.kd i hi)).trans (h.val i hi)⟩
theorem Is.cell {w0 w : World} {m : Mem} {b o n : Nat} {L : Nat → Int} (h : Is m b o n L) (hw : Holds w0 w m) : ∀ j, j < (lst L n).length → w.cell? ⟨b, o + j, none⟩ = some (.int .i64 ((lst L n).getD j 0)) := fun j hj => by
 rw [lst_length] at hj
 rw [hw.cell _ _ _ (h.kd j hj), h.val j hj, lst_getD hj]
theorem Holds.own {w0 w w' : World} {m : Mem} (h : Holds w0 w m) (hb : RowKit.Below w.heap.size w w') {e : Nat} {k : IntKind} {v : Value} {n : Nat} {L : Nat → Int}
  (ow : w'.ownsRow w.heap.size e 1 v n ((lst L n).map (Value.int k))) (hv : v ≠ .slice none 0 0) :
  ∃ g c, v = .slice (some ⟨g, 0, none⟩) n c ∧ n ≤ c ∧ m.fresh g ∧ Holds w0 w' (m.new g k n L) := by
 obtain ⟨_, h1 | ⟨g, c, cur, h1, h2, h3, h4, h5, h6, h7⟩⟩ := ow
 ·exact absurd h1.1 hv
 have hfr : m.fresh g := fun o => by
  constructor
  ·cases hk : m.kd g o with
   | none => rfl
   | some k => have := h.lt hk; omega
  ·cases hk : m.ob g o with
   | none => rfl
   | some k => have := h.lto hk; omega
 refine ⟨g, c, h1, h4, hfr, ?_⟩
 have hcur : ∀ i, i < n → cur[i]? = some (.int k (L i)) := fun i hi => by
  have h8 : (cur.toList.take (n * 1))[i]? = some (.int k (L i)) := by
   rw [h7, List.getElem?_map, lst_getElem? hi]; rfl
  rw [List.getElem?_take_of_lt (by omega)] at h8
  simpa using h8
 have hold : ∀ b, b < w0.heap.size → b ≠ g := fun b hb e => by have := h.size; omega
 have hkb : ∀ b o k', m.kd b o = some k' → b < w.heap.size := fun b o k' hk => h.lt hk
 have hnb : ∀ b o, b ≠ g → ∀ k', (m.new g k n L).kd b o = some k' → m.kd b o = some k' := fun b o hne k' hk => by
  simp only [Mem.new, if_neg hne] at hk; exact hk
 refine ⟨fun b o k' hk => ?_, fun b o k' hk hr => ?_, fun b o u hu => ?_, fun b o u hu hr => ?_, fun b o u hu => ?_, hb.os.trans h.os, hb.tape.trans h.tape, hb.output.trans h.output, Nat.le_trans h.size hb.size, fun b hb' => ?_, fun b hb' => ?_⟩
 ·by_cases hbg : b = g
  ·subst hbg
   simp only [Mem.new, if_true] at hk ⊢
   by_cases ho : o < n
   ·rw [if_pos ho] at hk
    cases hk
    simp only [World.cell?, h3]
    rw [hcur o ho]
    rfl
   ·rw [if_neg ho] at hk; cases hk
  ·have hk' := hnb b o hbg k' hk
   rw [hb.cell (hkb _ _ _ hk')]
   simp only [Mem.new, if_neg hbg]
   exact h.cell _ _ _ hk'
 ·by_cases hbg : b = g
  ·subst hbg
   simp [World.frozen?, h3]
  ·have hk' := hnb b o hbg k' hk
   simp only [Mem.new, if_neg hbg] at hr
   rw [hb.frozen (hkb _ _ _ hk')]
   exact h.free _ _ _ hk' hr
 ·have hu' : m.ob b o = some u := hu
  rw [hb.cell (h.lto hu')]
  exact h.cello _ _ _ hu'
 ·have hu' : m.ob b o = some u := hu
  have hbg : b ≠ g := fun e => by have := h.lto hu'; omega
  simp only [Mem.new, if_neg hbg] at hr
  rw [hb.frozen (h.lto hu')]
  exact h.freeo _ _ _ hu' hr
 ·have hu' : m.ob b o = some u := hu
  have hbg : b ≠ g := fun e => by have := h.lto hu'; omega
  simp only [Mem.new, if_neg hbg]
  exact h.dis _ _ _ hu'
 ·exact (hb.block b (Nat.lt_of_lt_of_le hb' h.size)).trans (h.frame b hb')
 ·have hbg := hold b hb'
  rcases h.old b hb' with h9 | h9
  ·exact .inl (by simp only [Mem.new, if_neg hbg]; exact h9)
  ·exact .inr fun o => by simp only [Mem.new, if_neg hbg]; exact h9 o
theorem clone_25 {w0 : World} {m : Mem} {b o n c : Nat} {L : Nat → Int} {K : Value → Mem → Prop} (hn : n ≤ 1000000) (hI : Is m b o n L)
  (hK : ∀ g c', n ≤ c' → m.fresh g → ∀ m', m' = m.new g .i64 n L → K (.slice (some ⟨g, 0, none⟩) n c') m') : callV Tryz.prog w0 25 [.slice (some ⟨b, o, none⟩) n c] m K := by
 refine ⟨⟨Tryz.f25, Tryz.func25, by kernel_rfl, by kernel_rfl⟩, fun w hw => ?_⟩
 refine (show Calls Tryz.prog 25 _ w _ from Any.slices_Clone_int Tryz.lays15 b o n c (lst L n) w (by rw [lst_length]; exact Nat.le_refl _) (by omega) (hI.cell hw)).mono ?_
 rintro e w' ⟨v, he, how, hv, hb⟩
 rw [List.take_of_length_le (by rw [lst_length]; exact Nat.le_refl _)] at how
 obtain ⟨g, c', h1, h2, h3, h4⟩ := hw.own hb how hv
 exact ⟨v, _, he, h4, by rw [h1]; exact hK g c' h2 h3 _ rfl⟩
theorem clone_nil {w0 : World} {m : Mem} {K : Value → Mem → Prop} (hK : K (.slice none 0 0) m) : callV Tryz.prog w0 25 [.slice none 0 0] m K := by
 refine ⟨⟨Tryz.f25, Tryz.func25, by kernel_rfl, by kernel_rfl⟩, fun w hw => ?_⟩
 refine (show Calls Tryz.prog 25 _ w _ from Any.slices_Clone_int_nil Tryz.lays15 0 0 w).mono ?_
 rintro e w' ⟨he, hw'⟩
 exact ⟨_, m, he, hw' ▸ hw, hK⟩
theorem search_q {m : Mem} {b o n c : Nat} {L : Nat → Int} {x : Int} (hn : n ≤ 1000000) (hI : Is m b o n L) (hs : (lst L n).Pairwise (· ≤ ·)) :
  quietV Tryz.prog 27 [.slice (some ⟨b, o, none⟩) n c, .int .i64 x] m (.tuple #[.int .i64 ((lst L n).countP (· < x) : Nat), .bool ((lst L n).contains x)]) :=
 quiet_of_same ⟨Tryz.f27, Tryz.func27, by kernel_rfl, by kernel_rfl⟩ fun w1 w hw => by
  have hI' : Is m.lock b o n L := ⟨hI.kd, hI.val⟩
  have := Any.slices_BinarySearch_int Tryz.lays25 b o n c (lst L n) x w (by rw [lst_length]; exact Nat.le_refl _) (by omega) (hI'.cell hw) (by rw [List.take_of_length_le (by rw [lst_length]; exact Nat.le_refl _)]; exact hs)
  rw [List.take_of_length_le (by rw [lst_length]; exact Nat.le_refl _)] at this
  exact this
theorem Holds.below {w0 w w' : World} {m : Mem} (h : Holds w0 w m) (B : RowKit.Below w.heap.size w w') : Holds w0 w' m :=
 ⟨fun b o k hk => by rw [B.cell (h.lt hk)]; exact h.cell _ _ _ hk, fun b o k hk hr => by rw [B.frozen (h.lt hk)]; exact h.free _ _ _ hk hr, fun b o v hv => by rw [B.cell (h.lto hv)]; exact h.cello _ _ _ hv,
  fun b o v hv hr => by rw [B.frozen (h.lto hv)]; exact h.freeo _ _ _ hv hr, h.dis, B.os.trans h.os, B.tape.trans h.tape, B.output.trans h.output, Nat.le_trans h.size B.size,
  fun b hb => (B.block b (Nat.lt_of_lt_of_le hb h.size)).trans (h.frame b hb), h.old⟩
theorem Holds.sorted {w0 w : World} {m : Mem} (h : Holds w0 w m) {b o n : Nat} {L : Nat → Int} (hI : Is m b o n L) (hr : m.ro b = false) (q : Nat) (os : Array Obj) {d : Array Int} (hd : d.size = n) (h0 : 0 < n) :
  Holds w0 (Go.Sort.grow (Go.Sort.putRow (Value.int .i64) (Go.Sort.ahead w q) b o d) os) (m.put b o n (fun i => d[i]!)) := by
 have hrow : Go.Sort.Holds (Value.int .i64) (Go.Sort.ahead w q) b o (lst L n).toArray := fun j hj => by
  have hj' : j < n := by simpa [lst_length] using hj
  rw [Go.Sort.cell?_ahead]
  refine ⟨?_, h.free _ _ _ (hI.kd j hj') hr⟩
  rw [h.cell _ _ _ (hI.kd j hj'), hI.val j hj']
  have hz := lst_getElem? (T := L) hj'
  congr 2
  have : (lst L n).toArray[j]? = some (L j) := by simpa using hz
  rw [getElem!_def, this]
 have hsz : d.size = (lst L n).toArray.size := by simp [lst_length, hd]
 have h2 : Holds w0 (Go.Sort.putRow (Value.int .i64) (Go.Sort.ahead w q) b o d) (m.put b o n (fun i => d[i]!)) := by
  refine ⟨fun b' o' k hk => ?_, fun b' o' k hk hr' => ?_, fun b' o' v hv => ?_, fun b' o' v hv hr' => ?_, h.dis, h.os, h.tape, h.output, ?_, fun b' hb' => ?_, h.old⟩
  ·have hk' : m.kd b' o' = some k := hk
   simp only [Mem.put]
   by_cases hin : b' = b ∧ o ≤ o' ∧ o' < o + n
   ·rw [if_pos hin]
    obtain ⟨rfl, h3, h4⟩ := hin
    have hkk : k = .i64 := by
     have := hI.kd (o' - o) (by omega)
     rw [show o + (o' - o) = o' by omega] at this
     rw [hk'] at this; exact Option.some.inj this
    subst hkk
    have := Go.Sort.cell?_putRow (Value.int .i64) (Go.Sort.ahead w q) b' o (lst L n).toArray d hrow hsz (o' - o) (by omega)
    rw [show o + (o' - o) = o' by omega] at this
    exact this
   ·rw [if_neg hin, Go.Sort.cell?_putRow_other _ _ _ _ _ _ (by show b' ≠ b ∨ o' < o ∨ o + d.size ≤ o'; omega), Go.Sort.cell?_ahead]
    exact h.cell _ _ _ hk'
  ·rw [Go.Sort.frozen?_putRow]
   exact h.free _ _ _ hk hr'
  ·have hv' : m.ob b' o' = some v := hv
   have hin : ¬ (b' = b ∧ o ≤ o' ∧ o' < o + n) := fun ⟨e, h3, h4⟩ => by
    subst e
    have := hI.kd (o' - o) (by omega)
    rw [show o + (o' - o) = o' by omega, h.dis _ _ _ hv'] at this; cases this
   rw [Go.Sort.cell?_putRow_other _ _ _ _ _ _ (by show b' ≠ b ∨ o' < o ∨ o + d.size ≤ o'; omega), Go.Sort.cell?_ahead]
   exact h.cello _ _ _ hv'
  ·rw [Go.Sort.frozen?_putRow]
   exact h.freeo _ _ _ hv hr'
  ·rw [Go.Sort.size_putRow]; exact h.size
  ·have hne := h.ne_old hr (o := o + 0) (.inl (by rw [hI.kd 0 h0]; simp)) hb'
   have : (Go.Sort.putRow (Value.int .i64) (Go.Sort.ahead w q) b o d).heap[b']? = w.heap[b']? := by
    simp [Go.Sort.putRow, Go.Sort.mapBlock, Array.getElem?_modify, Ne.symm hne, Go.Sort.ahead]
   rw [this]; exact h.frame b' hb'
 refine h2.below ⟨rfl, rfl, rfl, ?_, fun k hk => Go.Sort.heap_grow_old _ _ hk⟩
 rw [Go.Sort.size_grow]; exact Nat.le_add_right _ _
theorem sort_26 {w0 : World} {m : Mem} {b o n c : Nat} {L : Nat → Int} {K : Value → Mem → Prop} (hn : n ≤ 1000000) (h0 : 0 < n) (hI : Is m b o n L) (hr : m.ro b = false)
  (hK : ∀ m', m' = m.put b o n (fun i => ((lst L n).mergeSort fun x y => decide (x ≤ y)).getD i 0) → K (.tuple #[]) m') : callV Tryz.prog w0 26 [.slice (some ⟨b, o, none⟩) n c] m K := by
 refine ⟨⟨Tryz.f26, Tryz.func26, by kernel_rfl, by kernel_rfl⟩, fun w hw => ?_⟩
 have hrow : Go.Sort.Holds (Value.int .i64) w b o (lst L n).toArray := fun j hj => by
  have hj' : j < n := by simpa [lst_length] using hj
  refine ⟨?_, hw.free _ _ _ (hI.kd j hj') hr⟩
  rw [hw.cell _ _ _ (hI.kd j hj'), hI.val j hj']
  have hz := lst_getElem? (T := L) hj'
  congr 2
  have : (lst L n).toArray[j]? = some (L j) := by simpa using hz
  rw [getElem!_def, this]
 have hc := Any.slices_Sort_int Tryz.lays189 b o c (lst L n) w hrow (hw.lt (hI.kd 0 h0)) (by rw [lst_length]; omega)
 rw [lst_length] at hc
 refine (show Calls Tryz.prog 26 _ w _ from hc).mono ?_
 rintro e w' ⟨he, q, os, rfl⟩
 refine ⟨_, _, he, hw.sorted hI hr q os (by simp [lst_length]) h0, hK _ ?_⟩
 congr 1
 funext i
 rw [List.getD_eq_getElem?_getD, getElem!_def]
 simp only [List.getElem?_toArray]
 cases ((lst L n).mergeSort fun x y => decide (x ≤ y))[i]? <;> rfl
theorem sort_nil {w0 : World} {m : Mem} {K : Value → Mem → Prop} (hK : K (.tuple #[]) m) : callV Tryz.prog w0 26 [.slice none 0 0] m K := by
 refine ⟨⟨Tryz.f26, Tryz.func26, by kernel_rfl, by kernel_rfl⟩, fun w hw => ?_⟩
 refine (show Calls Tryz.prog 26 _ w _ from Any.slices_Sort_int_none Tryz.lays189 none 0 w).mono ?_
 rintro e w' ⟨he, hw'⟩
 exact ⟨_, m, he, hw' ▸ hw, hK⟩
end Go.Proofs.YtdhifgedhaapjaaGreatDoor
namespace Go.Proofs.YtdhifgedhaapjaaGreatDoor
open Go Sa
theorem places_pre {T : Nat → Int} {n : Nat} {S : List Int} (i : Nat) : ∀ d, places T n S i <+: places T n S (i + d)
 | 0 => List.prefix_refl _
 | d + 1 => by
  rw [← Nat.add_assoc, places_succ]
  exact (places_pre i d).trans (List.prefix_append _ _)
theorem places_getD {T : Nat → Int} {n : Nat} {S : List Int} {i j : Nat} (hij : i ≤ j) {q : Nat} (hq : q < (places T n S i).length) : (places T n S j).getD q 0 = (places T n S i).getD q 0 := by
 obtain ⟨d, rfl⟩ : ∃ d, j = i + d := ⟨j - i, by omega⟩
 obtain ⟨r, hr⟩ := places_pre (T := T) (n := n) (S := S) i d
 rw [← hr, List.getD_eq_getElem?_getD, List.getD_eq_getElem?_getD, List.getElem?_append_left hq]
theorem places_zero {T : Nat → Int} {n : Nat} {S : List Int} : places T n S 0 = [] := rfl
theorem places_len {T : Nat → Int} {n : Nat} {S : List Int} : ∀ i, (places T n S i).length ≤ i
 | 0 => Nat.le_refl _
 | i + 1 => by
  rw [places_succ, List.length_append]
  have := places_len (T := T) (n := n) (S := S) i
  split <;> simp <;> omega
section
variable {T S : Nat → Int} {n ls cd cs : Nat} {sd ss : Option Addr}
noncomputable def allP (T S : Nat → Int) (n ls : Nat) : List Int := if ls = 0 then [] else places T n (lst S ls) n
theorem places_24 {w0 : World} {m : Mem} {K : Value → Mem → Prop} (hd : Dt m sd n cd T) (hs : Dt m ss ls cs S) (hn : n ≤ 100000) (hl : ls ≤ 100000)
  (hK : ∀ v m', SameK m m' → Out m m' (fun x _ => m.fresh x) → IntsOK m m' v (allP T S n ls).length (fun q => (allP T S n ls).getD q 0) → K v m') :
  callV Tryz.prog w0 24 [.slice sd n cd, .slice ss ls cs] m K := by
 have rT : 0 < n → ∀ i, i < n → 0 ≤ T i ∧ T i < 256 := fun h => by obtain ⟨_, _, _, h⟩ := hd.at_ h; exact h.rg
 have rS : 0 < ls → ∀ x ∈ lst S ls, 0 ≤ x ∧ x < 256 := fun h => by obtain ⟨_, _, _, h⟩ := hs.at_ h; exact lst_rg h.rg
 refine C_F24 (I0 := fun ps ls1 m1 => ps = [.os sd n cd, .os ss ls cs] ∧ ∃ (v : Value) (i : Nat), ls1 = [.vv v, .iv .i64 i] ∧ i ≤ n ∧ (ls = 0 → i = 0) ∧ SameK m m1 ∧ Out m m1 (fun x _ => m.fresh x) ∧
   IntsOK m m1 v (places T n (lst S ls) i).length (fun q => (places T n (lst S ls) n).getD q 0))
  (X0 := fun _ _ ls1 m1 => ∃ (v : Value) (i : Nat), ls1 = [.vv v, .iv .i64 i] ∧ SameK m m1 ∧ Out m m1 (fun x _ => m.fresh x) ∧ IntsOK m m1 v (allP T S n ls).length (fun q => (allP T S n ls).getD q 0))
  (mu0 := fun _ ls1 => match ls1 with | [_, .iv _ i] => (n - i : Int).toNat | _ => 0) ?_ ?_
 ·rintro sd' ld' cd' ss' ls' cs' out i k m1 ⟨hps, v, i', hls, hi, hz, hsk, hou, hints⟩ hmu
  unfold P0_F24 at hps
  simp only [List.cons.injEq, SV.os.injEq, SV.vv.injEq, SV.iv.injEq, true_and, and_true] at hps hls
  obtain ⟨⟨e1, e2, e3⟩, e4, e5, e6⟩ := hps
  obtain ⟨e7, e8⟩ := hls
  subst e1 e2 e3 e4 e5 e6 e7 e8
  have e01 := Ext.of hsk hou
  have done : (ls' = 0 ∨ ld' < i' + ls') → XF1 L0_F24 (fun _ _ ls1 m1 => ∃ (v : Value) (i : Nat), ls1 = [.vv v, .iv .i64 i] ∧ SameK m m1 ∧ Out m m1 (fun x _ => m.fresh x) ∧ IntsOK m m1 v (allP T S ld' ls').length (fun q => (allP T S ld' ls').getD q 0)) 0 (P0_F24 sd' ld' cd' ss' ls' cs') [out, .int .i64 i'] m1 := fun hend => by
   refine XF1_mk ⟨out, i', rfl, hsk, hou, ?_⟩
   unfold allP
   rcases Nat.eq_zero_or_pos ls' with h0 | h0
   ·rw [if_pos h0]
    have hi0 := hz h0
    subst hi0
    obtain ⟨sb, c, h1, h2, h3⟩ := hints
    refine ⟨sb, c, h1, h2, ?_⟩
    rw [places_zero] at h3
    cases sb with
    | none => exact h3
    | some a =>
     obtain ⟨b, o, pth⟩ := a
     cases pth with
     | some _ => exact h3
     | none => exact absurd h3.1 (by simp)
   ·rw [if_neg (by omega)]
    have hlt : ld' < i' + (lst S ls').length := by rw [lst_length]; omega
    rw [← places_more hlt hi]
    rw [← places_more hlt hi] at hints
    exact hints
  unfold R0_F24
  refine cond_of (fun hb => ?_) (fun hb => done (.inl (by have := of_decide_eq_false hb; omega)))
  have hl0 := of_decide_eq_true hb
  refine ⟨inR_i64 (by omega) (by omega), cond_of (fun hb => ?_) (fun hb => done (.inr (by have := of_decide_eq_false hb; omega)))⟩
  have hin := of_decide_eq_true hb
  obtain ⟨b, o, rfl, hby⟩ := hd.at_ (by omega)
  have hcd := hd.le
  have hrT := rT (by omega)
  have hrS := rS (by omega)
  have hby1 := hby.ext e01
  have hs1 := hs.ext e01
  have hmu' : ((ld' : Int) - (i' : Int)).toNat < k + 1 := hmu
  refine ⟨by omega, by omega, hcd, ?_⟩
  rw [Int.toNat_natCast, if_neg (by omega)]
  have hq := prefix_q (Dt.of (hby1.drop (i := i') (by omega)) (c := cd' - i') (by omega)) hs1
  rw [lst_sufl] at hq
  refine callV_of_quiet hq ⟨_, rfl, cond_of (fun hb => ?_) (fun hb => ?_)⟩
  ·have hpre : lst S ls' <+: sufl T ld' i' := (bytesOf_prefix (by rw [← lst_sufl]; exact lst_rg (hby1.drop (i := i') (by omega)).rg) hrS).1 hb
   have hsucc : places T ld' (lst S ls') (i' + 1) = places T ld' (lst S ls') i' ++ [(i' : Int)] := by
    rw [places_succ, if_pos hpre]
   rintro B8 hB8 m9 rfl
   have hA : (i' : Int) = (fun q => (places T ld' (lst S ls') ld').getD q 0) (places T ld' (lst S ls') i').length := by
    show _ = (places T ld' (lst S ls') ld').getD _ 0
    rw [places_getD (i := i' + 1) (by omega) (by rw [hsucc]; simp), hsucc, List.getD_eq_getElem?_getD]
    simp
   have hfun : (fun _ : Nat => (i' : Int)) = fun _ => (fun q => (places T ld' (lst S ls') ld').getD q 0) (places T ld' (lst S ls') i').length := by funext _; exact hA
   rw [hfun]
   have hlen := places_len (T := T) (n := ld') (S := lst S ls') i'
   refine hints.push (hsk.trans (SameK.new hB8 _ _ _)) (fun x y hx => ?_) hB8 (by omega) fun v2 m2 h1 h2 h3 => ⟨inR_i64 (by omega) (by omega), KF1_mk ⟨⟨rfl, v2, i' + 1, by simp, by omega, fun h => by omega, h1, h2, ?_⟩, ?_⟩⟩
   ·have hne : x ≠ B8 := fun e => hx (e ▸ hsk.fresh hB8)
    simp only [Mem.new, if_neg hne]
    exact hou x y hx
   ·rw [hsucc, List.length_append]; exact h3
   ·show ((ld' : Int) - ((i' : Int) + 1)).toNat < k
    omega
  ·have hnp : ¬ lst S ls' <+: sufl T ld' i' := fun h => by
    have := (bytesOf_prefix (by rw [← lst_sufl]; exact lst_rg (hby1.drop (i := i') (by omega)).rg) hrS).2 h
    rw [this] at hb; cases hb
   have hsucc : places T ld' (lst S ls') (i' + 1) = places T ld' (lst S ls') i' := by
    rw [places_succ, if_neg hnp, List.append_nil]
   refine ⟨inR_i64 (by omega) (by omega), KF1_mk ⟨⟨rfl, out, i' + 1, by simp, by omega, fun h => by omega, hsk, hou, ?_⟩, ?_⟩⟩
   ·rw [hsucc]; exact hints
   ·show ((ld' : Int) - ((i' : Int) + 1)).toNat < k
    omega
 ·refine ⟨⟨rfl, .slice none 0 0, 0, rfl, Nat.zero_le _, fun _ => rfl, SameK.refl _, Out.refl _ _, none, 0, rfl, Nat.le_refl _, rfl, rfl⟩, ?_⟩
  rintro z1 z2 m3 ⟨v, i, hls, h1, h2, h3⟩ _
  simp only [List.cons.injEq, SV.vv.injEq, SV.iv.injEq, true_and, and_true] at hls
  obtain ⟨rfl, _⟩ := hls
  exact hK _ _ h1 h2 h3
theorem allP_sorted : (allP T S n ls).Pairwise (· < ·) := by
 unfold allP
 split
 ·exact List.Pairwise.nil
 ·exact places_sorted n
def GotOK (m : Mem) (v : Value) (all : List Int) (nn : Int) : Prop :=
 ∃ (k : Nat) (L : Nat → Int), k = many all.length nn ∧ (lst L k).Nodup ∧ (∀ x ∈ lst L k, x ∈ all) ∧ ((k = 0 ∧ v = .slice none 0 0) ∨ (0 < k ∧ ∃ b o c, v = .slice (some ⟨b, o, none⟩) k c ∧ Is m b o k L))
theorem many_le (k : Nat) (nn : Int) : many k nn ≤ k := by
 unfold many; split
 ·exact Nat.le_refl _
 ·exact Nat.min_le_left _ _
theorem many_pos {k : Nat} {nn : Int} (h : 0 ≤ nn) : (many k nn : Int) = if nn < (k : Int) then nn else (k : Int) := by
 unfold many
 rw [if_neg (by omega)]
 split <;> omega
theorem lst_getD_self (l : List Int) : lst (fun q => l.getD q 0) l.length = l := by
 apply List.ext_getElem
 ·simp [lst_length]
 ·intro i h1 h2
  simp [lst, h2]
theorem found_8 {w0 : World} {m : Mem} {nn : Int} {v : Value} {K : Value → Mem → Prop} (hd : Dt m sd n cd T) (hs : Dt m ss ls cs S) (hn : n ≤ 100000) (hl : ls ≤ 100000) (hg : GotOK m v (allP T S n ls) nn)
  (hK : ∀ m', Ext m m' → K (.bool true) m') : callV Tryz.prog w0 8 [.slice sd n cd, .slice ss ls cs, .int .i64 nn, v] m K := by
 have hall : (allP T S n ls).length ≤ n := by
  unfold allP; split
  ·simp
  ·exact places_len n
 have hsrt := allP_sorted (T := T) (S := S) (n := n) (ls := ls)
 generalize hA : allP T S n ls = all at *
 obtain ⟨k, L, hk, hnd, hmem, ⟨h0, rfl⟩ | ⟨h0, b, o, c, rfl, hI⟩⟩ := hg
 ·-- none told
  refine C_F8N (I0 := fun ps ls1 m1 => (∃ x y z, ps = [.os x y z, .nl, .nl, .iv .i64 0]) ∧ ls1 = [.bv false, .iv .i64 0] ∧ Ext m m1) (X0 := fun j _ ls1 m1 => j = 0 ∧ Ext m m1) (mu0 := fun _ _ => 0) ?_ ?_
  ·rintro s_a l_a c_a s35 s8 s36 k1 m1 ⟨⟨x, y, z, hps⟩, hls, he⟩ hmu
   unfold P0_F8N at hps
   simp at hps hls
   obtain ⟨_, rfl⟩ := hps
   obtain ⟨rfl, rfl⟩ := hls
   unfold R0_F8N
   refine cond_of (fun hb => absurd (of_decide_eq_true hb) (by omega)) (fun _ => XF1_mk ⟨rfl, he⟩)
  ·unfold M_F8N
   refine places_24 hd hs hn hl fun v' m' hsk hou hints => ?_
   rw [hA] at hints
   obtain ⟨sb, c1, rfl, hle, hsb⟩ := hints
   have e1 := Ext.of hsk hou
   have tail : ∀ {i} {x : Option Addr} {y z : Nat} (m1 : Mem), Ext m m1 → ((fun ps ls1 m1 => (∃ x y z, ps = [.os x y z, .nl, .nl, .iv .i64 0]) ∧ ls1 = [.bv false, .iv .i64 0] ∧ Ext m m1 : LI) (P0_F8N x y z (↑(0 : Nat) : Int)) [.bv false, .iv .i64 (0 : Int)] m1) ∧
     (∀ (z10 : Bool) (z11 : Int) (m12 : Mem), (i = 0 ∧ Ext m m12) → ∀ _ : Env, K (.bool (if i = 0 then true else z10)) m12) := fun {i x y z} m1 he =>
    ⟨⟨⟨x, y, z, rfl⟩, rfl, he⟩, fun _ _ m12 h _ => by rw [if_pos h.1]; exact hK m12 h.2⟩
   refine ⟨sb, _, c1, rfl, cond_of (fun hb => cond_of (fun hb2 => ?_) (fun _ => ?_)) (fun hb => cond_of (fun hb2 => ?_) (fun _ => ?_))⟩
   ·exfalso
    have hge := of_decide_eq_true hb
    rw [← many_pos hge, ← hk, h0] at hb2
    simp at hb2
   ·refine clone_nil ⟨rfl, sort_nil ⟨(tail (i := 0) m' e1).1, fun z10 z11 m12 h _ => hK m12 h.2, fun z13 z14 m15 h _ => absurd h.1 (by decide)⟩⟩
   ·exfalso
    have hlt := of_decide_eq_false hb
    unfold many at hk
    rw [if_pos (by omega)] at hk
    rw [← hk, h0] at hb2
    simp at hb2
   ·refine clone_nil ⟨rfl, sort_nil ⟨(tail (i := 0) m' e1).1, fun z10 z11 m12 h _ => hK m12 h.2, fun z13 z14 m15 h _ => absurd h.1 (by decide)⟩⟩
 ·-- some told
  have hkl : k ≤ all.length := hk ▸ many_le _ _
  let srt := (lst L k).mergeSort fun x y => decide (x ≤ y)
  have hperm : srt.Perm (lst L k) := List.mergeSort_perm _ _
  have hslen : srt.length = k := by rw [hperm.length_eq, lst_length]
  have hsnd : srt.Nodup := hperm.nodup_iff.2 hnd
  have hsmem : ∀ x ∈ srt, x ∈ all := fun x hx => hmem x (hperm.mem_iff.1 hx)
  refine C_F8S (I0 := fun ps ls1 m1 => ∃ (ba oa ca bg og cg : Nat) (i : Nat), ps = [.sl ba oa all.length ca, .sl bg og k cg, .sl bg og k cg, .iv .i64 k] ∧ ls1 = [.bv false, .iv .i64 i] ∧ i ≤ k ∧ Ext m m1 ∧
    Is m1 ba oa all.length (fun q => all.getD q 0) ∧ Is m1 bg og k (fun q => srt.getD q 0)) (X0 := fun j _ ls1 m1 => j = 0 ∧ Ext m m1) (mu0 := fun _ ls1 => match ls1 with | [_, .iv _ i] => (k - i : Int).toNat | _ => 0) ?_ ?_
  ·rintro b_a o_a l_a c_a bi oi li ci b34 o34 l34 c34 s35 s8 s36 k1 m1 ⟨ba, oa, ca, bg, og, cg, i, hps, hls, hi, he, hIa, hIs⟩ hmu
   unfold P0_F8S at hps
   simp only [List.cons.injEq, SV.sl.injEq, SV.iv.injEq, SV.bv.injEq, true_and, and_true] at hps hls
   obtain ⟨⟨e1, e2, e3, e4⟩, ⟨e5, e6, e7, e8⟩, ⟨e9, e10, e11, e12⟩, e13⟩ := hps
   obtain ⟨e14, e15⟩ := hls
   subst e1 e2 e3 e4 e5 e6 e7 e8 e9 e10 e11 e12 e13 e14 e15
   have hmu' : ((l34 : Int) - (i : Int)).toNat < k1 + 1 := hmu
   unfold R0_F8S
   refine cond_of (fun hb => ?_) (fun hb => XF1_mk ⟨rfl, he⟩)
   have hlt := of_decide_eq_true hb
   have hil : i < l34 := by omega
   rw [Int.toNat_natCast]
   have hget : ∀ q, q < l34 → srt[q]? = some (srt.getD q 0) := fun q hq => by
    rw [List.getD_eq_getElem?_getD, List.getElem?_eq_getElem (by omega)]; rfl
   have hin : srt.getD i 0 ∈ all := hsmem _ (List.mem_of_getElem? (hget i hil))
   refine ⟨by omega, by omega, hIs.kd i hil, ?_⟩
   rintro z rfl
   rw [hIs.val i hil]
   have step : callV Tryz.prog w0 27 [.slice (some ⟨b_a, o_a, none⟩) all.length c_a, .int .i64 (srt.getD i 0)] m1 fun v75 m76 => ∃ (z77 : Int) (z78 : Bool), v75 = (.tuple #[(.int .i64 z77), (.bool z78)]) ∧
     cond (!z78) (XF1 L0_F8S (fun j _ ls1 m1 => j = 0 ∧ Ext m m1) 1 (P0_F8S b_a o_a all.length c_a b34 o34 l34 c34 b34 o34 l34 c34 (l34 : Int)) [(.bool false), (.int .i64 i)] m76)
      (inR .i64 ((i : Int) + (1 : Int)) ∧ KF1 L0_F8S (fun ps ls1 m1 => ∃ (ba oa ca bg og cg : Nat) (i : Nat), ps = [.sl ba oa all.length ca, .sl bg og l34 cg, .sl bg og l34 cg, .iv .i64 l34] ∧ ls1 = [.bv false, .iv .i64 i] ∧ i ≤ l34 ∧ Ext m m1 ∧
       Is m1 ba oa all.length (fun q => all.getD q 0) ∧ Is m1 bg og l34 (fun q => srt.getD q 0)) (fun _ ls1 => match ls1 with | [_, .iv _ i] => (l34 - i : Int).toNat | _ => 0) (P0_F8S b_a o_a all.length c_a b34 o34 l34 c34 b34 o34 l34 c34 (l34 : Int)) k1 [(.bool false), (.int .i64 ((i : Int) + (1 : Int)))] m76) := by
    have hq := search_q (x := srt.getD i 0) (c := c_a) (by omega) hIa (by rw [lst_getD_self]; exact hsrt.imp (fun h => Int.le_of_lt h))
    refine callV_of_quiet hq ⟨_, _, rfl, cond_of (fun hb => ?_) (fun _ => ?_)⟩
    ·rw [lst_getD_self, List.contains_iff_mem.2 hin] at hb
     cases hb
    ·refine ⟨inR_i64 (by omega) (by omega), KF1_mk ⟨⟨b_a, o_a, c_a, b34, o34, c34, i + 1, rfl, by simp, by omega, he, hIa, hIs⟩, ?_⟩⟩
     show ((l34 : Int) - ((i : Int) + 1)).toNat < k1
     omega
   refine cond_of (fun hb => ?_) (fun _ => step)
   have hi0 := of_decide_eq_true hb
   refine ⟨inR_i64 (by omega) (by omega), by omega, by omega, ?_⟩
   rw [show Int.toNat ((i : Int) - 1) = i - 1 by omega]
   refine ⟨hIs.kd _ (by omega), ?_⟩
   rintro z rfl
   rw [hIs.val _ (by omega)]
   refine cond_of (fun hb => ?_) (fun _ => step)
   exfalso
   have heq : srt.getD (i - 1) 0 = srt.getD i 0 := by simpa using hb
   have h1 := hget (i - 1) (by omega)
   have h2 := hget i hil
   rw [heq] at h1
   have := (List.pairwise_iff_getElem.1 hsnd) (i - 1) i (by omega) (by omega) (by omega)
   rw [List.getElem?_eq_getElem (by omega)] at h1 h2
   exact this (Option.some.inj (h1.trans h2.symm))
  ·unfold M_F8S
   refine places_24 hd hs hn hl fun v' m' hsk hou hints => ?_
   rw [hA] at hints
   obtain ⟨sb, c1, rfl, hle, hsb⟩ := hints
   have e1 := Ext.of hsk hou
   rcases sb with _ | ⟨ba, oa, _ | _⟩
   ·obtain ⟨h, _⟩ := hsb; omega
   ·obtain ⟨_, _, _, hak, hav⟩ := hsb
    have hIa : Is m' ba oa all.length (fun q => all.getD q 0) := ⟨fun i hi => hak i (by omega), hav⟩
    have hI1 := hI.ext e1
    refine ⟨ba, oa, all.length, c1, rfl, cond_of (fun hb => cond_of (fun hb2 => ?_) (fun _ => ?_)) (fun hb => cond_of (fun hb2 => ?_) (fun _ => ?_))⟩
    ·exfalso
     have hge := of_decide_eq_true hb
     rw [← many_pos hge, ← hk] at hb2
     simp at hb2
    rotate_left
    ·exfalso
     have hlt := of_decide_eq_false hb
     unfold many at hk
     rw [if_pos (by omega)] at hk
     rw [hk] at hb2
     simp at hb2
    all_goals
     refine clone_25 (by omega) hI1 fun g c' hc' hfg m8 hm8 => ⟨g, 0, k, c', rfl, ?_⟩
     have e8 : Ext m' m8 := hm8 ▸ Ext.new m' hfg _ _ _
     have hI8 : Is m8 g 0 k L := ⟨fun i hi => by rw [hm8]; simp only [Mem.new, if_true]; rw [if_pos (by omega)], fun i hi => by rw [hm8]; simp only [Mem.new, if_true, Nat.zero_add]⟩
     refine sort_26 (by omega) h0 hI8 (by rw [hm8]; simp [Mem.new]) fun m9 hm9 => ?_
     have e9 : Ext m' m9 := by
      refine ⟨fun x y i h => by rw [hm9]; exact e8.kd _ _ _ h, fun x y i h => ?_, fun x y i h => by rw [hm9]; exact e8.ob _ _ _ h, fun x h => by rw [hm9]; exact e8.ro _ h⟩
      rw [hm9]
      simp only [Mem.put]
      rw [if_neg (fun h2 => kd_ne h hfg h2.1)]
      exact e8.val _ _ _ h
     refine ⟨⟨ba, oa, c1, g, 0, c', 0, rfl, rfl, Nat.zero_le _, e1.trans e9, hIa.ext e9, ⟨fun i hi => by rw [hm9]; exact hI8.kd i hi, fun i hi => ?_⟩⟩, fun _ _ m12 h _ => hK m12 h.2, fun _ _ m15 h _ => absurd h.1 (by decide)⟩
     rw [hm9]
     simp only [Mem.put]
     rw [if_pos ⟨trivial, by omega, by omega⟩, show 0 + i - 0 = i by omega]
   ·exact hsb.elim
theorem got_of {m m' : Mem} {A : Nat → Int} {nn : Int} {i k : Nat} (hsa : SA T n A) (h0 : 0 < ls) (hik : i + k ≤ n) (hp : (seg A i k).Perm (places T n (lst S ls) n)) :
  many (allP T S n ls).length nn = many k nn ∧ (lst (fun q => A (i + q)) (many k nn)).Nodup ∧ ∀ x ∈ lst (fun q => A (i + q)) (many k nn), x ∈ allP T S n ls := by
 have hall : allP T S n ls = places T n (lst S ls) n := by unfold allP; rw [if_neg (by omega)]
 have hlen : (allP T S n ls).length = k := by rw [hall, ← hp.length_eq]; simp [seg]
 have hle := many_le k nn
 rw [hlen]
 refine ⟨rfl, seg_nodup hsa (by omega), fun x hx => ?_⟩
 rw [hall, ← hp.mem_iff]
 have : x ∈ (seg A i k).take (many k nn) := by rw [← seg_take hle]; exact hx
 exact List.mem_of_mem_take this
theorem lookup_9 {w0 : World} {m : Mem} {nn : Int} {K : Value → Mem → Prop} (hd : Dt m sd n cd T) (hs : Dt m ss ls cs S) (hn : n ≤ 100000) (hl : ls ≤ 100000) (hnn : -9223372036854775808 ≤ nn)
  (g0 : m.kd 0 0 = some .i64) (g1 : m.val 0 0 = 2147483647) (hK : ∀ v m', Ext m m' → GotOK m' v (allP T S n ls) nn → K v m') :
  callV Tryz.prog w0 9 [.slice sd n cd, .slice ss ls cs, .int .i64 nn] m K := by
 refine C_F9 ?_
 unfold M_F9
 refine exact_16 hd (by omega) fun B m1 hB e1 hby _ => ⟨B, 0, n, n, rfl, ?_⟩
 refine new_15 hby (Nat.le_refl _) (by omega) (e1.kd _ _ _ g0) ((e1.val _ _ _ g0).trans g1) fun bx ba A m2 hbx hba hne _ _ e2 hx => ⟨bx, 0, rfl, ?_⟩
 rintro B3 hB3 m3 hm3
 have e3 : Ext m2 m3 := hm3 ▸ Ext.new m2 hB3 _ _ _
 have e03 := (e1.trans e2).trans e3
 have hs3 := hs.ext e03
 have fin : ∀ bs os cs' m4, Ext m3 m4 → Dt m4 (some ⟨bs, os, none⟩) ls cs' S → callV Tryz.prog w0 22 [.pointer (some ⟨bx, 0, none⟩), .slice (some ⟨bs, os, none⟩) ls cs', .int .i64 nn] m4 fun v24 m25 => K v24 m25 := fun bs os cs' m4 e4 hs4 => by
  have hx4 := (hx.ext e3).ext e4
  have e04 := e03.trans e4
  refine lookup_22 hx4 hs4 hnn (fun h => hK _ _ e04 ⟨0, fun _ => 0, ?_, by simp [lst], by simp [lst], .inl ⟨rfl, rfl⟩⟩) fun h0 hne i k hik hp => ?_
  ·rcases h with h | h
   ·have : allP T S n ls = [] := by unfold allP; rw [if_pos h]
    rw [this]
    have := many_le 0 nn
    simpa using (Nat.le_zero.1 this).symm
   ·subst h
    unfold many
    simp
  ·obtain ⟨g1, g2, g3⟩ := got_of (m := m) (m' := m) (nn := nn) hx.sa h0 hik hp
   refine ⟨fun hz m5 e5 => hK _ _ (e04.trans e5) ⟨0, fun _ => 0, by rw [g1, hz], by simp [lst], by simp [lst], .inl ⟨rfl, rfl⟩⟩, fun hz B5 m5 hB5 e5 hr hv => ?_⟩
   exact hK _ _ (e04.trans e5) ⟨many k nn, _, g1.symm, g2, g3, .inr ⟨hz, B5, 0, _, rfl, fun q hq => (hv q hq).1, fun q hq => (hv q hq).2⟩⟩
 refine ⟨fun i hi => by omega, hs3.row, by omega, fun h0 => ?_, fun h0 => ?_⟩
 ·refine ⟨rfl, fun i hi => by omega, by rw [hm3]; simp [Mem.new], ?_⟩
  rintro m4 rfl
  have hz : ls = 0 := by omega
  subst hz
  have : m3.put B3 (0 + 0) 0 (elemV m3 ss) = m3 := by
   unfold Mem.put
   cases m3
   simp only [Mem.mk.injEq, true_and, and_true]
   funext b' o'
   rw [if_neg (by omega)]
  rw [this]
  exact fin B3 0 0 m3 (Ext.refl _) ⟨fun h => by omega, fun e => (by cases e), Nat.le_refl _⟩
 ·rintro B4 c4 hB4 hc4 m4 hm4
  have e4 : Ext m3 m4 := hm4 ▸ Ext.new m3 hB4 _ _ _
  rw [Nat.zero_add] at *
  refine fin B4 0 c4 m4 e4 (Dt.of ⟨fun i hi => ?_, fun i hi => ?_, fun i hi => ?_⟩ hc4)
  ·rw [hm4]; simp only [Mem.new, if_true]; rw [if_pos (by omega)]
  ·rw [hm4]
   simp only [Mem.new, if_true]
   rw [if_neg (by omega), if_pos (by omega), show 0 + i - 0 = i by omega]
   exact hs3.elem hi
  ·obtain ⟨_, _, _, hb⟩ := hs.at_ (by omega)
   exact hb.rg i hi
theorem fnLookup_4 {w0 : World} {m : Mem} {nn : Int} {K : Value → Mem → Prop} (hd : Dt m sd n cd T) (hs : Dt m ss ls cs S) (hnn : -9223372036854775808 ≤ nn)
  (g0 : m.kd 0 0 = some .i64) (g1 : m.val 0 0 = 2147483647) (hK : ∀ m', Ext m m' → K (.bool true) m') :
  callV Tryz.prog w0 4 [.slice sd n cd, .slice ss ls cs, .int .i64 nn] m K := by
 refine C_F4 ?_
 unfold M_F4
 refine cond_of (fun _ => hK _ (Ext.refl _)) fun _ => cond_of (fun _ => hK _ (Ext.refl _)) fun _ => cond_of (fun _ => hK _ (Ext.refl _)) fun h1 => cond_of (fun _ => hK _ (Ext.refl _)) fun h2 => ?_
 have h1 := of_decide_eq_false h1
 have h2 := of_decide_eq_false h2
 refine lookup_9 hd hs (by omega) (by omega) hnn g0 g1 fun v m1 e1 hg => ?_
 exact found_8 (hd.ext e1) (hs.ext e1) (by omega) (by omega) hg fun m2 e2 => ⟨true, rfl, hK _ (e1.trans e2)⟩
end
end Go.Proofs.YtdhifgedhaapjaaGreatDoor

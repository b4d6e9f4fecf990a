/- Printed by symx.py: the condition of each function (M: its code; R: a round of a loop) and its contract (C). -/
import Derived.Test.YtdhifgedhaapjaaGreatDoorLc
import Derived.Test.YtdhifgedhaapjaaGreatDoorLd
import Derived.WalkKit
import Derived.Lib.BytesEntry
import Derived.Ground.NamesProg
import Derived.Ground.Names2Prog
import Derived.Shelf.Bytes.SlEqualAll
import Derived.Shelf.Slices.Clone
import Derived.Shelf.Slices.SearchI
import Derived.Shelf.Slices.Empties
import Derived.Shelf.Slices.In.SortNone
import Derived.Shelf.Sort.Plain
import Derived.Shelf.Bytes.GrowSliceCatch
import Derived.Test.YtdhifgedhaapjaaGreatDoorLi
import Derived.Lib.SlFreshShut
set_option maxRecDepth 100000
namespace Go.Proofs.YtdhifgedhaapjaaGreatDoor
open Go
def M_F16  (K : Value → Mem → Prop) (w0 : World) (s_b : Option Addr) (l_b c_b : Nat) (m : Mem) : Prop :=
 0 ≤ (↑(l_b) : Int) ∧ (↑(l_b) : Int) ≤ (↑(l_b) : Int) ∧ (↑(l_b) : Int) ≤ 1000000000 ∧ ∀ B1, Mem.fresh m B1 → ∀ m2, m2 = Mem.new m B1 .u8 (Int.toNat (↑(l_b) : Int)) (fun _ => 0) → copyV [.slice 5 .u8, .slice 5 .u8] [(.slice (some ⟨B1, 0, none⟩) (Int.toNat (↑(l_b) : Int)) (Int.toNat (↑(l_b) : Int))), (.slice s_b l_b c_b)] m2 fun _ m4 => K (.slice (some ⟨B1, 0, none⟩) (Int.toNat (↑(l_b) : Int)) (Int.toNat (↑(l_b) : Int))) m4
theorem M_F16_eq  (K : Value → Mem → Prop) (w0 : World) (s_b : Option Addr) (l_b c_b : Nat) (m : Mem) :
  vc Tryz.prog w0 TryzTtH lvF jtF (bodyOf Tryz.f16) 0 (postV TryzTtH Tryz.f16.results.toList K) (env0 [(.slice s_b l_b c_b)]) m = M_F16  K w0 s_b l_b c_b m := by kernel_rfl
theorem C_F16 {w0 : World}  {K : Value → Mem → Prop} {s_b : Option Addr} {l_b c_b : Nat} {m : Mem}
  (h : M_F16  K w0 s_b l_b c_b m) : callV Tryz.prog w0 16 [(.slice s_b l_b c_b)] m K :=
 callV_of TryzMixed TryzTtH_ok (lv := lvF) (jt := jtF) (c := (bodyOf Tryz.f16)) Tryz.func16 (by kernel_rfl) (by kernel_rfl) (Nat.le_of_ble_eq_true (by kernel_rfl)) (by kernel_rfl) (loopsOK_of _ 0 (loops0 (by kernel_rfl) ) (scopes0 (by kernel_rfl))) ((M_F16_eq  _ _ _ _ _ _).mpr h)
def M_F15  (K : Value → Mem → Prop) (w0 : World) (bd od ld cd : Nat) (m : Mem) : Prop :=
 ∀ B1, Mem.fresh m B1 → ∀ m2, m2 = Mem.newC m B1 [(.slice (some ⟨bd, od, none⟩) ld cd), (.slice none 0 0), (.slice none 0 0)] → m2.kd 0 0 = some .i64 ∧ ∀ z3, m2.val 0 0 = z3 → cond (decide ((↑(ld) : Int) ≤ z3)) (0 ≤ (↑(ld) : Int) ∧ (↑(ld) : Int) ≤ (↑(ld) : Int) ∧ (↑(ld) : Int) ≤ 1000000000 ∧ ∀ B4, Mem.fresh m2 B4 → ∀ m5, m5 = Mem.new m2 B4 .i32 (Int.toNat (↑(ld) : Int)) (fun _ => 0) → oneC (.slice (some ⟨B4, 0, none⟩) (Int.toNat (↑(ld) : Int)) (Int.toNat (↑(ld) : Int))) = true ∧ (m5.ob B1 ((0 + 1) + 0)).isSome = true ∧ m5.ro B1 = false ∧ ∀ m6, m6 = Mem.so m5 B1 ((0 + 1) + 0) (.slice (some ⟨B4, 0, none⟩) (Int.toNat (↑(ld) : Int)) (Int.toNat (↑(ld) : Int))) → ∃ (b40 o41 l42 c43 : Nat), m6.ob B1 ((0 + 1) + 0) = some (.slice (some ⟨b40, o41, none⟩) l42 c43) ∧ callV Tryz.prog w0 30 [(.slice (some ⟨bd, od, none⟩) ld cd), (.slice (some ⟨b40, o41, none⟩) l42 c43)] m6 fun _ m45 => K (.pointer (some ⟨B1, 0, none⟩)) m45) (0 ≤ (↑(ld) : Int) ∧ (↑(ld) : Int) ≤ (↑(ld) : Int) ∧ (↑(ld) : Int) ≤ 1000000000 ∧ ∀ B46, Mem.fresh m2 B46 → ∀ m47, m47 = Mem.new m2 B46 .i64 (Int.toNat (↑(ld) : Int)) (fun _ => 0) → oneC (.slice (some ⟨B46, 0, none⟩) (Int.toNat (↑(ld) : Int)) (Int.toNat (↑(ld) : Int))) = true ∧ (m47.ob B1 ((0 + 1) + 1)).isSome = true ∧ m47.ro B1 = false ∧ ∀ m48, m48 = Mem.so m47 B1 ((0 + 1) + 1) (.slice (some ⟨B46, 0, none⟩) (Int.toNat (↑(ld) : Int)) (Int.toNat (↑(ld) : Int))) → m48.ob B1 ((0 + 1) + 1) = some (.slice none 0 0) ∧ callV Tryz.prog w0 31 [(.slice (some ⟨bd, od, none⟩) ld cd), (.slice none 0 0)] m48 fun _ m50 => K (.pointer (some ⟨B1, 0, none⟩)) m50)
theorem M_F15_eq  (K : Value → Mem → Prop) (w0 : World) (bd od ld cd : Nat) (m : Mem) :
  vc Tryz.prog w0 TryzTtH lvF jtF (bodyOf Tryz.f15) 0 (postV TryzTtH Tryz.f15.results.toList K) (env0 [(.slice (some ⟨bd, od, none⟩) ld cd)]) m = M_F15  K w0 bd od ld cd m := by kernel_rfl
theorem C_F15 {w0 : World}  {K : Value → Mem → Prop} {bd od ld cd : Nat} {m : Mem}
  (h : M_F15  K w0 bd od ld cd m) : callV Tryz.prog w0 15 [(.slice (some ⟨bd, od, none⟩) ld cd)] m K :=
 callV_of TryzMixed TryzTtH_ok (lv := lvF) (jt := jtF) (c := (bodyOf Tryz.f15)) Tryz.func15 (by kernel_rfl) (by kernel_rfl) (Nat.le_of_ble_eq_true (by kernel_rfl)) (by kernel_rfl) (loopsOK_of _ 0 (loops0 (by kernel_rfl) ) (scopes0 (by kernel_rfl))) ((M_F15_eq  _ _ _ _ _ _ _).mpr h)
def M_F33  (K : Value → Mem → Prop) (w0 : World) (b_a o_a : Nat) (m : Mem) : Prop :=
 ∃ (b1 o14 l15 c16 : Nat), m.ob b_a (o_a + 0) = some (.slice (some ⟨b1, o14, none⟩) l15 c16) ∧ m.ob b_a (o_a + 1) = some (.slice none 0 0) ∧ inR .i64 ((↑(l15) : Int) + (↑(0 : Nat) : Int)) ∧ K (.int .i64 ((↑(l15) : Int) + (↑(0 : Nat) : Int))) m
theorem M_F33_eq  (K : Value → Mem → Prop) (w0 : World) (b_a o_a : Nat) (m : Mem) :
  vc Tryz.prog w0 TryzTtH lvF jtF (bodyOf Tryz.f33) 0 (postV TryzTtH Tryz.f33.results.toList K) (env0 [(.pointer (some ⟨b_a, o_a, none⟩))]) m = M_F33  K w0 b_a o_a m := by kernel_rfl
theorem C_F33 {w0 : World}  {K : Value → Mem → Prop} {b_a o_a : Nat} {m : Mem}
  (h : M_F33  K w0 b_a o_a m) : callV Tryz.prog w0 33 [(.pointer (some ⟨b_a, o_a, none⟩))] m K :=
 callV_of TryzMixed TryzTtH_ok (lv := lvF) (jt := jtF) (c := (bodyOf Tryz.f33)) Tryz.func33 (by kernel_rfl) (by kernel_rfl) (Nat.le_of_ble_eq_true (by kernel_rfl)) (by kernel_rfl) (loopsOK_of _ 0 (loops0 (by kernel_rfl) ) (scopes0 (by kernel_rfl))) ((M_F33_eq  _ _ _ _ _).mpr h)
def M_F50  (K : Value → Mem → Prop) (w0 : World) (b_a o_a : Nat) (i : Int) (m : Mem) : Prop :=
 ∃ (b1 o2 l3 c25 : Nat), m.ob b_a (o_a + 0) = some (.slice (some ⟨b1, o2, none⟩) l3 c25) ∧ ∃ (b26 o27 l28 c29 : Nat), m.ob b_a (o_a + 0) = some (.slice (some ⟨b26, o27, none⟩) l28 c29) ∧ 0 ≤ i ∧ i < (↑(l28) : Int) ∧ m.kd b26 (o27 + Int.toNat i) = some .i32 ∧ ∀ z30, m.val b26 (o27 + Int.toNat i) = z30 → inR .i64 z30 ∧ K (.int .i64 z30) m
theorem M_F50_eq  (K : Value → Mem → Prop) (w0 : World) (b_a o_a : Nat) (i : Int) (m : Mem) :
  vc Tryz.prog w0 TryzTtH lvF jtF (bodyOf Tryz.f50) 0 (postV TryzTtH Tryz.f50.results.toList K) (env0 [(.pointer (some ⟨b_a, o_a, none⟩)), (.int .i64 i)]) m = M_F50  K w0 b_a o_a i m := by kernel_rfl
theorem C_F50 {w0 : World}  {K : Value → Mem → Prop} {b_a o_a : Nat} {i : Int} {m : Mem}
  (h : M_F50  K w0 b_a o_a i m) : callV Tryz.prog w0 50 [(.pointer (some ⟨b_a, o_a, none⟩)), (.int .i64 i)] m K :=
 callV_of TryzMixed TryzTtH_ok (lv := lvF) (jt := jtF) (c := (bodyOf Tryz.f50)) Tryz.func50 (by kernel_rfl) (by kernel_rfl) (Nat.le_of_ble_eq_true (by kernel_rfl)) (by kernel_rfl) (loopsOK_of _ 0 (loops0 (by kernel_rfl) ) (scopes0 (by kernel_rfl))) ((M_F50_eq  _ _ _ _ _ _).mpr h)
def M_F35  (K : Value → Mem → Prop) (w0 : World) (b_a o_a : Nat) (i j : Int) (m : Mem) : Prop :=
 ∀ B1, Mem.fresh m B1 → ∀ m2, m2 = Mem.newC m B1 [.slice none 0 0, .slice none 0 0] → ∃ (b3 o4 l5 c28 : Nat), m2.ob b_a (o_a + 0) = some (.slice (some ⟨b3, o4, none⟩) l5 c28) ∧ ∃ (b29 o30 l31 c32 : Nat), m2.ob b_a (o_a + 0) = some (.slice (some ⟨b29, o30, none⟩) l31 c32) ∧ 0 ≤ i ∧ i ≤ j ∧ j ≤ (↑(c32) : Int) ∧ oneC (.slice (some ⟨b29, (o30 + (if Int.toNat i = c32 then 0 else Int.toNat i)), none⟩) (Int.toNat j - Int.toNat i) (c32 - Int.toNat i)) = true ∧ (m2.ob B1 0).isSome = true ∧ m2.ro B1 = false ∧ ∀ m33, m33 = Mem.so m2 B1 0 (.slice (some ⟨b29, (o30 + (if Int.toNat i = c32 then 0 else Int.toNat i)), none⟩) (Int.toNat j - Int.toNat i) (c32 - Int.toNat i)) → oneC (.slice none 0 0) = true ∧ (m33.ob B1 (0 + 1)).isSome = true ∧ m33.ro B1 = false ∧ ∀ m34, m34 = Mem.so m33 B1 (0 + 1) (.slice none 0 0) → ∃ (b35 o36 l37 c38 : Nat), (m34.ob B1 0 = some (.slice (some ⟨b35, o36, none⟩) l37 c38) ∧ m34.ob B1 (0 + 1) = some (.slice none 0 0) ∧ True) ∧ K (.agg #[(.slice (some ⟨b35, o36, none⟩) l37 c38), (.slice none 0 0)]) m34
theorem M_F35_eq  (K : Value → Mem → Prop) (w0 : World) (b_a o_a : Nat) (i j : Int) (m : Mem) :
  vc Tryz.prog w0 TryzTtH lvF jtF (bodyOf Tryz.f35) 0 (postV TryzTtH Tryz.f35.results.toList K) (env0 [(.pointer (some ⟨b_a, o_a, none⟩)), (.int .i64 i), (.int .i64 j)]) m = M_F35  K w0 b_a o_a i j m := by kernel_rfl
theorem C_F35 {w0 : World}  {K : Value → Mem → Prop} {b_a o_a : Nat} {i j : Int} {m : Mem}
  (h : M_F35  K w0 b_a o_a i j m) : callV Tryz.prog w0 35 [(.pointer (some ⟨b_a, o_a, none⟩)), (.int .i64 i), (.int .i64 j)] m K :=
 callV_of TryzMixed TryzTtH_ok (lv := lvF) (jt := jtF) (c := (bodyOf Tryz.f35)) Tryz.func35 (by kernel_rfl) (by kernel_rfl) (Nat.le_of_ble_eq_true (by kernel_rfl)) (by kernel_rfl) (loopsOK_of _ 0 (loops0 (by kernel_rfl) ) (scopes0 (by kernel_rfl))) ((M_F35_eq  _ _ _ _ _ _ _).mpr h)
def M_F57  (K : Value → Mem → Prop) (w0 : World) (b_x o_x : Nat) (i : Int) (m : Mem) : Prop :=
 ∃ (b1 o2 l3 c15 : Nat), m.ob b_x (o_x + 0) = some (.slice (some ⟨b1, o2, none⟩) l3 c15) ∧ ∃ (z16 : Int), quietV Tryz.prog 50 [(.pointer (some ⟨b_x, (o_x + 1), none⟩)), (.int .i64 i)] m (.int .i64 z16) ∧ 0 ≤ z16 ∧ z16 ≤ (↑(l3) : Int) ∧ l3 ≤ c15 ∧ K (.slice (some ⟨b1, (o2 + (if Int.toNat z16 = c15 then 0 else Int.toNat z16)), none⟩) (l3 - Int.toNat z16) (c15 - Int.toNat z16)) m
theorem M_F57_eq  (K : Value → Mem → Prop) (w0 : World) (b_x o_x : Nat) (i : Int) (m : Mem) :
  vc Tryz.prog w0 TryzTtH lvF jtF (bodyOf Tryz.f57) 0 (postV TryzTtH Tryz.f57.results.toList K) (env0 [(.pointer (some ⟨b_x, o_x, none⟩)), (.int .i64 i)]) m = M_F57  K w0 b_x o_x i m := by kernel_rfl
theorem C_F57 {w0 : World}  {K : Value → Mem → Prop} {b_x o_x : Nat} {i : Int} {m : Mem}
  (h : M_F57  K w0 b_x o_x i m) : callV Tryz.prog w0 57 [(.pointer (some ⟨b_x, o_x, none⟩)), (.int .i64 i)] m K :=
 callV_of TryzMixed TryzTtH_ok (lv := lvF) (jt := jtF) (c := (bodyOf Tryz.f57)) Tryz.func57 (by kernel_rfl) (by kernel_rfl) (Nat.le_of_ble_eq_true (by kernel_rfl)) (by kernel_rfl) (loopsOK_of _ 0 (loops0 (by kernel_rfl) ) (scopes0 (by kernel_rfl))) ((M_F57_eq  _ _ _ _ _ _).mpr h)
def M_F40  (K : Value → Mem → Prop) (w0 : World) (b_s o_s l_s c_s b_prefix o_prefix l_prefix c_prefix : Nat) (m : Mem) : Prop :=
 cond (decide ((↑(l_s) : Int) ≥ (↑(l_prefix) : Int))) (0 ≤ (↑(l_prefix) : Int) ∧ (↑(l_prefix) : Int) ≤ (↑(c_s) : Int) ∧ callV Tryz.prog w0 10 [(.slice (some ⟨b_s, o_s, none⟩) (Int.toNat (↑(l_prefix) : Int)) c_s), (.slice (some ⟨b_prefix, o_prefix, none⟩) l_prefix c_prefix)] m fun v1 m2 => ∃ (z3 : Bool), v1 = (.bool z3) ∧ K (.bool z3) m2) (K (.bool false) m)
theorem M_F40_eq  (K : Value → Mem → Prop) (w0 : World) (b_s o_s l_s c_s b_prefix o_prefix l_prefix c_prefix : Nat) (m : Mem) :
  vc Tryz.prog w0 TryzTtH lvF jtF (bodyOf Tryz.f40) 0 (postV TryzTtH Tryz.f40.results.toList K) (env0 [(.slice (some ⟨b_s, o_s, none⟩) l_s c_s), (.slice (some ⟨b_prefix, o_prefix, none⟩) l_prefix c_prefix)]) m = M_F40  K w0 b_s o_s l_s c_s b_prefix o_prefix l_prefix c_prefix m := by kernel_rfl
theorem C_F40 {w0 : World}  {K : Value → Mem → Prop} {b_s o_s l_s c_s b_prefix o_prefix l_prefix c_prefix : Nat} {m : Mem}
  (h : M_F40  K w0 b_s o_s l_s c_s b_prefix o_prefix l_prefix c_prefix m) : callV Tryz.prog w0 40 [(.slice (some ⟨b_s, o_s, none⟩) l_s c_s), (.slice (some ⟨b_prefix, o_prefix, none⟩) l_prefix c_prefix)] m K :=
 callV_of TryzMixed TryzTtH_ok (lv := lvF) (jt := jtF) (c := (bodyOf Tryz.f40)) Tryz.func40 (by kernel_rfl) (by kernel_rfl) (Nat.le_of_ble_eq_true (by kernel_rfl)) (by kernel_rfl) (loopsOK_of _ 0 (loops0 (by kernel_rfl) ) (scopes0 (by kernel_rfl))) ((M_F40_eq  _ _ _ _ _ _ _ _ _ _ _).mpr h)
def L0_F55 : LS := ⟨[(1, .fv)], [(5, .iv .i64), (6, .iv .i64)], [.exit 0]⟩
def P0_F55 (g_f : Nat) (k_f : Array Value) : List SV := [.fv g_f k_f]
def lv_F55 (I0 : LI) (X0 : LX) : Nat → Env → Mem → Post → Prop := fun i s m Q => match i with | 0 => lv1 L0_F55 I0 X0 s m Q | _ => False
def R0_F55 (I0 : LI) (X0 : LX) (mu0 : LM)  (w0 : World) (g_f : Nat) (k_f : Array Value) (i j : Int) (n : Nat) (m : Mem) : Prop :=
 cond (decide (i < j)) (inR .i64 (i + j) ∧ 0 ≤ (1 : Int) ∧ callV Tryz.prog w0 g_f ((.int .i64 (IntKind.wrap .i64 ((IntKind.wrap .u64 (i + j)) / 2 ^ min (Int.toNat (1 : Int)) (IntKind.bits .u64)))) :: k_f.toList) m fun v4 m5 => ∃ (z6 : Bool), v4 = (.bool z6) ∧ cond (!z6) (inR .i64 ((IntKind.wrap .i64 ((IntKind.wrap .u64 (i + j)) / 2 ^ min (Int.toNat (1 : Int)) (IntKind.bits .u64))) + (1 : Int)) ∧ KF1 L0_F55 I0 mu0 (P0_F55 g_f k_f) n [(.int .i64 ((IntKind.wrap .i64 ((IntKind.wrap .u64 (i + j)) / 2 ^ min (Int.toNat (1 : Int)) (IntKind.bits .u64))) + (1 : Int))), (.int .i64 j)] m5) (KF1 L0_F55 I0 mu0 (P0_F55 g_f k_f) n [(.int .i64 i), (.int .i64 (IntKind.wrap .i64 ((IntKind.wrap .u64 (i + j)) / 2 ^ min (Int.toNat (1 : Int)) (IntKind.bits .u64))))] m5)) (XF1 L0_F55 X0 0 (P0_F55 g_f k_f) [(.int .i64 i), (.int .i64 j)] m)
theorem R0_F55_eq (I0 : LI) (X0 : LX) (mu0 : LM)  (w0 : World) (g_f : Nat) (k_f : Array Value) (i j : Int) (n : Nat) (m : Mem) (g : Env) :
  vc Tryz.prog w0 TryzTtH lvF jtF (roundOf (bodyOf Tryz.f55) 0) 0 (roundV (QL L0_F55 X0 (P0_F55 g_f k_f)) (KL L0_F55 I0 mu0 (P0_F55 g_f k_f) n)) (chainL (chainL g L0_F55.ps (P0_F55 g_f k_f)) L0_F55.ls [.iv .i64 i, .iv .i64 j]) m =
  R0_F55 I0 X0 mu0  w0 g_f k_f i j n m := by kernel_rfl
theorem S0_F55 {w0 : World} {I0 : LI} {X0 : LX} {mu0 : LM}  (hB0 : ∀ (g_f : Nat) (k_f : Array Value) (i j : Int) (n : Nat) (m : Mem), I0 (P0_F55 g_f k_f) [.iv .i64 i, .iv .i64 j] m → mu0 (P0_F55 g_f k_f) [.iv .i64 i, .iv .i64 j] < n + 1 → R0_F55 I0 X0 mu0  w0 g_f k_f i j n m) :
  ∀ s m Q, (lv_F55 I0 X0) 0 s m Q → Sat Tryz.prog w0 26 (.loop (roundOf (bodyOf Tryz.f55) 0)) Q s m :=
 loopG TryzMixed TryzTtH_ok (lv := lvF) (jt := jtF) (by kernel_rfl) (loopsOK_of _ 0 (loops0 (by kernel_rfl) ) (scopes0 (by kernel_rfl))) L0_F55 (mu := mu0) fun g_f k_f i j n m hI hm g => (R0_F55_eq _ _ _  _ g_f k_f i j n m g).mpr (hB0 g_f k_f i j n m hI hm)
def M_F55 (I0 : LI) (X0 : LX) (K : Value → Mem → Prop) (w0 : World) (n_ : Int) (g_f : Nat) (k_f : Array Value) (m : Mem) : Prop :=
 (I0 (P0_F55 g_f k_f) [.iv .i64 (0 : Int), .iv .i64 n_] m) ∧ ((∀ (z1 : Int) (z2 : Int) (m3 : Mem), X0 0 (P0_F55 g_f k_f) [.iv .i64 z1, .iv .i64 z2] m3 → ∀ _ : Env, K (.int .i64 z1) m3))
theorem M_F55_eq (I0 : LI) (X0 : LX) (K : Value → Mem → Prop) (w0 : World) (n_ : Int) (g_f : Nat) (k_f : Array Value) (m : Mem) :
  vc Tryz.prog w0 TryzTtH (lv_F55 I0 X0) jtF (bodyOf Tryz.f55) 0 (postV TryzTtH Tryz.f55.results.toList K) (env0 [(.int .i64 n_), (.func (.func g_f) #[] k_f)]) m = M_F55 I0 X0 K w0 n_ g_f k_f m := by kernel_rfl
theorem C_F55 {w0 : World} {I0 : LI} {X0 : LX} {mu0 : LM} {K : Value → Mem → Prop} {n_ : Int} {g_f : Nat} {k_f : Array Value} {m : Mem} (hB0 : ∀ (g_f : Nat) (k_f : Array Value) (i j : Int) (n : Nat) (m : Mem), I0 (P0_F55 g_f k_f) [.iv .i64 i, .iv .i64 j] m → mu0 (P0_F55 g_f k_f) [.iv .i64 i, .iv .i64 j] < n + 1 → R0_F55 I0 X0 mu0  w0 g_f k_f i j n m)
  (h : M_F55 I0 X0 K w0 n_ g_f k_f m) : callV Tryz.prog w0 55 [(.int .i64 n_), (.func (.func g_f) #[] k_f)] m K :=
 callV_of TryzMixed TryzTtH_ok (lv := (lv_F55 I0 X0)) (jt := jtF) (c := (bodyOf Tryz.f55)) Tryz.func55 (by kernel_rfl) (by kernel_rfl) (Nat.le_of_ble_eq_true (by kernel_rfl)) (by kernel_rfl) (loopsOK_of _ 0 (loops1 (by kernel_rfl) (S0_F55 hB0)) (scopes0 (by kernel_rfl))) ((M_F55_eq _ _ _ _ _ _ _ _).mpr h)
def M_F56  (K : Value → Mem → Prop) (w0 : World) (i : Int) (b1 o1 b2 o2 : Nat) (m : Mem) : Prop :=
 ∃ (b3 o11 : Nat), m.ob b1 o1 = some (.pointer (some ⟨b3, o11, none⟩)) ∧ ∃ (b12 o13 l14 c15 : Nat), quietV Tryz.prog 57 [(.pointer (some ⟨b3, o11, none⟩)), (.int .i64 i)] m (.slice (some ⟨b12, o13, none⟩) l14 c15) ∧ ∃ (b16 o17 l18 c19 : Nat), m.ob b2 o2 = some (.slice (some ⟨b16, o17, none⟩) l18 c19) ∧ ∃ (z20 : Int), quietV Tryz.prog 28 [(.slice (some ⟨b12, o13, none⟩) l14 c15), (.slice (some ⟨b16, o17, none⟩) l18 c19)] m (.int .i64 z20) ∧ K (.bool (decide (z20 ≥ (0 : Int)))) m
theorem M_F56_eq  (K : Value → Mem → Prop) (w0 : World) (i : Int) (b1 o1 b2 o2 : Nat) (m : Mem) :
  vc Tryz.prog w0 TryzTtH lvF jtF (bodyOf Tryz.f56) 0 (postV TryzTtH Tryz.f56.results.toList K) (env0 [(.int .i64 i), (.pointer (some ⟨b1, o1, none⟩)), (.pointer (some ⟨b2, o2, none⟩))]) m = M_F56  K w0 i b1 o1 b2 o2 m := by kernel_rfl
theorem C_F56 {w0 : World}  {K : Value → Mem → Prop} {i : Int} {b1 o1 b2 o2 : Nat} {m : Mem}
  (h : M_F56  K w0 i b1 o1 b2 o2 m) : callV Tryz.prog w0 56 [(.int .i64 i), (.pointer (some ⟨b1, o1, none⟩)), (.pointer (some ⟨b2, o2, none⟩))] m K :=
 callV_of TryzMixed TryzTtH_ok (lv := lvF) (jt := jtF) (c := (bodyOf Tryz.f56)) Tryz.func56 (by kernel_rfl) (by kernel_rfl) (Nat.le_of_ble_eq_true (by kernel_rfl)) (by kernel_rfl) (loopsOK_of _ 0 (loops0 (by kernel_rfl) ) (scopes0 (by kernel_rfl))) ((M_F56_eq  _ _ _ _ _ _ _ _).mpr h)
def M_F58  (K : Value → Mem → Prop) (w0 : World) (j : Int) (b1 o1 b2 o2 b3 o3 : Nat) (m : Mem) : Prop :=
 ∃ (b4 o14 : Nat), m.ob b1 o1 = some (.pointer (some ⟨b4, o14, none⟩)) ∧ m.kd b2 o2 = some .i64 ∧ ∀ z15, m.val b2 o2 = z15 → inR .i64 (j + z15) ∧ ∃ (b16 o17 l18 c19 : Nat), quietV Tryz.prog 57 [(.pointer (some ⟨b4, o14, none⟩)), (.int .i64 (j + z15))] m (.slice (some ⟨b16, o17, none⟩) l18 c19) ∧ ∃ (b20 o21 l22 c23 : Nat), m.ob b3 o3 = some (.slice (some ⟨b20, o21, none⟩) l22 c23) ∧ ∃ (z24 : Bool), quietV Tryz.prog 40 [(.slice (some ⟨b16, o17, none⟩) l18 c19), (.slice (some ⟨b20, o21, none⟩) l22 c23)] m (.bool z24) ∧ K (.bool (!z24)) m
theorem M_F58_eq  (K : Value → Mem → Prop) (w0 : World) (j : Int) (b1 o1 b2 o2 b3 o3 : Nat) (m : Mem) :
  vc Tryz.prog w0 TryzTtH lvF jtF (bodyOf Tryz.f58) 0 (postV TryzTtH Tryz.f58.results.toList K) (env0 [(.int .i64 j), (.pointer (some ⟨b1, o1, none⟩)), (.pointer (some ⟨b2, o2, none⟩)), (.pointer (some ⟨b3, o3, none⟩))]) m = M_F58  K w0 j b1 o1 b2 o2 b3 o3 m := by kernel_rfl
theorem C_F58 {w0 : World}  {K : Value → Mem → Prop} {j : Int} {b1 o1 b2 o2 b3 o3 : Nat} {m : Mem}
  (h : M_F58  K w0 j b1 o1 b2 o2 b3 o3 m) : callV Tryz.prog w0 58 [(.int .i64 j), (.pointer (some ⟨b1, o1, none⟩)), (.pointer (some ⟨b2, o2, none⟩)), (.pointer (some ⟨b3, o3, none⟩))] m K :=
 callV_of TryzMixed TryzTtH_ok (lv := lvF) (jt := jtF) (c := (bodyOf Tryz.f58)) Tryz.func58 (by kernel_rfl) (by kernel_rfl) (Nat.le_of_ble_eq_true (by kernel_rfl)) (by kernel_rfl) (loopsOK_of _ 0 (loops0 (by kernel_rfl) ) (scopes0 (by kernel_rfl))) ((M_F58_eq  _ _ _ _ _ _ _ _ _ _).mpr h)
def M_F39  (K : Value → Mem → Prop) (w0 : World) (b_x o_x b_s o_s l_s c_s : Nat) (m : Mem) : Prop :=
 ∀ B1, Mem.fresh m B1 → ∀ m2, m2 = Mem.newC m B1 [(.pointer (some ⟨b_x, o_x, none⟩))] → ∀ B3, Mem.fresh m2 B3 → ∀ m4, m4 = Mem.newC m2 B3 [(.slice (some ⟨b_s, o_s, none⟩) l_s c_s)] → ∀ B5, Mem.fresh m4 B5 → ∀ m6, m6 = Mem.newC m4 B5 [.slice none 0 0, .slice none 0 0] → ∃ (b29 o30 : Nat), m6.ob B1 0 = some (.pointer (some ⟨b29, o30, none⟩)) ∧ callV Tryz.prog w0 33 [(.pointer (some ⟨b29, (o30 + 1), none⟩))] m6 fun v31 m32 => ∃ (z33 : Int), v31 = (.int .i64 z33) ∧ callV Tryz.prog w0 55 [(.int .i64 z33), (.func (.func 56) #[] #[(.pointer (some ⟨B1, 0, none⟩)), (.pointer (some ⟨B3, 0, none⟩))])] m32 fun v34 m35 => ∃ (z36 : Int), v34 = (.int .i64 z36) ∧ ∀ B37, Mem.fresh m35 B37 → ∀ m38, m38 = Mem.newC m35 B37 [.int .i64 0] → m38.kd B37 0 = some .i64 ∧ m38.ro B37 = false ∧ ∀ m39, m39 = Mem.st m38 B37 0 z36 → m39.kd B37 0 = some .i64 ∧ ∀ z40, m39.val B37 0 = z40 → ∃ (b41 o42 : Nat), m39.ob B1 0 = some (.pointer (some ⟨b41, o42, none⟩)) ∧ ∃ (z43 : Int), quietV Tryz.prog 33 [(.pointer (some ⟨b41, (o42 + 1), none⟩))] m39 (.int .i64 z43) ∧ m39.kd B37 0 = some .i64 ∧ ∀ z44, m39.val B37 0 = z44 → inR .i64 (z43 - z44) ∧ ∃ (z45 : Int), quietV Tryz.prog 55 [(.int .i64 (z43 - z44)), (.func (.func 58) #[] #[(.pointer (some ⟨B1, 0, none⟩)), (.pointer (some ⟨B37, 0, none⟩)), (.pointer (some ⟨B3, 0, none⟩))])] m39 (.int .i64 z45) ∧ inR .i64 (z40 + z45) ∧ ∃ mc46 : Mem, Ext mc46 m39 ∧ ∃ R47 : Mem → Prop, (∀ m2, R47 m2 → Ext mc46 m2) ∧ ∃ (b49 o50 : Nat), mc46.ob B1 0 = some (.pointer (some ⟨b49, o50, none⟩)) ∧ mc46.kd B37 0 = some .i64 ∧ ∀ z51, mc46.val B37 0 = z51 → ∃ (b52 o53 l54 c55 : Nat), quietV Tryz.prog 35 [(.pointer (some ⟨b49, (o50 + 1), none⟩)), (.int .i64 z51), (.int .i64 (z40 + z45))] mc46 (.agg #[(.slice (some ⟨b52, o53, none⟩) l54 c55), (.slice none 0 0)]) ∧ ∃ (v56 : Value), (oneC (.slice (some ⟨b52, o53, none⟩) l54 c55) = true ∧ (m39.ob B5 0).isSome = true ∧ m39.ro B5 = false ∧ ∀ m57, m57 = Mem.so m39 B5 0 (.slice (some ⟨b52, o53, none⟩) l54 c55) → oneC (.slice none 0 0) = true ∧ (m57.ob B5 (0 + 1)).isSome = true ∧ m57.ro B5 = false ∧ ∀ m58, m58 = Mem.so m57 B5 (0 + 1) (.slice none 0 0) → (undef : Value) = v56 ∧ R47 m58) ∧ ∀ m48 : Mem, R47 m48 → ∃ (b59 o60 l61 c62 : Nat), (m48.ob B5 0 = some (.slice (some ⟨b59, o60, none⟩) l61 c62) ∧ m48.ob B5 (0 + 1) = some (.slice none 0 0) ∧ True) ∧ K (.agg #[(.slice (some ⟨b59, o60, none⟩) l61 c62), (.slice none 0 0)]) m48
theorem M_F39_eq  (K : Value → Mem → Prop) (w0 : World) (b_x o_x b_s o_s l_s c_s : Nat) (m : Mem) :
  vc Tryz.prog w0 TryzTtH lvF jtF (bodyOf Tryz.f39) 0 (postV TryzTtH Tryz.f39.results.toList K) (env0 [(.pointer (some ⟨b_x, o_x, none⟩)), (.slice (some ⟨b_s, o_s, none⟩) l_s c_s)]) m = M_F39  K w0 b_x o_x b_s o_s l_s c_s m := by kernel_rfl
theorem C_F39 {w0 : World}  {K : Value → Mem → Prop} {b_x o_x b_s o_s l_s c_s : Nat} {m : Mem}
  (h : M_F39  K w0 b_x o_x b_s o_s l_s c_s m) : callV Tryz.prog w0 39 [(.pointer (some ⟨b_x, o_x, none⟩)), (.slice (some ⟨b_s, o_s, none⟩) l_s c_s)] m K :=
 callV_of TryzMixed TryzTtH_ok (lv := lvF) (jt := jtF) (c := (bodyOf Tryz.f39)) Tryz.func39 (by kernel_rfl) (by kernel_rfl) (Nat.le_of_ble_eq_true (by kernel_rfl)) (by kernel_rfl) (loopsOK_of _ 0 (loops0 (by kernel_rfl) ) (scopes0 (by kernel_rfl))) ((M_F39_eq  _ _ _ _ _ _ _ _ _).mpr h)
def L0_F22 : LS := ⟨[(6, .sl), (7, .pt), (38, .iv .i64)], [(39, .iv .i64)], [.exit 0]⟩
def P0_F22 (b_result o_result l_result c_result b_matches o_matches : Nat) (s38 : Int) : List SV := [.sl b_result o_result l_result c_result, .pt b_matches o_matches, .iv .i64 s38]
def lv_F22 (I0 : LI) (X0 : LX) : Nat → Env → Mem → Post → Prop := fun i s m Q => match i with | 0 => lv1 L0_F22 I0 X0 s m Q | _ => False
def R0_F22 (I0 : LI) (X0 : LX) (mu0 : LM)  (w0 : World) (b_result o_result l_result c_result b_matches o_matches : Nat) (s38 : Int) (s39 : Int) (n : Nat) (m : Mem) : Prop :=
 cond (decide (s39 < s38)) (∃ (b88 o89 l90 c91 : Nat), m.ob b_matches (o_matches + 0) = some (.slice (some ⟨b88, o89, none⟩) l90 c91) ∧ 0 ≤ s39 ∧ s39 < (↑(l90) : Int) ∧ m.kd b88 (o89 + Int.toNat s39) = some .i32 ∧ ∀ z92, m.val b88 (o89 + Int.toNat s39) = z92 → inR .i64 z92 ∧ 0 ≤ s39 ∧ s39 < (↑(l_result) : Int) ∧ m.kd b_result (o_result + Int.toNat s39) = some .i64 ∧ m.ro b_result = false ∧ ∀ m93, m93 = Mem.st m b_result (o_result + Int.toNat s39) z92 → inR .i64 (s39 + (1 : Int)) ∧ KF1 L0_F22 I0 mu0 (P0_F22 b_result o_result l_result c_result b_matches o_matches s38) n [(.int .i64 (s39 + (1 : Int)))] m93) (XF1 L0_F22 X0 0 (P0_F22 b_result o_result l_result c_result b_matches o_matches s38) [(.int .i64 s39)] m)
theorem R0_F22_eq (I0 : LI) (X0 : LX) (mu0 : LM)  (w0 : World) (b_result o_result l_result c_result b_matches o_matches : Nat) (s38 : Int) (s39 : Int) (n : Nat) (m : Mem) (g : Env) :
  vc Tryz.prog w0 TryzTtH lvF jtF (roundOf (bodyOf Tryz.f22) 0) 0 (roundV (QL L0_F22 X0 (P0_F22 b_result o_result l_result c_result b_matches o_matches s38)) (KL L0_F22 I0 mu0 (P0_F22 b_result o_result l_result c_result b_matches o_matches s38) n)) (chainL (chainL g L0_F22.ps (P0_F22 b_result o_result l_result c_result b_matches o_matches s38)) L0_F22.ls [.iv .i64 s39]) m =
  R0_F22 I0 X0 mu0  w0 b_result o_result l_result c_result b_matches o_matches s38 s39 n m := by kernel_rfl
theorem S0_F22 {w0 : World} {I0 : LI} {X0 : LX} {mu0 : LM}  (hB0 : ∀ (b_result o_result l_result c_result b_matches o_matches : Nat) (s38 : Int) (s39 : Int) (n : Nat) (m : Mem), I0 (P0_F22 b_result o_result l_result c_result b_matches o_matches s38) [.iv .i64 s39] m → mu0 (P0_F22 b_result o_result l_result c_result b_matches o_matches s38) [.iv .i64 s39] < n + 1 → R0_F22 I0 X0 mu0  w0 b_result o_result l_result c_result b_matches o_matches s38 s39 n m) :
  ∀ s m Q, (lv_F22 I0 X0) 0 s m Q → Sat Tryz.prog w0 66 (.loop (roundOf (bodyOf Tryz.f22) 0)) Q s m :=
 loopG TryzMixed TryzTtH_ok (lv := lvF) (jt := jtF) (by kernel_rfl) (loopsOK_of _ 0 (loops0 (by kernel_rfl) ) (scopes0 (by kernel_rfl))) L0_F22 (mu := mu0) fun b_result o_result l_result c_result b_matches o_matches s38 s39 n m hI hm g => (R0_F22_eq _ _ _  _ b_result o_result l_result c_result b_matches o_matches s38 s39 n m g).mpr (hB0 b_result o_result l_result c_result b_matches o_matches s38 s39 n m hI hm)
def M_F22 (I0 : LI) (X0 : LX) (K : Value → Mem → Prop) (w0 : World) (b_x o_x b_s o_s l_s c_s : Nat) (n_ : Int) (m : Mem) : Prop :=
 cond (decide ((↑(l_s) : Int) > (0 : Int))) (cond (n_ != (0 : Int)) (callV Tryz.prog w0 39 [(.pointer (some ⟨b_x, o_x, none⟩)), (.slice (some ⟨b_s, o_s, none⟩) l_s c_s)] m fun v1 m2 => ∃ (b3 o4 l5 c6 : Nat), v1 = (.agg #[(.slice (some ⟨b3, o4, none⟩) l5 c6), (.slice none 0 0)]) ∧ ∀ B7, Mem.fresh m2 B7 → ∀ m8, m8 = Mem.newC m2 B7 [.slice none 0 0, .slice none 0 0] → oneC (.slice (some ⟨b3, o4, none⟩) l5 c6) = true ∧ (m8.ob B7 0).isSome = true ∧ m8.ro B7 = false ∧ ∀ m9, m9 = Mem.so m8 B7 0 (.slice (some ⟨b3, o4, none⟩) l5 c6) → oneC (.slice none 0 0) = true ∧ (m9.ob B7 (0 + 1)).isSome = true ∧ m9.ro B7 = false ∧ ∀ m10, m10 = Mem.so m9 B7 (0 + 1) (.slice none 0 0) → callV Tryz.prog w0 33 [(.pointer (some ⟨B7, 0, none⟩))] m10 fun v11 m12 => ∃ (z13 : Int), v11 = (.int .i64 z13) ∧ cond (decide (n_ < (0 : Int))) (cond (decide (z13 > (0 : Int))) (0 ≤ z13 ∧ z13 ≤ z13 ∧ z13 ≤ 1000000000 ∧ ∀ B14, Mem.fresh m12 B14 → ∀ m15, m15 = Mem.new m12 B14 .i64 (Int.toNat z13) (fun _ => 0) → ∃ (b66 o67 l68 c69 : Nat), m15.ob B7 (0 + 0) = some (.slice (some ⟨b66, o67, none⟩) l68 c69) ∧ (I0 (P0_F22 B14 0 (Int.toNat z13) (Int.toNat z13) B7 0 (↑((Int.toNat z13)) : Int)) [.iv .i64 (0 : Int)] m15) ∧ ((∀ (z70 : Int) (m71 : Mem), X0 0 (P0_F22 B14 0 (Int.toNat z13) (Int.toNat z13) B7 0 (↑((Int.toNat z13)) : Int)) [.iv .i64 z70] m71 → ∀ _ : Env, K (.slice (some ⟨B14, 0, none⟩) (Int.toNat z13) (Int.toNat z13)) m71))) (K (.slice none 0 0) m12)) (cond (decide (z13 < n_)) (cond (decide (z13 > (0 : Int))) (0 ≤ z13 ∧ z13 ≤ z13 ∧ z13 ≤ 1000000000 ∧ ∀ B72, Mem.fresh m12 B72 → ∀ m73, m73 = Mem.new m12 B72 .i64 (Int.toNat z13) (fun _ => 0) → ∃ (b74 o75 l76 c77 : Nat), m73.ob B7 (0 + 0) = some (.slice (some ⟨b74, o75, none⟩) l76 c77) ∧ (I0 (P0_F22 B72 0 (Int.toNat z13) (Int.toNat z13) B7 0 (↑((Int.toNat z13)) : Int)) [.iv .i64 (0 : Int)] m73) ∧ ((∀ (z78 : Int) (m79 : Mem), X0 0 (P0_F22 B72 0 (Int.toNat z13) (Int.toNat z13) B7 0 (↑((Int.toNat z13)) : Int)) [.iv .i64 z78] m79 → ∀ _ : Env, K (.slice (some ⟨B72, 0, none⟩) (Int.toNat z13) (Int.toNat z13)) m79))) (K (.slice none 0 0) m12)) (cond (decide (n_ > (0 : Int))) (0 ≤ n_ ∧ n_ ≤ n_ ∧ n_ ≤ 1000000000 ∧ ∀ B80, Mem.fresh m12 B80 → ∀ m81, m81 = Mem.new m12 B80 .i64 (Int.toNat n_) (fun _ => 0) → ∃ (b82 o83 l84 c85 : Nat), m81.ob B7 (0 + 0) = some (.slice (some ⟨b82, o83, none⟩) l84 c85) ∧ (I0 (P0_F22 B80 0 (Int.toNat n_) (Int.toNat n_) B7 0 (↑((Int.toNat n_)) : Int)) [.iv .i64 (0 : Int)] m81) ∧ ((∀ (z86 : Int) (m87 : Mem), X0 0 (P0_F22 B80 0 (Int.toNat n_) (Int.toNat n_) B7 0 (↑((Int.toNat n_)) : Int)) [.iv .i64 z86] m87 → ∀ _ : Env, K (.slice (some ⟨B80, 0, none⟩) (Int.toNat n_) (Int.toNat n_)) m87))) (K (.slice none 0 0) m12)))) (K (.slice none 0 0) m)) (K (.slice none 0 0) m)
theorem M_F22_eq (I0 : LI) (X0 : LX) (K : Value → Mem → Prop) (w0 : World) (b_x o_x b_s o_s l_s c_s : Nat) (n_ : Int) (m : Mem) :
  vc Tryz.prog w0 TryzTtH (lv_F22 I0 X0) jtF (bodyOf Tryz.f22) 0 (postV TryzTtH Tryz.f22.results.toList K) (env0 [(.pointer (some ⟨b_x, o_x, none⟩)), (.slice (some ⟨b_s, o_s, none⟩) l_s c_s), (.int .i64 n_)]) m = M_F22 I0 X0 K w0 b_x o_x b_s o_s l_s c_s n_ m := by kernel_rfl
theorem C_F22 {w0 : World} {I0 : LI} {X0 : LX} {mu0 : LM} {K : Value → Mem → Prop} {b_x o_x b_s o_s l_s c_s : Nat} {n_ : Int} {m : Mem} (hB0 : ∀ (b_result o_result l_result c_result b_matches o_matches : Nat) (s38 : Int) (s39 : Int) (n : Nat) (m : Mem), I0 (P0_F22 b_result o_result l_result c_result b_matches o_matches s38) [.iv .i64 s39] m → mu0 (P0_F22 b_result o_result l_result c_result b_matches o_matches s38) [.iv .i64 s39] < n + 1 → R0_F22 I0 X0 mu0  w0 b_result o_result l_result c_result b_matches o_matches s38 s39 n m)
  (h : M_F22 I0 X0 K w0 b_x o_x b_s o_s l_s c_s n_ m) : callV Tryz.prog w0 22 [(.pointer (some ⟨b_x, o_x, none⟩)), (.slice (some ⟨b_s, o_s, none⟩) l_s c_s), (.int .i64 n_)] m K :=
 callV_of TryzMixed TryzTtH_ok (lv := (lv_F22 I0 X0)) (jt := jtF) (c := (bodyOf Tryz.f22)) Tryz.func22 (by kernel_rfl) (by kernel_rfl) (Nat.le_of_ble_eq_true (by kernel_rfl)) (by kernel_rfl) (loopsOK_of _ 0 (loops2 (by kernel_rfl) (S0_F22 hB0) (fun _ _ _ h => False.elim h)) (scopes0 (by kernel_rfl))) ((M_F22_eq _ _ _ _ _ _ _ _ _ _ _ _).mpr h)
def M_F21  (K : Value → Mem → Prop) (w0 : World) (b_x o_x : Nat) (m : Mem) : Prop :=
 ∃ (b1 o7 l8 c9 : Nat), m.ob b_x (o_x + 0) = some (.slice (some ⟨b1, o7, none⟩) l8 c9) ∧ K (.slice (some ⟨b1, o7, none⟩) l8 c9) m
theorem M_F21_eq  (K : Value → Mem → Prop) (w0 : World) (b_x o_x : Nat) (m : Mem) :
  vc Tryz.prog w0 TryzTtH lvF jtF (bodyOf Tryz.f21) 0 (postV TryzTtH Tryz.f21.results.toList K) (env0 [(.pointer (some ⟨b_x, o_x, none⟩))]) m = M_F21  K w0 b_x o_x m := by kernel_rfl
theorem C_F21 {w0 : World}  {K : Value → Mem → Prop} {b_x o_x : Nat} {m : Mem}
  (h : M_F21  K w0 b_x o_x m) : callV Tryz.prog w0 21 [(.pointer (some ⟨b_x, o_x, none⟩))] m K :=
 callV_of TryzMixed TryzTtH_ok (lv := lvF) (jt := jtF) (c := (bodyOf Tryz.f21)) Tryz.func21 (by kernel_rfl) (by kernel_rfl) (Nat.le_of_ble_eq_true (by kernel_rfl)) (by kernel_rfl) (loopsOK_of _ 0 (loops0 (by kernel_rfl) ) (scopes0 (by kernel_rfl))) ((M_F21_eq  _ _ _ _ _).mpr h)
def M_F9  (K : Value → Mem → Prop) (w0 : World) (sd : Option Addr) (ld cd : Nat) (s_s : Option Addr) (l_s c_s : Nat) (n_ : Int) (m : Mem) : Prop :=
 callV Tryz.prog w0 16 [(.slice sd ld cd)] m fun v1 m2 => ∃ (b3 o4 l5 c15 : Nat), v1 = (.slice (some ⟨b3, o4, none⟩) l5 c15) ∧ callV Tryz.prog w0 15 [(.slice (some ⟨b3, o4, none⟩) l5 c15)] m2 fun v16 m17 => ∃ (b18 o19 : Nat), v16 = (.pointer (some ⟨b18, o19, none⟩)) ∧ ∀ B20, Mem.fresh m17 B20 → ∀ m21, m21 = Mem.new m17 B20 .u8 0 (fun _ => 0) → apV (.slice 5 .u8) (.slice (some ⟨B20, 0, none⟩) 0 0) (.slice s_s l_s c_s) m21 fun v22 m23 => callV Tryz.prog w0 22 [(.pointer (some ⟨b18, o19, none⟩)), v22, (.int .i64 n_)] m23 fun v24 m25 => K v24 m25
theorem M_F9_eq  (K : Value → Mem → Prop) (w0 : World) (sd : Option Addr) (ld cd : Nat) (s_s : Option Addr) (l_s c_s : Nat) (n_ : Int) (m : Mem) :
  vc Tryz.prog w0 TryzTtH lvF jtF (bodyOf Tryz.f9) 0 (postV TryzTtH Tryz.f9.results.toList K) (env0 [(.slice sd ld cd), (.slice s_s l_s c_s), (.int .i64 n_)]) m = M_F9  K w0 sd ld cd s_s l_s c_s n_ m := by kernel_rfl
theorem C_F9 {w0 : World}  {K : Value → Mem → Prop} {sd : Option Addr} {ld cd : Nat} {s_s : Option Addr} {l_s c_s : Nat} {n_ : Int} {m : Mem}
  (h : M_F9  K w0 sd ld cd s_s l_s c_s n_ m) : callV Tryz.prog w0 9 [(.slice sd ld cd), (.slice s_s l_s c_s), (.int .i64 n_)] m K :=
 callV_of TryzMixed TryzTtH_ok (lv := lvF) (jt := jtF) (c := (bodyOf Tryz.f9)) Tryz.func9 (by kernel_rfl) (by kernel_rfl) (Nat.le_of_ble_eq_true (by kernel_rfl)) (by kernel_rfl) (loopsOK_of _ 0 (loops0 (by kernel_rfl) ) (scopes0 (by kernel_rfl))) ((M_F9_eq  _ _ _ _ _ _ _ _ _ _).mpr h)
def L0_F24 : LS := ⟨[(0, .os), (1, .os)], [(5, .vv), (6, .iv .i64)], [.exit 0]⟩
def P0_F24 (sd : Option Addr) (ld cd : Nat) (s_s : Option Addr) (l_s c_s : Nat) : List SV := [.os sd ld cd, .os s_s l_s c_s]
def lv_F24 (I0 : LI) (X0 : LX) : Nat → Env → Mem → Post → Prop := fun i s m Q => match i with | 0 => lv1 L0_F24 I0 X0 s m Q | _ => False
def R0_F24 (I0 : LI) (X0 : LX) (mu0 : LM)  (w0 : World) (sd : Option Addr) (ld cd : Nat) (s_s : Option Addr) (l_s c_s : Nat) (out : Value) (i : Int) (n : Nat) (m : Mem) : Prop :=
 cond (decide ((↑(l_s) : Int) > (0 : Int))) (inR .i64 (i + (↑(l_s) : Int)) ∧ cond (decide ((i + (↑(l_s) : Int)) ≤ (↑(ld) : Int))) (slG (.slice 5 .u8) (.mode 1) (.slice sd ld cd) (some (.int .i64 i)) none fun v4 => callV Tryz.prog w0 40 [v4, (.slice s_s l_s c_s)] m fun v5 m6 => ∃ (z7 : Bool), v5 = (.bool z7) ∧ cond z7 (∀ B8, Mem.fresh m6 B8 → ∀ m9, m9 = Mem.new m6 B8 .i64 1 (fun _ => i) → apV (.slice 3 .i64) out (.slice (some ⟨B8, 0, none⟩) 1 1) m9 fun v10 m11 => inR .i64 (i + (1 : Int)) ∧ KF1 L0_F24 I0 mu0 (P0_F24 sd ld cd s_s l_s c_s) n [v10, (.int .i64 (i + (1 : Int)))] m11) (inR .i64 (i + (1 : Int)) ∧ KF1 L0_F24 I0 mu0 (P0_F24 sd ld cd s_s l_s c_s) n [out, (.int .i64 (i + (1 : Int)))] m6)) (XF1 L0_F24 X0 0 (P0_F24 sd ld cd s_s l_s c_s) [out, (.int .i64 i)] m)) (XF1 L0_F24 X0 0 (P0_F24 sd ld cd s_s l_s c_s) [out, (.int .i64 i)] m)
theorem R0_F24_eq (I0 : LI) (X0 : LX) (mu0 : LM)  (w0 : World) (sd : Option Addr) (ld cd : Nat) (s_s : Option Addr) (l_s c_s : Nat) (out : Value) (i : Int) (n : Nat) (m : Mem) (g : Env) :
  vc Tryz.prog w0 TryzTtH lvF jtF (roundOf (bodyOf Tryz.f24) 0) 0 (roundV (QL L0_F24 X0 (P0_F24 sd ld cd s_s l_s c_s)) (KL L0_F24 I0 mu0 (P0_F24 sd ld cd s_s l_s c_s) n)) (chainL (chainL g L0_F24.ps (P0_F24 sd ld cd s_s l_s c_s)) L0_F24.ls [.vv out, .iv .i64 i]) m =
  R0_F24 I0 X0 mu0  w0 sd ld cd s_s l_s c_s out i n m := by kernel_rfl
theorem S0_F24 {w0 : World} {I0 : LI} {X0 : LX} {mu0 : LM}  (hB0 : ∀ (sd : Option Addr) (ld cd : Nat) (s_s : Option Addr) (l_s c_s : Nat) (out : Value) (i : Int) (n : Nat) (m : Mem), I0 (P0_F24 sd ld cd s_s l_s c_s) [.vv out, .iv .i64 i] m → mu0 (P0_F24 sd ld cd s_s l_s c_s) [.vv out, .iv .i64 i] < n + 1 → R0_F24 I0 X0 mu0  w0 sd ld cd s_s l_s c_s out i n m) :
  ∀ s m Q, (lv_F24 I0 X0) 0 s m Q → Sat Tryz.prog w0 31 (.loop (roundOf (bodyOf Tryz.f24) 0)) Q s m :=
 loopG TryzMixed TryzTtH_ok (lv := lvF) (jt := jtF) (by kernel_rfl) (loopsOK_of _ 0 (loops0 (by kernel_rfl) ) (scopes0 (by kernel_rfl))) L0_F24 (mu := mu0) fun sd ld cd s_s l_s c_s out i n m hI hm g => (R0_F24_eq _ _ _  _ sd ld cd s_s l_s c_s out i n m g).mpr (hB0 sd ld cd s_s l_s c_s out i n m hI hm)
def M_F24 (I0 : LI) (X0 : LX) (K : Value → Mem → Prop) (w0 : World) (sd : Option Addr) (ld cd : Nat) (s_s : Option Addr) (l_s c_s : Nat) (m : Mem) : Prop :=
 (I0 (P0_F24 sd ld cd s_s l_s c_s) [.vv (.slice none 0 0), .iv .i64 (0 : Int)] m) ∧ ((∀ (z1 : Value) (z2 : Int) (m3 : Mem), X0 0 (P0_F24 sd ld cd s_s l_s c_s) [.vv z1, .iv .i64 z2] m3 → ∀ _ : Env, K z1 m3))
theorem M_F24_eq (I0 : LI) (X0 : LX) (K : Value → Mem → Prop) (w0 : World) (sd : Option Addr) (ld cd : Nat) (s_s : Option Addr) (l_s c_s : Nat) (m : Mem) :
  vc Tryz.prog w0 TryzTtH (lv_F24 I0 X0) jtF (bodyOf Tryz.f24) 0 (postV TryzTtH Tryz.f24.results.toList K) (env0 [(.slice sd ld cd), (.slice s_s l_s c_s)]) m = M_F24 I0 X0 K w0 sd ld cd s_s l_s c_s m := by kernel_rfl
theorem C_F24 {w0 : World} {I0 : LI} {X0 : LX} {mu0 : LM} {K : Value → Mem → Prop} {sd : Option Addr} {ld cd : Nat} {s_s : Option Addr} {l_s c_s : Nat} {m : Mem} (hB0 : ∀ (sd : Option Addr) (ld cd : Nat) (s_s : Option Addr) (l_s c_s : Nat) (out : Value) (i : Int) (n : Nat) (m : Mem), I0 (P0_F24 sd ld cd s_s l_s c_s) [.vv out, .iv .i64 i] m → mu0 (P0_F24 sd ld cd s_s l_s c_s) [.vv out, .iv .i64 i] < n + 1 → R0_F24 I0 X0 mu0  w0 sd ld cd s_s l_s c_s out i n m)
  (h : M_F24 I0 X0 K w0 sd ld cd s_s l_s c_s m) : callV Tryz.prog w0 24 [(.slice sd ld cd), (.slice s_s l_s c_s)] m K :=
 callV_of TryzMixed TryzTtH_ok (lv := (lv_F24 I0 X0)) (jt := jtF) (c := (bodyOf Tryz.f24)) Tryz.func24 (by kernel_rfl) (by kernel_rfl) (Nat.le_of_ble_eq_true (by kernel_rfl)) (by kernel_rfl) (loopsOK_of _ 0 (loops1 (by kernel_rfl) (S0_F24 hB0)) (scopes0 (by kernel_rfl))) ((M_F24_eq _ _ _ _ _ _ _ _ _ _ _).mpr h)
def L0_F8S : LS := ⟨[(9, .sl), (11, .sl), (34, .sl), (35, .iv .i64)], [(8, .bv), (36, .iv .i64)], [.exit 0, .ret]⟩
def P0_F8S (b_all o_all l_all c_all bi oi li ci b34 o34 l34 c34 : Nat) (s35 : Int) : List SV := [.sl b_all o_all l_all c_all, .sl bi oi li ci, .sl b34 o34 l34 c34, .iv .i64 s35]
def lv_F8S (I0 : LI) (X0 : LX) : Nat → Env → Mem → Post → Prop := fun i s m Q => match i with | 0 => lv1 L0_F8S I0 X0 s m Q | _ => False
def R0_F8S (I0 : LI) (X0 : LX) (mu0 : LM)  (w0 : World) (b_all o_all l_all c_all bi oi li ci b34 o34 l34 c34 : Nat) (s35 : Int) (s8 : Bool) (s36 : Int) (n : Nat) (m : Mem) : Prop :=
 cond (decide (s36 < s35)) (0 ≤ s36 ∧ s36 < (↑(l34) : Int) ∧ m.kd b34 (o34 + Int.toNat s36) = some .i64 ∧ ∀ z73, m.val b34 (o34 + Int.toNat s36) = z73 → cond (decide (s36 > (0 : Int))) (inR .i64 (s36 - (1 : Int)) ∧ 0 ≤ (s36 - (1 : Int)) ∧ (s36 - (1 : Int)) < (↑(li) : Int) ∧ m.kd bi (oi + Int.toNat (s36 - (1 : Int))) = some .i64 ∧ ∀ z74, m.val bi (oi + Int.toNat (s36 - (1 : Int))) = z74 → cond (z74 == z73) (XF1 L0_F8S X0 1 (P0_F8S b_all o_all l_all c_all bi oi li ci b34 o34 l34 c34 s35) [(.bool false), (.int .i64 s36)] m) (callV Tryz.prog w0 27 [(.slice (some ⟨b_all, o_all, none⟩) l_all c_all), (.int .i64 z73)] m fun v75 m76 => ∃ (z77 : Int) (z78 : Bool), v75 = (.tuple #[(.int .i64 z77), (.bool z78)]) ∧ cond (!z78) (XF1 L0_F8S X0 1 (P0_F8S b_all o_all l_all c_all bi oi li ci b34 o34 l34 c34 s35) [(.bool false), (.int .i64 s36)] m76) (inR .i64 (s36 + (1 : Int)) ∧ KF1 L0_F8S I0 mu0 (P0_F8S b_all o_all l_all c_all bi oi li ci b34 o34 l34 c34 s35) n [(.bool s8), (.int .i64 (s36 + (1 : Int)))] m76))) (callV Tryz.prog w0 27 [(.slice (some ⟨b_all, o_all, none⟩) l_all c_all), (.int .i64 z73)] m fun v79 m80 => ∃ (z81 : Int) (z82 : Bool), v79 = (.tuple #[(.int .i64 z81), (.bool z82)]) ∧ cond (!z82) (XF1 L0_F8S X0 1 (P0_F8S b_all o_all l_all c_all bi oi li ci b34 o34 l34 c34 s35) [(.bool false), (.int .i64 s36)] m80) (inR .i64 (s36 + (1 : Int)) ∧ KF1 L0_F8S I0 mu0 (P0_F8S b_all o_all l_all c_all bi oi li ci b34 o34 l34 c34 s35) n [(.bool s8), (.int .i64 (s36 + (1 : Int)))] m80))) (XF1 L0_F8S X0 0 (P0_F8S b_all o_all l_all c_all bi oi li ci b34 o34 l34 c34 s35) [(.bool s8), (.int .i64 s36)] m)
theorem R0_F8S_eq (I0 : LI) (X0 : LX) (mu0 : LM)  (w0 : World) (b_all o_all l_all c_all bi oi li ci b34 o34 l34 c34 : Nat) (s35 : Int) (s8 : Bool) (s36 : Int) (n : Nat) (m : Mem) (g : Env) :
  vc Tryz.prog w0 TryzTtS lvF jtF (roundOf (bodyOf Tryz.f8) 0) 0 (roundV (QL L0_F8S X0 (P0_F8S b_all o_all l_all c_all bi oi li ci b34 o34 l34 c34 s35)) (KL L0_F8S I0 mu0 (P0_F8S b_all o_all l_all c_all bi oi li ci b34 o34 l34 c34 s35) n)) (chainL (chainL g L0_F8S.ps (P0_F8S b_all o_all l_all c_all bi oi li ci b34 o34 l34 c34 s35)) L0_F8S.ls [.bv s8, .iv .i64 s36]) m =
  R0_F8S I0 X0 mu0  w0 b_all o_all l_all c_all bi oi li ci b34 o34 l34 c34 s35 s8 s36 n m := by kernel_rfl
theorem S0_F8S {w0 : World} {I0 : LI} {X0 : LX} {mu0 : LM}  (hB0 : ∀ (b_all o_all l_all c_all bi oi li ci b34 o34 l34 c34 : Nat) (s35 : Int) (s8 : Bool) (s36 : Int) (n : Nat) (m : Mem), I0 (P0_F8S b_all o_all l_all c_all bi oi li ci b34 o34 l34 c34 s35) [.bv s8, .iv .i64 s36] m → mu0 (P0_F8S b_all o_all l_all c_all bi oi li ci b34 o34 l34 c34 s35) [.bv s8, .iv .i64 s36] < n + 1 → R0_F8S I0 X0 mu0  w0 b_all o_all l_all c_all bi oi li ci b34 o34 l34 c34 s35 s8 s36 n m) :
  ∀ s m Q, (lv_F8S I0 X0) 0 s m Q → Sat Tryz.prog w0 61 (.loop (roundOf (bodyOf Tryz.f8) 0)) Q s m :=
 loopG TryzMixed TryzTtS_ok (lv := lvF) (jt := jtF) (by kernel_rfl) (loopsOK_of _ 0 (loops0 (by kernel_rfl) ) (scopes0 (by kernel_rfl))) L0_F8S (mu := mu0) fun b_all o_all l_all c_all bi oi li ci b34 o34 l34 c34 s35 s8 s36 n m hI hm g => (R0_F8S_eq _ _ _  _ b_all o_all l_all c_all bi oi li ci b34 o34 l34 c34 s35 s8 s36 n m g).mpr (hB0 b_all o_all l_all c_all bi oi li ci b34 o34 l34 c34 s35 s8 s36 n m hI hm)
def M_F8S (I0 : LI) (X0 : LX) (K : Value → Mem → Prop) (w0 : World) (sd : Option Addr) (ld cd : Nat) (s_s : Option Addr) (l_s c_s : Nat) (n_ : Int) (b_got o_got l_got c_got : Nat) (m : Mem) : Prop :=
 callV Tryz.prog w0 24 [(.slice sd ld cd), (.slice s_s l_s c_s)] m fun v1 m2 => ∃ (b3 o4 l5 c6 : Nat), v1 = (.slice (some ⟨b3, o4, none⟩) l5 c6) ∧ cond (decide (n_ ≥ (0 : Int))) (cond ((↑(l_got) : Int) != (if n_ < (↑(l5) : Int) then n_ else (↑(l5) : Int))) (K (.bool false) m2) (callV Tryz.prog w0 25 [(.slice (some ⟨b_got, o_got, none⟩) l_got c_got)] m2 fun v7 m8 => ∃ (b9 o10 l11 c12 : Nat), v7 = (.slice (some ⟨b9, o10, none⟩) l11 c12) ∧ callV Tryz.prog w0 26 [(.slice (some ⟨b9, o10, none⟩) l11 c12)] m8 fun _ m14 => (I0 (P0_F8S b3 o4 l5 c6 b9 o10 l11 c12 b9 o10 l11 c12 (↑(l11) : Int)) [.bv false, .iv .i64 (0 : Int)] m14) ∧ ((∀ (z15 : Bool) (z16 : Int) (m17 : Mem), X0 0 (P0_F8S b3 o4 l5 c6 b9 o10 l11 c12 b9 o10 l11 c12 (↑(l11) : Int)) [.bv z15, .iv .i64 z16] m17 → ∀ _ : Env, K (.bool true) m17)) ∧ ((∀ (z18 : Bool) (z19 : Int) (m20 : Mem), X0 1 (P0_F8S b3 o4 l5 c6 b9 o10 l11 c12 b9 o10 l11 c12 (↑(l11) : Int)) [.bv z18, .iv .i64 z19] m20 → ∀ _ : Env, K (.bool z18) m20)))) (cond ((↑(l_got) : Int) != (↑(l5) : Int)) (K (.bool false) m2) (callV Tryz.prog w0 25 [(.slice (some ⟨b_got, o_got, none⟩) l_got c_got)] m2 fun v21 m22 => ∃ (b61 o62 l63 c64 : Nat), v21 = (.slice (some ⟨b61, o62, none⟩) l63 c64) ∧ callV Tryz.prog w0 26 [(.slice (some ⟨b61, o62, none⟩) l63 c64)] m22 fun _ m66 => (I0 (P0_F8S b3 o4 l5 c6 b61 o62 l63 c64 b61 o62 l63 c64 (↑(l63) : Int)) [.bv false, .iv .i64 (0 : Int)] m66) ∧ ((∀ (z67 : Bool) (z68 : Int) (m69 : Mem), X0 0 (P0_F8S b3 o4 l5 c6 b61 o62 l63 c64 b61 o62 l63 c64 (↑(l63) : Int)) [.bv z67, .iv .i64 z68] m69 → ∀ _ : Env, K (.bool true) m69)) ∧ ((∀ (z70 : Bool) (z71 : Int) (m72 : Mem), X0 1 (P0_F8S b3 o4 l5 c6 b61 o62 l63 c64 b61 o62 l63 c64 (↑(l63) : Int)) [.bv z70, .iv .i64 z71] m72 → ∀ _ : Env, K (.bool z70) m72))))
theorem M_F8S_eq (I0 : LI) (X0 : LX) (K : Value → Mem → Prop) (w0 : World) (sd : Option Addr) (ld cd : Nat) (s_s : Option Addr) (l_s c_s : Nat) (n_ : Int) (b_got o_got l_got c_got : Nat) (m : Mem) :
  vc Tryz.prog w0 TryzTtS (lv_F8S I0 X0) jtF (bodyOf Tryz.f8) 0 (postV TryzTtS Tryz.f8.results.toList K) (env0 [(.slice sd ld cd), (.slice s_s l_s c_s), (.int .i64 n_), (.slice (some ⟨b_got, o_got, none⟩) l_got c_got)]) m = M_F8S I0 X0 K w0 sd ld cd s_s l_s c_s n_ b_got o_got l_got c_got m := by kernel_rfl
theorem C_F8S {w0 : World} {I0 : LI} {X0 : LX} {mu0 : LM} {K : Value → Mem → Prop} {sd : Option Addr} {ld cd : Nat} {s_s : Option Addr} {l_s c_s : Nat} {n_ : Int} {b_got o_got l_got c_got : Nat} {m : Mem} (hB0 : ∀ (b_all o_all l_all c_all bi oi li ci b34 o34 l34 c34 : Nat) (s35 : Int) (s8 : Bool) (s36 : Int) (n : Nat) (m : Mem), I0 (P0_F8S b_all o_all l_all c_all bi oi li ci b34 o34 l34 c34 s35) [.bv s8, .iv .i64 s36] m → mu0 (P0_F8S b_all o_all l_all c_all bi oi li ci b34 o34 l34 c34 s35) [.bv s8, .iv .i64 s36] < n + 1 → R0_F8S I0 X0 mu0  w0 b_all o_all l_all c_all bi oi li ci b34 o34 l34 c34 s35 s8 s36 n m)
  (h : M_F8S I0 X0 K w0 sd ld cd s_s l_s c_s n_ b_got o_got l_got c_got m) : callV Tryz.prog w0 8 [(.slice sd ld cd), (.slice s_s l_s c_s), (.int .i64 n_), (.slice (some ⟨b_got, o_got, none⟩) l_got c_got)] m K :=
 callV_of TryzMixed TryzTtS_ok (lv := (lv_F8S I0 X0)) (jt := jtF) (c := (bodyOf Tryz.f8)) Tryz.func8 (by kernel_rfl) (by kernel_rfl) (Nat.le_of_ble_eq_true (by kernel_rfl)) (by kernel_rfl) (loopsOK_of _ 0 (loops1 (by kernel_rfl) (S0_F8S hB0)) (scopes0 (by kernel_rfl))) ((M_F8S_eq _ _ _ _ _ _ _ _ _ _ _ _ _ _ _ _).mpr h)
def L0_F8N : LS := ⟨[(9, .os), (11, .nl), (34, .nl), (35, .iv .i64)], [(8, .bv), (36, .iv .i64)], [.exit 0, .ret]⟩
def P0_F8N (s_all : Option Addr) (l_all c_all : Nat) (s35 : Int) : List SV := [.os s_all l_all c_all, .nl, .nl, .iv .i64 s35]
def lv_F8N (I0 : LI) (X0 : LX) : Nat → Env → Mem → Post → Prop := fun i s m Q => match i with | 0 => lv1 L0_F8N I0 X0 s m Q | _ => False
def R0_F8N (I0 : LI) (X0 : LX) (mu0 : LM)  (w0 : World) (s_all : Option Addr) (l_all c_all : Nat) (s35 : Int) (s8 : Bool) (s36 : Int) (n : Nat) (m : Mem) : Prop :=
 cond (decide (s36 < s35)) (False) (XF1 L0_F8N X0 0 (P0_F8N s_all l_all c_all s35) [(.bool s8), (.int .i64 s36)] m)
theorem R0_F8N_eq (I0 : LI) (X0 : LX) (mu0 : LM)  (w0 : World) (s_all : Option Addr) (l_all c_all : Nat) (s35 : Int) (s8 : Bool) (s36 : Int) (n : Nat) (m : Mem) (g : Env) :
  vc Tryz.prog w0 TryzTtN lvF jtF (roundOf (bodyOf Tryz.f8) 0) 0 (roundV (QL L0_F8N X0 (P0_F8N s_all l_all c_all s35)) (KL L0_F8N I0 mu0 (P0_F8N s_all l_all c_all s35) n)) (chainL (chainL g L0_F8N.ps (P0_F8N s_all l_all c_all s35)) L0_F8N.ls [.bv s8, .iv .i64 s36]) m =
  R0_F8N I0 X0 mu0  w0 s_all l_all c_all s35 s8 s36 n m := by kernel_rfl
theorem S0_F8N {w0 : World} {I0 : LI} {X0 : LX} {mu0 : LM}  (hB0 : ∀ (s_all : Option Addr) (l_all c_all : Nat) (s35 : Int) (s8 : Bool) (s36 : Int) (n : Nat) (m : Mem), I0 (P0_F8N s_all l_all c_all s35) [.bv s8, .iv .i64 s36] m → mu0 (P0_F8N s_all l_all c_all s35) [.bv s8, .iv .i64 s36] < n + 1 → R0_F8N I0 X0 mu0  w0 s_all l_all c_all s35 s8 s36 n m) :
  ∀ s m Q, (lv_F8N I0 X0) 0 s m Q → Sat Tryz.prog w0 61 (.loop (roundOf (bodyOf Tryz.f8) 0)) Q s m :=
 loopG TryzMixed TryzTtN_ok (lv := lvF) (jt := jtF) (by kernel_rfl) (loopsOK_of _ 0 (loops0 (by kernel_rfl) ) (scopes0 (by kernel_rfl))) L0_F8N (mu := mu0) fun s_all l_all c_all s35 s8 s36 n m hI hm g => (R0_F8N_eq _ _ _  _ s_all l_all c_all s35 s8 s36 n m g).mpr (hB0 s_all l_all c_all s35 s8 s36 n m hI hm)
def M_F8N (I0 : LI) (X0 : LX) (K : Value → Mem → Prop) (w0 : World) (sd : Option Addr) (ld cd : Nat) (s_s : Option Addr) (l_s c_s : Nat) (n_ : Int) (m : Mem) : Prop :=
 callV Tryz.prog w0 24 [(.slice sd ld cd), (.slice s_s l_s c_s)] m fun v1 m2 => ∃ (s3 : Option Addr) (l4 c5 : Nat), v1 = (.slice s3 l4 c5) ∧ cond (decide (n_ ≥ (0 : Int))) (cond ((↑(0 : Nat) : Int) != (if n_ < (↑(l4) : Int) then n_ else (↑(l4) : Int))) (K (.bool false) m2) (callV Tryz.prog w0 25 [(.slice none 0 0)] m2 fun v6 m7 => v6 = (.slice none 0 0) ∧ callV Tryz.prog w0 26 [(.slice none 0 0)] m7 fun _ m9 => (I0 (P0_F8N s3 l4 c5 (↑(0 : Nat) : Int)) [.bv false, .iv .i64 (0 : Int)] m9) ∧ ((∀ (z10 : Bool) (z11 : Int) (m12 : Mem), X0 0 (P0_F8N s3 l4 c5 (↑(0 : Nat) : Int)) [.bv z10, .iv .i64 z11] m12 → ∀ _ : Env, K (.bool true) m12)) ∧ ((∀ (z13 : Bool) (z14 : Int) (m15 : Mem), X0 1 (P0_F8N s3 l4 c5 (↑(0 : Nat) : Int)) [.bv z13, .iv .i64 z14] m15 → ∀ _ : Env, K (.bool z13) m15)))) (cond ((↑(0 : Nat) : Int) != (↑(l4) : Int)) (K (.bool false) m2) (callV Tryz.prog w0 25 [(.slice none 0 0)] m2 fun v16 m17 => v16 = (.slice none 0 0) ∧ callV Tryz.prog w0 26 [(.slice none 0 0)] m17 fun _ m19 => (I0 (P0_F8N s3 l4 c5 (↑(0 : Nat) : Int)) [.bv false, .iv .i64 (0 : Int)] m19) ∧ ((∀ (z20 : Bool) (z21 : Int) (m22 : Mem), X0 0 (P0_F8N s3 l4 c5 (↑(0 : Nat) : Int)) [.bv z20, .iv .i64 z21] m22 → ∀ _ : Env, K (.bool true) m22)) ∧ ((∀ (z23 : Bool) (z24 : Int) (m25 : Mem), X0 1 (P0_F8N s3 l4 c5 (↑(0 : Nat) : Int)) [.bv z23, .iv .i64 z24] m25 → ∀ _ : Env, K (.bool z23) m25))))
theorem M_F8N_eq (I0 : LI) (X0 : LX) (K : Value → Mem → Prop) (w0 : World) (sd : Option Addr) (ld cd : Nat) (s_s : Option Addr) (l_s c_s : Nat) (n_ : Int) (m : Mem) :
  vc Tryz.prog w0 TryzTtN (lv_F8N I0 X0) jtF (bodyOf Tryz.f8) 0 (postV TryzTtN Tryz.f8.results.toList K) (env0 [(.slice sd ld cd), (.slice s_s l_s c_s), (.int .i64 n_), (.slice none 0 0)]) m = M_F8N I0 X0 K w0 sd ld cd s_s l_s c_s n_ m := by kernel_rfl
theorem C_F8N {w0 : World} {I0 : LI} {X0 : LX} {mu0 : LM} {K : Value → Mem → Prop} {sd : Option Addr} {ld cd : Nat} {s_s : Option Addr} {l_s c_s : Nat} {n_ : Int} {m : Mem} (hB0 : ∀ (s_all : Option Addr) (l_all c_all : Nat) (s35 : Int) (s8 : Bool) (s36 : Int) (n : Nat) (m : Mem), I0 (P0_F8N s_all l_all c_all s35) [.bv s8, .iv .i64 s36] m → mu0 (P0_F8N s_all l_all c_all s35) [.bv s8, .iv .i64 s36] < n + 1 → R0_F8N I0 X0 mu0  w0 s_all l_all c_all s35 s8 s36 n m)
  (h : M_F8N I0 X0 K w0 sd ld cd s_s l_s c_s n_ m) : callV Tryz.prog w0 8 [(.slice sd ld cd), (.slice s_s l_s c_s), (.int .i64 n_), (.slice none 0 0)] m K :=
 callV_of TryzMixed TryzTtN_ok (lv := (lv_F8N I0 X0)) (jt := jtF) (c := (bodyOf Tryz.f8)) Tryz.func8 (by kernel_rfl) (by kernel_rfl) (Nat.le_of_ble_eq_true (by kernel_rfl)) (by kernel_rfl) (loopsOK_of _ 0 (loops1 (by kernel_rfl) (S0_F8N hB0)) (scopes0 (by kernel_rfl))) ((M_F8N_eq _ _ _ _ _ _ _ _ _ _ _ _).mpr h)
def M_F4  (K : Value → Mem → Prop) (w0 : World) (sd : Option Addr) (ld cd : Nat) (s_s : Option Addr) (l_s c_s : Nat) (n_ : Int) (m : Mem) : Prop :=
 cond (decide ((↑(ld) : Int) > (2147483647 : Int))) (K (.bool true) m) (cond (decide ((↑(l_s) : Int) > (2147483647 : Int))) (K (.bool true) m) (cond (decide ((↑(ld) : Int) > (20000 : Int))) (K (.bool true) m) (cond (decide ((↑(l_s) : Int) > (20000 : Int))) (K (.bool true) m) (callV Tryz.prog w0 9 [(.slice sd ld cd), (.slice s_s l_s c_s), (.int .i64 n_)] m fun v1 m2 => callV Tryz.prog w0 8 [(.slice sd ld cd), (.slice s_s l_s c_s), (.int .i64 n_), v1] m2 fun v3 m4 => ∃ (z5 : Bool), v3 = (.bool z5) ∧ K (.bool z5) m4))))
theorem M_F4_eq  (K : Value → Mem → Prop) (w0 : World) (sd : Option Addr) (ld cd : Nat) (s_s : Option Addr) (l_s c_s : Nat) (n_ : Int) (m : Mem) :
  vc Tryz.prog w0 TryzTtH lvF jtF (bodyOf Tryz.f4) 0 (postV TryzTtH Tryz.f4.results.toList K) (env0 [(.slice sd ld cd), (.slice s_s l_s c_s), (.int .i64 n_)]) m = M_F4  K w0 sd ld cd s_s l_s c_s n_ m := by kernel_rfl
theorem C_F4 {w0 : World}  {K : Value → Mem → Prop} {sd : Option Addr} {ld cd : Nat} {s_s : Option Addr} {l_s c_s : Nat} {n_ : Int} {m : Mem}
  (h : M_F4  K w0 sd ld cd s_s l_s c_s n_ m) : callV Tryz.prog w0 4 [(.slice sd ld cd), (.slice s_s l_s c_s), (.int .i64 n_)] m K :=
 callV_of TryzMixed TryzTtH_ok (lv := lvF) (jt := jtF) (c := (bodyOf Tryz.f4)) Tryz.func4 (by kernel_rfl) (by kernel_rfl) (Nat.le_of_ble_eq_true (by kernel_rfl)) (by kernel_rfl) (loopsOK_of _ 0 (loops0 (by kernel_rfl) ) (scopes0 (by kernel_rfl))) ((M_F4_eq  _ _ _ _ _ _ _ _ _ _).mpr h)
def M_F11  (K : Value → Mem → Prop) (w0 : World) (sd : Option Addr) (ld cd : Nat) (m : Mem) : Prop :=
 ∀ B1, Mem.fresh m B1 → ∀ m2, m2 = Mem.new m B1 .u8 0 (fun _ => 0) → callV Tryz.prog w0 16 [(.slice sd ld cd)] m2 fun v3 m4 => ∃ (b9 o10 l11 c12 : Nat), v3 = (.slice (some ⟨b9, o10, none⟩) l11 c12) ∧ callV Tryz.prog w0 15 [(.slice (some ⟨b9, o10, none⟩) l11 c12)] m4 fun v13 m14 => ∃ (b15 o16 : Nat), v13 = (.pointer (some ⟨b15, o16, none⟩)) ∧ callV Tryz.prog w0 21 [(.pointer (some ⟨b15, o16, none⟩))] m14 fun v17 m18 => ∃ (b19 o20 l21 c22 : Nat), v17 = (.slice (some ⟨b19, o20, none⟩) l21 c22) ∧ apV (.slice 5 .u8) (.slice (some ⟨B1, 0, none⟩) 0 0) (.slice (some ⟨b19, o20, none⟩) l21 c22) m18 fun v23 m24 => K v23 m24
theorem M_F11_eq  (K : Value → Mem → Prop) (w0 : World) (sd : Option Addr) (ld cd : Nat) (m : Mem) :
  vc Tryz.prog w0 TryzTtH lvF jtF (bodyOf Tryz.f11) 0 (postV TryzTtH Tryz.f11.results.toList K) (env0 [(.slice sd ld cd)]) m = M_F11  K w0 sd ld cd m := by kernel_rfl
theorem C_F11 {w0 : World}  {K : Value → Mem → Prop} {sd : Option Addr} {ld cd : Nat} {m : Mem}
  (h : M_F11  K w0 sd ld cd m) : callV Tryz.prog w0 11 [(.slice sd ld cd)] m K :=
 callV_of TryzMixed TryzTtH_ok (lv := lvF) (jt := jtF) (c := (bodyOf Tryz.f11)) Tryz.func11 (by kernel_rfl) (by kernel_rfl) (Nat.le_of_ble_eq_true (by kernel_rfl)) (by kernel_rfl) (loopsOK_of _ 0 (loops0 (by kernel_rfl) ) (scopes0 (by kernel_rfl))) ((M_F11_eq  _ _ _ _ _ _).mpr h)
end Go.Proofs.YtdhifgedhaapjaaGreatDoor
namespace Go.Proofs.YtdhifgedhaapjaaGreatDoor
open Go Sa
theorem cmp_lt : ∀ (xs ys : List Int), (∀ x ∈ xs, 0 ≤ x ∧ x < 256) → (∀ y ∈ ys, 0 ≤ y ∧ y < 256) → ltl xs ys → Lib.compareBytes (Lib.bytesOf xs) (Lib.bytesOf ys) = -1
 | [], [], _, _, h => (ltl_irrefl h).elim
 | [], _ :: _, _, _, _ => rfl
 | _ :: _, [], _, _, h => (ltl_nil_right h).elim
 | x :: xs, y :: ys, hx, hy, h => by
  have h1 := hx x (by simp)
  have h2 := hy y (by simp)
  have e1 : (UInt8.ofNat x.toNat).toNat = x.toNat := by
   rw [UInt8.toNat_ofNat']; omega
  have e2 : (UInt8.ofNat y.toNat).toNat = y.toNat := by
   rw [UInt8.toNat_ofNat']; omega
  simp only [Lib.bytesOf, List.map_cons, Lib.compareBytes]
  rw [ltl_cons] at h
  by_cases hlt : x < y
  ·rw [if_pos (by rw [UInt8.lt_iff_toNat_lt, e1, e2]; omega)]
  ·rcases h with h | ⟨h, h3⟩
   ·exact absurd h hlt
   ·subst h
    rw [if_neg (UInt8.lt_irrefl _), if_neg (UInt8.lt_irrefl _)]
    exact cmp_lt xs ys (fun z hz => hx z (by simp [hz])) (fun z hz => hy z (by simp [hz])) h3
theorem run_compareSlices {P : Program} {w0 w : World} {m : Mem} (hw : Holds w0 w m) {T : Nat → Int} {n b o i j c d : Nat} (hk : ∀ q, q < n → m.kd b (o + q) = some .u8) (hv : ∀ q, q < n → m.val b (o + q) = T q)
  (hi : i ≤ n) (hj : j ≤ n) : (Extern.BytealgCompare.compare #[.slice (some ⟨b, o + i, none⟩) (n - i) c, .slice (some ⟨b, o + j, none⟩) (n - j) d]).run P w =
   .ok (.int .i64 (Lib.compareBytes (Lib.bytesOf (sufl T n i)) (Lib.bytesOf (sufl T n j)))) w := by
 have key : ∀ i, i ≤ n → (Extern.Bytes.loadBytes ⟨b, o + i, none⟩ (n - i) .empty).run P w = .ok ⟨(Lib.bytesOf (sufl T n i)).toArray⟩ w := fun i hi => by
  have := Lib.run_loadBytesX (P := P) w (sufl T n i) ⟨b, o + i, none⟩ .empty (fun q x hq => by
   have hlt : q < n - i := by
    rcases Nat.lt_or_ge q (n - i) with h | h
    ·exact h
    ·rw [List.getElem?_eq_none (by rw [sufl_length]; exact h)] at hq; cases hq
   have e : (sufl T n i)[q]? = some (T (i + q)) := by
    unfold sufl
    rw [List.getElem?_map, List.getElem?_range' hlt]
    simp
   rw [e] at hq
   obtain rfl : T (i + q) = x := Option.some.inj hq
   rw [add_ofNat, Nat.add_assoc, hw.cell _ _ _ (hk (i + q) (by omega)), hv (i + q) (by omega)])
  rw [sufl_length] at this
  rw [this]
  congr 1
  apply ByteArray.ext
  show (#[] : Array UInt8) ++ _ = _
  simp
 change Sem.run P (do pure (goInt (Extern.BytealgCompare.cmp (← Extern.Bytes.bytesOf (.slice (some ⟨b, o + i, none⟩) (n - i) c)) (← Extern.Bytes.bytesOf (.slice (some ⟨b, o + j, none⟩) (n - j) d))))) w = _
 simp only [Extern.Bytes.bytesOf, Sem.run_bind, key i hi, key j hj, Result.andThen, Sem.run_pure]
 rw [Lib.cmp_eq]
 rfl
end Go.Proofs.YtdhifgedhaapjaaGreatDoor
namespace Go.Proofs
open Go.Shelf
def Tryz.lays115_ren : Go.Shelf.Ren := ⟨fun | 115 => 10 | n => n, fun | 37 => 22 | 4 => 4 | 9 => 9 | 5 => 5 | n => n, fun | n => n⟩
theorem Tryz.lays115 : Go.Proofs.Lays.nb115 Tryz.prog Tryz.lays115_ren := {
 mixed := by kernel_rfl
 f115 := Tryz.func10.trans (congrArg some (by kernel_rfl))
 t4 := Tryz.underlying4
 a4 := Tryz.isAgg4
 z4 := Tryz.sizeOf4
 v4 := Tryz.zeroValue4
 t9 := Tryz.underlying9
 a9 := Tryz.isAgg9
 z9 := Tryz.sizeOf9
 v9 := Tryz.zeroValue9
 t37 := Tryz.underlying22
 a37 := Tryz.isAgg22
 z37 := Tryz.sizeOf22
 v37 := Tryz.zeroValue22
 t5 := Tryz.underlying5
 a5 := Tryz.isAgg5
 z5 := Tryz.sizeOf5
 v5 := Tryz.zeroValue5 }
def Tryz.lays116_ren : Go.Shelf.Ren := ⟨fun | 116 => 40 | 115 => 10 | n => n, fun | 37 => 22 | 4 => 4 | 3 => 3 | 9 => 9 | 5 => 5 | n => n, fun | n => n⟩
theorem Tryz.lays116 : Go.Proofs.Lays.nb116 Tryz.prog Tryz.lays116_ren := {
 mixed := by kernel_rfl
 f115 := Tryz.func10.trans (congrArg some (by kernel_rfl))
 f116 := Tryz.func40.trans (congrArg some (by kernel_rfl))
 t3 := Tryz.underlying3
 a3 := Tryz.isAgg3
 z3 := Tryz.sizeOf3
 v3 := Tryz.zeroValue3
 t4 := Tryz.underlying4
 a4 := Tryz.isAgg4
 z4 := Tryz.sizeOf4
 v4 := Tryz.zeroValue4
 t9 := Tryz.underlying9
 a9 := Tryz.isAgg9
 z9 := Tryz.sizeOf9
 v9 := Tryz.zeroValue9
 t37 := Tryz.underlying22
 a37 := Tryz.isAgg22
 z37 := Tryz.sizeOf22
 v37 := Tryz.zeroValue22
 t5 := Tryz.underlying5
 a5 := Tryz.isAgg5
 z5 := Tryz.sizeOf5
 v5 := Tryz.zeroValue5 }
def Tryz.lays15_ren : Go.Shelf.Ren := ⟨fun | 15 => 25 | n => n, fun | 22 => 25 | 3 => 3 | 4 => 4 | n => n, fun | n => n⟩
theorem Tryz.lays15 : Go.Proofs.Lays2.n15 Tryz.prog Tryz.lays15_ren := {
 mixed := by kernel_rfl
 f15 := Tryz.func25.trans (congrArg some (by kernel_rfl))
 t3 := Tryz.underlying3
 a3 := Tryz.isAgg3
 z3 := Tryz.sizeOf3
 v3 := Tryz.zeroValue3
 t4 := Tryz.underlying4
 a4 := Tryz.isAgg4
 z4 := Tryz.sizeOf4
 v4 := Tryz.zeroValue4
 t22 := Tryz.underlying25
 a22 := Tryz.isAgg25
 z22 := Tryz.sizeOf25
 v22 := Tryz.zeroValue25
 i3 := by kernel_rfl }
def Tryz.lays25_ren : Go.Shelf.Ren := ⟨fun | 25 => 27 | 31 => 43 | 32 => 44 | 37 => 69 | n => n, fun | 22 => 25 | 3 => 3 | 4 => 4 | 40 => 84 | 0 => 0 | n => n, fun | n => n⟩
theorem Tryz.lays25 : Go.Proofs.Lays2.n25 Tryz.prog Tryz.lays25_ren := {
 mixed := by kernel_rfl
 f25 := Tryz.func27.trans (congrArg some (by kernel_rfl))
 f31 := Tryz.func43.trans (congrArg some (by kernel_rfl))
 f32 := Tryz.func44.trans (congrArg some (by kernel_rfl))
 f37 := Tryz.func69.trans (congrArg some (by kernel_rfl))
 t0 := Tryz.underlying0
 a0 := Tryz.isAgg0
 z0 := Tryz.sizeOf0
 v0 := Tryz.zeroValue0
 t3 := Tryz.underlying3
 a3 := Tryz.isAgg3
 z3 := Tryz.sizeOf3
 v3 := Tryz.zeroValue3
 t4 := Tryz.underlying4
 a4 := Tryz.isAgg4
 z4 := Tryz.sizeOf4
 v4 := Tryz.zeroValue4
 t22 := Tryz.underlying25
 a22 := Tryz.isAgg25
 z22 := Tryz.sizeOf25
 v22 := Tryz.zeroValue25
 t40 := Tryz.underlying84
 a40 := Tryz.isAgg84
 z40 := Tryz.sizeOf84
 v40 := Tryz.zeroValue84 }
def Tryz.lays189_ren : Go.Shelf.Ren := ⟨fun | 189 => 26 | 125 => 42 | 257 => 41 | 128 => 67 | 129 => 68 | 294 => 59 | 295 => 60 | 296 => 61 | 297 => 62 | 298 => 63 | 299 => 64 | 216 => 43 | 300 => 65 | 301 => 66 | 328 => 92 | 329 => 93 | 330 => 94 | 331 => 95 | 332 => 96 | 215 => 69 | 343 => 103 | n => n, fun | 28 => 25 | 3 => 3 | 46 => 84 | 0 => 0 | 51 => 109 | 53 => 80 | 4 => 4 | 183 => 103 | 182 => 102 | 131 => 57 | 5 => 5 | 9 => 9 | 218 => 125 | 222 => 129 | 228 => 135 | 229 => 136 | n => n, fun | n => n⟩
theorem Tryz.lays189 : Go.Proofs.Lays.n189 Tryz.prog Tryz.lays189_ren := {
 mixed := by kernel_rfl
 f125 := Tryz.func42.trans (congrArg some (by kernel_rfl))
 f128 := Tryz.func67.trans (congrArg some (by kernel_rfl))
 f129 := Tryz.func68.trans (congrArg some (by kernel_rfl))
 f189 := Tryz.func26.trans (congrArg some (by kernel_rfl))
 f215 := Tryz.func69.trans (congrArg some (by kernel_rfl))
 f216 := Tryz.func43.trans (congrArg some (by kernel_rfl))
 f257 := Tryz.func41.trans (congrArg some (by kernel_rfl))
 f294 := Tryz.func59.trans (congrArg some (by kernel_rfl))
 f295 := Tryz.func60.trans (congrArg some (by kernel_rfl))
 f296 := Tryz.func61.trans (congrArg some (by kernel_rfl))
 f297 := Tryz.func62.trans (congrArg some (by kernel_rfl))
 f298 := Tryz.func63.trans (congrArg some (by kernel_rfl))
 f299 := Tryz.func64.trans (congrArg some (by kernel_rfl))
 f300 := Tryz.func65.trans (congrArg some (by kernel_rfl))
 f301 := Tryz.func66.trans (congrArg some (by kernel_rfl))
 f328 := Tryz.func92.trans (congrArg some (by kernel_rfl))
 f329 := Tryz.func93.trans (congrArg some (by kernel_rfl))
 f330 := Tryz.func94.trans (congrArg some (by kernel_rfl))
 f331 := Tryz.func95.trans (congrArg some (by kernel_rfl))
 f332 := Tryz.func96.trans (congrArg some (by kernel_rfl))
 f343 := Tryz.func103.trans (congrArg some (by kernel_rfl))
 t0 := Tryz.underlying0
 a0 := Tryz.isAgg0
 z0 := Tryz.sizeOf0
 v0 := Tryz.zeroValue0
 t3 := Tryz.underlying3
 a3 := Tryz.isAgg3
 z3 := Tryz.sizeOf3
 v3 := Tryz.zeroValue3
 t4 := Tryz.underlying4
 a4 := Tryz.isAgg4
 z4 := Tryz.sizeOf4
 v4 := Tryz.zeroValue4
 t5 := Tryz.underlying5
 a5 := Tryz.isAgg5
 z5 := Tryz.sizeOf5
 v5 := Tryz.zeroValue5
 t9 := Tryz.underlying9
 a9 := Tryz.isAgg9
 z9 := Tryz.sizeOf9
 v9 := Tryz.zeroValue9
 t28 := Tryz.underlying25
 a28 := Tryz.isAgg25
 z28 := Tryz.sizeOf25
 v28 := Tryz.zeroValue25
 t46 := Tryz.underlying84
 a46 := Tryz.isAgg84
 z46 := Tryz.sizeOf84
 v46 := Tryz.zeroValue84
 t51 := Tryz.underlying109
 a51 := Tryz.isAgg109
 z51 := Tryz.sizeOf109
 v51 := Tryz.zeroValue109
 t53 := Tryz.underlying80
 a53 := Tryz.isAgg80
 z53 := Tryz.sizeOf80
 v53 := Tryz.zeroValue80
 t131 := Tryz.underlying57
 a131 := Tryz.isAgg57
 z131 := Tryz.sizeOf57
 v131 := Tryz.zeroValue57
 t182 := Tryz.underlying102
 a182 := Tryz.isAgg102
 z182 := Tryz.sizeOf102
 v182 := Tryz.zeroValue102
 t183 := Tryz.underlying103
 a183 := Tryz.isAgg103
 z183 := Tryz.sizeOf103
 v183 := Tryz.zeroValue103
 t218 := Tryz.underlying125
 a218 := Tryz.isAgg125
 z218 := Tryz.sizeOf125
 v218 := Tryz.zeroValue125
 t222 := Tryz.underlying129
 a222 := Tryz.isAgg129
 z222 := Tryz.sizeOf129
 v222 := Tryz.zeroValue129
 t228 := Tryz.underlying135
 a228 := Tryz.isAgg135
 z228 := Tryz.sizeOf135
 v228 := Tryz.zeroValue135
 t229 := Tryz.underlying136
 a229 := Tryz.isAgg136
 z229 := Tryz.sizeOf136
 v229 := Tryz.zeroValue136 }
def Tryz.laysM324_ren : Go.Shelf.Ren := ⟨fun | 324 => 153 | n => n, fun | 20 => 20 | 4 => 4 | 75 => 44 | 0 => 0 | 80 => 155 | 9 => 9 | n => n, fun | 14 => 6 | n => n⟩
theorem Tryz.laysM324 : Go.Proofs.LaysM.n324 Tryz.prog Tryz.laysM324_ren := {
 mixed := by kernel_rfl
 f324 := Tryz.func153.trans (congrArg some (by kernel_rfl))
 t0 := Tryz.underlying0
 a0 := Tryz.isAgg0
 z0 := Tryz.sizeOf0
 v0 := Tryz.zeroValue0
 t4 := Tryz.underlying4
 a4 := Tryz.isAgg4
 z4 := Tryz.sizeOf4
 v4 := Tryz.zeroValue4
 t20 := Tryz.underlying20
 a20 := Tryz.isAgg20
 z20 := Tryz.sizeOf20
 v20 := Tryz.zeroValue20
 t75 := Tryz.underlying44
 a75 := Tryz.isAgg44
 z75 := Tryz.sizeOf44
 v75 := Tryz.zeroValue44
 g14 := by kernel_rfl
 t9 := Tryz.underlying9
 a9 := Tryz.isAgg9
 z9 := Tryz.sizeOf9
 v9 := Tryz.zeroValue9
 t80 := Tryz.underlying155
 a80 := Tryz.isAgg155
 z80 := Tryz.sizeOf155
 v80 := Tryz.zeroValue155
 i0 := by kernel_rfl
 i4 := by kernel_rfl
 i9 := by kernel_rfl
 i20 := by kernel_rfl
 i75 := by kernel_rfl
 i80 := by kernel_rfl
 m14 := by kernel_rfl }
end Go.Proofs
namespace Go.Proofs.YtdhifgedhaapjaaGreatDoor
open Go Sa
theorem Ext.of {m m' : Mem} (hs : SameK m m') (ho : Out m m' (fun x _ => m.fresh x)) : Ext m m' :=
 ⟨hs.1, fun x o k hk => ho x o fun hf => (by rw [(hf o).1] at hk; cases hk), hs.2.2, hs.2.1⟩
theorem quiet_of_same {P : Program} {f : Nat} {args : List Value} {m : Mem} {v : Value} (hc : Callable P f)
  (h : ∀ w1 w, Holds w1 w m.lock → Calls P f args.toArray w fun e w' => e = .returned v ∧ ∃ q, w' = w.drewN q) : quietV P f args m v := fun w1 =>
 ⟨hc, fun w hw => (h w1 w hw).mono fun e w' ⟨he, q, hq⟩ => ⟨v, m.lock, he, by subst hq; exact hw.drewN q, rfl⟩⟩
theorem callV_of_quiet {P : Program} {w0 : World} {f : Nat} {args : List Value} {m : Mem} {v : Value} {K : Value → Mem → Prop} (h : quietV P f args m v) (hK : K v m) : callV P w0 f args m K :=
 ⟨(h default).1, fun w hw => ((h w).2 w hw.lock).mono fun e w' ⟨v', m', he, hh, hv⟩ => ⟨v, m, by rw [he, hv], hw.grown hh, hK⟩⟩
structure By (m : Mem) (b o n : Nat) (T : Nat → Int) : Prop where
 kd : ∀ i, i < n → m.kd b (o + i) = some .u8
 val : ∀ i, i < n → m.val b (o + i) = T i
 rg : ∀ i, i < n → 0 ≤ T i ∧ T i < 256
theorem By.ext {m m' : Mem} {b o n : Nat} {T : Nat → Int} (h : By m b o n T) (e : Ext m m') : By m' b o n T :=
 ⟨fun i hi => e.kd _ _ _ (h.kd i hi), fun i hi => (e.val _ _ _ (h.kd i hi)).trans (h.val i hi), h.rg⟩
theorem By.lock {m : Mem} {b o n : Nat} {T : Nat → Int} (h : By m b o n T) : By m.lock b o n T := ⟨h.kd, h.val, h.rg⟩
theorem By.drop {m : Mem} {b o n : Nat} {T : Nat → Int} (h : By m b o n T) {i : Nat} (hi : i ≤ n) : By m b (o + i) (n - i) (fun q => T (i + q)) :=
 ⟨fun q hq => by rw [Nat.add_assoc]; exact h.kd _ (by omega), fun q hq => by rw [Nat.add_assoc]; exact h.val _ (by omega), fun q hq => h.rg _ (by omega)⟩
theorem By.le {m : Mem} {b o n : Nat} {T : Nat → Int} (h : By m b o n T) {k : Nat} (hk : k ≤ n) : By m b o k T :=
 ⟨fun i hi => h.kd i (by omega), fun i hi => h.val i (by omega), fun i hi => h.rg i (by omega)⟩
structure Dt (m : Mem) (sb : Option Addr) (n c : Nat) (T : Nat → Int) : Prop where
 at_ : 0 < n → ∃ b o, sb = some ⟨b, o, none⟩ ∧ By m b o n T
 nil : sb = none → n = 0 ∧ c = 0
 le : n ≤ c
theorem Dt.ext {m m' : Mem} {sb : Option Addr} {n c : Nat} {T : Nat → Int} (h : Dt m sb n c T) (e : Ext m m') : Dt m' sb n c T :=
 ⟨fun hn => by obtain ⟨b, o, h1, h2⟩ := h.at_ hn; exact ⟨b, o, h1, h2.ext e⟩, h.nil, h.le⟩
theorem Dt.of {m : Mem} {b o n c : Nat} {T : Nat → Int} (h : By m b o n T) (hc : n ≤ c) : Dt m (some ⟨b, o, none⟩) n c T := ⟨fun _ => ⟨b, o, rfl, h⟩, fun e => (by cases e), hc⟩
theorem Dt.lock {m : Mem} {sb : Option Addr} {n c : Nat} {T : Nat → Int} (h : Dt m sb n c T) : Dt m.lock sb n c T :=
 ⟨fun hn => by obtain ⟨b, o, h1, h2⟩ := h.at_ hn; exact ⟨b, o, h1, h2.lock⟩, h.nil, h.le⟩
theorem Dt.row {m : Mem} {sb : Option Addr} {n c : Nat} {T : Nat → Int} (h : Dt m sb n c T) : rowOK m .u8 sb n c := by
 unfold rowOK
 split
 ·rename_i a
  intro i hi
  obtain ⟨b, o, h1, h2⟩ := h.at_ (by omega)
  cases h1
  exact ⟨rfl, h2.kd i hi⟩
 ·exact h.nil rfl
theorem Dt.elem {m : Mem} {sb : Option Addr} {n c : Nat} {T : Nat → Int} (h : Dt m sb n c T) {i : Nat} (hi : i < n) : elemV m sb i = T i := by
 obtain ⟨b, o, h1, h2⟩ := h.at_ (by omega)
 subst h1
 exact h2.val i hi
def lst (T : Nat → Int) (n : Nat) : List Int := (List.range n).map T
theorem lst_length (T : Nat → Int) (n : Nat) : (lst T n).length = n := by simp [lst]
theorem lst_getElem? {T : Nat → Int} {n i : Nat} (h : i < n) : (lst T n)[i]? = some (T i) := by simp [lst, h]
theorem lst_getD {T : Nat → Int} {n i : Nat} (h : i < n) : (lst T n).getD i 0 = T i := by rw [List.getD_eq_getElem?_getD, lst_getElem? h]; rfl
theorem lst_sufl (T : Nat → Int) (n i : Nat) : lst (fun q => T (i + q)) (n - i) = sufl T n i := by
 unfold lst sufl
 rw [List.range'_eq_map_range, List.map_map]
 rfl
theorem lst_rg {T : Nat → Int} {n : Nat} (h : ∀ i, i < n → 0 ≤ T i ∧ T i < 256) : ∀ x ∈ lst T n, 0 ≤ x ∧ x < 256 := fun x hx => by
 unfold lst at hx
 obtain ⟨i, hi, rfl⟩ := List.mem_map.1 hx
 exact h i (List.mem_range.1 hi)
theorem lst_congr {T S : Nat → Int} {n : Nat} (h : ∀ i, i < n → T i = S i) : lst T n = lst S n := List.map_congr_left fun i hi => h i (List.mem_range.1 hi)
theorem Dt.bytesIn {w0 w : World} {m : Mem} {sb : Option Addr} {n c : Nat} {T : Nat → Int} (h : Dt m sb n c T) (hw : Holds w0 w m) : Lib.BytesIn w sb n (lst T n) := fun hn => by
 obtain ⟨b, o, h1, h2⟩ := h.at_ hn
 exact ⟨b, o, h1, fun i hi => by rw [hw.cell _ _ _ (h2.kd i hi), h2.val i hi, lst_getD hi]⟩
theorem bytesOf_inj {xs ys : List Int} (hx : ∀ x ∈ xs, 0 ≤ x ∧ x < 256) (hy : ∀ y ∈ ys, 0 ≤ y ∧ y < 256) (h : Lib.bytesOf xs = Lib.bytesOf ys) : xs = ys := by
 rw [← Lib.numsL_bytesOf xs hx, ← Lib.numsL_bytesOf ys hy, h]
theorem bytesOf_prefix {xs ys : List Int} (hx : ∀ x ∈ xs, 0 ≤ x ∧ x < 256) (hy : ∀ y ∈ ys, 0 ≤ y ∧ y < 256) : Lib.hasPrefix (Lib.bytesOf xs) (Lib.bytesOf ys) = true ↔ ys <+: xs := by
 unfold Lib.hasPrefix
 rw [List.isPrefixOf_iff_prefix]
 constructor
 ·intro h
  have : Lib.numsL (Lib.bytesOf ys) <+: Lib.numsL (Lib.bytesOf xs) := h.map _
  rwa [Lib.numsL_bytesOf xs hx, Lib.numsL_bytesOf ys hy] at this
 ·intro h
  exact h.map _
theorem equal_q {m : Mem} {s1 s2 : Option Addr} {n c k d : Nat} {T S : Nat → Int} (h1 : Dt m s1 n c T) (h2 : Dt m s2 k d S) :
  quietV Tryz.prog 10 [.slice s1 n c, .slice s2 k d] m (.bool (Lib.bytesOf (lst T n) == Lib.bytesOf (lst S k))) :=
 quiet_of_same ⟨Tryz.f10, Tryz.func10, by kernel_rfl, by kernel_rfl⟩ fun w1 w hw =>
  (show Calls Tryz.prog 10 _ w _ from Any.bytes_Equal_all Tryz.lays115 s1 s2 n c k d (lst T n) (lst S k) w (lst_length _ _) (lst_length _ _) (h1.lock.bytesIn hw) (h2.lock.bytesIn hw)).mono fun e w' ⟨he, hw'⟩ => ⟨he, 0, hw'⟩
theorem prefix_q {m : Mem} {s1 s2 : Option Addr} {n c k d : Nat} {T S : Nat → Int} (h1 : Dt m s1 n c T) (h2 : Dt m s2 k d S) :
  quietV Tryz.prog 40 [.slice s1 n c, .slice s2 k d] m (.bool (Lib.hasPrefix (Lib.bytesOf (lst T n)) (Lib.bytesOf (lst S k)))) :=
 quiet_of_same ⟨Tryz.f40, Tryz.func40, by kernel_rfl, by kernel_rfl⟩ fun w1 w hw =>
  (show Calls Tryz.prog 40 _ w _ from Any.bytes_HasPrefix_all Tryz.lays116 s1 s2 n c k d (lst T n) (lst S k) w (lst_length _ _) (lst_length _ _) h1.le (h1.lock.bytesIn hw) (h2.lock.bytesIn hw)).mono fun e w' ⟨he, hw'⟩ => ⟨he, 0, hw'⟩
/-! ### bytes.Compare -/
theorem run_compareDt {P : Program} {w0 w : World} {m : Mem} (hw : Holds w0 w m) {b o n c b' o' k d : Nat} {T S : Nat → Int} (h1 : By m b o n T) (h2 : By m b' o' k S) :
  (Extern.BytealgCompare.compare #[.slice (some ⟨b, o, none⟩) n c, .slice (some ⟨b', o', none⟩) k d]).run P w =
   .ok (.int .i64 (Lib.compareBytes (Lib.bytesOf (lst T n)) (Lib.bytesOf (lst S k)))) w := by
 have key : ∀ {b o n : Nat} {T : Nat → Int}, By m b o n T → (Extern.Bytes.loadBytes ⟨b, o, none⟩ n .empty).run P w = .ok ⟨(Lib.bytesOf (lst T n)).toArray⟩ w := fun {b o n T} h => by
  have := Lib.run_loadBytesX (P := P) w (lst T n) ⟨b, o, none⟩ .empty (fun q x hq => by
   have hlt : q < n := by
    rcases Nat.lt_or_ge q n with h | h
    ·exact h
    ·rw [List.getElem?_eq_none (by rw [lst_length]; exact h)] at hq; cases hq
   rw [lst_getElem? hlt] at hq
   obtain rfl : T q = x := Option.some.inj hq
   rw [add_ofNat, hw.cell _ _ _ (h.kd q hlt), h.val q hlt])
  rw [lst_length] at this
  rw [this]
  congr 1
  apply ByteArray.ext
  show (#[] : Array UInt8) ++ _ = _
  simp
 change Sem.run P (do pure (goInt (Extern.BytealgCompare.cmp (← Extern.Bytes.bytesOf (.slice (some ⟨b, o, none⟩) n c)) (← Extern.Bytes.bytesOf (.slice (some ⟨b', o', none⟩) k d))))) w = _
 simp only [Extern.Bytes.bytesOf, Sem.run_bind, key h1, key h2, Result.andThen, Sem.run_pure]
 rw [Lib.cmp_eq]
 rfl
theorem cmp_lt_iff {xs ys : List Int} (hx : ∀ x ∈ xs, 0 ≤ x ∧ x < 256) (hy : ∀ y ∈ ys, 0 ≤ y ∧ y < 256) : Lib.compareBytes (Lib.bytesOf xs) (Lib.bytesOf ys) < 0 ↔ ltl xs ys := by
 constructor
 ·intro h
  by_cases he : xs = ys
  ·subst he
   exfalso
   have : ∀ l : List UInt8, Lib.compareBytes l l = 0 := fun l => by
    induction l with
    | nil => rfl
    | cons a l ih => simp only [Lib.compareBytes, UInt8.lt_irrefl, if_false]; exact ih
   rw [this] at h; omega
  ·rcases lel_total xs ys with h1 | h1
   ·exact ltl_of_le_ne h1 he
   ·exfalso
    have h2 := cmp_lt ys xs hy hx (ltl_of_le_ne h1 (Ne.symm he))
    have anti : ∀ a b : List UInt8, Lib.compareBytes b a = -1 → Lib.compareBytes a b = 1 := by
     intro a
     induction a with
     | nil => intro b hb; cases b <;> simp [Lib.compareBytes] at hb
     | cons x a ih =>
      intro b hb
      cases b with
      | nil => rfl
      | cons y b =>
       simp only [Lib.compareBytes] at hb ⊢
       by_cases hxy : x < y
       ·rw [if_neg (by exact UInt8.lt_asymm hxy), if_pos hxy] at hb; omega
       ·rw [if_neg hxy]
        by_cases hyx : y < x
        ·rw [if_pos hyx]
        ·rw [if_neg hyx, if_neg hxy] at hb
         rw [if_neg hyx]; exact ih b hb
    rw [anti _ _ h2] at h; omega
 ·intro h
  rw [cmp_lt xs ys hx hy h]; decide
set_option maxHeartbeats 1000000 in
set_option maxRecDepth 100000 in
theorem cmp_calls2 {w : World} {x y : Value} {z : Int} (h : (Extern.BytealgCompare.compare #[x, y]).run Tryz.prog w = .ok (.int .i64 z) w) :
  Calls Tryz.prog 28 #[x, y] w fun e w' => e = .returned (.int .i64 z) ∧ w' = w := by
 go_enter Tryz.func28, Tryz.ntmps28
 go_wp2
 rw [run_callFunc_extern Tryz.func45 (by kernel_rfl) (by kernel_rfl) (by kernel_rfl) (e := Extern.BytealgCompare.compare) (by kernel_rfl), h]
 simp only [Result.andThen]
 rw [Oper.upon_value]
 go_wp2
 go_ret
 exact ⟨rfl, rfl⟩
theorem compare_q {m : Mem} {b o n c b' o' k d : Nat} {T S : Nat → Int} (h1 : By m b o n T) (h2 : By m b' o' k S) :
  quietV Tryz.prog 28 [.slice (some ⟨b, o, none⟩) n c, .slice (some ⟨b', o', none⟩) k d] m (.int .i64 (Lib.compareBytes (Lib.bytesOf (lst T n)) (Lib.bytesOf (lst S k)))) :=
 quiet_of_same ⟨Tryz.f28, Tryz.func28, by kernel_rfl, by kernel_rfl⟩ fun w1 w hw => (cmp_calls2 (run_compareDt hw h1.lock h2.lock)).mono fun e w' ⟨he, hw'⟩ => ⟨he, 0, hw'⟩
end Go.Proofs.YtdhifgedhaapjaaGreatDoor

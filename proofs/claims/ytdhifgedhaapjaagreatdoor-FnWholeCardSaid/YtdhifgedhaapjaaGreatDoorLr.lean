/- Printed by symx.py: the condition of each function (M: its code; R: a round of a loop) and its contract (C). -/
import Derived.Test.YtdhifgedhaapjaaGreatDoorLc
import Derived.Test.YtdhifgedhaapjaaGreatDoorLo
import Derived.Shelf.Bytes.GrowSliceCatch
import Derived.Lib.ByteType
import Derived.Lib.Walk
import Derived.Lib.Buffer
import Derived.Lib.AppendZeros
import Derived.Lib.Hide
import Derived.Laws.CopyRow
import Derived.Laws.IdiomCopy
import Derived.WalkKit
import Derived.OwnWalk
import Derived.Defers
import Derived.Recover
import Derived.Test.YtdhifgedhaapjaaGreatDoorLp
set_option maxRecDepth 100000
namespace Go.Proofs.YtdhifgedhaapjaaGreatDoor
open Go
def L0_F49 : LS := ⟨[(0, .sl)], [(1, .iv .u64), (5, .iv .i64)], [.exit 0]⟩
def P0_F49 (b_buf o_buf l_buf c_buf : Nat) : List SV := [.sl b_buf o_buf l_buf c_buf]
def lv_F49 (I0 : LI) (X0 : LX) : Nat → Env → Mem → Post → Prop := fun i s m Q => match i with | 0 => lv1 L0_F49 I0 X0 s m Q | _ => False
def R0_F49 (I0 : LI) (X0 : LX) (mu0 : LM)  (w0 : World) (b_buf o_buf l_buf c_buf : Nat) (x i : Int) (n : Nat) (m : Mem) : Prop :=
 cond (decide (x ≥ (128 : Int))) (0 ≤ i ∧ i < (↑(l_buf) : Int) ∧ m.kd b_buf (o_buf + Int.toNat i) = some .u8 ∧ m.ro b_buf = false ∧ ∀ m5, m5 = Mem.st m b_buf (o_buf + Int.toNat i) (orI .u8 (IntKind.wrap .u8 x) (128 : Int)) → 0 ≤ (7 : Int) ∧ inR .i64 (i + (1 : Int)) ∧ KF1 L0_F49 I0 mu0 (P0_F49 b_buf o_buf l_buf c_buf) n [(.int .u64 (x / 2 ^ min (Int.toNat (7 : Int)) (IntKind.bits .u64))), (.int .i64 (i + (1 : Int)))] m5) (XF1 L0_F49 X0 0 (P0_F49 b_buf o_buf l_buf c_buf) [(.int .u64 x), (.int .i64 i)] m)
theorem R0_F49_eq (I0 : LI) (X0 : LX) (mu0 : LM)  (w0 : World) (b_buf o_buf l_buf c_buf : Nat) (x i : Int) (n : Nat) (m : Mem) (g : Env) :
  vc Tryz.prog w0 TryzTtH lvF jtF (roundOf (bodyOf Tryz.f49) 0) 0 (roundV (QL L0_F49 X0 (P0_F49 b_buf o_buf l_buf c_buf)) (KL L0_F49 I0 mu0 (P0_F49 b_buf o_buf l_buf c_buf) n)) (chainL (chainL g L0_F49.ps (P0_F49 b_buf o_buf l_buf c_buf)) L0_F49.ls [.iv .u64 x, .iv .i64 i]) m =
  R0_F49 I0 X0 mu0  w0 b_buf o_buf l_buf c_buf x i n m := by kernel_rfl
theorem S0_F49 {w0 : World} {I0 : LI} {X0 : LX} {mu0 : LM}  (hB0 : ∀ (b_buf o_buf l_buf c_buf : Nat) (x i : Int) (n : Nat) (m : Mem), I0 (P0_F49 b_buf o_buf l_buf c_buf) [.iv .u64 x, .iv .i64 i] m → mu0 (P0_F49 b_buf o_buf l_buf c_buf) [.iv .u64 x, .iv .i64 i] < n + 1 → R0_F49 I0 X0 mu0  w0 b_buf o_buf l_buf c_buf x i n m) :
  ∀ s m Q, (lv_F49 I0 X0) 0 s m Q → Sat Tryz.prog w0 25 (.loop (roundOf (bodyOf Tryz.f49) 0)) Q s m :=
 loopG TryzMixed TryzTtH_ok (lv := lvF) (jt := jtF) (by kernel_rfl) (loopsOK_of _ 0 (loops0 (by kernel_rfl) ) (scopes0 (by kernel_rfl))) L0_F49 (mu := mu0) fun b_buf o_buf l_buf c_buf x i n m hI hm g => (R0_F49_eq _ _ _  _ b_buf o_buf l_buf c_buf x i n m g).mpr (hB0 b_buf o_buf l_buf c_buf x i n m hI hm)
def M_F49 (I0 : LI) (X0 : LX) (K : Value → Mem → Prop) (w0 : World) (b_buf o_buf l_buf c_buf : Nat) (x : Int) (m : Mem) : Prop :=
 (I0 (P0_F49 b_buf o_buf l_buf c_buf) [.iv .u64 x, .iv .i64 (0 : Int)] m) ∧ ((∀ (z1 : Int) (z2 : Int) (m3 : Mem), X0 0 (P0_F49 b_buf o_buf l_buf c_buf) [.iv .u64 z1, .iv .i64 z2] m3 → ∀ _ : Env, 0 ≤ z2 ∧ z2 < (↑(l_buf) : Int) ∧ m3.kd b_buf (o_buf + Int.toNat z2) = some .u8 ∧ m3.ro b_buf = false ∧ ∀ m4, m4 = Mem.st m3 b_buf (o_buf + Int.toNat z2) (IntKind.wrap .u8 z1) → inR .i64 (z2 + (1 : Int)) ∧ K (.int .i64 (z2 + (1 : Int))) m4))
theorem M_F49_eq (I0 : LI) (X0 : LX) (K : Value → Mem → Prop) (w0 : World) (b_buf o_buf l_buf c_buf : Nat) (x : Int) (m : Mem) :
  vc Tryz.prog w0 TryzTtH (lv_F49 I0 X0) jtF (bodyOf Tryz.f49) 0 (postV TryzTtH Tryz.f49.results.toList K) (env0 [(.slice (some ⟨b_buf, o_buf, none⟩) l_buf c_buf), (.int .u64 x)]) m = M_F49 I0 X0 K w0 b_buf o_buf l_buf c_buf x m := by kernel_rfl
theorem C_F49 {w0 : World} {I0 : LI} {X0 : LX} {mu0 : LM} {K : Value → Mem → Prop} {b_buf o_buf l_buf c_buf : Nat} {x : Int} {m : Mem} (hB0 : ∀ (b_buf o_buf l_buf c_buf : Nat) (x i : Int) (n : Nat) (m : Mem), I0 (P0_F49 b_buf o_buf l_buf c_buf) [.iv .u64 x, .iv .i64 i] m → mu0 (P0_F49 b_buf o_buf l_buf c_buf) [.iv .u64 x, .iv .i64 i] < n + 1 → R0_F49 I0 X0 mu0  w0 b_buf o_buf l_buf c_buf x i n m)
  (h : M_F49 I0 X0 K w0 b_buf o_buf l_buf c_buf x m) : callV Tryz.prog w0 49 [(.slice (some ⟨b_buf, o_buf, none⟩) l_buf c_buf), (.int .u64 x)] m K :=
 callV_of TryzMixed TryzTtH_ok (lv := (lv_F49 I0 X0)) (jt := jtF) (c := (bodyOf Tryz.f49)) Tryz.func49 (by kernel_rfl) (by kernel_rfl) (Nat.le_of_ble_eq_true (by kernel_rfl)) (by kernel_rfl) (loopsOK_of _ 0 (loops1 (by kernel_rfl) (S0_F49 hB0)) (scopes0 (by kernel_rfl))) ((M_F49_eq _ _ _ _ _ _ _ _ _ _).mpr h)
def M_F48  (K : Value → Mem → Prop) (w0 : World) (b_buf o_buf l_buf c_buf : Nat) (x : Int) (m : Mem) : Prop :=
 0 ≤ (1 : Int) ∧ cond (decide (x < (0 : Int))) (callV Tryz.prog w0 49 [(.slice (some ⟨b_buf, o_buf, none⟩) l_buf c_buf), (.int .u64 (xorI .u64 (IntKind.wrap .u64 ((IntKind.wrap .u64 x) * 2 ^ min (Int.toNat (1 : Int)) (IntKind.bits .u64)))))] m fun v1 m2 => ∃ (z3 : Int), v1 = (.int .i64 z3) ∧ K (.int .i64 z3) m2) (callV Tryz.prog w0 49 [(.slice (some ⟨b_buf, o_buf, none⟩) l_buf c_buf), (.int .u64 (IntKind.wrap .u64 ((IntKind.wrap .u64 x) * 2 ^ min (Int.toNat (1 : Int)) (IntKind.bits .u64))))] m fun v4 m5 => ∃ (z6 : Int), v4 = (.int .i64 z6) ∧ K (.int .i64 z6) m5)
theorem M_F48_eq  (K : Value → Mem → Prop) (w0 : World) (b_buf o_buf l_buf c_buf : Nat) (x : Int) (m : Mem) :
  vc Tryz.prog w0 TryzTtH lvF jtF (bodyOf Tryz.f48) 0 (postV TryzTtH Tryz.f48.results.toList K) (env0 [(.slice (some ⟨b_buf, o_buf, none⟩) l_buf c_buf), (.int .i64 x)]) m = M_F48  K w0 b_buf o_buf l_buf c_buf x m := by kernel_rfl
theorem C_F48 {w0 : World}  {K : Value → Mem → Prop} {b_buf o_buf l_buf c_buf : Nat} {x : Int} {m : Mem}
  (h : M_F48  K w0 b_buf o_buf l_buf c_buf x m) : callV Tryz.prog w0 48 [(.slice (some ⟨b_buf, o_buf, none⟩) l_buf c_buf), (.int .i64 x)] m K :=
 callV_of TryzMixed TryzTtH_ok (lv := lvF) (jt := jtF) (c := (bodyOf Tryz.f48)) Tryz.func48 (by kernel_rfl) (by kernel_rfl) (Nat.le_of_ble_eq_true (by kernel_rfl)) (by kernel_rfl) (loopsOK_of _ 0 (loops0 (by kernel_rfl) ) (scopes0 (by kernel_rfl))) ((M_F48_eq  _ _ _ _ _ _ _ _).mpr h)
def L0_F53 : LS := ⟨[(8, .sl), (9, .iv .i64)], [(2, .iv .u64), (3, .iv .i64), (4, .iv .u64), (5, .iv .u64), (10, .iv .i64)], [.exit 0, .ret]⟩
def P0_F53 (b8 o8 l8 c8 : Nat) (s9 : Int) : List SV := [.sl b8 o8 l8 c8, .iv .i64 s9]
def lv_F53 (I0 : LI) (X0 : LX) : Nat → Env → Mem → Post → Prop := fun i s m Q => match i with | 0 => lv1 L0_F53 I0 X0 s m Q | _ => False
def R0_F53 (I0 : LI) (X0 : LX) (mu0 : LM)  (w0 : World) (b8 o8 l8 c8 : Nat) (s9 : Int) (s2 s3 x s_ s10 : Int) (n : Nat) (m : Mem) : Prop :=
 cond (decide (s10 < s9)) (0 ≤ s10 ∧ s10 < (↑(l8) : Int) ∧ m.kd b8 (o8 + Int.toNat s10) = some .u8 ∧ ∀ z13, m.val b8 (o8 + Int.toNat s10) = z13 → cond (s10 == (10 : Int)) (inR .i64 (s10 + (1 : Int)) ∧ inR .i64 (0 - (s10 + (1 : Int))) ∧ XF1 L0_F53 X0 1 (P0_F53 b8 o8 l8 c8 s9) [(.int .u64 (0 : Int)), (.int .i64 (0 - (s10 + (1 : Int)))), (.int .u64 x), (.int .u64 s_), (.int .i64 s10)] m) (cond (decide (z13 < (128 : Int))) (cond (s10 == (9 : Int)) (cond (decide (z13 > (1 : Int))) (inR .i64 (s10 + (1 : Int)) ∧ inR .i64 (0 - (s10 + (1 : Int))) ∧ XF1 L0_F53 X0 1 (P0_F53 b8 o8 l8 c8 s9) [(.int .u64 (0 : Int)), (.int .i64 (0 - (s10 + (1 : Int)))), (.int .u64 x), (.int .u64 s_), (.int .i64 s10)] m) (0 ≤ s_ ∧ inR .i64 (s10 + (1 : Int)) ∧ XF1 L0_F53 X0 1 (P0_F53 b8 o8 l8 c8 s9) [(.int .u64 (orI .u64 x (IntKind.wrap .u64 ((IntKind.wrap .u64 z13) * 2 ^ min (Int.toNat s_) (IntKind.bits .u64))))), (.int .i64 (s10 + (1 : Int))), (.int .u64 x), (.int .u64 s_), (.int .i64 s10)] m)) (0 ≤ s_ ∧ inR .i64 (s10 + (1 : Int)) ∧ XF1 L0_F53 X0 1 (P0_F53 b8 o8 l8 c8 s9) [(.int .u64 (orI .u64 x (IntKind.wrap .u64 ((IntKind.wrap .u64 z13) * 2 ^ min (Int.toNat s_) (IntKind.bits .u64))))), (.int .i64 (s10 + (1 : Int))), (.int .u64 x), (.int .u64 s_), (.int .i64 s10)] m)) (0 ≤ s_ ∧ inR .i64 (s10 + (1 : Int)) ∧ KF1 L0_F53 I0 mu0 (P0_F53 b8 o8 l8 c8 s9) n [(.int .u64 s2), (.int .i64 s3), (.int .u64 (orI .u64 x (IntKind.wrap .u64 ((IntKind.wrap .u64 (IntKind.wrap .u8 (↑(BitVec.toNat (BitVec.ofInt (IntKind.bits .u8) z13 &&& BitVec.ofInt (IntKind.bits .u8) (127 : Int))) : Int))) * 2 ^ min (Int.toNat s_) (IntKind.bits .u64))))), (.int .u64 (IntKind.wrap .u64 (s_ + (7 : Int)))), (.int .i64 (s10 + (1 : Int)))] m))) (XF1 L0_F53 X0 0 (P0_F53 b8 o8 l8 c8 s9) [(.int .u64 s2), (.int .i64 s3), (.int .u64 x), (.int .u64 s_), (.int .i64 s10)] m)
theorem R0_F53_eq (I0 : LI) (X0 : LX) (mu0 : LM)  (w0 : World) (b8 o8 l8 c8 : Nat) (s9 : Int) (s2 s3 x s_ s10 : Int) (n : Nat) (m : Mem) (g : Env) :
  vc Tryz.prog w0 TryzTtH lvF jtF (roundOf (bodyOf Tryz.f53) 0) 0 (roundV (QL L0_F53 X0 (P0_F53 b8 o8 l8 c8 s9)) (KL L0_F53 I0 mu0 (P0_F53 b8 o8 l8 c8 s9) n)) (chainL (chainL g L0_F53.ps (P0_F53 b8 o8 l8 c8 s9)) L0_F53.ls [.iv .u64 s2, .iv .i64 s3, .iv .u64 x, .iv .u64 s_, .iv .i64 s10]) m =
  R0_F53 I0 X0 mu0  w0 b8 o8 l8 c8 s9 s2 s3 x s_ s10 n m := by kernel_rfl
theorem S0_F53 {w0 : World} {I0 : LI} {X0 : LX} {mu0 : LM}  (hB0 : ∀ (b8 o8 l8 c8 : Nat) (s9 : Int) (s2 s3 x s_ s10 : Int) (n : Nat) (m : Mem), I0 (P0_F53 b8 o8 l8 c8 s9) [.iv .u64 s2, .iv .i64 s3, .iv .u64 x, .iv .u64 s_, .iv .i64 s10] m → mu0 (P0_F53 b8 o8 l8 c8 s9) [.iv .u64 s2, .iv .i64 s3, .iv .u64 x, .iv .u64 s_, .iv .i64 s10] < n + 1 → R0_F53 I0 X0 mu0  w0 b8 o8 l8 c8 s9 s2 s3 x s_ s10 n m) :
  ∀ s m Q, (lv_F53 I0 X0) 0 s m Q → Sat Tryz.prog w0 49 (.loop (roundOf (bodyOf Tryz.f53) 0)) Q s m :=
 loopG TryzMixed TryzTtH_ok (lv := lvF) (jt := jtF) (by kernel_rfl) (loopsOK_of _ 0 (loops0 (by kernel_rfl) ) (scopes0 (by kernel_rfl))) L0_F53 (mu := mu0) fun b8 o8 l8 c8 s9 s2 s3 x s_ s10 n m hI hm g => (R0_F53_eq _ _ _  _ b8 o8 l8 c8 s9 s2 s3 x s_ s10 n m g).mpr (hB0 b8 o8 l8 c8 s9 s2 s3 x s_ s10 n m hI hm)
def M_F53 (I0 : LI) (X0 : LX) (K : Value → Mem → Prop) (w0 : World) (b_buf o_buf l_buf c_buf : Nat) (m : Mem) : Prop :=
 (I0 (P0_F53 b_buf o_buf l_buf c_buf (↑(l_buf) : Int)) [.iv .u64 (0 : Int), .iv .i64 (0 : Int), .iv .u64 (0 : Int), .iv .u64 (0 : Int), .iv .i64 (0 : Int)] m) ∧ ((∀ (z1 : Int) (z2 : Int) (z3 : Int) (z4 : Int) (z5 : Int) (m6 : Mem), X0 0 (P0_F53 b_buf o_buf l_buf c_buf (↑(l_buf) : Int)) [.iv .u64 z1, .iv .i64 z2, .iv .u64 z3, .iv .u64 z4, .iv .i64 z5] m6 → ∀ _ : Env, K (.tuple #[(.int .u64 (0 : Int)), (.int .i64 (0 : Int))]) m6)) ∧ ((∀ (z7 : Int) (z8 : Int) (z9 : Int) (z10 : Int) (z11 : Int) (m12 : Mem), X0 1 (P0_F53 b_buf o_buf l_buf c_buf (↑(l_buf) : Int)) [.iv .u64 z7, .iv .i64 z8, .iv .u64 z9, .iv .u64 z10, .iv .i64 z11] m12 → ∀ _ : Env, K (.tuple #[(.int .u64 z7), (.int .i64 z8)]) m12))
theorem M_F53_eq (I0 : LI) (X0 : LX) (K : Value → Mem → Prop) (w0 : World) (b_buf o_buf l_buf c_buf : Nat) (m : Mem) :
  vc Tryz.prog w0 TryzTtH (lv_F53 I0 X0) jtF (bodyOf Tryz.f53) 0 (postV TryzTtH Tryz.f53.results.toList K) (env0 [(.slice (some ⟨b_buf, o_buf, none⟩) l_buf c_buf)]) m = M_F53 I0 X0 K w0 b_buf o_buf l_buf c_buf m := by kernel_rfl
theorem C_F53 {w0 : World} {I0 : LI} {X0 : LX} {mu0 : LM} {K : Value → Mem → Prop} {b_buf o_buf l_buf c_buf : Nat} {m : Mem} (hB0 : ∀ (b8 o8 l8 c8 : Nat) (s9 : Int) (s2 s3 x s_ s10 : Int) (n : Nat) (m : Mem), I0 (P0_F53 b8 o8 l8 c8 s9) [.iv .u64 s2, .iv .i64 s3, .iv .u64 x, .iv .u64 s_, .iv .i64 s10] m → mu0 (P0_F53 b8 o8 l8 c8 s9) [.iv .u64 s2, .iv .i64 s3, .iv .u64 x, .iv .u64 s_, .iv .i64 s10] < n + 1 → R0_F53 I0 X0 mu0  w0 b8 o8 l8 c8 s9 s2 s3 x s_ s10 n m)
  (h : M_F53 I0 X0 K w0 b_buf o_buf l_buf c_buf m) : callV Tryz.prog w0 53 [(.slice (some ⟨b_buf, o_buf, none⟩) l_buf c_buf)] m K :=
 callV_of TryzMixed TryzTtH_ok (lv := (lv_F53 I0 X0)) (jt := jtF) (c := (bodyOf Tryz.f53)) Tryz.func53 (by kernel_rfl) (by kernel_rfl) (Nat.le_of_ble_eq_true (by kernel_rfl)) (by kernel_rfl) (loopsOK_of _ 0 (loops1 (by kernel_rfl) (S0_F53 hB0)) (scopes0 (by kernel_rfl))) ((M_F53_eq _ _ _ _ _ _ _ _ _).mpr h)
def M_F51  (K : Value → Mem → Prop) (w0 : World) (b_buf o_buf l_buf c_buf : Nat) (m : Mem) : Prop :=
 callV Tryz.prog w0 53 [(.slice (some ⟨b_buf, o_buf, none⟩) l_buf c_buf)] m fun v1 m2 => ∃ (z3 : Int) (z4 : Int), v1 = (.tuple #[(.int .u64 z3), (.int .i64 z4)]) ∧ 0 ≤ (1 : Int) ∧ cond ((IntKind.wrap .u64 (↑(BitVec.toNat (BitVec.ofInt (IntKind.bits .u64) z3 &&& BitVec.ofInt (IntKind.bits .u64) (1 : Int))) : Int)) != (0 : Int)) (K (.tuple #[(.int .i64 (xorI .i64 (IntKind.wrap .i64 (z3 / 2 ^ min (Int.toNat (1 : Int)) (IntKind.bits .u64))))), (.int .i64 z4)]) m2) (K (.tuple #[(.int .i64 (IntKind.wrap .i64 (z3 / 2 ^ min (Int.toNat (1 : Int)) (IntKind.bits .u64)))), (.int .i64 z4)]) m2)
theorem M_F51_eq  (K : Value → Mem → Prop) (w0 : World) (b_buf o_buf l_buf c_buf : Nat) (m : Mem) :
  vc Tryz.prog w0 TryzTtH lvF jtF (bodyOf Tryz.f51) 0 (postV TryzTtH Tryz.f51.results.toList K) (env0 [(.slice (some ⟨b_buf, o_buf, none⟩) l_buf c_buf)]) m = M_F51  K w0 b_buf o_buf l_buf c_buf m := by kernel_rfl
theorem C_F51 {w0 : World}  {K : Value → Mem → Prop} {b_buf o_buf l_buf c_buf : Nat} {m : Mem}
  (h : M_F51  K w0 b_buf o_buf l_buf c_buf m) : callV Tryz.prog w0 51 [(.slice (some ⟨b_buf, o_buf, none⟩) l_buf c_buf)] m K :=
 callV_of TryzMixed TryzTtH_ok (lv := lvF) (jt := jtF) (c := (bodyOf Tryz.f51)) Tryz.func51 (by kernel_rfl) (by kernel_rfl) (Nat.le_of_ble_eq_true (by kernel_rfl)) (by kernel_rfl) (loopsOK_of _ 0 (loops0 (by kernel_rfl) ) (scopes0 (by kernel_rfl))) ((M_F51_eq  _ _ _ _ _ _ _).mpr h)
def M_F54  (K : Value → Mem → Prop) (w0 : World) (b_a o_a : Nat) (i v : Int) (m : Mem) : Prop :=
 ∃ (b1 o2 l3 c4 : Nat), m.ob b_a (o_a + 0) = some (.slice (some ⟨b1, o2, none⟩) l3 c4) ∧ ∃ (b5 o26 l27 c28 : Nat), m.ob b_a (o_a + 0) = some (.slice (some ⟨b5, o26, none⟩) l27 c28) ∧ inR .i32 v ∧ 0 ≤ i ∧ i < (↑(l27) : Int) ∧ m.kd b5 (o26 + Int.toNat i) = some .i32 ∧ m.ro b5 = false ∧ ∀ m29, m29 = Mem.st m b5 (o26 + Int.toNat i) v → K (.tuple #[]) m29
theorem M_F54_eq  (K : Value → Mem → Prop) (w0 : World) (b_a o_a : Nat) (i v : Int) (m : Mem) :
  vc Tryz.prog w0 TryzTtH lvF jtF (bodyOf Tryz.f54) 0 (postV TryzTtH Tryz.f54.results.toList K) (env0 [(.pointer (some ⟨b_a, o_a, none⟩)), (.int .i64 i), (.int .i64 v)]) m = M_F54  K w0 b_a o_a i v m := by kernel_rfl
theorem C_F54 {w0 : World}  {K : Value → Mem → Prop} {b_a o_a : Nat} {i v : Int} {m : Mem}
  (h : M_F54  K w0 b_a o_a i v m) : callV Tryz.prog w0 54 [(.pointer (some ⟨b_a, o_a, none⟩)), (.int .i64 i), (.int .i64 v)] m K :=
 callV_of TryzMixed TryzTtH_ok (lv := lvF) (jt := jtF) (c := (bodyOf Tryz.f54)) Tryz.func54 (by kernel_rfl) (by kernel_rfl) (Nat.le_of_ble_eq_true (by kernel_rfl)) (by kernel_rfl) (loopsOK_of _ 0 (loops0 (by kernel_rfl) ) (scopes0 (by kernel_rfl))) ((M_F54_eq  _ _ _ _ _ _ _).mpr h)
end Go.Proofs.YtdhifgedhaapjaaGreatDoor
set_option maxRecDepth 100000
namespace Go.Proofs.YtdhifgedhaapjaaGreatDoor
open Go
def M_F18  (K : Value → Mem → Prop) (w0 : World) (b_b o_b : Nat) (m : Mem) : Prop :=
 ∃ (b1 o12 l13 c14 : Nat), m.ob b_b (o_b + 0) = some (.slice (some ⟨b1, o12, none⟩) l13 c14) ∧ m.kd b_b (o_b + 1) = some .i64 ∧ ∀ z15, m.val b_b (o_b + 1) = z15 → 0 ≤ z15 ∧ z15 ≤ (↑(l13) : Int) ∧ l13 ≤ c14 ∧ K (.slice (some ⟨b1, (o12 + (if Int.toNat z15 = c14 then 0 else Int.toNat z15)), none⟩) (l13 - Int.toNat z15) (c14 - Int.toNat z15)) m
theorem M_F18_eq  (K : Value → Mem → Prop) (w0 : World) (b_b o_b : Nat) (m : Mem) :
  vc Tryz.prog w0 TryzTtH lvF jtF (bodyOf Tryz.f18) 0 (postV TryzTtH Tryz.f18.results.toList K) (env0 [(.pointer (some ⟨b_b, o_b, none⟩))]) m = M_F18  K w0 b_b o_b m := by kernel_rfl
theorem C_F18 {w0 : World}  {K : Value → Mem → Prop} {b_b o_b : Nat} {m : Mem}
  (h : M_F18  K w0 b_b o_b m) : callV Tryz.prog w0 18 [(.pointer (some ⟨b_b, o_b, none⟩))] m K :=
 callV_of TryzMixed TryzTtH_ok (lv := lvF) (jt := jtF) (c := (bodyOf Tryz.f18)) Tryz.func18 (by kernel_rfl) (by kernel_rfl) (Nat.le_of_ble_eq_true (by kernel_rfl)) (by kernel_rfl) (loopsOK_of _ 0 (loops0 (by kernel_rfl) ) (scopes0 (by kernel_rfl))) ((M_F18_eq  _ _ _ _ _).mpr h)
def M_F19  (K : Value → Mem → Prop) (w0 : World) (b_buf o_buf l_buf c_buf : Nat) (m : Mem) : Prop :=
 ∀ B1, Mem.fresh m B1 → ∀ m2, m2 = Mem.newC m B1 [(.slice (some ⟨b_buf, o_buf, none⟩) l_buf c_buf), (.int .i64 (0 : Int)), (.int .i8 (0 : Int))] → K (.pointer (some ⟨B1, 0, none⟩)) m2
theorem M_F19_eq  (K : Value → Mem → Prop) (w0 : World) (b_buf o_buf l_buf c_buf : Nat) (m : Mem) :
  vc Tryz.prog w0 TryzTtH lvF jtF (bodyOf Tryz.f19) 0 (postV TryzTtH Tryz.f19.results.toList K) (env0 [(.slice (some ⟨b_buf, o_buf, none⟩) l_buf c_buf)]) m = M_F19  K w0 b_buf o_buf l_buf c_buf m := by kernel_rfl
theorem C_F19 {w0 : World}  {K : Value → Mem → Prop} {b_buf o_buf l_buf c_buf : Nat} {m : Mem}
  (h : M_F19  K w0 b_buf o_buf l_buf c_buf m) : callV Tryz.prog w0 19 [(.slice (some ⟨b_buf, o_buf, none⟩) l_buf c_buf)] m K :=
 callV_of TryzMixed TryzTtH_ok (lv := lvF) (jt := jtF) (c := (bodyOf Tryz.f19)) Tryz.func19 (by kernel_rfl) (by kernel_rfl) (Nat.le_of_ble_eq_true (by kernel_rfl)) (by kernel_rfl) (loopsOK_of _ 0 (loops0 (by kernel_rfl) ) (scopes0 (by kernel_rfl))) ((M_F19_eq  _ _ _ _ _ _ _).mpr h)
def M_F23  (K : Value → Mem → Prop) (w0 : World) (b_b o_b : Nat) (m : Mem) : Prop :=
 ∃ (b1 o13 l14 c15 : Nat), m.ob b_b (o_b + 0) = some (.slice (some ⟨b1, o13, none⟩) l14 c15) ∧ m.kd b_b (o_b + 1) = some .i64 ∧ ∀ z16, m.val b_b (o_b + 1) = z16 → inR .i64 ((↑(l14) : Int) - z16) ∧ K (.int .i64 ((↑(l14) : Int) - z16)) m
theorem M_F23_eq  (K : Value → Mem → Prop) (w0 : World) (b_b o_b : Nat) (m : Mem) :
  vc Tryz.prog w0 TryzTtH lvF jtF (bodyOf Tryz.f23) 0 (postV TryzTtH Tryz.f23.results.toList K) (env0 [(.pointer (some ⟨b_b, o_b, none⟩))]) m = M_F23  K w0 b_b o_b m := by kernel_rfl
theorem C_F23 {w0 : World}  {K : Value → Mem → Prop} {b_b o_b : Nat} {m : Mem}
  (h : M_F23  K w0 b_b o_b m) : callV Tryz.prog w0 23 [(.pointer (some ⟨b_b, o_b, none⟩))] m K :=
 callV_of TryzMixed TryzTtH_ok (lv := lvF) (jt := jtF) (c := (bodyOf Tryz.f23)) Tryz.func23 (by kernel_rfl) (by kernel_rfl) (Nat.le_of_ble_eq_true (by kernel_rfl)) (by kernel_rfl) (loopsOK_of _ 0 (loops0 (by kernel_rfl) ) (scopes0 (by kernel_rfl))) ((M_F23_eq  _ _ _ _ _).mpr h)
def M_F146  (K : Value → Mem → Prop) (w0 : World) (b_b o_b : Nat) (m : Mem) : Prop :=
 ∃ (b1 o16 l17 c18 : Nat), m.ob b_b (o_b + 0) = some (.slice (some ⟨b1, o16, none⟩) l17 c18) ∧ 0 ≤ (0 : Int) ∧ (0 : Int) ≤ (↑(c18) : Int) ∧ oneC (.slice (some ⟨b1, o16, none⟩) (Int.toNat (0 : Int)) c18) = true ∧ (m.ob b_b (o_b + 0)).isSome = true ∧ m.ro b_b = false ∧ ∀ m19, m19 = Mem.so m b_b (o_b + 0) (.slice (some ⟨b1, o16, none⟩) (Int.toNat (0 : Int)) c18) → m19.kd b_b (o_b + 1) = some .i64 ∧ m19.ro b_b = false ∧ ∀ m20, m20 = Mem.st m19 b_b (o_b + 1) (0 : Int) → m20.kd b_b (o_b + 2) = some .i8 ∧ m20.ro b_b = false ∧ ∀ m21, m21 = Mem.st m20 b_b (o_b + 2) (0 : Int) → K (.tuple #[]) m21
theorem M_F146_eq  (K : Value → Mem → Prop) (w0 : World) (b_b o_b : Nat) (m : Mem) :
  vc Tryz.prog w0 TryzTtH lvF jtF (bodyOf Tryz.f146) 0 (postV TryzTtH Tryz.f146.results.toList K) (env0 [(.pointer (some ⟨b_b, o_b, none⟩))]) m = M_F146  K w0 b_b o_b m := by kernel_rfl
theorem C_F146 {w0 : World}  {K : Value → Mem → Prop} {b_b o_b : Nat} {m : Mem}
  (h : M_F146  K w0 b_b o_b m) : callV Tryz.prog w0 146 [(.pointer (some ⟨b_b, o_b, none⟩))] m K :=
 callV_of TryzMixed TryzTtH_ok (lv := lvF) (jt := jtF) (c := (bodyOf Tryz.f146)) Tryz.func146 (by kernel_rfl) (by kernel_rfl) (Nat.le_of_ble_eq_true (by kernel_rfl)) (by kernel_rfl) (loopsOK_of _ 0 (loops0 (by kernel_rfl) ) (scopes0 (by kernel_rfl))) ((M_F146_eq  _ _ _ _ _).mpr h)
def M_F149  (K : Value → Mem → Prop) (w0 : World) (b_b o_b : Nat) (m : Mem) : Prop :=
 ∃ (b1 o13 l14 c15 : Nat), m.ob b_b (o_b + 0) = some (.slice (some ⟨b1, o13, none⟩) l14 c15) ∧ m.kd b_b (o_b + 1) = some .i64 ∧ ∀ z16, m.val b_b (o_b + 1) = z16 → K (.bool (decide ((↑(l14) : Int) ≤ z16))) m
theorem M_F149_eq  (K : Value → Mem → Prop) (w0 : World) (b_b o_b : Nat) (m : Mem) :
  vc Tryz.prog w0 TryzTtH lvF jtF (bodyOf Tryz.f149) 0 (postV TryzTtH Tryz.f149.results.toList K) (env0 [(.pointer (some ⟨b_b, o_b, none⟩))]) m = M_F149  K w0 b_b o_b m := by kernel_rfl
theorem C_F149 {w0 : World}  {K : Value → Mem → Prop} {b_b o_b : Nat} {m : Mem}
  (h : M_F149  K w0 b_b o_b m) : callV Tryz.prog w0 149 [(.pointer (some ⟨b_b, o_b, none⟩))] m K :=
 callV_of TryzMixed TryzTtH_ok (lv := lvF) (jt := jtF) (c := (bodyOf Tryz.f149)) Tryz.func149 (by kernel_rfl) (by kernel_rfl) (Nat.le_of_ble_eq_true (by kernel_rfl)) (by kernel_rfl) (loopsOK_of _ 0 (loops0 (by kernel_rfl) ) (scopes0 (by kernel_rfl))) ((M_F149_eq  _ _ _ _ _).mpr h)
def M_F150  (K : Value → Mem → Prop) (w0 : World) (b_b o_b : Nat) (n_ : Int) (m : Mem) : Prop :=
 ∃ (s1 : Option Addr) (l2 c3 : Nat), m.ob b_b (o_b + 0) = some (.slice s1 l2 c3) ∧ ∃ (s6 : Option Addr) (l33 c34 : Nat), m.ob b_b (o_b + 0) = some (.slice s6 l33 c34) ∧ inR .i64 ((↑(c34) : Int) - (↑(l2) : Int)) ∧ cond (decide (n_ ≤ ((↑(c34) : Int) - (↑(l2) : Int)))) (∃ (s35 : Option Addr) (l36 c37 : Nat), m.ob b_b (o_b + 0) = some (.slice s35 l36 c37) ∧ inR .i64 ((↑(l2) : Int) + n_) ∧ slG (.slice 5 .u8) (.mode 1) (.slice s35 l36 c37) none (some (.int .i64 ((↑(l2) : Int) + n_))) fun v38 => oneC v38 = true ∧ (m.ob b_b (o_b + 0)).isSome = true ∧ m.ro b_b = false ∧ ∀ m39, m39 = Mem.so m b_b (o_b + 0) v38 → K (.tuple #[(.int .i64 (↑(l2) : Int)), (.bool true)]) m39) (K (.tuple #[(.int .i64 (0 : Int)), (.bool false)]) m)
theorem M_F150_eq  (K : Value → Mem → Prop) (w0 : World) (b_b o_b : Nat) (n_ : Int) (m : Mem) :
  vc Tryz.prog w0 TryzTtB lvF jtF (bodyOf Tryz.f150) 0 (postV TryzTtB Tryz.f150.results.toList K) (env0 [(.pointer (some ⟨b_b, o_b, none⟩)), (.int .i64 n_)]) m = M_F150  K w0 b_b o_b n_ m := by kernel_rfl
theorem C_F150 {w0 : World}  {K : Value → Mem → Prop} {b_b o_b : Nat} {n_ : Int} {m : Mem}
  (h : M_F150  K w0 b_b o_b n_ m) : callV Tryz.prog w0 150 [(.pointer (some ⟨b_b, o_b, none⟩)), (.int .i64 n_)] m K :=
 callV_of TryzMixed TryzTtB_ok (lv := lvF) (jt := jtF) (c := (bodyOf Tryz.f150)) Tryz.func150 (by kernel_rfl) (by kernel_rfl) (Nat.le_of_ble_eq_true (by kernel_rfl)) (by kernel_rfl) (loopsOK_of _ 0 (loops0 (by kernel_rfl) ) (scopes0 (by kernel_rfl))) ((M_F150_eq  _ _ _ _ _ _).mpr h)
def M_F23B  (K : Value → Mem → Prop) (w0 : World) (b_b o_b : Nat) (m : Mem) : Prop :=
 ∃ (s1 : Option Addr) (l13 c14 : Nat), m.ob b_b (o_b + 0) = some (.slice s1 l13 c14) ∧ m.kd b_b (o_b + 1) = some .i64 ∧ ∀ z15, m.val b_b (o_b + 1) = z15 → inR .i64 ((↑(l13) : Int) - z15) ∧ K (.int .i64 ((↑(l13) : Int) - z15)) m
theorem M_F23B_eq  (K : Value → Mem → Prop) (w0 : World) (b_b o_b : Nat) (m : Mem) :
  vc Tryz.prog w0 TryzTtB lvF jtF (bodyOf Tryz.f23) 0 (postV TryzTtB Tryz.f23.results.toList K) (env0 [(.pointer (some ⟨b_b, o_b, none⟩))]) m = M_F23B  K w0 b_b o_b m := by kernel_rfl
theorem C_F23B {w0 : World}  {K : Value → Mem → Prop} {b_b o_b : Nat} {m : Mem}
  (h : M_F23B  K w0 b_b o_b m) : callV Tryz.prog w0 23 [(.pointer (some ⟨b_b, o_b, none⟩))] m K :=
 callV_of TryzMixed TryzTtB_ok (lv := lvF) (jt := jtF) (c := (bodyOf Tryz.f23)) Tryz.func23 (by kernel_rfl) (by kernel_rfl) (Nat.le_of_ble_eq_true (by kernel_rfl)) (by kernel_rfl) (loopsOK_of _ 0 (loops0 (by kernel_rfl) ) (scopes0 (by kernel_rfl))) ((M_F23B_eq  _ _ _ _ _).mpr h)
def M_F151  (K : Value → Mem → Prop) (w0 : World) (b_b o_b : Nat) (n_ : Int) (m : Mem) : Prop :=
 callV Tryz.prog w0 23 [(.pointer (some ⟨b_b, o_b, none⟩))] m fun v1 m2 => ∃ (z3 : Int), v1 = (.int .i64 z3) ∧ cond (z3 == (0 : Int)) (m2.kd b_b (o_b + 1) = some .i64 ∧ ∀ z4, m2.val b_b (o_b + 1) = z4 → cond (z4 != (0 : Int)) (callV Tryz.prog w0 146 [(.pointer (some ⟨b_b, o_b, none⟩))] m2 fun _ m6 => callV Tryz.prog w0 150 [(.pointer (some ⟨b_b, o_b, none⟩)), (.int .i64 n_)] m6 fun v7 m8 => ∃ (z9 : Int) (z10 : Bool), v7 = (.tuple #[(.int .i64 z9), (.bool z10)]) ∧ cond z10 (K (.int .i64 z9) m8) (∃ (b110 o111 l112 c113 : Nat), m8.ob b_b (o_b + 0) = some (.slice (some ⟨b110, o111, none⟩) l112 c113) ∧ ∃ (b114 o115 l116 c117 : Nat), m8.ob b_b (o_b + 0) = some (.slice (some ⟨b114, o115, none⟩) l116 c117) ∧ 0 ≤ (↑(c117) : Int) ∧ 0 < (2 : Int) ∧ inR .i64 ((↑(c117) : Int) / (2 : Int)) ∧ inR .i64 (((↑(c117) : Int) / (2 : Int)) - z3) ∧ cond (decide (n_ ≤ (((↑(c117) : Int) / (2 : Int)) - z3))) (∃ mc118 : Mem, Ext mc118 m8 ∧ ∃ R119 : Mem → Prop, (∀ m2, R119 m2 → Ext mc118 m2) ∧ ∃ (b121 o122 l123 c124 : Nat), mc118.ob b_b (o_b + 0) = some (.slice (some ⟨b121, o122, none⟩) l123 c124) ∧ ∃ (b125 o126 l127 c128 : Nat), mc118.ob b_b (o_b + 0) = some (.slice (some ⟨b125, o126, none⟩) l127 c128) ∧ mc118.kd b_b (o_b + 1) = some .i64 ∧ ∀ z129, mc118.val b_b (o_b + 1) = z129 → 0 ≤ z129 ∧ z129 ≤ (↑(l127) : Int) ∧ l127 ≤ c128 ∧ ∃ (z130 : Int), ((∀ i, i < (min ((l127 - Int.toNat z129)) (l123)) → m8.kd b121 (o122 + i) = some .u8 ∧ m8.kd b125 ((o126 + (if Int.toNat z129 = c128 then 0 else Int.toNat z129)) + i) = some .u8) ∧ m8.ro b121 = false ∧ ∀ m131, m131 = Mem.copy m8 b121 o122 b125 (o126 + (if Int.toNat z129 = c128 then 0 else Int.toNat z129)) (min ((l127 - Int.toNat z129)) (l123)) → ((.int .i64 (↑(min ((l127 - Int.toNat z129)) (l123)) : Int)) : Value) = (.int .i64 z130) ∧ R119 m131) ∧ ∀ m120 : Mem, R119 m120 → m120.kd b_b (o_b + 1) = some .i64 ∧ m120.ro b_b = false ∧ ∀ m132, m132 = Mem.st m120 b_b (o_b + 1) (0 : Int) → ∃ (b133 o134 l135 c136 : Nat), m132.ob b_b (o_b + 0) = some (.slice (some ⟨b133, o134, none⟩) l135 c136) ∧ inR .i64 (z3 + n_) ∧ 0 ≤ (z3 + n_) ∧ (z3 + n_) ≤ (↑(c136) : Int) ∧ oneC (.slice (some ⟨b133, o134, none⟩) (Int.toNat (z3 + n_)) c136) = true ∧ (m132.ob b_b (o_b + 0)).isSome = true ∧ m132.ro b_b = false ∧ ∀ m137, m137 = Mem.so m132 b_b (o_b + 0) (.slice (some ⟨b133, o134, none⟩) (Int.toNat (z3 + n_)) c136) → K (.int .i64 z3) m137) (inR .i64 ((9223372036854775807 : Int) - (↑(c117) : Int)) ∧ inR .i64 (((9223372036854775807 : Int) - (↑(c117) : Int)) - n_) ∧ cond (decide ((↑(c117) : Int) > (((9223372036854775807 : Int) - (↑(c117) : Int)) - n_))) (∃ (v138 : Value), m8.ob 6 0 = some v138 ∧ False) (∃ (b139 o140 l141 c142 : Nat), m8.ob b_b (o_b + 0) = some (.slice (some ⟨b139, o140, none⟩) l141 c142) ∧ m8.kd b_b (o_b + 1) = some .i64 ∧ ∀ z143, m8.val b_b (o_b + 1) = z143 → 0 ≤ z143 ∧ z143 ≤ (↑(l141) : Int) ∧ l141 ≤ c142 ∧ m8.kd b_b (o_b + 1) = some .i64 ∧ ∀ z144, m8.val b_b (o_b + 1) = z144 → inR .i64 (z144 + n_) ∧ callV Tryz.prog w0 152 [(.slice (some ⟨b139, (o140 + (if Int.toNat z143 = c142 then 0 else Int.toNat z143)), none⟩) (l141 - Int.toNat z143) (c142 - Int.toNat z143)), (.int .i64 (z144 + n_))] m8 fun v145 m146 => ∃ (b147 o148 l149 c150 : Nat), v145 = (.slice (some ⟨b147, o148, none⟩) l149 c150) ∧ oneC (.slice (some ⟨b147, o148, none⟩) l149 c150) = true ∧ (m146.ob b_b (o_b + 0)).isSome = true ∧ m146.ro b_b = false ∧ ∀ m151, m151 = Mem.so m146 b_b (o_b + 0) (.slice (some ⟨b147, o148, none⟩) l149 c150) → m151.kd b_b (o_b + 1) = some .i64 ∧ m151.ro b_b = false ∧ ∀ m152, m152 = Mem.st m151 b_b (o_b + 1) (0 : Int) → ∃ (b153 o154 l155 c156 : Nat), m152.ob b_b (o_b + 0) = some (.slice (some ⟨b153, o154, none⟩) l155 c156) ∧ inR .i64 (z3 + n_) ∧ 0 ≤ (z3 + n_) ∧ (z3 + n_) ≤ (↑(c156) : Int) ∧ oneC (.slice (some ⟨b153, o154, none⟩) (Int.toNat (z3 + n_)) c156) = true ∧ (m152.ob b_b (o_b + 0)).isSome = true ∧ m152.ro b_b = false ∧ ∀ m157, m157 = Mem.so m152 b_b (o_b + 0) (.slice (some ⟨b153, o154, none⟩) (Int.toNat (z3 + n_)) c156) → K (.int .i64 z3) m157)))) (callV Tryz.prog w0 150 [(.pointer (some ⟨b_b, o_b, none⟩)), (.int .i64 n_)] m2 fun v158 m159 => ∃ (z160 : Int) (z161 : Bool), v158 = (.tuple #[(.int .i64 z160), (.bool z161)]) ∧ cond z161 (K (.int .i64 z160) m159) (∃ (b162 o163 l164 c165 : Nat), m159.ob b_b (o_b + 0) = some (.slice (some ⟨b162, o163, none⟩) l164 c165) ∧ ∃ (b166 o167 l168 c169 : Nat), m159.ob b_b (o_b + 0) = some (.slice (some ⟨b166, o167, none⟩) l168 c169) ∧ 0 ≤ (↑(c169) : Int) ∧ 0 < (2 : Int) ∧ inR .i64 ((↑(c169) : Int) / (2 : Int)) ∧ inR .i64 (((↑(c169) : Int) / (2 : Int)) - z3) ∧ cond (decide (n_ ≤ (((↑(c169) : Int) / (2 : Int)) - z3))) (∃ mc170 : Mem, Ext mc170 m159 ∧ ∃ R171 : Mem → Prop, (∀ m2, R171 m2 → Ext mc170 m2) ∧ ∃ (b173 o174 l175 c176 : Nat), mc170.ob b_b (o_b + 0) = some (.slice (some ⟨b173, o174, none⟩) l175 c176) ∧ ∃ (b177 o178 l179 c180 : Nat), mc170.ob b_b (o_b + 0) = some (.slice (some ⟨b177, o178, none⟩) l179 c180) ∧ mc170.kd b_b (o_b + 1) = some .i64 ∧ ∀ z181, mc170.val b_b (o_b + 1) = z181 → 0 ≤ z181 ∧ z181 ≤ (↑(l179) : Int) ∧ l179 ≤ c180 ∧ ∃ (z182 : Int), ((∀ i, i < (min ((l179 - Int.toNat z181)) (l175)) → m159.kd b173 (o174 + i) = some .u8 ∧ m159.kd b177 ((o178 + (if Int.toNat z181 = c180 then 0 else Int.toNat z181)) + i) = some .u8) ∧ m159.ro b173 = false ∧ ∀ m183, m183 = Mem.copy m159 b173 o174 b177 (o178 + (if Int.toNat z181 = c180 then 0 else Int.toNat z181)) (min ((l179 - Int.toNat z181)) (l175)) → ((.int .i64 (↑(min ((l179 - Int.toNat z181)) (l175)) : Int)) : Value) = (.int .i64 z182) ∧ R171 m183) ∧ ∀ m172 : Mem, R171 m172 → m172.kd b_b (o_b + 1) = some .i64 ∧ m172.ro b_b = false ∧ ∀ m184, m184 = Mem.st m172 b_b (o_b + 1) (0 : Int) → ∃ (b185 o186 l187 c188 : Nat), m184.ob b_b (o_b + 0) = some (.slice (some ⟨b185, o186, none⟩) l187 c188) ∧ inR .i64 (z3 + n_) ∧ 0 ≤ (z3 + n_) ∧ (z3 + n_) ≤ (↑(c188) : Int) ∧ oneC (.slice (some ⟨b185, o186, none⟩) (Int.toNat (z3 + n_)) c188) = true ∧ (m184.ob b_b (o_b + 0)).isSome = true ∧ m184.ro b_b = false ∧ ∀ m189, m189 = Mem.so m184 b_b (o_b + 0) (.slice (some ⟨b185, o186, none⟩) (Int.toNat (z3 + n_)) c188) → K (.int .i64 z3) m189) (inR .i64 ((9223372036854775807 : Int) - (↑(c169) : Int)) ∧ inR .i64 (((9223372036854775807 : Int) - (↑(c169) : Int)) - n_) ∧ cond (decide ((↑(c169) : Int) > (((9223372036854775807 : Int) - (↑(c169) : Int)) - n_))) (∃ (v190 : Value), m159.ob 6 0 = some v190 ∧ False) (∃ (b191 o192 l193 c194 : Nat), m159.ob b_b (o_b + 0) = some (.slice (some ⟨b191, o192, none⟩) l193 c194) ∧ m159.kd b_b (o_b + 1) = some .i64 ∧ ∀ z195, m159.val b_b (o_b + 1) = z195 → 0 ≤ z195 ∧ z195 ≤ (↑(l193) : Int) ∧ l193 ≤ c194 ∧ m159.kd b_b (o_b + 1) = some .i64 ∧ ∀ z196, m159.val b_b (o_b + 1) = z196 → inR .i64 (z196 + n_) ∧ callV Tryz.prog w0 152 [(.slice (some ⟨b191, (o192 + (if Int.toNat z195 = c194 then 0 else Int.toNat z195)), none⟩) (l193 - Int.toNat z195) (c194 - Int.toNat z195)), (.int .i64 (z196 + n_))] m159 fun v197 m198 => ∃ (b199 o200 l201 c202 : Nat), v197 = (.slice (some ⟨b199, o200, none⟩) l201 c202) ∧ oneC (.slice (some ⟨b199, o200, none⟩) l201 c202) = true ∧ (m198.ob b_b (o_b + 0)).isSome = true ∧ m198.ro b_b = false ∧ ∀ m203, m203 = Mem.so m198 b_b (o_b + 0) (.slice (some ⟨b199, o200, none⟩) l201 c202) → m203.kd b_b (o_b + 1) = some .i64 ∧ m203.ro b_b = false ∧ ∀ m204, m204 = Mem.st m203 b_b (o_b + 1) (0 : Int) → ∃ (b205 o206 l207 c208 : Nat), m204.ob b_b (o_b + 0) = some (.slice (some ⟨b205, o206, none⟩) l207 c208) ∧ inR .i64 (z3 + n_) ∧ 0 ≤ (z3 + n_) ∧ (z3 + n_) ≤ (↑(c208) : Int) ∧ oneC (.slice (some ⟨b205, o206, none⟩) (Int.toNat (z3 + n_)) c208) = true ∧ (m204.ob b_b (o_b + 0)).isSome = true ∧ m204.ro b_b = false ∧ ∀ m209, m209 = Mem.so m204 b_b (o_b + 0) (.slice (some ⟨b205, o206, none⟩) (Int.toNat (z3 + n_)) c208) → K (.int .i64 z3) m209))))) (callV Tryz.prog w0 150 [(.pointer (some ⟨b_b, o_b, none⟩)), (.int .i64 n_)] m2 fun v210 m211 => ∃ (z212 : Int) (z213 : Bool), v210 = (.tuple #[(.int .i64 z212), (.bool z213)]) ∧ cond z213 (K (.int .i64 z212) m211) (∃ (b214 o215 l216 c217 : Nat), m211.ob b_b (o_b + 0) = some (.slice (some ⟨b214, o215, none⟩) l216 c217) ∧ ∃ (b218 o219 l220 c221 : Nat), m211.ob b_b (o_b + 0) = some (.slice (some ⟨b218, o219, none⟩) l220 c221) ∧ 0 ≤ (↑(c221) : Int) ∧ 0 < (2 : Int) ∧ inR .i64 ((↑(c221) : Int) / (2 : Int)) ∧ inR .i64 (((↑(c221) : Int) / (2 : Int)) - z3) ∧ cond (decide (n_ ≤ (((↑(c221) : Int) / (2 : Int)) - z3))) (∃ mc222 : Mem, Ext mc222 m211 ∧ ∃ R223 : Mem → Prop, (∀ m2, R223 m2 → Ext mc222 m2) ∧ ∃ (b225 o226 l227 c228 : Nat), mc222.ob b_b (o_b + 0) = some (.slice (some ⟨b225, o226, none⟩) l227 c228) ∧ ∃ (b229 o230 l231 c232 : Nat), mc222.ob b_b (o_b + 0) = some (.slice (some ⟨b229, o230, none⟩) l231 c232) ∧ mc222.kd b_b (o_b + 1) = some .i64 ∧ ∀ z233, mc222.val b_b (o_b + 1) = z233 → 0 ≤ z233 ∧ z233 ≤ (↑(l231) : Int) ∧ l231 ≤ c232 ∧ ∃ (z234 : Int), ((∀ i, i < (min ((l231 - Int.toNat z233)) (l227)) → m211.kd b225 (o226 + i) = some .u8 ∧ m211.kd b229 ((o230 + (if Int.toNat z233 = c232 then 0 else Int.toNat z233)) + i) = some .u8) ∧ m211.ro b225 = false ∧ ∀ m235, m235 = Mem.copy m211 b225 o226 b229 (o230 + (if Int.toNat z233 = c232 then 0 else Int.toNat z233)) (min ((l231 - Int.toNat z233)) (l227)) → ((.int .i64 (↑(min ((l231 - Int.toNat z233)) (l227)) : Int)) : Value) = (.int .i64 z234) ∧ R223 m235) ∧ ∀ m224 : Mem, R223 m224 → m224.kd b_b (o_b + 1) = some .i64 ∧ m224.ro b_b = false ∧ ∀ m236, m236 = Mem.st m224 b_b (o_b + 1) (0 : Int) → ∃ (b237 o238 l239 c240 : Nat), m236.ob b_b (o_b + 0) = some (.slice (some ⟨b237, o238, none⟩) l239 c240) ∧ inR .i64 (z3 + n_) ∧ 0 ≤ (z3 + n_) ∧ (z3 + n_) ≤ (↑(c240) : Int) ∧ oneC (.slice (some ⟨b237, o238, none⟩) (Int.toNat (z3 + n_)) c240) = true ∧ (m236.ob b_b (o_b + 0)).isSome = true ∧ m236.ro b_b = false ∧ ∀ m241, m241 = Mem.so m236 b_b (o_b + 0) (.slice (some ⟨b237, o238, none⟩) (Int.toNat (z3 + n_)) c240) → K (.int .i64 z3) m241) (inR .i64 ((9223372036854775807 : Int) - (↑(c221) : Int)) ∧ inR .i64 (((9223372036854775807 : Int) - (↑(c221) : Int)) - n_) ∧ cond (decide ((↑(c221) : Int) > (((9223372036854775807 : Int) - (↑(c221) : Int)) - n_))) (∃ (v242 : Value), m211.ob 6 0 = some v242 ∧ False) (∃ (b243 o244 l245 c246 : Nat), m211.ob b_b (o_b + 0) = some (.slice (some ⟨b243, o244, none⟩) l245 c246) ∧ m211.kd b_b (o_b + 1) = some .i64 ∧ ∀ z247, m211.val b_b (o_b + 1) = z247 → 0 ≤ z247 ∧ z247 ≤ (↑(l245) : Int) ∧ l245 ≤ c246 ∧ m211.kd b_b (o_b + 1) = some .i64 ∧ ∀ z248, m211.val b_b (o_b + 1) = z248 → inR .i64 (z248 + n_) ∧ callV Tryz.prog w0 152 [(.slice (some ⟨b243, (o244 + (if Int.toNat z247 = c246 then 0 else Int.toNat z247)), none⟩) (l245 - Int.toNat z247) (c246 - Int.toNat z247)), (.int .i64 (z248 + n_))] m211 fun v249 m250 => ∃ (b251 o252 l253 c254 : Nat), v249 = (.slice (some ⟨b251, o252, none⟩) l253 c254) ∧ oneC (.slice (some ⟨b251, o252, none⟩) l253 c254) = true ∧ (m250.ob b_b (o_b + 0)).isSome = true ∧ m250.ro b_b = false ∧ ∀ m255, m255 = Mem.so m250 b_b (o_b + 0) (.slice (some ⟨b251, o252, none⟩) l253 c254) → m255.kd b_b (o_b + 1) = some .i64 ∧ m255.ro b_b = false ∧ ∀ m256, m256 = Mem.st m255 b_b (o_b + 1) (0 : Int) → ∃ (b257 o258 l259 c260 : Nat), m256.ob b_b (o_b + 0) = some (.slice (some ⟨b257, o258, none⟩) l259 c260) ∧ inR .i64 (z3 + n_) ∧ 0 ≤ (z3 + n_) ∧ (z3 + n_) ≤ (↑(c260) : Int) ∧ oneC (.slice (some ⟨b257, o258, none⟩) (Int.toNat (z3 + n_)) c260) = true ∧ (m256.ob b_b (o_b + 0)).isSome = true ∧ m256.ro b_b = false ∧ ∀ m261, m261 = Mem.so m256 b_b (o_b + 0) (.slice (some ⟨b257, o258, none⟩) (Int.toNat (z3 + n_)) c260) → K (.int .i64 z3) m261))))
theorem M_F151_eq  (K : Value → Mem → Prop) (w0 : World) (b_b o_b : Nat) (n_ : Int) (m : Mem) :
  vc Tryz.prog w0 TryzTtH lvF jtF (bodyOf Tryz.f151) 0 (postV TryzTtH Tryz.f151.results.toList K) (env0 [(.pointer (some ⟨b_b, o_b, none⟩)), (.int .i64 n_)]) m = M_F151  K w0 b_b o_b n_ m := by kernel_rfl
theorem C_F151 {w0 : World}  {K : Value → Mem → Prop} {b_b o_b : Nat} {n_ : Int} {m : Mem}
  (h : M_F151  K w0 b_b o_b n_ m) : callV Tryz.prog w0 151 [(.pointer (some ⟨b_b, o_b, none⟩)), (.int .i64 n_)] m K :=
 callV_of TryzMixed TryzTtH_ok (lv := lvF) (jt := jtF) (c := (bodyOf Tryz.f151)) Tryz.func151 (by kernel_rfl) (by kernel_rfl) (Nat.le_of_ble_eq_true (by kernel_rfl)) (by kernel_rfl) (loopsOK_of _ 0 (loops0 (by kernel_rfl) ) (scopes0 (by kernel_rfl))) ((M_F151_eq  _ _ _ _ _ _).mpr h)
def M_F151C  (K : Value → Mem → Prop) (w0 : World) (b_b o_b : Nat) (m : Mem) : Prop :=
 callV Tryz.prog w0 23 [(.pointer (some ⟨b_b, o_b, none⟩))] m fun v1 m2 => ∃ (z3 : Int), v1 = (.int .i64 z3) ∧ cond (z3 == (0 : Int)) (m2.kd b_b (o_b + 1) = some .i64 ∧ ∀ z4, m2.val b_b (o_b + 1) = z4 → cond (z4 != (0 : Int)) (callV Tryz.prog w0 146 [(.pointer (some ⟨b_b, o_b, none⟩))] m2 fun _ m6 => callV Tryz.prog w0 150 [(.pointer (some ⟨b_b, o_b, none⟩)), (.int .i64 (10 : Int))] m6 fun v7 m8 => ∃ (z9 : Int) (z10 : Bool), v7 = (.tuple #[(.int .i64 z9), (.bool z10)]) ∧ cond z10 (K (.int .i64 z9) m8) (m8.ob b_b (o_b + 0) = some (.slice none 0 0) ∧ 0 ≤ (10 : Int) ∧ (10 : Int) ≤ (64 : Int) ∧ (64 : Int) ≤ 1000000000 ∧ ∀ B11, Mem.fresh m8 B11 → ∀ m12, m12 = Mem.new m8 B11 .u8 (Int.toNat (64 : Int)) (fun _ => 0) → oneC (.slice (some ⟨B11, 0, none⟩) (Int.toNat (10 : Int)) (Int.toNat (64 : Int))) = true ∧ (m12.ob b_b (o_b + 0)).isSome = true ∧ m12.ro b_b = false ∧ ∀ m13, m13 = Mem.so m12 b_b (o_b + 0) (.slice (some ⟨B11, 0, none⟩) (Int.toNat (10 : Int)) (Int.toNat (64 : Int))) → K (.int .i64 (0 : Int)) m13)) (callV Tryz.prog w0 150 [(.pointer (some ⟨b_b, o_b, none⟩)), (.int .i64 (10 : Int))] m2 fun v14 m15 => ∃ (z16 : Int) (z17 : Bool), v14 = (.tuple #[(.int .i64 z16), (.bool z17)]) ∧ cond z17 (K (.int .i64 z16) m15) (m15.ob b_b (o_b + 0) = some (.slice none 0 0) ∧ 0 ≤ (10 : Int) ∧ (10 : Int) ≤ (64 : Int) ∧ (64 : Int) ≤ 1000000000 ∧ ∀ B18, Mem.fresh m15 B18 → ∀ m19, m19 = Mem.new m15 B18 .u8 (Int.toNat (64 : Int)) (fun _ => 0) → oneC (.slice (some ⟨B18, 0, none⟩) (Int.toNat (10 : Int)) (Int.toNat (64 : Int))) = true ∧ (m19.ob b_b (o_b + 0)).isSome = true ∧ m19.ro b_b = false ∧ ∀ m20, m20 = Mem.so m19 b_b (o_b + 0) (.slice (some ⟨B18, 0, none⟩) (Int.toNat (10 : Int)) (Int.toNat (64 : Int))) → K (.int .i64 (0 : Int)) m20))) (callV Tryz.prog w0 150 [(.pointer (some ⟨b_b, o_b, none⟩)), (.int .i64 (10 : Int))] m2 fun v21 m22 => ∃ (z23 : Int) (z24 : Bool), v21 = (.tuple #[(.int .i64 z23), (.bool z24)]) ∧ cond z24 (K (.int .i64 z23) m22) (m22.ob b_b (o_b + 0) = some (.slice none 0 0) ∧ 0 ≤ (10 : Int) ∧ (10 : Int) ≤ (64 : Int) ∧ (64 : Int) ≤ 1000000000 ∧ ∀ B25, Mem.fresh m22 B25 → ∀ m26, m26 = Mem.new m22 B25 .u8 (Int.toNat (64 : Int)) (fun _ => 0) → oneC (.slice (some ⟨B25, 0, none⟩) (Int.toNat (10 : Int)) (Int.toNat (64 : Int))) = true ∧ (m26.ob b_b (o_b + 0)).isSome = true ∧ m26.ro b_b = false ∧ ∀ m27, m27 = Mem.so m26 b_b (o_b + 0) (.slice (some ⟨B25, 0, none⟩) (Int.toNat (10 : Int)) (Int.toNat (64 : Int))) → K (.int .i64 (0 : Int)) m27))
theorem M_F151C_eq  (K : Value → Mem → Prop) (w0 : World) (b_b o_b : Nat) (m : Mem) :
  vc Tryz.prog w0 TryzTtC lvF jtF (bodyOf Tryz.f151) 0 (postV TryzTtC Tryz.f151.results.toList K) (env0 [(.pointer (some ⟨b_b, o_b, none⟩)), (.int .i64 (10 : Int))]) m = M_F151C  K w0 b_b o_b m := by kernel_rfl
theorem C_F151C {w0 : World}  {K : Value → Mem → Prop} {b_b o_b : Nat} {m : Mem}
  (h : M_F151C  K w0 b_b o_b m) : callV Tryz.prog w0 151 [(.pointer (some ⟨b_b, o_b, none⟩)), (.int .i64 (10 : Int))] m K :=
 callV_of TryzMixed TryzTtC_ok (lv := lvF) (jt := jtF) (c := (bodyOf Tryz.f151)) Tryz.func151 (by kernel_rfl) (by kernel_rfl) (Nat.le_of_ble_eq_true (by kernel_rfl)) (by kernel_rfl) (loopsOK_of _ 0 (loops0 (by kernel_rfl) ) (scopes0 (by kernel_rfl))) ((M_F151C_eq  _ _ _ _ _).mpr h)
def M_F148  (K : Value → Mem → Prop) (w0 : World) (b_b o_b b_p o_p l_p c_p : Nat) (m : Mem) : Prop :=
 m.kd b_b (o_b + 2) = some .i8 ∧ m.ro b_b = false ∧ ∀ m1, m1 = Mem.st m b_b (o_b + 2) (0 : Int) → callV Tryz.prog w0 150 [(.pointer (some ⟨b_b, o_b, none⟩)), (.int .i64 (↑(l_p) : Int))] m1 fun v2 m3 => ∃ (z4 : Int) (z5 : Bool), v2 = (.tuple #[(.int .i64 z4), (.bool z5)]) ∧ cond (!z5) (callV Tryz.prog w0 151 [(.pointer (some ⟨b_b, o_b, none⟩)), (.int .i64 (↑(l_p) : Int))] m3 fun v6 m7 => ∃ (z8 : Int), v6 = (.int .i64 z8) ∧ ∃ (b32 o33 l34 c35 : Nat), m7.ob b_b (o_b + 0) = some (.slice (some ⟨b32, o33, none⟩) l34 c35) ∧ 0 ≤ z8 ∧ z8 ≤ (↑(l34) : Int) ∧ l34 ≤ c35 ∧ (∀ i, i < (min (l_p) ((l34 - Int.toNat z8))) → m7.kd b32 ((o33 + (if Int.toNat z8 = c35 then 0 else Int.toNat z8)) + i) = some .u8 ∧ m7.kd b_p (o_p + i) = some .u8) ∧ m7.ro b32 = false ∧ ∀ m36, m36 = Mem.copy m7 b32 (o33 + (if Int.toNat z8 = c35 then 0 else Int.toNat z8)) b_p o_p (min (l_p) ((l34 - Int.toNat z8))) → K (.tuple #[(.int .i64 (↑(min (l_p) ((l34 - Int.toNat z8))) : Int)), .nilIface]) m36) (∃ (b37 o38 l39 c40 : Nat), m3.ob b_b (o_b + 0) = some (.slice (some ⟨b37, o38, none⟩) l39 c40) ∧ 0 ≤ z4 ∧ z4 ≤ (↑(l39) : Int) ∧ l39 ≤ c40 ∧ (∀ i, i < (min (l_p) ((l39 - Int.toNat z4))) → m3.kd b37 ((o38 + (if Int.toNat z4 = c40 then 0 else Int.toNat z4)) + i) = some .u8 ∧ m3.kd b_p (o_p + i) = some .u8) ∧ m3.ro b37 = false ∧ ∀ m41, m41 = Mem.copy m3 b37 (o38 + (if Int.toNat z4 = c40 then 0 else Int.toNat z4)) b_p o_p (min (l_p) ((l39 - Int.toNat z4))) → K (.tuple #[(.int .i64 (↑(min (l_p) ((l39 - Int.toNat z4))) : Int)), .nilIface]) m41)
theorem M_F148_eq  (K : Value → Mem → Prop) (w0 : World) (b_b o_b b_p o_p l_p c_p : Nat) (m : Mem) :
  vc Tryz.prog w0 TryzTtH lvF jtF (bodyOf Tryz.f148) 0 (postV TryzTtH Tryz.f148.results.toList K) (env0 [(.pointer (some ⟨b_b, o_b, none⟩)), (.slice (some ⟨b_p, o_p, none⟩) l_p c_p)]) m = M_F148  K w0 b_b o_b b_p o_p l_p c_p m := by kernel_rfl
theorem C_F148 {w0 : World}  {K : Value → Mem → Prop} {b_b o_b b_p o_p l_p c_p : Nat} {m : Mem}
  (h : M_F148  K w0 b_b o_b b_p o_p l_p c_p m) : callV Tryz.prog w0 148 [(.pointer (some ⟨b_b, o_b, none⟩)), (.slice (some ⟨b_p, o_p, none⟩) l_p c_p)] m K :=
 callV_of TryzMixed TryzTtH_ok (lv := lvF) (jt := jtF) (c := (bodyOf Tryz.f148)) Tryz.func148 (by kernel_rfl) (by kernel_rfl) (Nat.le_of_ble_eq_true (by kernel_rfl)) (by kernel_rfl) (loopsOK_of _ 0 (loops0 (by kernel_rfl) ) (scopes0 (by kernel_rfl))) ((M_F148_eq  _ _ _ _ _ _ _ _ _).mpr h)
def M_F145  (K : Value → Mem → Prop) (w0 : World) (b_b o_b b_p o_p l_p c_p : Nat) (m : Mem) : Prop :=
 m.kd b_b (o_b + 2) = some .i8 ∧ m.ro b_b = false ∧ ∀ m1, m1 = Mem.st m b_b (o_b + 2) (0 : Int) → callV Tryz.prog w0 149 [(.pointer (some ⟨b_b, o_b, none⟩))] m1 fun v2 m3 => ∃ (z4 : Bool), v2 = (.bool z4) ∧ cond z4 (callV Tryz.prog w0 146 [(.pointer (some ⟨b_b, o_b, none⟩))] m3 fun _ m6 => cond ((↑(l_p) : Int) == (0 : Int)) (K (.tuple #[(.int .i64 (0 : Int)), .nilIface]) m6) (∃ (v7 : Value), m6.ob 4 0 = some v7 ∧ K (.tuple #[(.int .i64 (0 : Int)), v7]) m6)) (∃ mc8 : Mem, Ext mc8 m3 ∧ ∃ R9 : Mem → Prop, (∀ m2, R9 m2 → Ext mc8 m2) ∧ ∃ (b42 o43 l44 c45 : Nat), mc8.ob b_b (o_b + 0) = some (.slice (some ⟨b42, o43, none⟩) l44 c45) ∧ mc8.kd b_b (o_b + 1) = some .i64 ∧ ∀ z46, mc8.val b_b (o_b + 1) = z46 → 0 ≤ z46 ∧ z46 ≤ (↑(l44) : Int) ∧ l44 ≤ c45 ∧ ∃ (z47 : Int), ((∀ i, i < (min ((l44 - Int.toNat z46)) (l_p)) → m3.kd b_p (o_p + i) = some .u8 ∧ m3.kd b42 ((o43 + (if Int.toNat z46 = c45 then 0 else Int.toNat z46)) + i) = some .u8) ∧ m3.ro b_p = false ∧ ∀ m48, m48 = Mem.copy m3 b_p o_p b42 (o43 + (if Int.toNat z46 = c45 then 0 else Int.toNat z46)) (min ((l44 - Int.toNat z46)) (l_p)) → ((.int .i64 (↑(min ((l44 - Int.toNat z46)) (l_p)) : Int)) : Value) = (.int .i64 z47) ∧ R9 m48) ∧ ∀ m10 : Mem, R9 m10 → m10.kd b_b (o_b + 1) = some .i64 ∧ ∀ z49, m10.val b_b (o_b + 1) = z49 → inR .i64 (z49 + z47) ∧ m10.kd b_b (o_b + 1) = some .i64 ∧ m10.ro b_b = false ∧ ∀ m50, m50 = Mem.st m10 b_b (o_b + 1) (z49 + z47) → cond (decide (z47 > (0 : Int))) (m50.kd b_b (o_b + 2) = some .i8 ∧ m50.ro b_b = false ∧ ∀ m51, m51 = Mem.st m50 b_b (o_b + 2) (-1 : Int) → K (.tuple #[(.int .i64 z47), .nilIface]) m51) (K (.tuple #[(.int .i64 z47), .nilIface]) m50))
theorem M_F145_eq  (K : Value → Mem → Prop) (w0 : World) (b_b o_b b_p o_p l_p c_p : Nat) (m : Mem) :
  vc Tryz.prog w0 TryzTtH lvF jtF (bodyOf Tryz.f145) 0 (postV TryzTtH Tryz.f145.results.toList K) (env0 [(.pointer (some ⟨b_b, o_b, none⟩)), (.slice (some ⟨b_p, o_p, none⟩) l_p c_p)]) m = M_F145  K w0 b_b o_b b_p o_p l_p c_p m := by kernel_rfl
theorem C_F145 {w0 : World}  {K : Value → Mem → Prop} {b_b o_b b_p o_p l_p c_p : Nat} {m : Mem}
  (h : M_F145  K w0 b_b o_b b_p o_p l_p c_p m) : callV Tryz.prog w0 145 [(.pointer (some ⟨b_b, o_b, none⟩)), (.slice (some ⟨b_p, o_p, none⟩) l_p c_p)] m K :=
 callV_of TryzMixed TryzTtH_ok (lv := lvF) (jt := jtF) (c := (bodyOf Tryz.f145)) Tryz.func145 (by kernel_rfl) (by kernel_rfl) (Nat.le_of_ble_eq_true (by kernel_rfl)) (by kernel_rfl) (loopsOK_of _ 0 (loops0 (by kernel_rfl) ) (scopes0 (by kernel_rfl))) ((M_F145_eq  _ _ _ _ _ _ _ _ _).mpr h)
end Go.Proofs.YtdhifgedhaapjaaGreatDoor
set_option maxRecDepth 100000
namespace Go.Proofs.YtdhifgedhaapjaaGreatDoor
open Go Sa
theorem wrapU8 {z : Int} : IntKind.u8.wrap z = z % 256 := by
 show (if (false && decide (z % (256 : Int) ≥ (128 : Int))) = true then z % (256 : Int) - 256 else z % (256 : Int)) = z % 256
 simp
theorem wrapU64 {z : Int} : IntKind.u64.wrap z = z % 18446744073709551616 := by
 show (if (false && decide (z % (18446744073709551616 : Int) ≥ (9223372036854775808 : Int))) = true then z % (18446744073709551616 : Int) - 18446744073709551616 else z % (18446744073709551616 : Int)) = z % 18446744073709551616
 simp
theorem or128_fin : ∀ y : Fin 256, orI .u8 (y.val : Int) 128 = ((y.val % 128 + 128 : Nat) : Int) := by decide +kernel
theorem or128 (r : Nat) : orI .u8 (IntKind.u8.wrap (r : Int)) 128 = ((r % 128 + 128 : Nat) : Int) := by
 rw [wrapU8]
 have h := or128_fin ⟨r % 256, Nat.mod_lt _ (by omega)⟩
 have e : ((r : Int) % 256) = ((r % 256 : Nat) : Int) := by omega
 rw [e]
 simp only at h
 rw [h]
 congr 1
 omega
theorem and127_fin : ∀ y : Fin 256, IntKind.u8.wrap (↑(BitVec.toNat (BitVec.ofInt (IntKind.bits .u8) (y.val : Int) &&& BitVec.ofInt (IntKind.bits .u8) (127 : Int))) : Int) = ((y.val % 128 : Nat) : Int) := by decide +kernel
theorem and127 {z : Nat} (h : z < 256) : IntKind.u8.wrap (↑(BitVec.toNat (BitVec.ofInt (IntKind.bits .u8) (z : Int) &&& BitVec.ofInt (IntKind.bits .u8) (127 : Int))) : Int) = ((z % 128 : Nat) : Int) := and127_fin ⟨z, h⟩
theorem toNat_ofInt64 {a : Nat} (h : a < 2 ^ 62) : (BitVec.ofInt (IntKind.bits .u64) (a : Int)).toNat = a := by
 show (BitVec.ofInt 64 (a : Int)).toNat = a
 rw [BitVec.toNat_ofInt]
 have : (2 : Int) ^ 64 = 18446744073709551616 := by decide
 omega
theorem or_add {a b s : Nat} (ha : a < 2 ^ s) (hs : s ≤ 60) (hb : b * 2 ^ s < 2 ^ 62) : orI .u64 (a : Int) ((b * 2 ^ s : Nat) : Int) = ((a + b * 2 ^ s : Nat) : Int) := by
 have h62 : (2 : Nat) ^ s ≤ 2 ^ 60 := Nat.pow_le_pow_right (by omega) hs
 have h3 : (2 : Nat) ^ 62 = 4611686018427387904 := by decide
 have h4 : (2 : Nat) ^ 60 = 1152921504606846976 := by decide
 unfold orI
 rw [BitVec.toNat_or, toNat_ofInt64 (by omega), toNat_ofInt64 hb, wrapU64]
 have : a ||| b * 2 ^ s = a + b * 2 ^ s := by
  have := Nat.two_pow_add_eq_or_of_lt ha b
  rw [Nat.or_comm, Nat.mul_comm b, ← this, Nat.add_comm]
 rw [this]
 omega
theorem and1 {v : Nat} (h : v < 2 ^ 40) : IntKind.u64.wrap (↑(BitVec.toNat (BitVec.ofInt (IntKind.bits .u64) ((2 * v : Nat) : Int) &&& BitVec.ofInt (IntKind.bits .u64) (1 : Int))) : Int) = 0 := by
 have h3 : (2 : Nat) ^ 40 = 1099511627776 := by decide
 have h4 : (2 : Nat) ^ 62 = 4611686018427387904 := by decide
 rw [BitVec.toNat_and, toNat_ofInt64 (by omega), show (1 : Int) = ((1 : Nat) : Int) by rfl, toNat_ofInt64 (by omega), Nat.and_one_is_mod, wrapU64]
 omega
/-! the code of a number -/
def uv (x : Nat) : List Int := if x < 128 then [(x : Int)] else ((x % 128 + 128 : Nat) : Int) :: uv (x / 128)
termination_by x
decreasing_by omega
theorem uv_small {x : Nat} (h : x < 128) : uv x = [(x : Int)] := by rw [uv, if_pos h]
theorem uv_big {x : Nat} (h : ¬ x < 128) : uv x = ((x % 128 + 128 : Nat) : Int) :: uv (x / 128) := by rw [uv, if_neg h]
theorem uv_len3 {x : Nat} (h : x < 2097152) : (uv x).length ≤ 3 := by
 by_cases h1 : x < 128
 ·rw [uv_small h1]; simp
 ·rw [uv_big h1]
  by_cases h2 : x / 128 < 128
  ·rw [uv_small h2]; simp
  ·rw [uv_big h2, uv_small (by omega)]; simp
theorem uv_pos (x : Nat) : 1 ≤ (uv x).length := by
 by_cases h1 : x < 128
 ·rw [uv_small h1]; simp
 ·rw [uv_big h1]; simp
theorem uv_rg : ∀ (x : Nat), ∀ y ∈ uv x, 0 ≤ y ∧ y < 256 := by
 intro x
 induction x using Nat.strongRecOn with
 | _ x ih =>
  intro y hy
  by_cases h1 : x < 128
  ·rw [uv_small h1] at hy
   have : y = x := by simpa using hy
   omega
  ·rw [uv_big h1] at hy
   rcases List.mem_cons.1 hy with rfl | hy
   ·omega
   ·exact ih (x / 128) (by omega) y hy
/-! ### a list written -/
def Mem.wr (m : Mem) (b o : Nat) (L : List Int) : Mem :=
 {m with val := fun b' o' => if b' = b ∧ o ≤ o' ∧ o' < o + L.length then L.getD (o' - o) 0 else m.val b' o' }
theorem wr_nil (m : Mem) (b o : Nat) : m.wr b o [] = m := by
 cases m
 simp only [Mem.wr, List.length_nil, Nat.add_zero, Mem.mk.injEq, true_and, and_true]
 funext b' o'
 rw [if_neg (by omega)]
theorem wr_snoc (m : Mem) (b o : Nat) (L : List Int) (v : Int) : (m.wr b o L).st b (o + L.length) v = m.wr b o (L ++ [v]) := by
 simp only [Mem.wr, Mem.st, Mem.mk.injEq, true_and, and_true]
 funext b' o'
 by_cases h : b' = b ∧ o' = o + L.length
 ·rw [if_pos h, if_pos ⟨h.1, by omega, by simp; omega⟩, h.2]
  simp [List.getD_eq_getElem?_getD]
 ·rw [if_neg h]
  by_cases h2 : b' = b ∧ o ≤ o' ∧ o' < o + L.length
  ·rw [if_pos h2, if_pos ⟨h2.1, h2.2.1, by simp; omega⟩, List.getD_eq_getElem?_getD, List.getD_eq_getElem?_getD, List.getElem?_append_left (by omega)]
  ·rw [if_neg h2, if_neg]
   intro h3
   simp at h3
   omega
def At (m : Mem) (b o : Nat) (L : List Int) : Prop := ∀ i, i < L.length → m.val b (o + i) = L.getD i 0
theorem At.wr (m : Mem) (b o : Nat) (L : List Int) : At (m.wr b o L) b o L := fun i hi => by
 simp only [Mem.wr]
 rw [if_pos ⟨trivial, by omega, by omega⟩, show o + i - o = i by omega]
theorem wr_other (m : Mem) (b o : Nat) (L : List Int) {b' o' : Nat} (h : b' = b → o' < o ∨ o + L.length ≤ o') : (m.wr b o L).val b' o' = m.val b' o' := by
 simp only [Mem.wr]
 rw [if_neg]
 rintro ⟨h1, h2, h3⟩
 have := h h1
 omega
theorem At.keep {m : Mem} {b o b' o' : Nat} {L M : List Int} (h : At m b o L) (hd : b = b' → o + L.length ≤ o' ∨ o' + M.length ≤ o) : At (m.wr b' o' M) b o L := fun i hi => by
 rw [wr_other _ _ _ _ fun e => by have := hd e; omega]
 exact h i hi
theorem At.append {m : Mem} {b o : Nat} {L M : List Int} (h : At m b o L) (h2 : At m b (o + L.length) M) : At m b o (L ++ M) := fun i hi => by
 simp at hi
 rw [List.getD_eq_getElem?_getD]
 rcases Nat.lt_or_ge i L.length with hlt | hge
 ·rw [List.getElem?_append_left hlt, h i hlt, List.getD_eq_getElem?_getD]
 ·rw [List.getElem?_append_right hge, show o + i = o + L.length + (i - L.length) by omega, h2 _ (by omega), List.getD_eq_getElem?_getD]
theorem At.left {m : Mem} {b o : Nat} {L M : List Int} (h : At m b o (L ++ M)) : At m b o L := fun i hi => by
 rw [h i (by simp; omega), List.getD_eq_getElem?_getD, List.getElem?_append_left hi, List.getD_eq_getElem?_getD]
theorem At.right {m : Mem} {b o : Nat} {L M : List Int} (h : At m b o (L ++ M)) : At m b (o + L.length) M := fun i hi => by
 rw [Nat.add_assoc, h _ (by simp; omega), List.getD_eq_getElem?_getD, List.getElem?_append_right (by omega), List.getD_eq_getElem?_getD]
 congr 3
 omega
theorem At.list_eq {m : Mem} {b o : Nat} {L : List Int} (h : At m b o L) : lst (fun i => m.val b (o + i)) L.length = L := by
 apply List.ext_getElem?
 intro i
 rcases Nat.lt_or_ge i L.length with hlt | hge
 ·rw [lst_getElem? hlt, h i hlt, List.getD_eq_getElem?_getD, List.getElem?_eq_getElem hlt]
  rfl
 ·rw [List.getElem?_eq_none hge, List.getElem?_eq_none (by rw [lst_length]; exact hge)]
theorem At.of_lst (m : Mem) (b o n : Nat) : At m b o (lst (fun i => m.val b (o + i)) n) := fun i hi => by
 have hi' : i < n := by simpa [lst_length] using hi
 exact (lst_getD (T := fun i => m.val b (o + i)) hi').symm
theorem At.ext {m m' : Mem} {b o : Nat} {L : List Int} (h : At m b o L) (e : Ext m m') (hk : ∀ i, i < L.length → m.kd b (o + i) = some .u8) : At m' b o L := fun i hi => (e.val _ _ _ (hk i hi)).trans (h i hi)
/-! ### the calls -/
theorem put_49 {w0 : World} {m : Mem} {b o l c x : Nat} {K : Value → Mem → Prop} (hk : ∀ i, i < l → m.kd b (o + i) = some .u8) (hr : m.ro b = false) (hl : (uv x).length ≤ l) (hl2 : l ≤ 1000000)
  (hK : K (.int .i64 (uv x).length) (m.wr b o (uv x))) : callV Tryz.prog w0 49 [.slice (some ⟨b, o, none⟩) l c, .int .u64 x] m K := by
 refine C_F49 (I0 := fun ps ls m' => ps = [.sl b o l c] ∧ ∃ (x' : Nat) (pre : List Int), ls = [.iv .u64 x', .iv .i64 pre.length] ∧ uv x = pre ++ uv x' ∧ m' = m.wr b o pre)
  (X0 := fun _ _ ls m' => ∃ (x' : Nat) (pre : List Int), ls = [.iv .u64 x', .iv .i64 pre.length] ∧ uv x = pre ++ uv x' ∧ m' = m.wr b o pre ∧ x' < 128)
  (mu0 := fun _ ls => match ls with | [.iv _ z, _] => z.toNat | _ => 0) ?_ ?_
 ·rintro b' o' l' c' z i k m1 ⟨hps, x', pre, hls, hu, rfl⟩ hmu
  obtain ⟨rfl, rfl, rfl, rfl⟩ : b' = b ∧ o' = o ∧ l' = l ∧ c' = c := by
   unfold P0_F49 at hps
   simpa using hps
  obtain ⟨rfl, rfl⟩ : z = x' ∧ i = pre.length := by simpa using hls
  have hlen : (uv x).length = pre.length + (uv x').length := by rw [hu, List.length_append]
  have hpos := uv_pos x'
  have hmu' : x' < k + 1 := by simpa using hmu
  unfold R0_F49
  rw [Int.toNat_natCast]
  refine cond_of (fun hb => ?_) (fun hb => ?_)
  ·have hge : ¬ x' < 128 := by have := of_decide_eq_true hb; omega
   refine ⟨by omega, by omega, hk _ (by omega), hr, ?_⟩
   rintro m5 rfl
   refine ⟨by omega, inR_i64 (by omega) (by omega), ?_⟩
   rw [or128, wr_snoc, show ((x' : Int)) / 2 ^ min (Int.toNat (7 : Int)) (IntKind.bits .u64) = ((x' / 128 : Nat) : Int) by
    rw [show (2 : Int) ^ min (Int.toNat (7 : Int)) (IntKind.bits .u64) = 128 by decide]; omega,
    show ((pre.length : Int)) + (1 : Int) = ((pre ++ [((x' % 128 + 128 : Nat) : Int)]).length : Nat) by simp]
   refine KF1_mk ⟨⟨rfl, x' / 128, _, rfl, ?_, rfl⟩, ?_⟩
   ·rw [hu, uv_big hge]; simp
   ·show ((x' / 128 : Nat) : Int).toNat < k
    omega
  ·have hlt : x' < 128 := by have := of_decide_eq_false hb; omega
   exact XF1_mk ⟨x', pre, rfl, hu, rfl, hlt⟩
 ·refine ⟨⟨rfl, x, [], rfl, by simp, (wr_nil _ _ _).symm⟩, ?_⟩
  rintro z1 z2 m3 ⟨x', pre, hls, hu, rfl, hlt⟩ _
  obtain ⟨rfl, rfl⟩ : z1 = x' ∧ z2 = pre.length := by simpa using hls
  have hlen : (uv x).length = pre.length + (uv x').length := by rw [hu, List.length_append]
  have hpos := uv_pos x'
  rw [Int.toNat_natCast]
  refine ⟨by omega, by omega, hk _ (by omega), hr, ?_⟩
  rintro m4 rfl
  refine ⟨inR_i64 (by omega) (by omega), ?_⟩
  rw [wrapU8, show ((x' : Int) % 256) = x' by omega, wr_snoc, show ((pre.length : Int)) + (1 : Int) = ((uv x).length : Nat) by rw [hlen, uv_small hlt]; simp, ← uv_small hlt, ← hu]
  exact hK
theorem put_48 {w0 : World} {m : Mem} {b o l c v : Nat} {K : Value → Mem → Prop} (hk : ∀ i, i < l → m.kd b (o + i) = some .u8) (hr : m.ro b = false) (hv : v ≤ 1000000) (hl : 10 ≤ l) (hl2 : l ≤ 1000000)
  (hK : ∀ z : Int, K (.int .i64 z) (m.wr b o (uv (2 * v)))) : callV Tryz.prog w0 48 [.slice (some ⟨b, o, none⟩) l c, .int .i64 v] m K := by
 refine C_F48 ?_
 unfold M_F48
 have e1 : IntKind.wrap .u64 ((IntKind.wrap .u64 (v : Int)) * 2 ^ min (Int.toNat (1 : Int)) (IntKind.bits .u64)) = ((2 * v : Nat) : Int) := by
  rw [wrapU64, wrapU64, show (2 : Int) ^ min (Int.toNat (1 : Int)) (IntKind.bits .u64) = 2 by decide]
  omega
 rw [e1]
 refine ⟨by omega, cond_of (fun hb => ?_) (fun _ => ?_)⟩
 ·have := of_decide_eq_true hb
  omega
 ·exact put_49 hk hr (by have := uv_len3 (x := 2 * v) (by omega); omega) hl2 ⟨_, rfl, hK _⟩
theorem get_any {w0 : World} {m : Mem} {b o l c : Nat} {K : Value → Mem → Prop} (hk : ∀ i, i < l → m.kd b (o + i) = some .u8) (hl2 : l ≤ 1000000)
  (hK : ∀ z1 z2 : Int, K (.tuple #[.int .u64 z1, .int .i64 z2]) m) : callV Tryz.prog w0 53 [.slice (some ⟨b, o, none⟩) l c] m K := by
 refine C_F53 (I0 := fun ps ls m' => ps = [.sl b o l c, .iv .i64 l] ∧ ∃ (s2 s3 x s_ : Int) (i : Nat), ls = [.iv .u64 s2, .iv .i64 s3, .iv .u64 x, .iv .u64 s_, .iv .i64 i] ∧ i ≤ l ∧ 0 ≤ s_ ∧ m' = m)
  (X0 := fun _ _ _ m' => m' = m)
  (mu0 := fun _ ls => match ls with | [_, _, _, _, .iv _ z] => l - z.toNat | _ => 0) ?_ ?_
 ·rintro b' o' l' c' s9 s2 s3 x s_ s10 k m1 ⟨hps, s2', s3', x', s_', i, hls, hi, h0, rfl⟩ hmu
  obtain ⟨rfl, rfl, rfl, rfl, rfl⟩ : b' = b ∧ o' = o ∧ l' = l ∧ c' = c ∧ s9 = l := by
   unfold P0_F53 at hps
   simpa [and_assoc] using hps
  obtain ⟨rfl, rfl, rfl, rfl, rfl⟩ : s2 = s2' ∧ s3 = s3' ∧ x = x' ∧ s_ = s_' ∧ s10 = i := by simpa using hls
  have hmu' : l' - i < k + 1 := by simpa using hmu
  unfold R0_F53
  rw [Int.toNat_natCast]
  refine cond_of (fun hb => ?_) (fun hb => XF1_mk rfl)
  have hlt : i < l' := by have := of_decide_eq_true hb; omega
  refine ⟨by omega, by omega, hk _ hlt, fun z _ => ?_⟩
  have r1 : inR .i64 ((i : Int) + 1) := inR_i64 (by omega) (by omega)
  have r2 : inR .i64 (0 - ((i : Int) + 1)) := inR_i64 (by omega) (by omega)
  refine cond_of (fun _ => ⟨r1, r2, XF1_mk rfl⟩) (fun _ => cond_of (fun _ => cond_of (fun _ => cond_of (fun _ => ⟨r1, r2, XF1_mk rfl⟩) (fun _ => ⟨h0, r1, XF1_mk rfl⟩)) (fun _ => ⟨h0, r1, XF1_mk rfl⟩)) (fun _ => ⟨h0, r1, ?_⟩))
  rw [show (i : Int) + 1 = ((i + 1 : Nat) : Int) by omega]
  refine KF1_mk ⟨⟨rfl, _, _, _, _, i + 1, rfl, hlt, ?_, rfl⟩, ?_⟩
  ·rw [wrapU64]; omega
  ·show l' - (((i + 1 : Nat) : Int)).toNat < k
   omega
 ·refine ⟨⟨rfl, 0, 0, 0, 0, 0, rfl, by omega, by omega, rfl⟩, ?_, ?_⟩
  ·rintro z1 z2 z3 z4 z5 m6 rfl _
   exact hK _ _
  ·rintro z1 z2 z3 z4 z5 m6 rfl _
   exact hK _ _
theorem get_53 {w0 : World} {m : Mem} {b o l c v : Nat} {K : Value → Mem → Prop} (hk : ∀ i, i < l → m.kd b (o + i) = some .u8) (hl2 : l ≤ 1000000) (hv : v < 2 ^ 28) (hl : (uv v).length ≤ l) (ha : At m b o (uv v))
  (hK : K (.tuple #[.int .u64 v, .int .i64 (uv v).length]) m) : callV Tryz.prog w0 53 [.slice (some ⟨b, o, none⟩) l c] m K := by
 have p28 : (2 : Nat) ^ 28 = 268435456 := by decide
 refine C_F53 (I0 := fun ps ls m' => ps = [.sl b o l c, .iv .i64 l] ∧ ∃ (s2 s3 : Int) (x v' : Nat) (pre : List Int), ls = [.iv .u64 s2, .iv .i64 s3, .iv .u64 x, .iv .u64 (7 * pre.length : Nat), .iv .i64 pre.length] ∧
   uv v = pre ++ uv v' ∧ v = x + v' * 2 ^ (7 * pre.length) ∧ x < 2 ^ (7 * pre.length) ∧ pre.length ≤ 3 ∧ m' = m)
  (X0 := fun j _ ls m' => j = 1 ∧ m' = m ∧ ∃ (x s_ s : Int), ls = [.iv .u64 v, .iv .i64 (uv v).length, .iv .u64 x, .iv .u64 s_, .iv .i64 s])
  (mu0 := fun _ ls => match ls with | [_, _, _, _, .iv _ z] => 4 - z.toNat | _ => 0) ?_ ?_
 ·rintro b' o' l' c' s9 s2 s3 x s_ s10 k m1 ⟨hps, s2', s3', x', v', pre, hls, hu, hx, hlt, h3, rfl⟩ hmu
  obtain ⟨rfl, rfl, rfl, rfl, rfl⟩ : b' = b ∧ o' = o ∧ l' = l ∧ c' = c ∧ s9 = l := by
   unfold P0_F53 at hps
   simpa [and_assoc] using hps
  obtain ⟨rfl, rfl, rfl, rfl, rfl⟩ : s2 = s2' ∧ s3 = s3' ∧ x = x' ∧ s_ = (7 * pre.length : Nat) ∧ s10 = pre.length := by simpa using hls
  have hmu' : 4 - pre.length < k + 1 := by simpa using hmu
  have hlen : (uv v).length = pre.length + (uv v').length := by rw [hu, List.length_append]
  have hpos := uv_pos v'
  have hval : m1.val b' (o' + pre.length) = (uv v').getD 0 0 := by
   rw [ha _ (by omega), hu, List.getD_eq_getElem?_getD, List.getElem?_append_right (by omega), List.getD_eq_getElem?_getD, Nat.sub_self]
  have hp : 0 < 2 ^ (7 * pre.length) := Nat.two_pow_pos _
  have hvle : v' ≤ v' * 2 ^ (7 * pre.length) := Nat.le_mul_of_pos_right _ hp
  have esh : (2 : Int) ^ min (Int.toNat ((7 * pre.length : Nat) : Int)) (IntKind.bits .u64) = ((2 ^ (7 * pre.length) : Nat) : Int) := by
   rw [Int.toNat_natCast, show min (7 * pre.length) (IntKind.bits .u64) = 7 * pre.length from Nat.min_eq_left (show 7 * pre.length ≤ 64 by omega)]
   simp
  have p62 : (2 : Nat) ^ 62 = 4611686018427387904 := by decide
  have shl : ∀ q : Nat, q * 2 ^ (7 * pre.length) ≤ v → IntKind.wrap .u64 ((IntKind.wrap .u64 (q : Int)) * ((2 ^ (7 * pre.length) : Nat) : Int)) = ((q * 2 ^ (7 * pre.length) : Nat) : Int) := fun q hq => by
   have : q ≤ q * 2 ^ (7 * pre.length) := Nat.le_mul_of_pos_right _ hp
   rw [show IntKind.wrap .u64 (q : Int) = q by rw [wrapU64]; omega, ← Int.natCast_mul, wrapU64]
   omega
  unfold R0_F53
  rw [Int.toNat_natCast, esh]
  refine cond_of (fun hb => ?_) (fun hb => ?_)
  ·refine ⟨by omega, by omega, hk _ (by omega), fun z hz => ?_⟩
   rw [hval] at hz
   refine cond_of (fun hb => ?_) (fun _ => ?_)
   ·have : ((pre.length : Nat) : Int) = 10 := by simpa using hb
    omega
   by_cases h128 : v' < 128
   ·obtain rfl : z = v' := by rw [← hz, uv_small h128]; rfl
    refine cond_of (fun _ => ?_) (fun hb => ?_)
    ·refine cond_of (fun hb => ?_) (fun _ => ?_)
     ·have : ((pre.length : Nat) : Int) = 9 := by simpa using hb
      omega
     ·refine ⟨by omega, inR_i64 (by omega) (by omega), ?_⟩
      rw [shl v' (by omega), or_add hlt (by omega) (by omega), ← hx, show ((pre.length : Int)) + (1 : Int) = ((uv v).length : Nat) by rw [hlen, uv_small h128]; simp]
      exact XF1_mk ⟨rfl, rfl, _, _, _, rfl⟩
    ·have := of_decide_eq_false hb
     omega
   ·obtain rfl : z = ((v' % 128 + 128 : Nat) : Int) := by rw [← hz, uv_big h128]; rfl
    refine cond_of (fun hb => ?_) (fun hb => ?_)
    ·have := of_decide_eq_true hb
     omega
    ·have hmod : v' % 128 * 2 ^ (7 * pre.length) ≤ v' * 2 ^ (7 * pre.length) := Nat.mul_le_mul_right _ (Nat.mod_le _ _)
     have hle3 : pre.length + 1 ≤ 3 := by
      rcases Nat.lt_or_ge pre.length 3 with h | h
      ·omega
      ·have e3 : pre.length = 3 := by omega
       rw [e3, show (2 : Nat) ^ (7 * 3) = 2097152 by decide] at hx
       omega
     refine ⟨by omega, inR_i64 (by omega) (by omega), ?_⟩
     rw [and127 (by omega), show (v' % 128 + 128) % 128 = v' % 128 by omega, shl _ (by omega), or_add hlt (by omega) (by omega),
      show IntKind.wrap .u64 (((7 * pre.length : Nat) : Int) + (7 : Int)) = ((7 * (pre ++ [((v' % 128 + 128 : Nat) : Int)]).length : Nat) : Int) by rw [wrapU64]; simp; omega,
      show ((pre.length : Int)) + (1 : Int) = ((pre ++ [((v' % 128 + 128 : Nat) : Int)]).length : Nat) by simp]
     have e7 : 2 ^ (7 * (pre ++ [((v' % 128 + 128 : Nat) : Int)]).length) = 128 * 2 ^ (7 * pre.length) := by
      rw [List.length_append, List.length_singleton, Nat.mul_add, Nat.pow_add, Nat.mul_comm]
     refine KF1_mk ⟨⟨rfl, _, _, _, v' / 128, _, rfl, ?_, ?_, ?_, by simp; omega, rfl⟩, ?_⟩
     ·rw [hu, uv_big h128]; simp
     ·rw [e7]
      have h5 : v' * 2 ^ (7 * pre.length) = v' % 128 * 2 ^ (7 * pre.length) + v' / 128 * (128 * 2 ^ (7 * pre.length)) := by
       rw [← Nat.mul_assoc, ← Nat.add_mul]; congr 1; omega
      omega
     ·rw [e7]
      have h6 : (v' % 128) * 2 ^ (7 * pre.length) ≤ 127 * 2 ^ (7 * pre.length) := Nat.mul_le_mul_right _ (by omega)
      omega
     ·show 4 - (((pre ++ [((v' % 128 + 128 : Nat) : Int)]).length : Nat) : Int).toNat < k
      simp
      omega
  ·have := of_decide_eq_false hb
   omega
 ·refine ⟨⟨rfl, 0, 0, 0, v, [], rfl, rfl, by simp, by simp, by simp, rfl⟩, ?_, ?_⟩
  ·rintro z1 z2 z3 z4 z5 m6 ⟨h, _⟩ _
   omega
  ·rintro z1 z2 z3 z4 z5 m6 ⟨_, rfl, x, s_, s, hls⟩ _
   obtain ⟨rfl, rfl, _⟩ : z1 = v ∧ z2 = (uv v).length ∧ _ := by simpa using hls
   exact hK
theorem int_51 {w0 : World} {m : Mem} {b o l c v : Nat} {K : Value → Mem → Prop} (hk : ∀ i, i < l → m.kd b (o + i) = some .u8) (hl2 : l ≤ 1000000) (hv : v ≤ 1000000) (hl : (uv (2 * v)).length ≤ l) (ha : At m b o (uv (2 * v)))
  (hK : ∀ z : Int, K (.tuple #[.int .i64 v, .int .i64 z]) m) : callV Tryz.prog w0 51 [.slice (some ⟨b, o, none⟩) l c] m K := by
 refine C_F51 ?_
 unfold M_F51
 have p28 : 2 * v < 2 ^ 28 := by
  have : (2 : Nat) ^ 28 = 268435456 := by decide
  omega
 have p40 : v < 2 ^ 40 := by
  have : (2 : Nat) ^ 40 = 1099511627776 := by decide
  omega
 refine get_53 hk hl2 p28 hl ha ?_
 refine ⟨_, _, rfl, by omega, ?_⟩
 rw [and1 p40]
 have e : IntKind.wrap .i64 (((2 * v : Nat) : Int) / 2 ^ min (Int.toNat (1 : Int)) (IntKind.bits .u64)) = v := by
  rw [show (2 : Int) ^ min (Int.toNat (1 : Int)) (IntKind.bits .u64) = 2 by decide, show ((2 * v : Nat) : Int) / 2 = v by omega]
  exact wrap_i64 (by omega) (by omega)
 rw [e]
 exact hK _
theorem any_51 {w0 : World} {m : Mem} {b o l c : Nat} {K : Value → Mem → Prop} (hk : ∀ i, i < l → m.kd b (o + i) = some .u8) (hl2 : l ≤ 1000000)
  (hK : ∀ z1 z2 : Int, K (.tuple #[.int .i64 z1, .int .i64 z2]) m) : callV Tryz.prog w0 51 [.slice (some ⟨b, o, none⟩) l c] m K := by
 refine C_F51 ?_
 unfold M_F51
 refine get_any hk hl2 fun z1 z2 => ⟨_, _, rfl, by omega, cond_of (fun _ => hK _ _) (fun _ => hK _ _)⟩
end Go.Proofs.YtdhifgedhaapjaaGreatDoor
namespace Go.Proofs.YtdhifgedhaapjaaGreatDoor
open Go Sa Go.RowKit
set_option maxHeartbeats 6400000 in
set_option maxRecDepth 100000 in
theorem growSlice_run (g o l c n : Nat) (xs : List Value) (w : World) (hxl : xs.length = l) (hxs : ∀ j v, xs[j]? = some v → w.cell? ((⟨g, o, none⟩ : Addr).add j) = some v) (hgl : g < w.heap.size) (hn : 1 ≤ n)
  (hlim : l + n ≤ 1000000000) (hc2 : c ≤ 1000000000) (h1 : ∀ v ∈ xs, v.oneCell' = true) :
  Calls Tryz.prog 152 #[.slice (some ⟨g, o, none⟩) l c, .int .i64 n] w fun e w' => ∃ cap2, e = .returned (.slice (some ⟨w.heap.size, 0, none⟩) l cap2) ∧
   w'.heap[w.heap.size]? = some (.cells (xs ++ List.replicate (cap2 - l) (Value.int .u8 0)).toArray 5 (0, 0)) ∧ l + n ≤ cap2 ∧ cap2 ≤ maxLen ∧ Below w.heap.size w w' := by
 have mixed : Tryz.prog.follows .mixedOrders = true := by kernel_rfl
 have t5 := Tryz.underlying5; have a5 := Tryz.isAgg5; have z5 := Tryz.sizeOf5; have v5 := Tryz.zeroValue5
 have t22 := Tryz.underlying22; have a22 := Tryz.isAgg22; have z22 := Tryz.sizeOf22; have v22 := Tryz.zeroValue22
 have t3 := Tryz.underlying3; have a3 := Tryz.isAgg3; have z3 := Tryz.sizeOf3; have v3 := Tryz.zeroValue3
 have t0 := Tryz.underlying0; have a0 := Tryz.isAgg0; have z0 := Tryz.sizeOf0; have v0 := Tryz.zeroValue0
 have t4 := Tryz.underlying4; have a4 := Tryz.isAgg4; have z4 := Tryz.sizeOf4; have v4 := Tryz.zeroValue4
 obtain ⟨i0, hi, hz0, hz1, hz2⟩ := info_parts (P := Tryz.prog) (e := 5) (z := .int .u8 0) (size := 1) (bytes := 1) (by kernel_rfl)
 have hsz1 : (Tryz.prog.info? 5).map (·.size) = some 1 := by rw [hi]; simp [hz1]
 have hne : g ≠ w.heap.size := by omega
 have fin : ∀ (N cap2 : Nat) (Z Y : Array Value), N ≤ cap2 → l ≤ N →
   (Builtin.zeroCells (Value.int .u8 0).cells N ++ Builtin.zeroCells (Value.int .u8 0).cells (cap2 - N)) = Z → (Z.toList.take 0 ++ xs ++ Z.toList.drop (0 + l)).toArray = Y →
   Y = (xs ++ List.replicate (cap2 - l) (Value.int .u8 0)).toArray := fun N cap2 Z Y hN hl hZ hY => by
  have hZl : Z.toList = List.replicate cap2 (Value.int .u8 0) := by
   rw [← hZ, Array.toList_append, zeroCells_eq, zeroCells_eq, List.map_replicate, List.map_replicate, List.replicate_append_replicate]
   congr 1
   omega
  rw [← hY, hZl]
  simp
 by_cases hC : l + n < 2 * c
 ·have happ := Lib.run_append_nil_zeros (P := Tryz.prog) w 22 3 22 5 i0 (Value.int .u8 0) .i64 .i64 t22 t3 hi hz0 (2 * c) (by omega) (by omega) (by omega) (by rw [hz2]; omega)
  rw [show (((2 * c : Nat)) : Int) = 2 * (c : Int) by omega] at happ
  generalize hcap : grownCap w (2 * c) 0 5 = cap2 at happ
  have hcapge : 2 * c ≤ cap2 := by rw [← hcap]; exact grownCap_ge w _ 0 5
  have hcaple : cap2 ≤ maxLen := by rw [← hcap]; exact grownCap_le_maxLen w _ 0 5 (by unfold maxLen; omega)
  generalize hZ : (Builtin.zeroCells (Value.int .u8 0).cells (2 * c) ++ Builtin.zeroCells (Value.int .u8 0).cells (cap2 - (2 * c))) = Z at happ
  have hZs : Z.size = cap2 := by rw [← hZ]; simp [size_zeroCells, Value.cells]; omega
  clear hcap
  have hcopy := run_copy_row (P := Tryz.prog) (w.alloc (.cells Z 5)).drew 22 22 3 5 w.heap.size 0 (2 * c) cap2 ⟨g, o, none⟩ l c Z 5 xs t22 hsz1 (heap_alloc_new w _) (by rw [hxl]; exact (Nat.min_eq_left (by omega)).symm)
   (fun j v hv => by
    have := hxs j v hv
    rw [add_ofNat] at this ⊢
    show (w.alloc (.cells Z 5)).cell? _ = _
    rw [World.cell?_alloc_old w _ _ hne]
    exact this) (by rw [hxl]; omega) h1
  rw [hxl] at hcopy
  generalize hY : (Z.toList.take 0 ++ xs ++ Z.toList.drop (0 + l)).toArray = Y at hcopy
  have hYe := fin (2 * c) cap2 Z Y hcapge (by omega) hZ hY
  clear hZ
  go_enter_defers Tryz.func152, Tryz.ntmps152
  go_wp2_with (at_builtin; refine Lib.wpList_append_run _ rfl _ _ _ _ rfl _ _ rfl rfl _ _ happ ?_)
  refine leaves_cons (f := 153) (args := #[]) (by simp) (enters_of Tryz.func153 (by kernel_rfl) rfl _ _) ?_
  refine (Any.growSlice_catch_idle Tryz.laysM324 _).mono ?_
  rintro e u' w'' ⟨rfl, rfl, rfl⟩
  refine ⟨_, results_tmp rfl _ _ _, ?_⟩
  refine ⟨cap2, rfl, ?_, by omega, hcaple, ?_⟩
  ·rw [← hYe]; exact setRow_heap _ _ Z Y 5 (0, 0) (heap_alloc_new w _)
  ·exact ⟨rfl, rfl, rfl, by simp, fun k hk => by rw [setRow_other _ _ _ _ (by omega)]; exact Below.heap_alloc w _ k hk⟩
 ·have happ := Lib.run_append_nil_zeros (P := Tryz.prog) w 22 3 22 5 i0 (Value.int .u8 0) .i64 .i64 t22 t3 hi hz0 (l + n) (by omega) (by omega) (by omega) (by rw [hz2]; omega)
  rw [show (((l + n : Nat)) : Int) = (l : Int) + (n : Int) by omega] at happ
  generalize hcap : grownCap w (l + n) 0 5 = cap2 at happ
  have hcapge : l + n ≤ cap2 := by rw [← hcap]; exact grownCap_ge w _ 0 5
  have hcaple : cap2 ≤ maxLen := by rw [← hcap]; exact grownCap_le_maxLen w _ 0 5 (by unfold maxLen; omega)
  generalize hZ : (Builtin.zeroCells (Value.int .u8 0).cells (l + n) ++ Builtin.zeroCells (Value.int .u8 0).cells (cap2 - (l + n))) = Z at happ
  have hZs : Z.size = cap2 := by rw [← hZ]; simp [size_zeroCells, Value.cells]; omega
  clear hcap
  have hcopy := run_copy_row (P := Tryz.prog) (w.alloc (.cells Z 5)).drew 22 22 3 5 w.heap.size 0 (l + n) cap2 ⟨g, o, none⟩ l c Z 5 xs t22 hsz1 (heap_alloc_new w _) (by rw [hxl]; exact (Nat.min_eq_left (by omega)).symm)
   (fun j v hv => by
    have := hxs j v hv
    rw [add_ofNat] at this ⊢
    show (w.alloc (.cells Z 5)).cell? _ = _
    rw [World.cell?_alloc_old w _ _ hne]
    exact this) (by rw [hxl]; omega) h1
  rw [hxl] at hcopy
  generalize hY : (Z.toList.take 0 ++ xs ++ Z.toList.drop (0 + l)).toArray = Y at hcopy
  have hYe := fin (l + n) cap2 Z Y hcapge (by omega) hZ hY
  clear hZ
  go_enter_defers Tryz.func152, Tryz.ntmps152
  go_wp2_with (at_builtin; refine Lib.wpList_append_run _ rfl _ _ _ _ rfl _ _ rfl rfl _ _ happ ?_)
  refine leaves_cons (f := 153) (args := #[]) (by simp) (enters_of Tryz.func153 (by kernel_rfl) rfl _ _) ?_
  refine (Any.growSlice_catch_idle Tryz.laysM324 _).mono ?_
  rintro e u' w'' ⟨rfl, rfl, rfl⟩
  refine ⟨_, results_tmp rfl _ _ _, ?_⟩
  refine ⟨cap2, rfl, ?_, by omega, hcaple, ?_⟩
  ·rw [← hYe]; exact setRow_heap _ _ Z Y 5 (0, 0) (heap_alloc_new w _)
  ·exact ⟨rfl, rfl, rfl, by simp, fun k hk => by rw [setRow_other _ _ _ _ (by omega)]; exact Below.heap_alloc w _ k hk⟩
theorem Holds.new_row {w0 w w' : World} {m : Mem} (h : Holds w0 w m) {k : IntKind} {n : Nat} {f : Nat → Int} {c : Array Value} {e : TypeId} (hb : Below w.heap.size w w') (hh : w'.heap[w.heap.size]? = some (.cells c e (0, 0)))
  (hn : n ≤ c.size) (hc : ∀ i, i < n → c[i]? = some (.int k (f i))) : Holds w0 w' (m.new w.heap.size k n f) := by
 have h1 := h.new k n f c e hn hc
 have hs : w.heap.size < w'.heap.size := Lib.lt_of_heap hh
 refine h1.grown (m' := { kd := fun _ _ => none, ro := fun _ => true, val := fun _ _ => 0, ob := fun _ _ => none }) ⟨fun _ _ _ h => (by cases h), fun _ _ _ h => (by cases h), fun _ _ _ h => (by cases h), fun _ _ _ h => (by cases h), fun _ _ _ h => (by cases h), hb.os, hb.tape, hb.output, ?_, fun b hb' => ?_, fun _ _ => .inl rfl⟩
 ·rw [World.size_alloc]; omega
 ·rw [World.size_alloc] at hb'
  rcases Nat.lt_or_ge b w.heap.size with hlt | hge
  ·rw [Below.heap_alloc w _ b hlt]; exact hb.block b hlt
  ·obtain rfl : b = w.heap.size := by omega
   rw [hh]; exact (heap_alloc_new w _).symm
theorem grow_152 {w0 : World} {m : Mem} {b o l c n : Nat} {K : Value → Mem → Prop} (hk : ∀ i, i < l → m.kd b (o + i) = some .u8) (hkn : m.kd b o = some .u8) (hn : 1 ≤ n) (hlim : l + n ≤ 1000000000) (hc : c ≤ 1000000000)
  (hK : ∀ B cap2, m.fresh B → l + n ≤ cap2 → cap2 ≤ maxLen → K (.slice (some ⟨B, 0, none⟩) l cap2) (m.new B .u8 cap2 (fun i => if i < l then m.val b (o + i) else 0))) :
  callV Tryz.prog w0 152 [.slice (some ⟨b, o, none⟩) l c, .int .i64 n] m K := by
 refine ⟨⟨Tryz.f152, Tryz.func152, by kernel_rfl, by kernel_rfl⟩, fun w hw => ?_⟩
 refine (growSlice_run b o l c n ((List.range l).map fun i => Value.int .u8 (m.val b (o + i))) w (by simp) (fun j v hv => ?_) (hw.lt hkn) hn hlim hc (fun v hv => ?_)).mono ?_
 ·rw [List.getElem?_map] at hv
  rcases Nat.lt_or_ge j l with hlt | hge
  ·rw [List.getElem?_range hlt] at hv
   simp only [Option.map_some, Option.some.injEq] at hv
   rw [add_ofNat, hw.cell _ _ _ (hk j hlt), ← hv]
  ·rw [List.getElem?_eq_none (by simpa using hge)] at hv
   cases hv
 ·obtain ⟨i, _, rfl⟩ := List.mem_map.1 hv
  rfl
 ·rintro e w' ⟨cap2, rfl, hh, h1, h2, h3⟩
  refine ⟨_, _, rfl, hw.new_row (k := .u8) (n := cap2) (f := fun i => if i < l then m.val b (o + i) else 0) h3 hh (by simp; omega) (fun i hi => ?_), hK _ _ hw.fresh h1 h2⟩
  rw [List.getElem?_toArray]
  rcases Nat.lt_or_ge i l with hlt | hge
  ·rw [List.getElem?_append_left (by simpa using hlt), List.getElem?_map, List.getElem?_range hlt, if_pos hlt]
   rfl
  ·rw [List.getElem?_append_right (by simpa using hge), List.getElem?_replicate, if_pos (by simp; omega), if_neg (by omega)]
end Go.Proofs.YtdhifgedhaapjaaGreatDoor
set_option maxRecDepth 100000
namespace Go.Proofs.YtdhifgedhaapjaaGreatDoor
open Go Sa
structure BufG (a m : Mem) (B g c len : Nat) (L : List Int) : Prop where
 ext : Ext a m
 fB : a.fresh B
 ro : m.ro B = false
 ko : m.kd B 1 = some .i64
 vo : m.val B 1 = 0
 kl : m.kd B 2 = some .i8
 ob : m.ob B 0 = some (.slice (some ⟨g, 0, none⟩) len c)
 hl : L.length ≤ len
 hc : len ≤ c
 hm : c ≤ 9223372036854775807
 h0 : 0 < c
 fg : a.fresh g
 ne : g ≠ B
 rg : m.ro g = false
 kg : ∀ i, i < c → m.kd g i = some .u8
 vg : At m g 0 L
structure Buf0 (a m : Mem) (B : Nat) : Prop where
 ext : Ext a m
 fB : a.fresh B
 ro : m.ro B = false
 ko : m.kd B 1 = some .i64
 vo : m.val B 1 = 0
 kl : m.kd B 2 = some .i8
 ob : m.ob B 0 = some (.slice none 0 0)
def BufAt (a m : Mem) (B : Nat) (L : List Int) : Prop := (L = [] ∧ Buf0 a m B) ∨ ∃ g c, BufG a m B g c L.length L
theorem Ext.wr {a m : Mem} {B : Nat} (h : Ext a m) (hB : a.fresh B) (o : Nat) (L : List Int) : Ext a (m.wr B o L) := by
 refine ⟨h.kd, fun x y k hk => ?_, h.ob, h.ro⟩
 rw [wr_other _ _ _ _ fun e => by subst e; rw [(hB y).1] at hk; cases hk]
 exact h.val _ _ _ hk
theorem Ext.wr2 {a m : Mem} (h : Ext a m) (b o : Nat) (L : List Int) : Ext (a.wr b o L) (m.wr b o L) := by
 refine ⟨h.kd, fun x y k hk => ?_, h.ob, h.ro⟩
 simp only [Mem.wr]
 split
 ·rfl
 ·exact h.val _ _ _ hk
section
variable {a m : Mem} {B g c len : Nat} {L : List Int}
theorem BufG.st2 (h : BufG a m B g c len L) (v : Int) : BufG a (m.st B 2 v) B g c len L :=
 {h with
  ext := h.ext.st h.fB 2 v
  vo := by simp only [Mem.st]; rw [if_neg (by omega)]; exact h.vo
  vg := fun i hi => by simp only [Mem.st]; rw [if_neg (fun e => h.ne e.1)]; exact h.vg i hi }
theorem BufG.st1 (h : BufG a m B g c len L) : BufG a (m.st B 1 0) B g c len L :=
 {h with
  ext := h.ext.st h.fB 1 0
  vo := by simp [Mem.st]
  vg := fun i hi => by simp only [Mem.st]; rw [if_neg (fun e => h.ne e.1)]; exact h.vg i hi }
theorem BufG.so0 (h : BufG a m B g c len L) {len' : Nat} (h1 : L.length ≤ len') (h2 : len' ≤ c) : BufG a (m.so B 0 (.slice (some ⟨g, 0, none⟩) len' c)) B g c len' L :=
 {h with
  ext := h.ext.so h.fB 0 _
  ob := by simp [Mem.so]
  hl := h1
  hc := h2 }
theorem BufG.put (h : BufG a m B g c len L) {M : List Int} (hM : L.length + M.length = len) : BufG a (m.wr g L.length M) B g c len (L ++ M) :=
 {h with
  ext := h.ext.wr h.fg _ _
  vo := by rw [wr_other _ _ _ _ fun e => absurd e.symm h.ne]; exact h.vo
  hl := by simp; omega
  vg := (h.vg.keep fun _ => .inl (by omega)).append (by have := At.wr m g L.length M; rw [Nat.zero_add]; exact this) }
theorem BufG.grown (h : BufG a m B g c len L) {B' cap2 : Nat} (hB' : m.fresh B') (h1 : len ≤ cap2) (h2 : cap2 ≤ 9223372036854775807) (h3 : 0 < cap2) :
  BufG a ((m.new B' .u8 cap2 (fun i => if i < len then m.val g (0 + i) else 0)).so B 0 (.slice (some ⟨B', 0, none⟩) len cap2)) B B' cap2 len L := by
 have e1 : B ≠ B' := kd_ne h.ko hB'
 have e2 : g ≠ B' := kd_ne (h.kg 0 h.h0) hB'
 have hx : Ext a (m.new B' .u8 cap2 (fun i => if i < len then m.val g (0 + i) else 0)) := h.ext.trans (Ext.new m hB' _ _ _)
 exact
 {ext := hx.so h.fB 0 _
  fB := h.fB
  ro := by simp only [Mem.so, Mem.new, if_neg e1]; exact h.ro
  ko := by simp only [Mem.so, Mem.new, if_neg e1]; exact h.ko
  vo := by simp only [Mem.so, Mem.new, if_neg e1]; exact h.vo
  kl := by simp only [Mem.so, Mem.new, if_neg e1]; exact h.kl
  ob := by simp [Mem.so]
  hl := h.hl
  hc := h1
  hm := h2
  h0 := h3
  fg := h.ext.fresh hB'
  ne := e1.symm
  rg := by simp [Mem.so, Mem.new]
  kg := fun i hi => by simp only [Mem.so, Mem.new, if_true]; rw [if_pos hi]
  vg := fun i hi => by
   have := h.hl
   simp only [Mem.so, Mem.new, if_true]
   rw [if_pos (by omega), Nat.zero_add]
   exact h.vg i hi }
theorem Buf0.st2 (h : Buf0 a m B) (v : Int) : Buf0 a (m.st B 2 v) B :=
 {h with
  ext := h.ext.st h.fB 2 v
  vo := by simp only [Mem.st]; rw [if_neg (by omega)]; exact h.vo }
theorem Buf0.grown (h : Buf0 a m B) {B' : Nat} (hB' : m.fresh B') : BufG a ((m.new B' .u8 64 (fun _ => 0)).so B 0 (.slice (some ⟨B', 0, none⟩) 10 64)) B B' 64 10 [] := by
 have e1 : B ≠ B' := kd_ne h.ko hB'
 exact
 {ext := (h.ext.trans (Ext.new m hB' _ _ _)).so h.fB 0 _
  fB := h.fB
  ro := by simp only [Mem.so, Mem.new, if_neg e1]; exact h.ro
  ko := by simp only [Mem.so, Mem.new, if_neg e1]; exact h.ko
  vo := by simp only [Mem.so, Mem.new, if_neg e1]; exact h.vo
  kl := by simp only [Mem.so, Mem.new, if_neg e1]; exact h.kl
  ob := by simp [Mem.so]
  hl := by simp
  hc := by omega
  hm := by omega
  h0 := by omega
  fg := h.ext.fresh hB'
  ne := e1.symm
  rg := by simp [Mem.so, Mem.new]
  kg := fun i hi => by simp only [Mem.so, Mem.new, if_true]; rw [if_pos hi]
  vg := fun i hi => by simp at hi }
theorem copy_wr {m : Mem} {b o p q n : Nat} {T : Nat → Int} (h : ∀ i, i < n → m.val p (q + i) = T i) : m.copy b o p q n = m.wr b o (lst T n) := by
 simp only [Mem.copy, Mem.wr, Mem.mk.injEq, true_and, and_true]
 funext b' o'
 rw [lst_length]
 split
 ·rename_i hc
  rw [h _ (by omega), lst_getD (by omega)]
 ·rfl
theorem try_150 {w0 : World} {n : Nat} {K : Value → Mem → Prop} (h : BufG a m B g c len L) (hn : len + n ≤ 1000000000)
  (h1 : len + n ≤ c → ∀ m', BufG a m' B g c (len + n) L → K (.tuple #[.int .i64 len, .bool true]) m') (h2 : c < len + n → K (.tuple #[.int .i64 (0 : Int), .bool false]) m) :
  callV Tryz.prog w0 150 [.pointer (some ⟨B, 0, none⟩), .int .i64 n] m K := by
 have hc := h.hc
 have hm := h.hm
 have hl := h.hl
 refine C_F150 ?_
 unfold M_F150
 refine ⟨_, _, _, h.ob, _, _, _, h.ob, inR_i64 (by omega) (by omega), cond_of (fun hb => ?_) (fun hb => ?_)⟩
 ·have hle := of_decide_eq_true hb
  refine ⟨_, _, _, h.ob, inR_i64 (by omega) (by omega), ?_⟩
  simp only [slG, slV]
  refine ⟨by omega, by omega, rfl, by rw [h.ob]; rfl, h.ro, ?_⟩
  rintro m39 rfl
  rw [show ((len : Int) + (n : Int)).toNat = len + n by omega]
  exact h1 (by omega) _ (h.so0 (by omega) (by omega))
 ·exact h2 (by have := of_decide_eq_false hb; omega)
theorem try_150n {w0 : World} {K : Value → Mem → Prop} (h : Buf0 a m B) (h2 : K (.tuple #[.int .i64 (0 : Int), .bool false]) m) :
  callV Tryz.prog w0 150 [.pointer (some ⟨B, 0, none⟩), .int .i64 (10 : Int)] m K := by
 refine C_F150 ?_
 unfold M_F150
 refine ⟨_, _, _, h.ob, _, _, _, h.ob, inR_i64 (by omega) (by omega), cond_of (fun hb => ?_) (fun _ => h2)⟩
 have hle := of_decide_eq_true hb
 omega
theorem grow_151 {w0 : World} {n : Nat} {K : Value → Mem → Prop} (h : BufG a m B g c len L) (hn : len + n ≤ 1000000000) (hcn : c < len + n) (hL : L.length = len)
  (hK : ∀ m' g' c', BufG a m' B g' c' (len + n) L → K (.int .i64 len) m') : callV Tryz.prog w0 151 [.pointer (some ⟨B, 0, none⟩), .int .i64 n] m K := by
 have hc := h.hc
 have h0 := h.h0
 refine C_F151 ?_
 unfold M_F151
 refine C_F23 ?_
 unfold M_F23
 refine ⟨_, _, _, _, h.ob, h.ko, fun z hz => ?_⟩
 obtain rfl : z = 0 := hz.symm.trans h.vo
 refine ⟨inR_i64 (by omega) (by omega), (len : Int), by rw [Int.sub_zero], ?_⟩
 refine (fun tail => cond_of (fun _ => ⟨h.ko, fun z hz => cond_of (fun hb => (by
  obtain rfl : z = 0 := hz.symm.trans h.vo
  cases hb)) (fun _ => tail)⟩) (fun _ => tail)) ?_
 refine try_150 h hn (fun hle => by omega) fun _ => ⟨_, _, rfl, ?_⟩
 refine cond_of (fun hb => by cases hb) (fun _ => ?_)
 refine ⟨_, _, _, _, h.ob, _, _, _, _, h.ob, by omega, by omega, inR_i64 (by omega) (by omega), inR_i64 (by omega) (by omega), cond_of (fun hb => ?_) (fun _ => ?_)⟩
 ·have := of_decide_eq_true hb
  omega
 refine ⟨inR_i64 (by omega) (by omega), inR_i64 (by omega) (by omega), cond_of (fun hb => ?_) (fun _ => ?_)⟩
 ·have := of_decide_eq_true hb
  omega
 refine ⟨_, _, _, _, h.ob, h.ko, fun z hz => ?_⟩
 obtain rfl : z = 0 := hz.symm.trans h.vo
 refine ⟨by omega, by omega, hc, h.ko, fun z hz => ?_⟩
 obtain rfl : z = 0 := hz.symm.trans h.vo
 refine ⟨inR_i64 (by omega) (by omega), ?_⟩
 rw [show (0 + if Int.toNat 0 = c then 0 else Int.toNat 0) = 0 by split <;> rfl, show len - Int.toNat 0 = len by simp, show c - Int.toNat 0 = c by simp, show ((0 : Int) + (n : Int)) = (n : Int) by omega]
 refine grow_152 (fun i hi => by rw [Nat.zero_add]; exact h.kg i (by omega)) (h.kg 0 h0) (by omega) hn (by omega) fun B' cap2 hB' h1 h2 => ?_
 have hm2 : cap2 ≤ 9223372036854775807 := h2
 have hg := h.grown hB' (cap2 := cap2) (by omega) hm2 (by omega)
 refine ⟨_, _, _, _, rfl, rfl, ?_, ?_, ?_⟩
 ·show (m.ob B 0).isSome = true
  rw [h.ob]; rfl
 ·have e1 : B ≠ B' := kd_ne h.ko hB'
  simp only [Mem.new, if_neg e1]; exact h.ro
 rintro m151 rfl
 refine ⟨hg.ko, hg.ro, ?_⟩
 rintro m152 rfl
 have hg1 := hg.st1
 refine ⟨_, _, _, _, hg1.ob, inR_i64 (by omega) (by omega), by omega, by omega, rfl, by rw [hg1.ob]; rfl, hg1.ro, ?_⟩
 rintro m157 rfl
 rw [show ((len : Int) + (n : Int)).toNat = len + n by omega]
 exact hK _ _ _ (hg1.so0 (by omega) (by omega))
theorem grow_151n {w0 : World} {K : Value → Mem → Prop} (h : Buf0 a m B) (hK : ∀ m' g', BufG a m' B g' 64 10 [] → K (.int .i64 (0 : Int)) m') :
  callV Tryz.prog w0 151 [.pointer (some ⟨B, 0, none⟩), .int .i64 (10 : Int)] m K := by
 refine C_F151C ?_
 unfold M_F151C
 refine C_F23B ?_
 unfold M_F23B
 refine ⟨_, _, _, h.ob, h.ko, fun z hz => ?_⟩
 obtain rfl : z = 0 := hz.symm.trans h.vo
 refine ⟨inR_i64 (by omega) (by omega), (0 : Int), by simp, ?_⟩
 refine (fun tail => cond_of (fun _ => ⟨h.ko, fun z hz => cond_of (fun hb => (by
  obtain rfl : z = 0 := hz.symm.trans h.vo
  cases hb)) (fun _ => tail)⟩) (fun _ => tail)) ?_
 refine try_150n h ⟨_, _, rfl, ?_⟩
 refine cond_of (fun hb => by cases hb) (fun _ => ?_)
 refine ⟨h.ob, by omega, by omega, by omega, ?_⟩
 rintro B' hB' m12 rfl
 have hg := h.grown hB'
 have e1 : B ≠ B' := kd_ne h.ko hB'
 refine ⟨rfl, ?_, ?_, ?_⟩
 ·show (m.ob B 0).isSome = true
  rw [h.ob]; rfl
 ·simp only [Mem.new, if_neg e1]; exact h.ro
 rintro m13 rfl
 exact hK _ _ hg
theorem write_148 {w0 : World} {p o n cp : Nat} {T : Nat → Int} {K : Value → Mem → Prop} (h : BufAt a m B L) (hp : By a p o n T) (hn : L.length + n ≤ 1000000000) (h10 : L = [] → n = 10)
  (hK : ∀ m', BufAt a m' B (L ++ lst T n) → K (.tuple #[.int .i64 n, .nilIface]) m') : callV Tryz.prog w0 148 [.pointer (some ⟨B, 0, none⟩), .slice (some ⟨p, o, none⟩) n cp] m K := by
 have fin : ∀ (m' : Mem) (g' c' : Nat), BufG a m' B g' c' (L.length + n) L → ∃ (b32 o33 l34 c35 : Nat), m'.ob B (0 + 0) = some (.slice (some ⟨b32, o33, none⟩) l34 c35) ∧ 0 ≤ (L.length : Int) ∧ (L.length : Int) ≤ (l34 : Int) ∧ l34 ≤ c35 ∧
   (∀ i, i < (min n ((l34 - Int.toNat (L.length : Int)))) → m'.kd b32 ((o33 + (if Int.toNat (L.length : Int) = c35 then 0 else Int.toNat (L.length : Int))) + i) = some .u8 ∧ m'.kd p (o + i) = some .u8) ∧ m'.ro b32 = false ∧
   ∀ m36, m36 = Mem.copy m' b32 (o33 + (if Int.toNat (L.length : Int) = c35 then 0 else Int.toNat (L.length : Int))) p o (min n ((l34 - Int.toNat (L.length : Int)))) → K (.tuple #[(.int .i64 (↑(min n ((l34 - Int.toNat (L.length : Int)))) : Int)), .nilIface]) m36 := by
  intro m' g' c' h'
  have hc := h'.hc
  have hp' := hp.ext h'.ext
  refine ⟨g', 0, L.length + n, c', h'.ob, by omega, by omega, hc, ?_⟩
  rw [Int.toNat_natCast, show min n (L.length + n - L.length) = n by omega]
  refine ⟨fun i hi => ?_, h'.rg, ?_⟩
  ·rw [if_neg (by omega), Nat.zero_add]
   exact ⟨h'.kg _ (by omega), hp'.kd i hi⟩
  rintro m36 rfl
  refine hK _ (.inr ⟨g', c', ?_⟩)
  rw [copy_wr hp'.val]
  rcases Nat.eq_zero_or_pos n with rfl | hpos
  ·have : lst T 0 = [] := rfl
   rw [this, wr_nil, List.append_nil]
   exact h'
  ·rw [if_neg (by omega), Nat.zero_add, List.length_append, lst_length]
   exact h'.put (by rw [lst_length])
 refine C_F148 ?_
 unfold M_F148
 rcases h with ⟨rfl, h⟩ | ⟨g, c, h⟩
 ·obtain rfl := h10 rfl
  refine ⟨h.kl, h.ro, ?_⟩
  rintro m1 rfl
  have h' := h.st2 0
  refine try_150n h' ⟨_, _, rfl, cond_of (fun _ => ?_) (fun hb => by cases hb)⟩
  refine grow_151n h' fun m' g' hg => ⟨_, rfl, ?_⟩
  exact fin m' g' 64 hg
 ·refine ⟨h.kl, h.ro, ?_⟩
  rintro m1 rfl
  have h' := h.st2 0
  refine try_150 h' hn (fun _ m' hm' => ?_) (fun hcn => ?_)
  ·refine ⟨_, _, rfl, cond_of (fun hb => by cases hb) (fun _ => ?_)⟩
   exact fin m' g c hm'
  ·refine ⟨_, _, rfl, cond_of (fun _ => ?_) (fun hb => by cases hb)⟩
   refine grow_151 h' hn hcn rfl fun m' g' c' hm' => ⟨_, rfl, ?_⟩
   exact fin m' g' c' hm'
end
end Go.Proofs.YtdhifgedhaapjaaGreatDoor

/- Printed by symx.py: the condition of each function (M: its code; R: a round of a loop) and its contract (C). -/
import Derived.Test.YtdhifgedhaapjaaGreatDoorLc
import Derived.Test.YtdhifgedhaapjaaGreatDoorLr
set_option maxRecDepth 100000
namespace Go.Proofs.YtdhifgedhaapjaaGreatDoor
open Go
def M_F32  (K : Value → Mem → Prop) (w0 : World) (b_w o_w b_buf o_buf l_buf c_buf : Nat) (x : Int) (m : Mem) : Prop :=
 callV Tryz.prog w0 48 [(.slice (some ⟨b_buf, o_buf, none⟩) l_buf c_buf), (.int .i64 x)] m fun v1 m2 => ∃ (z3 : Int), v1 = (.int .i64 z3) ∧ ∃ mc4 : Mem, Ext mc4 m2 ∧ ∃ R5 : Mem → Prop, (∀ m2, R5 m2 → Ext mc4 m2) ∧ 0 ≤ (0 : Int) ∧ (0 : Int) ≤ (10 : Int) ∧ (10 : Int) ≤ (↑(c_buf) : Int) ∧ ∃ (z7 : Int) (v8 : Value), (callV Tryz.prog w0 148 [(.pointer (some ⟨b_w, o_w, none⟩)), (.slice (some ⟨b_buf, (o_buf + (if Int.toNat (0 : Int) = c_buf then 0 else Int.toNat (0 : Int))), none⟩) (Int.toNat (10 : Int) - Int.toNat (0 : Int)) (c_buf - Int.toNat (0 : Int)))] m2 fun v9 m10 => ∃ (z11 : Int) (v12 : Value), v9 = (.tuple #[(.int .i64 z11), v12]) ∧ ((.tuple #[(.int .i64 z11), v12]) : Value) = (.tuple #[(.int .i64 z7), v8]) ∧ R5 m10) ∧ ∀ m6 : Mem, R5 m6 → K v8 m6
theorem M_F32_eq  (K : Value → Mem → Prop) (w0 : World) (b_w o_w b_buf o_buf l_buf c_buf : Nat) (x : Int) (m : Mem) :
  vc Tryz.prog w0 TryzTtH lvF jtF (bodyOf Tryz.f32) 0 (postV TryzTtH Tryz.f32.results.toList K) (env0 [(.iface 48 (.pointer (some ⟨b_w, o_w, none⟩))), (.slice (some ⟨b_buf, o_buf, none⟩) l_buf c_buf), (.int .i64 x)]) m = M_F32  K w0 b_w o_w b_buf o_buf l_buf c_buf x m := by kernel_rfl
theorem C_F32 {w0 : World}  {K : Value → Mem → Prop} {b_w o_w b_buf o_buf l_buf c_buf : Nat} {x : Int} {m : Mem}
  (h : M_F32  K w0 b_w o_w b_buf o_buf l_buf c_buf x m) : callV Tryz.prog w0 32 [(.iface 48 (.pointer (some ⟨b_w, o_w, none⟩))), (.slice (some ⟨b_buf, o_buf, none⟩) l_buf c_buf), (.int .i64 x)] m K :=
 callV_of TryzMixed TryzTtH_ok (lv := lvF) (jt := jtF) (c := (bodyOf Tryz.f32)) Tryz.func32 (by kernel_rfl) (by kernel_rfl) (Nat.le_of_ble_eq_true (by kernel_rfl)) (by kernel_rfl) (loopsOK_of _ 0 (loops0 (by kernel_rfl) ) (scopes0 (by kernel_rfl))) ((M_F32_eq  _ _ _ _ _ _ _ _ _ _).mpr h)
def L0_F34 : LS := ⟨[(0, .iq 48), (1, .sl), (5, .pt), (9, .iv .i64)], [(6, .iv .i64), (8, .iv .i64)], [.exit 0]⟩
def P0_F34 (b_w o_w b_buf o_buf l_buf c_buf bd5 od5 : Nat) (m_ : Int) : List SV := [.ip 48 b_w o_w, .sl b_buf o_buf l_buf c_buf, .pt bd5 od5, .iv .i64 m_]
def lv_F34 (I0 : LI) (X0 : LX) : Nat → Env → Mem → Post → Prop := fun i s m Q => match i with | 0 => lv1 L0_F34 I0 X0 s m Q | _ => False
def R0_F34 (I0 : LI) (X0 : LX) (mu0 : LM)  (w0 : World) (b_w o_w b_buf o_buf l_buf c_buf bd5 od5 : Nat) (m_ : Int) (n_ p : Int) (n : Nat) (m : Mem) : Prop :=
 cond (decide (n_ < m_)) (inR .i64 (p + (10 : Int)) ∧ cond (decide ((p + (10 : Int)) ≤ (↑(l_buf) : Int))) (∃ mc21 : Mem, Ext mc21 m ∧ ∃ R22 : Mem → Prop, (∀ m2, R22 m2 → Ext mc21 m2) ∧ 0 ≤ p ∧ p ≤ (↑(l_buf) : Int) ∧ l_buf ≤ c_buf ∧ ∃ (z24 : Int), quietV Tryz.prog 50 [(.pointer (some ⟨bd5, od5, none⟩)), (.int .i64 n_)] mc21 (.int .i64 z24) ∧ ∃ (z25 : Int), (callV Tryz.prog w0 49 [(.slice (some ⟨b_buf, (o_buf + (if Int.toNat p = c_buf then 0 else Int.toNat p)), none⟩) (l_buf - Int.toNat p) (c_buf - Int.toNat p)), (.int .u64 (IntKind.wrap .u64 z24))] m fun v26 m27 => ∃ (z28 : Int), v26 = (.int .i64 z28) ∧ ((.int .i64 z28) : Value) = (.int .i64 z25) ∧ R22 m27) ∧ inR .i64 (p + z25) ∧ ∀ m23 : Mem, R22 m23 → inR .i64 (n_ + (1 : Int)) ∧ KF1 L0_F34 I0 mu0 (P0_F34 b_w o_w b_buf o_buf l_buf c_buf bd5 od5 m_) n [(.int .i64 (n_ + (1 : Int))), (.int .i64 (p + z25))] m23) (XF1 L0_F34 X0 0 (P0_F34 b_w o_w b_buf o_buf l_buf c_buf bd5 od5 m_) [(.int .i64 n_), (.int .i64 p)] m)) (XF1 L0_F34 X0 0 (P0_F34 b_w o_w b_buf o_buf l_buf c_buf bd5 od5 m_) [(.int .i64 n_), (.int .i64 p)] m)
theorem R0_F34_eq (I0 : LI) (X0 : LX) (mu0 : LM)  (w0 : World) (b_w o_w b_buf o_buf l_buf c_buf bd5 od5 : Nat) (m_ : Int) (n_ p : Int) (n : Nat) (m : Mem) (g : Env) :
  vc Tryz.prog w0 TryzTtH lvF jtF (roundOf (bodyOf Tryz.f34) 0) 0 (roundV (QL L0_F34 X0 (P0_F34 b_w o_w b_buf o_buf l_buf c_buf bd5 od5 m_)) (KL L0_F34 I0 mu0 (P0_F34 b_w o_w b_buf o_buf l_buf c_buf bd5 od5 m_) n)) (chainL (chainL g L0_F34.ps (P0_F34 b_w o_w b_buf o_buf l_buf c_buf bd5 od5 m_)) L0_F34.ls [.iv .i64 n_, .iv .i64 p]) m =
  R0_F34 I0 X0 mu0  w0 b_w o_w b_buf o_buf l_buf c_buf bd5 od5 m_ n_ p n m := by kernel_rfl
theorem S0_F34 {w0 : World} {I0 : LI} {X0 : LX} {mu0 : LM}  (hB0 : ∀ (b_w o_w b_buf o_buf l_buf c_buf bd5 od5 : Nat) (m_ : Int) (n_ p : Int) (n : Nat) (m : Mem), I0 (P0_F34 b_w o_w b_buf o_buf l_buf c_buf bd5 od5 m_) [.iv .i64 n_, .iv .i64 p] m → mu0 (P0_F34 b_w o_w b_buf o_buf l_buf c_buf bd5 od5 m_) [.iv .i64 n_, .iv .i64 p] < n + 1 → R0_F34 I0 X0 mu0  w0 b_w o_w b_buf o_buf l_buf c_buf bd5 od5 m_ n_ p n m) :
  ∀ s m Q, (lv_F34 I0 X0) 0 s m Q → Sat Tryz.prog w0 46 (.loop (roundOf (bodyOf Tryz.f34) 0)) Q s m :=
 loopG TryzMixed TryzTtH_ok (lv := lvF) (jt := jtF) (by kernel_rfl) (loopsOK_of _ 0 (loops0 (by kernel_rfl) ) (scopes0 (by kernel_rfl))) L0_F34 (mu := mu0) fun b_w o_w b_buf o_buf l_buf c_buf bd5 od5 m_ n_ p n m hI hm g => (R0_F34_eq _ _ _  _ b_w o_w b_buf o_buf l_buf c_buf bd5 od5 m_ n_ p n m g).mpr (hB0 b_w o_w b_buf o_buf l_buf c_buf bd5 od5 m_ n_ p n m hI hm)
def M_F34 (I0 : LI) (X0 : LX) (K : Value → Mem → Prop) (w0 : World) (b_w o_w b_buf o_buf l_buf c_buf bd od ld cd : Nat) (m : Mem) : Prop :=
 ∀ B1, Mem.fresh m B1 → ∀ m2, m2 = Mem.newC m B1 [(.slice (some ⟨bd, od, none⟩) ld cd), (.slice none 0 0)] → callV Tryz.prog w0 33 [(.pointer (some ⟨B1, 0, none⟩))] m2 fun v3 m4 => ∃ (z5 : Int), v3 = (.int .i64 z5) ∧ (I0 (P0_F34 b_w o_w b_buf o_buf l_buf c_buf B1 0 z5) [.iv .i64 (0 : Int), .iv .i64 (10 : Int)] m4) ∧ ((∀ (z6 : Int) (z7 : Int) (m8 : Mem), X0 0 (P0_F34 b_w o_w b_buf o_buf l_buf c_buf B1 0 z5) [.iv .i64 z6, .iv .i64 z7] m8 → ∀ _ : Env, callV Tryz.prog w0 48 [(.slice (some ⟨b_buf, o_buf, none⟩) l_buf c_buf), (.int .i64 z7)] m8 fun v9 m10 => ∃ (z11 : Int), v9 = (.int .i64 z11) ∧ ∃ mc12 : Mem, Ext mc12 m10 ∧ ∃ R13 : Mem → Prop, (∀ m2, R13 m2 → Ext mc12 m2) ∧ 0 ≤ (0 : Int) ∧ (0 : Int) ≤ z7 ∧ z7 ≤ (↑(c_buf) : Int) ∧ ∃ (z15 : Int) (v16 : Value), (callV Tryz.prog w0 148 [(.pointer (some ⟨b_w, o_w, none⟩)), (.slice (some ⟨b_buf, (o_buf + (if Int.toNat (0 : Int) = c_buf then 0 else Int.toNat (0 : Int))), none⟩) (Int.toNat z7 - Int.toNat (0 : Int)) (c_buf - Int.toNat (0 : Int)))] m10 fun v17 m18 => ∃ (z19 : Int) (v20 : Value), v17 = (.tuple #[(.int .i64 z19), v20]) ∧ ((.tuple #[(.int .i64 z19), v20]) : Value) = (.tuple #[(.int .i64 z15), v16]) ∧ R13 m18) ∧ ∀ m14 : Mem, R13 m14 → K (.tuple #[(.int .i64 z6), v16]) m14))
theorem M_F34_eq (I0 : LI) (X0 : LX) (K : Value → Mem → Prop) (w0 : World) (b_w o_w b_buf o_buf l_buf c_buf bd od ld cd : Nat) (m : Mem) :
  vc Tryz.prog w0 TryzTtH (lv_F34 I0 X0) jtF (bodyOf Tryz.f34) 0 (postV TryzTtH Tryz.f34.results.toList K) (env0 [(.iface 48 (.pointer (some ⟨b_w, o_w, none⟩))), (.slice (some ⟨b_buf, o_buf, none⟩) l_buf c_buf), (.agg #[(.slice (some ⟨bd, od, none⟩) ld cd), (.slice none 0 0)])]) m = M_F34 I0 X0 K w0 b_w o_w b_buf o_buf l_buf c_buf bd od ld cd m := by kernel_rfl
theorem C_F34 {w0 : World} {I0 : LI} {X0 : LX} {mu0 : LM} {K : Value → Mem → Prop} {b_w o_w b_buf o_buf l_buf c_buf bd od ld cd : Nat} {m : Mem} (hB0 : ∀ (b_w o_w b_buf o_buf l_buf c_buf bd5 od5 : Nat) (m_ : Int) (n_ p : Int) (n : Nat) (m : Mem), I0 (P0_F34 b_w o_w b_buf o_buf l_buf c_buf bd5 od5 m_) [.iv .i64 n_, .iv .i64 p] m → mu0 (P0_F34 b_w o_w b_buf o_buf l_buf c_buf bd5 od5 m_) [.iv .i64 n_, .iv .i64 p] < n + 1 → R0_F34 I0 X0 mu0  w0 b_w o_w b_buf o_buf l_buf c_buf bd5 od5 m_ n_ p n m)
  (h : M_F34 I0 X0 K w0 b_w o_w b_buf o_buf l_buf c_buf bd od ld cd m) : callV Tryz.prog w0 34 [(.iface 48 (.pointer (some ⟨b_w, o_w, none⟩))), (.slice (some ⟨b_buf, o_buf, none⟩) l_buf c_buf), (.agg #[(.slice (some ⟨bd, od, none⟩) ld cd), (.slice none 0 0)])] m K :=
 callV_of TryzMixed TryzTtH_ok (lv := (lv_F34 I0 X0)) (jt := jtF) (c := (bodyOf Tryz.f34)) Tryz.func34 (by kernel_rfl) (by kernel_rfl) (Nat.le_of_ble_eq_true (by kernel_rfl)) (by kernel_rfl) (loopsOK_of _ 0 (loops1 (by kernel_rfl) (S0_F34 hB0)) (scopes0 (by kernel_rfl))) ((M_F34_eq _ _ _ _ _ _ _ _ _ _ _ _ _ _ _).mpr h)
def L0_F17 : LS := ⟨[(1, .iq 48), (5, .sl), (9, .pt)], [(4, .vv)], [.exit 0, .ret]⟩
def P0_F17 (b_w o_w b_buf o_buf l_buf c_buf ba oa : Nat) : List SV := [.ip 48 b_w o_w, .sl b_buf o_buf l_buf c_buf, .pt ba oa]
def lv_F17 (I0 : LI) (X0 : LX) : Nat → Env → Mem → Post → Prop := fun i s m Q => match i with | 0 => lv1 L0_F17 I0 X0 s m Q | _ => False
def R0_F17 (I0 : LI) (X0 : LX) (mu0 : LMm)  (w0 : World) (b_w o_w b_buf o_buf l_buf c_buf ba oa : Nat) (s4 : Value) (n : Nat) (m : Mem) : Prop :=
 callV Tryz.prog w0 33 [(.pointer (some ⟨ba, oa, none⟩))] m fun v80 m81 => ∃ (z82 : Int), v80 = (.int .i64 z82) ∧ cond (decide (z82 > (0 : Int))) (∃ (b83 o84 l85 c86 : Nat), (m81.ob ba oa = some (.slice (some ⟨b83, o84, none⟩) l85 c86) ∧ m81.ob ba (oa + 1) = some (.slice none 0 0) ∧ True) ∧ callV Tryz.prog w0 34 [(.iface 48 (.pointer (some ⟨b_w, o_w, none⟩))), (.slice (some ⟨b_buf, o_buf, none⟩) l_buf c_buf), (.agg #[(.slice (some ⟨b83, o84, none⟩) l85 c86), (.slice none 0 0)])] m81 fun v87 m88 => ∃ (z89 : Int) (v90 : Value), v87 = (.tuple #[(.int .i64 z89), v90]) ∧ isI v90 = true ∧ cond (!isN v90) (XF1 L0_F17 X0 1 (P0_F17 b_w o_w b_buf o_buf l_buf c_buf ba oa) [v90] m88) (callV Tryz.prog w0 33 [(.pointer (some ⟨ba, oa, none⟩))] m88 fun v91 m92 => ∃ (z93 : Int), v91 = (.int .i64 z93) ∧ callV Tryz.prog w0 35 [(.pointer (some ⟨ba, oa, none⟩)), (.int .i64 z89), (.int .i64 z93)] m92 fun v94 m95 => ∃ (b96 o97 l98 c99 : Nat), v94 = (.agg #[(.slice (some ⟨b96, o97, none⟩) l98 c99), (.slice none 0 0)]) ∧ oneC (.slice (some ⟨b96, o97, none⟩) l98 c99) = true ∧ (m95.ob ba oa).isSome = true ∧ m95.ro ba = false ∧ ∀ m100, m100 = Mem.so m95 ba oa (.slice (some ⟨b96, o97, none⟩) l98 c99) → oneC (.slice none 0 0) = true ∧ (m100.ob ba (oa + 1)).isSome = true ∧ m100.ro ba = false ∧ ∀ m101, m101 = Mem.so m100 ba (oa + 1) (.slice none 0 0) → KFm1 L0_F17 I0 mu0 (P0_F17 b_w o_w b_buf o_buf l_buf c_buf ba oa) n [s4] m101)) (XF1 L0_F17 X0 0 (P0_F17 b_w o_w b_buf o_buf l_buf c_buf ba oa) [s4] m81)
theorem R0_F17_eq (I0 : LI) (X0 : LX) (mu0 : LMm)  (w0 : World) (b_w o_w b_buf o_buf l_buf c_buf ba oa : Nat) (s4 : Value) (n : Nat) (m : Mem) (g : Env) :
  vc Tryz.prog w0 TryzTtH lvF jtF (roundOf (bodyOf Tryz.f17) 0) 0 (roundV (QL L0_F17 X0 (P0_F17 b_w o_w b_buf o_buf l_buf c_buf ba oa)) (KLm L0_F17 I0 mu0 (P0_F17 b_w o_w b_buf o_buf l_buf c_buf ba oa) n)) (chainL (chainL g L0_F17.ps (P0_F17 b_w o_w b_buf o_buf l_buf c_buf ba oa)) L0_F17.ls [.vv s4]) m =
  R0_F17 I0 X0 mu0  w0 b_w o_w b_buf o_buf l_buf c_buf ba oa s4 n m := by kernel_rfl
theorem S0_F17 {w0 : World} {I0 : LI} {X0 : LX} {mu0 : LMm}  (hB0 : ∀ (b_w o_w b_buf o_buf l_buf c_buf ba oa : Nat) (s4 : Value) (n : Nat) (m : Mem), I0 (P0_F17 b_w o_w b_buf o_buf l_buf c_buf ba oa) [.vv s4] m → mu0 (P0_F17 b_w o_w b_buf o_buf l_buf c_buf ba oa) [.vv s4] m < n + 1 → R0_F17 I0 X0 mu0  w0 b_w o_w b_buf o_buf l_buf c_buf ba oa s4 n m) :
  ∀ s m Q, (lv_F17 I0 X0) 0 s m Q → Sat Tryz.prog w0 58 (.loop (roundOf (bodyOf Tryz.f17) 0)) Q s m :=
 loopGm TryzMixed TryzTtH_ok (lv := lvF) (jt := jtF) (by kernel_rfl) (loopsOK_of _ 0 (loops0 (by kernel_rfl) ) (scopes0 (by kernel_rfl))) L0_F17 (mu := mu0) fun b_w o_w b_buf o_buf l_buf c_buf ba oa s4 n m hI hm g => (R0_F17_eq _ _ _  _ b_w o_w b_buf o_buf l_buf c_buf ba oa s4 n m g).mpr (hB0 b_w o_w b_buf o_buf l_buf c_buf ba oa s4 n m hI hm)
def M_F17 (I0 : LI) (X0 : LX) (K : Value → Mem → Prop) (w0 : World) (b_x o_x b_w o_w : Nat) (m : Mem) : Prop :=
 0 ≤ (16384 : Int) ∧ (16384 : Int) ≤ (16384 : Int) ∧ (16384 : Int) ≤ 1000000000 ∧ ∀ B1, Mem.fresh m B1 → ∀ m2, m2 = Mem.new m B1 .u8 (Int.toNat (16384 : Int)) (fun _ => 0) → ∃ (b3 o5 l6 c8 : Nat), m2.ob b_x (o_x + 0) = some (.slice (some ⟨b3, o5, none⟩) l6 c8) ∧ callV Tryz.prog w0 32 [(.iface 48 (.pointer (some ⟨b_w, o_w, none⟩))), (.slice (some ⟨B1, 0, none⟩) (Int.toNat (16384 : Int)) (Int.toNat (16384 : Int))), (.int .i64 (↑(l6) : Int))] m2 fun v9 m10 => isI v9 = true ∧ cond (!isN v9) (K v9 m10) (∃ mc11 : Mem, Ext mc11 m10 ∧ ∃ R12 : Mem → Prop, (∀ m2, R12 m2 → Ext mc11 m2) ∧ ∃ (b58 o59 l60 c61 : Nat), mc11.ob b_x (o_x + 0) = some (.slice (some ⟨b58, o59, none⟩) l60 c61) ∧ ∃ (z62 : Int) (v63 : Value), (callV Tryz.prog w0 148 [(.pointer (some ⟨b_w, o_w, none⟩)), (.slice (some ⟨b58, o59, none⟩) l60 c61)] m10 fun v64 m65 => ∃ (z66 : Int) (v67 : Value), v64 = (.tuple #[(.int .i64 z66), v67]) ∧ ((.tuple #[(.int .i64 z66), v67]) : Value) = (.tuple #[(.int .i64 z62), v63]) ∧ R12 m65) ∧ ∀ m13 : Mem, R12 m13 → isI v63 = true ∧ cond (!isN v63) (K v63 m13) (∃ (b68 o69 l70 c71 : Nat), (m13.ob b_x (o_x + 1) = some (.slice (some ⟨b68, o69, none⟩) l70 c71) ∧ m13.ob b_x ((o_x + 1) + 1) = some (.slice none 0 0) ∧ True) ∧ ∀ B72, Mem.fresh m13 B72 → ∀ m73, m73 = Mem.newC m13 B72 [.slice none 0 0, .slice none 0 0] → oneC (.slice (some ⟨b68, o69, none⟩) l70 c71) = true ∧ (m73.ob B72 0).isSome = true ∧ m73.ro B72 = false ∧ ∀ m74, m74 = Mem.so m73 B72 0 (.slice (some ⟨b68, o69, none⟩) l70 c71) → oneC (.slice none 0 0) = true ∧ (m74.ob B72 (0 + 1)).isSome = true ∧ m74.ro B72 = false ∧ ∀ m75, m75 = Mem.so m74 B72 (0 + 1) (.slice none 0 0) → (I0 (P0_F17 b_w o_w B1 0 (Int.toNat (16384 : Int)) (Int.toNat (16384 : Int)) B72 0) [.vv .nilIface] m75) ∧ ((∀ (z76 : Value) (m77 : Mem), X0 0 (P0_F17 b_w o_w B1 0 (Int.toNat (16384 : Int)) (Int.toNat (16384 : Int)) B72 0) [.vv z76] m77 → ∀ _ : Env, K .nilIface m77)) ∧ ((∀ (z78 : Value) (m79 : Mem), X0 1 (P0_F17 b_w o_w B1 0 (Int.toNat (16384 : Int)) (Int.toNat (16384 : Int)) B72 0) [.vv z78] m79 → ∀ _ : Env, K z78 m79))))
theorem M_F17_eq (I0 : LI) (X0 : LX) (K : Value → Mem → Prop) (w0 : World) (b_x o_x b_w o_w : Nat) (m : Mem) :
  vc Tryz.prog w0 TryzTtH (lv_F17 I0 X0) jtF (bodyOf Tryz.f17) 0 (postV TryzTtH Tryz.f17.results.toList K) (env0 [(.pointer (some ⟨b_x, o_x, none⟩)), (.iface 48 (.pointer (some ⟨b_w, o_w, none⟩)))]) m = M_F17 I0 X0 K w0 b_x o_x b_w o_w m := by kernel_rfl
theorem C_F17 {w0 : World} {I0 : LI} {X0 : LX} {mu0 : LMm} {K : Value → Mem → Prop} {b_x o_x b_w o_w : Nat} {m : Mem} (hB0 : ∀ (b_w o_w b_buf o_buf l_buf c_buf ba oa : Nat) (s4 : Value) (n : Nat) (m : Mem), I0 (P0_F17 b_w o_w b_buf o_buf l_buf c_buf ba oa) [.vv s4] m → mu0 (P0_F17 b_w o_w b_buf o_buf l_buf c_buf ba oa) [.vv s4] m < n + 1 → R0_F17 I0 X0 mu0  w0 b_w o_w b_buf o_buf l_buf c_buf ba oa s4 n m)
  (h : M_F17 I0 X0 K w0 b_x o_x b_w o_w m) : callV Tryz.prog w0 17 [(.pointer (some ⟨b_x, o_x, none⟩)), (.iface 48 (.pointer (some ⟨b_w, o_w, none⟩)))] m K :=
 callV_of TryzMixed TryzTtH_ok (lv := (lv_F17 I0 X0)) (jt := jtF) (c := (bodyOf Tryz.f17)) Tryz.func17 (by kernel_rfl) (by kernel_rfl) (Nat.le_of_ble_eq_true (by kernel_rfl)) (by kernel_rfl) (loopsOK_of _ 0 (loops1 (by kernel_rfl) (S0_F17 hB0)) (scopes0 (by kernel_rfl))) ((M_F17_eq _ _ _ _ _ _ _ _ _).mpr h)
def M_F37  (K : Value → Mem → Prop) (w0 : World) (b_r o_r b_buf o_buf l_buf c_buf : Nat) (m : Mem) : Prop :=
 callV Tryz.prog w0 52 [(.iface 48 (.pointer (some ⟨b_r, o_r, none⟩))), (.slice (some ⟨b_buf, o_buf, none⟩) l_buf c_buf), (.int .i64 (↑(l_buf) : Int))] m fun v1 m2 => ∃ (z3 : Int) (v4 : Value), v1 = (.tuple #[(.int .i64 z3), v4]) ∧ K (.tuple #[(.int .i64 z3), v4]) m2
theorem M_F37_eq  (K : Value → Mem → Prop) (w0 : World) (b_r o_r b_buf o_buf l_buf c_buf : Nat) (m : Mem) :
  vc Tryz.prog w0 TryzTtH lvF jtF (bodyOf Tryz.f37) 0 (postV TryzTtH Tryz.f37.results.toList K) (env0 [(.iface 48 (.pointer (some ⟨b_r, o_r, none⟩))), (.slice (some ⟨b_buf, o_buf, none⟩) l_buf c_buf)]) m = M_F37  K w0 b_r o_r b_buf o_buf l_buf c_buf m := by kernel_rfl
theorem C_F37 {w0 : World}  {K : Value → Mem → Prop} {b_r o_r b_buf o_buf l_buf c_buf : Nat} {m : Mem}
  (h : M_F37  K w0 b_r o_r b_buf o_buf l_buf c_buf m) : callV Tryz.prog w0 37 [(.iface 48 (.pointer (some ⟨b_r, o_r, none⟩))), (.slice (some ⟨b_buf, o_buf, none⟩) l_buf c_buf)] m K :=
 callV_of TryzMixed TryzTtH_ok (lv := lvF) (jt := jtF) (c := (bodyOf Tryz.f37)) Tryz.func37 (by kernel_rfl) (by kernel_rfl) (Nat.le_of_ble_eq_true (by kernel_rfl)) (by kernel_rfl) (loopsOK_of _ 0 (loops0 (by kernel_rfl) ) (scopes0 (by kernel_rfl))) ((M_F37_eq  _ _ _ _ _ _ _ _ _).mpr h)
def M_F36  (K : Value → Mem → Prop) (w0 : World) (b_r o_r b_buf o_buf l_buf c_buf : Nat) (m : Mem) : Prop :=
 0 ≤ (0 : Int) ∧ (0 : Int) ≤ (10 : Int) ∧ (10 : Int) ≤ (↑(c_buf) : Int) ∧ callV Tryz.prog w0 37 [(.iface 48 (.pointer (some ⟨b_r, o_r, none⟩))), (.slice (some ⟨b_buf, (o_buf + (if Int.toNat (0 : Int) = c_buf then 0 else Int.toNat (0 : Int))), none⟩) (Int.toNat (10 : Int) - Int.toNat (0 : Int)) (c_buf - Int.toNat (0 : Int)))] m fun v1 m2 => ∃ (z3 : Int) (v4 : Value), v1 = (.tuple #[(.int .i64 z3), v4]) ∧ callV Tryz.prog w0 51 [(.slice (some ⟨b_buf, o_buf, none⟩) l_buf c_buf)] m2 fun v5 m6 => ∃ (z7 : Int) (z8 : Int), v5 = (.tuple #[(.int .i64 z7), (.int .i64 z8)]) ∧ K (.tuple #[(.int .i64 z7), v4]) m6
theorem M_F36_eq  (K : Value → Mem → Prop) (w0 : World) (b_r o_r b_buf o_buf l_buf c_buf : Nat) (m : Mem) :
  vc Tryz.prog w0 TryzTtH lvF jtF (bodyOf Tryz.f36) 0 (postV TryzTtH Tryz.f36.results.toList K) (env0 [(.iface 48 (.pointer (some ⟨b_r, o_r, none⟩))), (.slice (some ⟨b_buf, o_buf, none⟩) l_buf c_buf)]) m = M_F36  K w0 b_r o_r b_buf o_buf l_buf c_buf m := by kernel_rfl
theorem C_F36 {w0 : World}  {K : Value → Mem → Prop} {b_r o_r b_buf o_buf l_buf c_buf : Nat} {m : Mem}
  (h : M_F36  K w0 b_r o_r b_buf o_buf l_buf c_buf m) : callV Tryz.prog w0 36 [(.iface 48 (.pointer (some ⟨b_r, o_r, none⟩))), (.slice (some ⟨b_buf, o_buf, none⟩) l_buf c_buf)] m K :=
 callV_of TryzMixed TryzTtH_ok (lv := lvF) (jt := jtF) (c := (bodyOf Tryz.f36)) Tryz.func36 (by kernel_rfl) (by kernel_rfl) (Nat.le_of_ble_eq_true (by kernel_rfl)) (by kernel_rfl) (loopsOK_of _ 0 (loops0 (by kernel_rfl) ) (scopes0 (by kernel_rfl))) ((M_F36_eq  _ _ _ _ _ _ _ _ _).mpr h)
def L0_F52 : LS := ⟨[(0, .iq 48), (1, .sl), (2, .iv .i64)], [(6, .iv .i64), (7, .vv)], [.exit 0]⟩
def P0_F52 (b_r o_r b_buf o_buf l_buf c_buf : Nat) (min : Int) : List SV := [.ip 48 b_r o_r, .sl b_buf o_buf l_buf c_buf, .iv .i64 min]
def lv_F52 (I0 : LI) (X0 : LX) : Nat → Env → Mem → Post → Prop := fun i s m Q => match i with | 0 => lv1 L0_F52 I0 X0 s m Q | _ => False
def R0_F52 (I0 : LI) (X0 : LX) (mu0 : LM)  (w0 : World) (b_r o_r b_buf o_buf l_buf c_buf : Nat) (min : Int) (n_ : Int) (err : Value) (n : Nat) (m : Mem) : Prop :=
 cond (decide (n_ < min)) (isI err = true ∧ cond (isN err) (∃ mc10 : Mem, Ext mc10 m ∧ ∃ R11 : Mem → Prop, (∀ m2, R11 m2 → Ext mc10 m2) ∧ 0 ≤ n_ ∧ n_ ≤ (↑(l_buf) : Int) ∧ l_buf ≤ c_buf ∧ ∃ (z13 : Int) (v14 : Value), (callV Tryz.prog w0 145 [(.pointer (some ⟨b_r, o_r, none⟩)), (.slice (some ⟨b_buf, (o_buf + (if Int.toNat n_ = c_buf then 0 else Int.toNat n_)), none⟩) (l_buf - Int.toNat n_) (c_buf - Int.toNat n_))] m fun v15 m16 => ∃ (z17 : Int) (v18 : Value), v15 = (.tuple #[(.int .i64 z17), v18]) ∧ ((.tuple #[(.int .i64 z17), v18]) : Value) = (.tuple #[(.int .i64 z13), v14]) ∧ R11 m16) ∧ ∀ m12 : Mem, R11 m12 → inR .i64 (n_ + z13) ∧ KF1 L0_F52 I0 mu0 (P0_F52 b_r o_r b_buf o_buf l_buf c_buf min) n [(.int .i64 (n_ + z13)), v14] m12) (XF1 L0_F52 X0 0 (P0_F52 b_r o_r b_buf o_buf l_buf c_buf min) [(.int .i64 n_), err] m)) (XF1 L0_F52 X0 0 (P0_F52 b_r o_r b_buf o_buf l_buf c_buf min) [(.int .i64 n_), err] m)
theorem R0_F52_eq (I0 : LI) (X0 : LX) (mu0 : LM)  (w0 : World) (b_r o_r b_buf o_buf l_buf c_buf : Nat) (min : Int) (n_ : Int) (err : Value) (n : Nat) (m : Mem) (g : Env) :
  vc Tryz.prog w0 TryzTtH lvF jtF (roundOf (bodyOf Tryz.f52) 0) 0 (roundV (QL L0_F52 X0 (P0_F52 b_r o_r b_buf o_buf l_buf c_buf min)) (KL L0_F52 I0 mu0 (P0_F52 b_r o_r b_buf o_buf l_buf c_buf min) n)) (chainL (chainL g L0_F52.ps (P0_F52 b_r o_r b_buf o_buf l_buf c_buf min)) L0_F52.ls [.iv .i64 n_, .vv err]) m =
  R0_F52 I0 X0 mu0  w0 b_r o_r b_buf o_buf l_buf c_buf min n_ err n m := by kernel_rfl
theorem S0_F52 {w0 : World} {I0 : LI} {X0 : LX} {mu0 : LM}  (hB0 : ∀ (b_r o_r b_buf o_buf l_buf c_buf : Nat) (min : Int) (n_ : Int) (err : Value) (n : Nat) (m : Mem), I0 (P0_F52 b_r o_r b_buf o_buf l_buf c_buf min) [.iv .i64 n_, .vv err] m → mu0 (P0_F52 b_r o_r b_buf o_buf l_buf c_buf min) [.iv .i64 n_, .vv err] < n + 1 → R0_F52 I0 X0 mu0  w0 b_r o_r b_buf o_buf l_buf c_buf min n_ err n m) :
  ∀ s m Q, (lv_F52 I0 X0) 0 s m Q → Sat Tryz.prog w0 46 (.loop (roundOf (bodyOf Tryz.f52) 0)) Q s m :=
 loopG TryzMixed TryzTtH_ok (lv := lvF) (jt := jtF) (by kernel_rfl) (loopsOK_of _ 0 (loops0 (by kernel_rfl) ) (scopes0 (by kernel_rfl))) L0_F52 (mu := mu0) fun b_r o_r b_buf o_buf l_buf c_buf min n_ err n m hI hm g => (R0_F52_eq _ _ _  _ b_r o_r b_buf o_buf l_buf c_buf min n_ err n m g).mpr (hB0 b_r o_r b_buf o_buf l_buf c_buf min n_ err n m hI hm)
def M_F52 (I0 : LI) (X0 : LX) (K : Value → Mem → Prop) (w0 : World) (b_r o_r b_buf o_buf l_buf c_buf : Nat) (min : Int) (m : Mem) : Prop :=
 cond (decide ((↑(l_buf) : Int) < min)) (∃ (v1 : Value), m.ob 3 0 = some v1 ∧ K (.tuple #[(.int .i64 (0 : Int)), v1]) m) ((I0 (P0_F52 b_r o_r b_buf o_buf l_buf c_buf min) [.iv .i64 (0 : Int), .vv .nilIface] m) ∧ ((∀ (z2 : Int) (z3 : Value) (m4 : Mem), X0 0 (P0_F52 b_r o_r b_buf o_buf l_buf c_buf min) [.iv .i64 z2, .vv z3] m4 → ∀ _ : Env, cond (decide (z2 ≥ min)) (K (.tuple #[(.int .i64 z2), .nilIface]) m4) (cond (decide (z2 > (0 : Int))) (∃ (v5 : Value), m4.ob 4 0 = some v5 ∧ z3 = v5 ∧ (∃ S7 a8, z3 = .iface S7 (.pointer (some a8)) ∧ TryzTtH (5000 + S7) = .eqm 44) ∧ ∃ (v9 : Value), m4.ob 5 0 = some v9 ∧ K (.tuple #[(.int .i64 z2), v9]) m4) (K (.tuple #[(.int .i64 z2), z3]) m4)))))
theorem M_F52_eq (I0 : LI) (X0 : LX) (K : Value → Mem → Prop) (w0 : World) (b_r o_r b_buf o_buf l_buf c_buf : Nat) (min : Int) (m : Mem) :
  vc Tryz.prog w0 TryzTtH (lv_F52 I0 X0) jtF (bodyOf Tryz.f52) 0 (postV TryzTtH Tryz.f52.results.toList K) (env0 [(.iface 48 (.pointer (some ⟨b_r, o_r, none⟩))), (.slice (some ⟨b_buf, o_buf, none⟩) l_buf c_buf), (.int .i64 min)]) m = M_F52 I0 X0 K w0 b_r o_r b_buf o_buf l_buf c_buf min m := by kernel_rfl
theorem C_F52 {w0 : World} {I0 : LI} {X0 : LX} {mu0 : LM} {K : Value → Mem → Prop} {b_r o_r b_buf o_buf l_buf c_buf : Nat} {min : Int} {m : Mem} (hB0 : ∀ (b_r o_r b_buf o_buf l_buf c_buf : Nat) (min : Int) (n_ : Int) (err : Value) (n : Nat) (m : Mem), I0 (P0_F52 b_r o_r b_buf o_buf l_buf c_buf min) [.iv .i64 n_, .vv err] m → mu0 (P0_F52 b_r o_r b_buf o_buf l_buf c_buf min) [.iv .i64 n_, .vv err] < n + 1 → R0_F52 I0 X0 mu0  w0 b_r o_r b_buf o_buf l_buf c_buf min n_ err n m)
  (h : M_F52 I0 X0 K w0 b_r o_r b_buf o_buf l_buf c_buf min m) : callV Tryz.prog w0 52 [(.iface 48 (.pointer (some ⟨b_r, o_r, none⟩))), (.slice (some ⟨b_buf, o_buf, none⟩) l_buf c_buf), (.int .i64 min)] m K :=
 callV_of TryzMixed TryzTtH_ok (lv := (lv_F52 I0 X0)) (jt := jtF) (c := (bodyOf Tryz.f52)) Tryz.func52 (by kernel_rfl) (by kernel_rfl) (Nat.le_of_ble_eq_true (by kernel_rfl)) (by kernel_rfl) (loopsOK_of _ 0 (loops1 (by kernel_rfl) (S0_F52 hB0)) (scopes0 (by kernel_rfl))) ((M_F52_eq _ _ _ _ _ _ _ _ _ _ _ _).mpr h)
def L0_F38 : LS := ⟨[(1, .sl), (3, .iv .u64), (6, .pt), (11, .iv .i64), (12, .iv .i64)], [(8, .iv .i64), (9, .vv), (13, .iv .i64)], [.exit 0, .ret]⟩
def P0_F38 (b_buf o_buf l_buf c_buf : Nat) (maxIndex : Int) (bd6 od6 : Nat) (size len : Int) : List SV := [.sl b_buf o_buf l_buf c_buf, .iv .u64 maxIndex, .pt bd6 od6, .iv .i64 size, .iv .i64 len]
def lv_F38 (I0 : LI) (X0 : LX) : Nat → Env → Mem → Post → Prop := fun i s m Q => match i with | 0 => lv1 L0_F38 I0 X0 s m Q | _ => False
def R0_F38 (I0 : LI) (X0 : LX) (mu0 : LM)  (w0 : World) (b_buf o_buf l_buf c_buf : Nat) (maxIndex : Int) (bd6 od6 : Nat) (size len : Int) (n_ : Int) (err : Value) (p : Int) (n : Nat) (m : Mem) : Prop :=
 cond (decide (p < size)) (0 ≤ p ∧ p ≤ (↑(l_buf) : Int) ∧ l_buf ≤ c_buf ∧ callV Tryz.prog w0 53 [(.slice (some ⟨b_buf, (o_buf + (if Int.toNat p = c_buf then 0 else Int.toNat p)), none⟩) (l_buf - Int.toNat p) (c_buf - Int.toNat p))] m fun v24 m25 => ∃ (z26 : Int) (z27 : Int), v24 = (.tuple #[(.int .u64 z26), (.int .i64 z27)]) ∧ cond (decide (n_ ≥ len)) (∃ (v28 : Value), m25.ob 1 0 = some v28 ∧ XF1 L0_F38 X0 1 (P0_F38 b_buf o_buf l_buf c_buf maxIndex bd6 od6 size len) [(.int .i64 n_), v28, (.int .i64 p)] m25) (cond (decide (z26 ≥ maxIndex)) (∃ (v29 : Value), m25.ob 1 0 = some v29 ∧ XF1 L0_F38 X0 1 (P0_F38 b_buf o_buf l_buf c_buf maxIndex bd6 od6 size len) [(.int .i64 n_), v29, (.int .i64 p)] m25) (callV Tryz.prog w0 54 [(.pointer (some ⟨bd6, od6, none⟩)), (.int .i64 n_), (.int .i64 (IntKind.wrap .i64 z26))] m25 fun _ m31 => inR .i64 (p + z27) ∧ inR .i64 (n_ + (1 : Int)) ∧ KF1 L0_F38 I0 mu0 (P0_F38 b_buf o_buf l_buf c_buf maxIndex bd6 od6 size len) n [(.int .i64 (n_ + (1 : Int))), err, (.int .i64 (p + z27))] m31))) (XF1 L0_F38 X0 0 (P0_F38 b_buf o_buf l_buf c_buf maxIndex bd6 od6 size len) [(.int .i64 n_), err, (.int .i64 p)] m)
theorem R0_F38_eq (I0 : LI) (X0 : LX) (mu0 : LM)  (w0 : World) (b_buf o_buf l_buf c_buf : Nat) (maxIndex : Int) (bd6 od6 : Nat) (size len : Int) (n_ : Int) (err : Value) (p : Int) (n : Nat) (m : Mem) (g : Env) :
  vc Tryz.prog w0 TryzTtH lvF jtF (roundOf (bodyOf Tryz.f38) 0) 0 (roundV (QL L0_F38 X0 (P0_F38 b_buf o_buf l_buf c_buf maxIndex bd6 od6 size len)) (KL L0_F38 I0 mu0 (P0_F38 b_buf o_buf l_buf c_buf maxIndex bd6 od6 size len) n)) (chainL (chainL g L0_F38.ps (P0_F38 b_buf o_buf l_buf c_buf maxIndex bd6 od6 size len)) L0_F38.ls [.iv .i64 n_, .vv err, .iv .i64 p]) m =
  R0_F38 I0 X0 mu0  w0 b_buf o_buf l_buf c_buf maxIndex bd6 od6 size len n_ err p n m := by kernel_rfl
theorem S0_F38 {w0 : World} {I0 : LI} {X0 : LX} {mu0 : LM}  (hB0 : ∀ (b_buf o_buf l_buf c_buf : Nat) (maxIndex : Int) (bd6 od6 : Nat) (size len : Int) (n_ : Int) (err : Value) (p : Int) (n : Nat) (m : Mem), I0 (P0_F38 b_buf o_buf l_buf c_buf maxIndex bd6 od6 size len) [.iv .i64 n_, .vv err, .iv .i64 p] m → mu0 (P0_F38 b_buf o_buf l_buf c_buf maxIndex bd6 od6 size len) [.iv .i64 n_, .vv err, .iv .i64 p] < n + 1 → R0_F38 I0 X0 mu0  w0 b_buf o_buf l_buf c_buf maxIndex bd6 od6 size len n_ err p n m) :
  ∀ s m Q, (lv_F38 I0 X0) 0 s m Q → Sat Tryz.prog w0 73 (.loop (roundOf (bodyOf Tryz.f38) 0)) Q s m :=
 loopG TryzMixed TryzTtH_ok (lv := lvF) (jt := jtF) (by kernel_rfl) (loopsOK_of _ 0 (loops0 (by kernel_rfl) ) (scopes0 (by kernel_rfl))) L0_F38 (mu := mu0) fun b_buf o_buf l_buf c_buf maxIndex bd6 od6 size len n_ err p n m hI hm g => (R0_F38_eq _ _ _  _ b_buf o_buf l_buf c_buf maxIndex bd6 od6 size len n_ err p n m g).mpr (hB0 b_buf o_buf l_buf c_buf maxIndex bd6 od6 size len n_ err p n m hI hm)
def M_F38 (I0 : LI) (X0 : LX) (K : Value → Mem → Prop) (w0 : World) (b_r o_r b_buf o_buf l_buf c_buf bd od ld cd : Nat) (maxIndex : Int) (m : Mem) : Prop :=
 ∀ B1, Mem.fresh m B1 → ∀ m2, m2 = Mem.newC m B1 [(.slice (some ⟨bd, od, none⟩) ld cd), (.slice none 0 0)] → callV Tryz.prog w0 36 [(.iface 48 (.pointer (some ⟨b_r, o_r, none⟩))), (.slice (some ⟨b_buf, o_buf, none⟩) l_buf c_buf)] m2 fun v3 m4 => ∃ (z5 : Int) (v6 : Value), v3 = (.tuple #[(.int .i64 z5), v6]) ∧ isI v6 = true ∧ cond (!isN v6) (K (.tuple #[(.int .i64 (0 : Int)), v6]) m4) (cond (z5 != z5) (∃ (v7 : Value), m4.ob 1 0 = some v7 ∧ K (.tuple #[(.int .i64 (0 : Int)), v7]) m4) (cond (decide (z5 < (0 : Int))) (∃ (v8 : Value), m4.ob 1 0 = some v8 ∧ K (.tuple #[(.int .i64 (0 : Int)), v8]) m4) (0 ≤ (10 : Int) ∧ (10 : Int) ≤ z5 ∧ z5 ≤ (↑(c_buf) : Int) ∧ callV Tryz.prog w0 37 [(.iface 48 (.pointer (some ⟨b_r, o_r, none⟩))), (.slice (some ⟨b_buf, (o_buf + (if Int.toNat (10 : Int) = c_buf then 0 else Int.toNat (10 : Int))), none⟩) (Int.toNat z5 - Int.toNat (10 : Int)) (c_buf - Int.toNat (10 : Int)))] m4 fun v9 m10 => ∃ (z11 : Int) (v12 : Value), v9 = (.tuple #[(.int .i64 z11), v12]) ∧ isI v12 = true ∧ cond (!isN v12) (K (.tuple #[(.int .i64 (0 : Int)), v12]) m10) (callV Tryz.prog w0 33 [(.pointer (some ⟨B1, 0, none⟩))] m10 fun v13 m14 => ∃ (z15 : Int), v13 = (.int .i64 z15) ∧ (I0 (P0_F38 b_buf o_buf l_buf c_buf maxIndex B1 0 z5 z15) [.iv .i64 (0 : Int), .vv v12, .iv .i64 (10 : Int)] m14) ∧ ((∀ (z16 : Int) (z17 : Value) (z18 : Int) (m19 : Mem), X0 0 (P0_F38 b_buf o_buf l_buf c_buf maxIndex B1 0 z5 z15) [.iv .i64 z16, .vv z17, .iv .i64 z18] m19 → ∀ _ : Env, K (.tuple #[(.int .i64 z16), z17]) m19)) ∧ ((∀ (z20 : Int) (z21 : Value) (z22 : Int) (m23 : Mem), X0 1 (P0_F38 b_buf o_buf l_buf c_buf maxIndex B1 0 z5 z15) [.iv .i64 z20, .vv z21, .iv .i64 z22] m23 → ∀ _ : Env, K (.tuple #[(.int .i64 z20), z21]) m23))))))
theorem M_F38_eq (I0 : LI) (X0 : LX) (K : Value → Mem → Prop) (w0 : World) (b_r o_r b_buf o_buf l_buf c_buf bd od ld cd : Nat) (maxIndex : Int) (m : Mem) :
  vc Tryz.prog w0 TryzTtH (lv_F38 I0 X0) jtF (bodyOf Tryz.f38) 0 (postV TryzTtH Tryz.f38.results.toList K) (env0 [(.iface 48 (.pointer (some ⟨b_r, o_r, none⟩))), (.slice (some ⟨b_buf, o_buf, none⟩) l_buf c_buf), (.agg #[(.slice (some ⟨bd, od, none⟩) ld cd), (.slice none 0 0)]), (.int .u64 maxIndex)]) m = M_F38 I0 X0 K w0 b_r o_r b_buf o_buf l_buf c_buf bd od ld cd maxIndex m := by kernel_rfl
theorem C_F38 {w0 : World} {I0 : LI} {X0 : LX} {mu0 : LM} {K : Value → Mem → Prop} {b_r o_r b_buf o_buf l_buf c_buf bd od ld cd : Nat} {maxIndex : Int} {m : Mem} (hB0 : ∀ (b_buf o_buf l_buf c_buf : Nat) (maxIndex : Int) (bd6 od6 : Nat) (size len : Int) (n_ : Int) (err : Value) (p : Int) (n : Nat) (m : Mem), I0 (P0_F38 b_buf o_buf l_buf c_buf maxIndex bd6 od6 size len) [.iv .i64 n_, .vv err, .iv .i64 p] m → mu0 (P0_F38 b_buf o_buf l_buf c_buf maxIndex bd6 od6 size len) [.iv .i64 n_, .vv err, .iv .i64 p] < n + 1 → R0_F38 I0 X0 mu0  w0 b_buf o_buf l_buf c_buf maxIndex bd6 od6 size len n_ err p n m)
  (h : M_F38 I0 X0 K w0 b_r o_r b_buf o_buf l_buf c_buf bd od ld cd maxIndex m) : callV Tryz.prog w0 38 [(.iface 48 (.pointer (some ⟨b_r, o_r, none⟩))), (.slice (some ⟨b_buf, o_buf, none⟩) l_buf c_buf), (.agg #[(.slice (some ⟨bd, od, none⟩) ld cd), (.slice none 0 0)]), (.int .u64 maxIndex)] m K :=
 callV_of TryzMixed TryzTtH_ok (lv := (lv_F38 I0 X0)) (jt := jtF) (c := (bodyOf Tryz.f38)) Tryz.func38 (by kernel_rfl) (by kernel_rfl) (Nat.le_of_ble_eq_true (by kernel_rfl)) (by kernel_rfl) (loopsOK_of _ 0 (loops1 (by kernel_rfl) (S0_F38 hB0)) (scopes0 (by kernel_rfl))) ((M_F38_eq _ _ _ _ _ _ _ _ _ _ _ _ _ _ _ _).mpr h)
def L0_F20 : LS := ⟨[(1, .iq 48), (5, .sl), (8, .iv .i64), (11, .pt)], [(4, .vv)], [.exit 0, .ret]⟩
def P0_F20 (b_r o_r b_buf o_buf l_buf c_buf : Nat) (n_ : Int) (ba oa : Nat) : List SV := [.ip 48 b_r o_r, .sl b_buf o_buf l_buf c_buf, .iv .i64 n_, .pt ba oa]
def lv_F20 (I0 : LI) (X0 : LX) : Nat → Env → Mem → Post → Prop := fun i s m Q => match i with | 0 => lv1 L0_F20 I0 X0 s m Q | _ => False
def R0_F20 (I0 : LI) (X0 : LX) (mu0 : LMm)  (w0 : World) (b_r o_r b_buf o_buf l_buf c_buf : Nat) (n_ : Int) (ba oa : Nat) (s4 : Value) (n : Nat) (m : Mem) : Prop :=
 callV Tryz.prog w0 33 [(.pointer (some ⟨ba, oa, none⟩))] m fun v343 m344 => ∃ (z345 : Int), v343 = (.int .i64 z345) ∧ cond (decide (z345 > (0 : Int))) (∃ (b346 o347 l348 c349 : Nat), (m344.ob ba oa = some (.slice (some ⟨b346, o347, none⟩) l348 c349) ∧ m344.ob ba (oa + 1) = some (.slice none 0 0) ∧ True) ∧ callV Tryz.prog w0 38 [(.iface 48 (.pointer (some ⟨b_r, o_r, none⟩))), (.slice (some ⟨b_buf, o_buf, none⟩) l_buf c_buf), (.agg #[(.slice (some ⟨b346, o347, none⟩) l348 c349), (.slice none 0 0)]), (.int .u64 (IntKind.wrap .u64 n_))] m344 fun v350 m351 => ∃ (z352 : Int) (v353 : Value), v350 = (.tuple #[(.int .i64 z352), v353]) ∧ isI v353 = true ∧ cond (!isN v353) (XF1 L0_F20 X0 1 (P0_F20 b_r o_r b_buf o_buf l_buf c_buf n_ ba oa) [v353] m351) (callV Tryz.prog w0 33 [(.pointer (some ⟨ba, oa, none⟩))] m351 fun v354 m355 => ∃ (z356 : Int), v354 = (.int .i64 z356) ∧ callV Tryz.prog w0 35 [(.pointer (some ⟨ba, oa, none⟩)), (.int .i64 z352), (.int .i64 z356)] m355 fun v357 m358 => ∃ (b359 o360 l361 c362 : Nat), v357 = (.agg #[(.slice (some ⟨b359, o360, none⟩) l361 c362), (.slice none 0 0)]) ∧ oneC (.slice (some ⟨b359, o360, none⟩) l361 c362) = true ∧ (m358.ob ba oa).isSome = true ∧ m358.ro ba = false ∧ ∀ m363, m363 = Mem.so m358 ba oa (.slice (some ⟨b359, o360, none⟩) l361 c362) → oneC (.slice none 0 0) = true ∧ (m363.ob ba (oa + 1)).isSome = true ∧ m363.ro ba = false ∧ ∀ m364, m364 = Mem.so m363 ba (oa + 1) (.slice none 0 0) → KFm1 L0_F20 I0 mu0 (P0_F20 b_r o_r b_buf o_buf l_buf c_buf n_ ba oa) n [s4] m364)) (XF1 L0_F20 X0 0 (P0_F20 b_r o_r b_buf o_buf l_buf c_buf n_ ba oa) [s4] m344)
theorem R0_F20_eq (I0 : LI) (X0 : LX) (mu0 : LMm)  (w0 : World) (b_r o_r b_buf o_buf l_buf c_buf : Nat) (n_ : Int) (ba oa : Nat) (s4 : Value) (n : Nat) (m : Mem) (g : Env) :
  vc Tryz.prog w0 TryzTtH lvF jtF (roundOf (bodyOf Tryz.f20) 0) 0 (roundV (QL L0_F20 X0 (P0_F20 b_r o_r b_buf o_buf l_buf c_buf n_ ba oa)) (KLm L0_F20 I0 mu0 (P0_F20 b_r o_r b_buf o_buf l_buf c_buf n_ ba oa) n)) (chainL (chainL g L0_F20.ps (P0_F20 b_r o_r b_buf o_buf l_buf c_buf n_ ba oa)) L0_F20.ls [.vv s4]) m =
  R0_F20 I0 X0 mu0  w0 b_r o_r b_buf o_buf l_buf c_buf n_ ba oa s4 n m := by kernel_rfl
theorem S0_F20 {w0 : World} {I0 : LI} {X0 : LX} {mu0 : LMm}  (hB0 : ∀ (b_r o_r b_buf o_buf l_buf c_buf : Nat) (n_ : Int) (ba oa : Nat) (s4 : Value) (n : Nat) (m : Mem), I0 (P0_F20 b_r o_r b_buf o_buf l_buf c_buf n_ ba oa) [.vv s4] m → mu0 (P0_F20 b_r o_r b_buf o_buf l_buf c_buf n_ ba oa) [.vv s4] m < n + 1 → R0_F20 I0 X0 mu0  w0 b_r o_r b_buf o_buf l_buf c_buf n_ ba oa s4 n m) :
  ∀ s m Q, (lv_F20 I0 X0) 0 s m Q → Sat Tryz.prog w0 154 (.loop (roundOf (bodyOf Tryz.f20) 0)) Q s m :=
 loopGm TryzMixed TryzTtH_ok (lv := lvF) (jt := jtF) (by kernel_rfl) (loopsOK_of _ 0 (loops0 (by kernel_rfl) ) (scopes0 (by kernel_rfl))) L0_F20 (mu := mu0) fun b_r o_r b_buf o_buf l_buf c_buf n_ ba oa s4 n m hI hm g => (R0_F20_eq _ _ _  _ b_r o_r b_buf o_buf l_buf c_buf n_ ba oa s4 n m g).mpr (hB0 b_r o_r b_buf o_buf l_buf c_buf n_ ba oa s4 n m hI hm)
def M_F20 (I0 : LI) (X0 : LX) (K : Value → Mem → Prop) (w0 : World) (b_x o_x b_r o_r : Nat) (m : Mem) : Prop :=
 0 ≤ (16384 : Int) ∧ (16384 : Int) ≤ (16384 : Int) ∧ (16384 : Int) ≤ 1000000000 ∧ ∀ B1, Mem.fresh m B1 → ∀ m2, m2 = Mem.new m B1 .u8 (Int.toNat (16384 : Int)) (fun _ => 0) → callV Tryz.prog w0 36 [(.iface 48 (.pointer (some ⟨b_r, o_r, none⟩))), (.slice (some ⟨B1, 0, none⟩) (Int.toNat (16384 : Int)) (Int.toNat (16384 : Int)))] m2 fun v3 m4 => ∃ (z5 : Int) (v6 : Value), v3 = (.tuple #[(.int .i64 z5), v6]) ∧ isI v6 = true ∧ cond (!isN v6) (K v6 m4) (cond (z5 != z5) (∃ (v7 : Value), m4.ob 1 0 = some v7 ∧ K v7 m4) (cond (decide (z5 < (0 : Int))) (∃ (v8 : Value), m4.ob 1 0 = some v8 ∧ K v8 m4) (inR .i64 ((2 : Int) * z5) ∧ ∃ (b10 o11 l12 c13 : Nat), m4.ob b_x (o_x + 0) = some (.slice (some ⟨b10, o11, none⟩) l12 c13) ∧ cond (decide (((2 : Int) * z5) < (↑(c13) : Int))) (0 ≤ z5 ∧ z5 ≤ z5 ∧ z5 ≤ 1000000000 ∧ ∀ B14, Mem.fresh m4 B14 → ∀ m15, m15 = Mem.new m4 B14 .u8 (Int.toNat z5) (fun _ => 0) → oneC (.slice (some ⟨B14, 0, none⟩) (Int.toNat z5) (Int.toNat z5)) = true ∧ (m15.ob b_x (o_x + 0)).isSome = true ∧ m15.ro b_x = false ∧ ∀ m16, m16 = Mem.so m15 b_x (o_x + 0) (.slice (some ⟨B14, 0, none⟩) (Int.toNat z5) (Int.toNat z5)) → oneC (.slice none 0 0) = true ∧ (m16.ob b_x ((o_x + 1) + 0)).isSome = true ∧ m16.ro b_x = false ∧ ∀ m17, m17 = Mem.so m16 b_x ((o_x + 1) + 0) (.slice none 0 0) → oneC (.slice none 0 0) = true ∧ (m17.ob b_x ((o_x + 1) + 1)).isSome = true ∧ m17.ro b_x = false ∧ ∀ m18, m18 = Mem.so m17 b_x ((o_x + 1) + 1) (.slice none 0 0) → m18.kd 0 0 = some .i64 ∧ ∀ z19, m18.val 0 0 = z19 → cond (decide (z5 ≤ z19)) (0 ≤ z5 ∧ z5 ≤ z5 ∧ z5 ≤ 1000000000 ∧ ∀ B20, Mem.fresh m18 B20 → ∀ m21, m21 = Mem.new m18 B20 .i32 (Int.toNat z5) (fun _ => 0) → oneC (.slice (some ⟨B20, 0, none⟩) (Int.toNat z5) (Int.toNat z5)) = true ∧ (m21.ob b_x ((o_x + 1) + 0)).isSome = true ∧ m21.ro b_x = false ∧ ∀ m22, m22 = Mem.so m21 b_x ((o_x + 1) + 0) (.slice (some ⟨B20, 0, none⟩) (Int.toNat z5) (Int.toNat z5)) → ∃ (b154 o155 l156 c157 : Nat), m22.ob b_x (o_x + 0) = some (.slice (some ⟨b154, o155, none⟩) l156 c157) ∧ callV Tryz.prog w0 37 [(.iface 48 (.pointer (some ⟨b_r, o_r, none⟩))), (.slice (some ⟨b154, o155, none⟩) l156 c157)] m22 fun v158 m159 => ∃ (z160 : Int) (v161 : Value), v158 = (.tuple #[(.int .i64 z160), v161]) ∧ isI v161 = true ∧ cond (!isN v161) (K v161 m159) (∃ (b162 o163 l164 c165 : Nat), (m159.ob b_x (o_x + 1) = some (.slice (some ⟨b162, o163, none⟩) l164 c165) ∧ m159.ob b_x ((o_x + 1) + 1) = some (.slice none 0 0) ∧ True) ∧ ∀ B166, Mem.fresh m159 B166 → ∀ m167, m167 = Mem.newC m159 B166 [.slice none 0 0, .slice none 0 0] → oneC (.slice (some ⟨b162, o163, none⟩) l164 c165) = true ∧ (m167.ob B166 0).isSome = true ∧ m167.ro B166 = false ∧ ∀ m168, m168 = Mem.so m167 B166 0 (.slice (some ⟨b162, o163, none⟩) l164 c165) → oneC (.slice none 0 0) = true ∧ (m168.ob B166 (0 + 1)).isSome = true ∧ m168.ro B166 = false ∧ ∀ m169, m169 = Mem.so m168 B166 (0 + 1) (.slice none 0 0) → (I0 (P0_F20 b_r o_r B1 0 (Int.toNat (16384 : Int)) (Int.toNat (16384 : Int)) z5 B166 0) [.vv .nilIface] m169) ∧ ((∀ (z170 : Value) (m171 : Mem), X0 0 (P0_F20 b_r o_r B1 0 (Int.toNat (16384 : Int)) (Int.toNat (16384 : Int)) z5 B166 0) [.vv z170] m171 → ∀ _ : Env, K .nilIface m171)) ∧ ((∀ (z172 : Value) (m173 : Mem), X0 1 (P0_F20 b_r o_r B1 0 (Int.toNat (16384 : Int)) (Int.toNat (16384 : Int)) z5 B166 0) [.vv z172] m173 → ∀ _ : Env, K z172 m173)))) (0 ≤ z5 ∧ z5 ≤ z5 ∧ z5 ≤ 1000000000 ∧ ∀ B174, Mem.fresh m18 B174 → ∀ m175, m175 = Mem.new m18 B174 .i64 (Int.toNat z5) (fun _ => 0) → oneC (.slice (some ⟨B174, 0, none⟩) (Int.toNat z5) (Int.toNat z5)) = true ∧ (m175.ob b_x ((o_x + 1) + 1)).isSome = true ∧ m175.ro b_x = false ∧ ∀ m176, m176 = Mem.so m175 b_x ((o_x + 1) + 1) (.slice (some ⟨B174, 0, none⟩) (Int.toNat z5) (Int.toNat z5)) → ∃ (b177 o178 l179 c180 : Nat), m176.ob b_x (o_x + 0) = some (.slice (some ⟨b177, o178, none⟩) l179 c180) ∧ callV Tryz.prog w0 37 [(.iface 48 (.pointer (some ⟨b_r, o_r, none⟩))), (.slice (some ⟨b177, o178, none⟩) l179 c180)] m176 fun v181 m182 => ∃ (z183 : Int) (v184 : Value), v181 = (.tuple #[(.int .i64 z183), v184]) ∧ isI v184 = true ∧ cond (!isN v184) (K v184 m182) (∃ (b185 o186 l187 c188 : Nat), (m182.ob b_x (o_x + 1) = some (.slice (some ⟨b185, o186, none⟩) l187 c188) ∧ m182.ob b_x ((o_x + 1) + 1) = some (.slice none 0 0) ∧ True) ∧ ∀ B189, Mem.fresh m182 B189 → ∀ m190, m190 = Mem.newC m182 B189 [.slice none 0 0, .slice none 0 0] → oneC (.slice (some ⟨b185, o186, none⟩) l187 c188) = true ∧ (m190.ob B189 0).isSome = true ∧ m190.ro B189 = false ∧ ∀ m191, m191 = Mem.so m190 B189 0 (.slice (some ⟨b185, o186, none⟩) l187 c188) → oneC (.slice none 0 0) = true ∧ (m191.ob B189 (0 + 1)).isSome = true ∧ m191.ro B189 = false ∧ ∀ m192, m192 = Mem.so m191 B189 (0 + 1) (.slice none 0 0) → (I0 (P0_F20 b_r o_r B1 0 (Int.toNat (16384 : Int)) (Int.toNat (16384 : Int)) z5 B189 0) [.vv .nilIface] m192) ∧ ((∀ (z193 : Value) (m194 : Mem), X0 0 (P0_F20 b_r o_r B1 0 (Int.toNat (16384 : Int)) (Int.toNat (16384 : Int)) z5 B189 0) [.vv z193] m194 → ∀ _ : Env, K .nilIface m194)) ∧ ((∀ (z195 : Value) (m196 : Mem), X0 1 (P0_F20 b_r o_r B1 0 (Int.toNat (16384 : Int)) (Int.toNat (16384 : Int)) z5 B189 0) [.vv z195] m196 → ∀ _ : Env, K z195 m196))))) (∃ (b197 o198 l199 c200 : Nat), m4.ob b_x (o_x + 0) = some (.slice (some ⟨b197, o198, none⟩) l199 c200) ∧ cond (decide ((↑(c200) : Int) < z5)) (0 ≤ z5 ∧ z5 ≤ z5 ∧ z5 ≤ 1000000000 ∧ ∀ B201, Mem.fresh m4 B201 → ∀ m202, m202 = Mem.new m4 B201 .u8 (Int.toNat z5) (fun _ => 0) → oneC (.slice (some ⟨B201, 0, none⟩) (Int.toNat z5) (Int.toNat z5)) = true ∧ (m202.ob b_x (o_x + 0)).isSome = true ∧ m202.ro b_x = false ∧ ∀ m203, m203 = Mem.so m202 b_x (o_x + 0) (.slice (some ⟨B201, 0, none⟩) (Int.toNat z5) (Int.toNat z5)) → oneC (.slice none 0 0) = true ∧ (m203.ob b_x ((o_x + 1) + 0)).isSome = true ∧ m203.ro b_x = false ∧ ∀ m204, m204 = Mem.so m203 b_x ((o_x + 1) + 0) (.slice none 0 0) → oneC (.slice none 0 0) = true ∧ (m204.ob b_x ((o_x + 1) + 1)).isSome = true ∧ m204.ro b_x = false ∧ ∀ m205, m205 = Mem.so m204 b_x ((o_x + 1) + 1) (.slice none 0 0) → m205.kd 0 0 = some .i64 ∧ ∀ z206, m205.val 0 0 = z206 → cond (decide (z5 ≤ z206)) (0 ≤ z5 ∧ z5 ≤ z5 ∧ z5 ≤ 1000000000 ∧ ∀ B207, Mem.fresh m205 B207 → ∀ m208, m208 = Mem.new m205 B207 .i32 (Int.toNat z5) (fun _ => 0) → oneC (.slice (some ⟨B207, 0, none⟩) (Int.toNat z5) (Int.toNat z5)) = true ∧ (m208.ob b_x ((o_x + 1) + 0)).isSome = true ∧ m208.ro b_x = false ∧ ∀ m209, m209 = Mem.so m208 b_x ((o_x + 1) + 0) (.slice (some ⟨B207, 0, none⟩) (Int.toNat z5) (Int.toNat z5)) → ∃ (b210 o211 l212 c213 : Nat), m209.ob b_x (o_x + 0) = some (.slice (some ⟨b210, o211, none⟩) l212 c213) ∧ callV Tryz.prog w0 37 [(.iface 48 (.pointer (some ⟨b_r, o_r, none⟩))), (.slice (some ⟨b210, o211, none⟩) l212 c213)] m209 fun v214 m215 => ∃ (z216 : Int) (v217 : Value), v214 = (.tuple #[(.int .i64 z216), v217]) ∧ isI v217 = true ∧ cond (!isN v217) (K v217 m215) (∃ (b218 o219 l220 c221 : Nat), (m215.ob b_x (o_x + 1) = some (.slice (some ⟨b218, o219, none⟩) l220 c221) ∧ m215.ob b_x ((o_x + 1) + 1) = some (.slice none 0 0) ∧ True) ∧ ∀ B222, Mem.fresh m215 B222 → ∀ m223, m223 = Mem.newC m215 B222 [.slice none 0 0, .slice none 0 0] → oneC (.slice (some ⟨b218, o219, none⟩) l220 c221) = true ∧ (m223.ob B222 0).isSome = true ∧ m223.ro B222 = false ∧ ∀ m224, m224 = Mem.so m223 B222 0 (.slice (some ⟨b218, o219, none⟩) l220 c221) → oneC (.slice none 0 0) = true ∧ (m224.ob B222 (0 + 1)).isSome = true ∧ m224.ro B222 = false ∧ ∀ m225, m225 = Mem.so m224 B222 (0 + 1) (.slice none 0 0) → (I0 (P0_F20 b_r o_r B1 0 (Int.toNat (16384 : Int)) (Int.toNat (16384 : Int)) z5 B222 0) [.vv .nilIface] m225) ∧ ((∀ (z226 : Value) (m227 : Mem), X0 0 (P0_F20 b_r o_r B1 0 (Int.toNat (16384 : Int)) (Int.toNat (16384 : Int)) z5 B222 0) [.vv z226] m227 → ∀ _ : Env, K .nilIface m227)) ∧ ((∀ (z228 : Value) (m229 : Mem), X0 1 (P0_F20 b_r o_r B1 0 (Int.toNat (16384 : Int)) (Int.toNat (16384 : Int)) z5 B222 0) [.vv z228] m229 → ∀ _ : Env, K z228 m229)))) (0 ≤ z5 ∧ z5 ≤ z5 ∧ z5 ≤ 1000000000 ∧ ∀ B230, Mem.fresh m205 B230 → ∀ m231, m231 = Mem.new m205 B230 .i64 (Int.toNat z5) (fun _ => 0) → oneC (.slice (some ⟨B230, 0, none⟩) (Int.toNat z5) (Int.toNat z5)) = true ∧ (m231.ob b_x ((o_x + 1) + 1)).isSome = true ∧ m231.ro b_x = false ∧ ∀ m232, m232 = Mem.so m231 b_x ((o_x + 1) + 1) (.slice (some ⟨B230, 0, none⟩) (Int.toNat z5) (Int.toNat z5)) → ∃ (b233 o234 l235 c236 : Nat), m232.ob b_x (o_x + 0) = some (.slice (some ⟨b233, o234, none⟩) l235 c236) ∧ callV Tryz.prog w0 37 [(.iface 48 (.pointer (some ⟨b_r, o_r, none⟩))), (.slice (some ⟨b233, o234, none⟩) l235 c236)] m232 fun v237 m238 => ∃ (z239 : Int) (v240 : Value), v237 = (.tuple #[(.int .i64 z239), v240]) ∧ isI v240 = true ∧ cond (!isN v240) (K v240 m238) (∃ (b241 o242 l243 c244 : Nat), (m238.ob b_x (o_x + 1) = some (.slice (some ⟨b241, o242, none⟩) l243 c244) ∧ m238.ob b_x ((o_x + 1) + 1) = some (.slice none 0 0) ∧ True) ∧ ∀ B245, Mem.fresh m238 B245 → ∀ m246, m246 = Mem.newC m238 B245 [.slice none 0 0, .slice none 0 0] → oneC (.slice (some ⟨b241, o242, none⟩) l243 c244) = true ∧ (m246.ob B245 0).isSome = true ∧ m246.ro B245 = false ∧ ∀ m247, m247 = Mem.so m246 B245 0 (.slice (some ⟨b241, o242, none⟩) l243 c244) → oneC (.slice none 0 0) = true ∧ (m247.ob B245 (0 + 1)).isSome = true ∧ m247.ro B245 = false ∧ ∀ m248, m248 = Mem.so m247 B245 (0 + 1) (.slice none 0 0) → (I0 (P0_F20 b_r o_r B1 0 (Int.toNat (16384 : Int)) (Int.toNat (16384 : Int)) z5 B245 0) [.vv .nilIface] m248) ∧ ((∀ (z249 : Value) (m250 : Mem), X0 0 (P0_F20 b_r o_r B1 0 (Int.toNat (16384 : Int)) (Int.toNat (16384 : Int)) z5 B245 0) [.vv z249] m250 → ∀ _ : Env, K .nilIface m250)) ∧ ((∀ (z251 : Value) (m252 : Mem), X0 1 (P0_F20 b_r o_r B1 0 (Int.toNat (16384 : Int)) (Int.toNat (16384 : Int)) z5 B245 0) [.vv z251] m252 → ∀ _ : Env, K z251 m252))))) (∃ (b253 o254 l255 c256 : Nat), m4.ob b_x ((o_x + 1) + 0) = some (.slice (some ⟨b253, o254, none⟩) l255 c256) ∧ m4.kd 0 0 = some .i64 ∧ ∀ z257, m4.val 0 0 = z257 → cond (decide (z5 > z257)) (0 ≤ z5 ∧ z5 ≤ z5 ∧ z5 ≤ 1000000000 ∧ ∀ B258, Mem.fresh m4 B258 → ∀ m259, m259 = Mem.new m4 B258 .u8 (Int.toNat z5) (fun _ => 0) → oneC (.slice (some ⟨B258, 0, none⟩) (Int.toNat z5) (Int.toNat z5)) = true ∧ (m259.ob b_x (o_x + 0)).isSome = true ∧ m259.ro b_x = false ∧ ∀ m260, m260 = Mem.so m259 b_x (o_x + 0) (.slice (some ⟨B258, 0, none⟩) (Int.toNat z5) (Int.toNat z5)) → oneC (.slice none 0 0) = true ∧ (m260.ob b_x ((o_x + 1) + 0)).isSome = true ∧ m260.ro b_x = false ∧ ∀ m261, m261 = Mem.so m260 b_x ((o_x + 1) + 0) (.slice none 0 0) → oneC (.slice none 0 0) = true ∧ (m261.ob b_x ((o_x + 1) + 1)).isSome = true ∧ m261.ro b_x = false ∧ ∀ m262, m262 = Mem.so m261 b_x ((o_x + 1) + 1) (.slice none 0 0) → m262.kd 0 0 = some .i64 ∧ ∀ z263, m262.val 0 0 = z263 → cond (decide (z5 ≤ z263)) (0 ≤ z5 ∧ z5 ≤ z5 ∧ z5 ≤ 1000000000 ∧ ∀ B264, Mem.fresh m262 B264 → ∀ m265, m265 = Mem.new m262 B264 .i32 (Int.toNat z5) (fun _ => 0) → oneC (.slice (some ⟨B264, 0, none⟩) (Int.toNat z5) (Int.toNat z5)) = true ∧ (m265.ob b_x ((o_x + 1) + 0)).isSome = true ∧ m265.ro b_x = false ∧ ∀ m266, m266 = Mem.so m265 b_x ((o_x + 1) + 0) (.slice (some ⟨B264, 0, none⟩) (Int.toNat z5) (Int.toNat z5)) → ∃ (b267 o268 l269 c270 : Nat), m266.ob b_x (o_x + 0) = some (.slice (some ⟨b267, o268, none⟩) l269 c270) ∧ callV Tryz.prog w0 37 [(.iface 48 (.pointer (some ⟨b_r, o_r, none⟩))), (.slice (some ⟨b267, o268, none⟩) l269 c270)] m266 fun v271 m272 => ∃ (z273 : Int) (v274 : Value), v271 = (.tuple #[(.int .i64 z273), v274]) ∧ isI v274 = true ∧ cond (!isN v274) (K v274 m272) (∃ (b275 o276 l277 c278 : Nat), (m272.ob b_x (o_x + 1) = some (.slice (some ⟨b275, o276, none⟩) l277 c278) ∧ m272.ob b_x ((o_x + 1) + 1) = some (.slice none 0 0) ∧ True) ∧ ∀ B279, Mem.fresh m272 B279 → ∀ m280, m280 = Mem.newC m272 B279 [.slice none 0 0, .slice none 0 0] → oneC (.slice (some ⟨b275, o276, none⟩) l277 c278) = true ∧ (m280.ob B279 0).isSome = true ∧ m280.ro B279 = false ∧ ∀ m281, m281 = Mem.so m280 B279 0 (.slice (some ⟨b275, o276, none⟩) l277 c278) → oneC (.slice none 0 0) = true ∧ (m281.ob B279 (0 + 1)).isSome = true ∧ m281.ro B279 = false ∧ ∀ m282, m282 = Mem.so m281 B279 (0 + 1) (.slice none 0 0) → (I0 (P0_F20 b_r o_r B1 0 (Int.toNat (16384 : Int)) (Int.toNat (16384 : Int)) z5 B279 0) [.vv .nilIface] m282) ∧ ((∀ (z283 : Value) (m284 : Mem), X0 0 (P0_F20 b_r o_r B1 0 (Int.toNat (16384 : Int)) (Int.toNat (16384 : Int)) z5 B279 0) [.vv z283] m284 → ∀ _ : Env, K .nilIface m284)) ∧ ((∀ (z285 : Value) (m286 : Mem), X0 1 (P0_F20 b_r o_r B1 0 (Int.toNat (16384 : Int)) (Int.toNat (16384 : Int)) z5 B279 0) [.vv z285] m286 → ∀ _ : Env, K z285 m286)))) (0 ≤ z5 ∧ z5 ≤ z5 ∧ z5 ≤ 1000000000 ∧ ∀ B287, Mem.fresh m262 B287 → ∀ m288, m288 = Mem.new m262 B287 .i64 (Int.toNat z5) (fun _ => 0) → oneC (.slice (some ⟨B287, 0, none⟩) (Int.toNat z5) (Int.toNat z5)) = true ∧ (m288.ob b_x ((o_x + 1) + 1)).isSome = true ∧ m288.ro b_x = false ∧ ∀ m289, m289 = Mem.so m288 b_x ((o_x + 1) + 1) (.slice (some ⟨B287, 0, none⟩) (Int.toNat z5) (Int.toNat z5)) → ∃ (b290 o291 l292 c293 : Nat), m289.ob b_x (o_x + 0) = some (.slice (some ⟨b290, o291, none⟩) l292 c293) ∧ callV Tryz.prog w0 37 [(.iface 48 (.pointer (some ⟨b_r, o_r, none⟩))), (.slice (some ⟨b290, o291, none⟩) l292 c293)] m289 fun v294 m295 => ∃ (z296 : Int) (v297 : Value), v294 = (.tuple #[(.int .i64 z296), v297]) ∧ isI v297 = true ∧ cond (!isN v297) (K v297 m295) (∃ (b298 o299 l300 c301 : Nat), (m295.ob b_x (o_x + 1) = some (.slice (some ⟨b298, o299, none⟩) l300 c301) ∧ m295.ob b_x ((o_x + 1) + 1) = some (.slice none 0 0) ∧ True) ∧ ∀ B302, Mem.fresh m295 B302 → ∀ m303, m303 = Mem.newC m295 B302 [.slice none 0 0, .slice none 0 0] → oneC (.slice (some ⟨b298, o299, none⟩) l300 c301) = true ∧ (m303.ob B302 0).isSome = true ∧ m303.ro B302 = false ∧ ∀ m304, m304 = Mem.so m303 B302 0 (.slice (some ⟨b298, o299, none⟩) l300 c301) → oneC (.slice none 0 0) = true ∧ (m304.ob B302 (0 + 1)).isSome = true ∧ m304.ro B302 = false ∧ ∀ m305, m305 = Mem.so m304 B302 (0 + 1) (.slice none 0 0) → (I0 (P0_F20 b_r o_r B1 0 (Int.toNat (16384 : Int)) (Int.toNat (16384 : Int)) z5 B302 0) [.vv .nilIface] m305) ∧ ((∀ (z306 : Value) (m307 : Mem), X0 0 (P0_F20 b_r o_r B1 0 (Int.toNat (16384 : Int)) (Int.toNat (16384 : Int)) z5 B302 0) [.vv z306] m307 → ∀ _ : Env, K .nilIface m307)) ∧ ((∀ (z308 : Value) (m309 : Mem), X0 1 (P0_F20 b_r o_r B1 0 (Int.toNat (16384 : Int)) (Int.toNat (16384 : Int)) z5 B302 0) [.vv z308] m309 → ∀ _ : Env, K z308 m309))))) (m4.ob b_x ((o_x + 1) + 1) = some (.slice none 0 0) ∧ ∃ (b310 o311 l312 c313 : Nat), m4.ob b_x (o_x + 0) = some (.slice (some ⟨b310, o311, none⟩) l312 c313) ∧ 0 ≤ (0 : Int) ∧ (0 : Int) ≤ z5 ∧ z5 ≤ (↑(c313) : Int) ∧ oneC (.slice (some ⟨b310, (o311 + (if Int.toNat (0 : Int) = c313 then 0 else Int.toNat (0 : Int))), none⟩) (Int.toNat z5 - Int.toNat (0 : Int)) (c313 - Int.toNat (0 : Int))) = true ∧ (m4.ob b_x (o_x + 0)).isSome = true ∧ m4.ro b_x = false ∧ ∀ m314, m314 = Mem.so m4 b_x (o_x + 0) (.slice (some ⟨b310, (o311 + (if Int.toNat (0 : Int) = c313 then 0 else Int.toNat (0 : Int))), none⟩) (Int.toNat z5 - Int.toNat (0 : Int)) (c313 - Int.toNat (0 : Int))) → callV Tryz.prog w0 35 [(.pointer (some ⟨b_x, (o_x + 1), none⟩)), (.int .i64 (0 : Int)), (.int .i64 z5)] m314 fun v315 m316 => ∃ (b317 o318 l319 c320 : Nat), v315 = (.agg #[(.slice (some ⟨b317, o318, none⟩) l319 c320), (.slice none 0 0)]) ∧ oneC (.slice (some ⟨b317, o318, none⟩) l319 c320) = true ∧ (m316.ob b_x (o_x + 1)).isSome = true ∧ m316.ro b_x = false ∧ ∀ m321, m321 = Mem.so m316 b_x (o_x + 1) (.slice (some ⟨b317, o318, none⟩) l319 c320) → oneC (.slice none 0 0) = true ∧ (m321.ob b_x ((o_x + 1) + 1)).isSome = true ∧ m321.ro b_x = false ∧ ∀ m322, m322 = Mem.so m321 b_x ((o_x + 1) + 1) (.slice none 0 0) → ∃ (b323 o324 l325 c326 : Nat), m322.ob b_x (o_x + 0) = some (.slice (some ⟨b323, o324, none⟩) l325 c326) ∧ callV Tryz.prog w0 37 [(.iface 48 (.pointer (some ⟨b_r, o_r, none⟩))), (.slice (some ⟨b323, o324, none⟩) l325 c326)] m322 fun v327 m328 => ∃ (z329 : Int) (v330 : Value), v327 = (.tuple #[(.int .i64 z329), v330]) ∧ isI v330 = true ∧ cond (!isN v330) (K v330 m328) (∃ (b331 o332 l333 c334 : Nat), (m328.ob b_x (o_x + 1) = some (.slice (some ⟨b331, o332, none⟩) l333 c334) ∧ m328.ob b_x ((o_x + 1) + 1) = some (.slice none 0 0) ∧ True) ∧ ∀ B335, Mem.fresh m328 B335 → ∀ m336, m336 = Mem.newC m328 B335 [.slice none 0 0, .slice none 0 0] → oneC (.slice (some ⟨b331, o332, none⟩) l333 c334) = true ∧ (m336.ob B335 0).isSome = true ∧ m336.ro B335 = false ∧ ∀ m337, m337 = Mem.so m336 B335 0 (.slice (some ⟨b331, o332, none⟩) l333 c334) → oneC (.slice none 0 0) = true ∧ (m337.ob B335 (0 + 1)).isSome = true ∧ m337.ro B335 = false ∧ ∀ m338, m338 = Mem.so m337 B335 (0 + 1) (.slice none 0 0) → (I0 (P0_F20 b_r o_r B1 0 (Int.toNat (16384 : Int)) (Int.toNat (16384 : Int)) z5 B335 0) [.vv .nilIface] m338) ∧ ((∀ (z339 : Value) (m340 : Mem), X0 0 (P0_F20 b_r o_r B1 0 (Int.toNat (16384 : Int)) (Int.toNat (16384 : Int)) z5 B335 0) [.vv z339] m340 → ∀ _ : Env, K .nilIface m340)) ∧ ((∀ (z341 : Value) (m342 : Mem), X0 1 (P0_F20 b_r o_r B1 0 (Int.toNat (16384 : Int)) (Int.toNat (16384 : Int)) z5 B335 0) [.vv z341] m342 → ∀ _ : Env, K z341 m342)))))))))
theorem M_F20_eq (I0 : LI) (X0 : LX) (K : Value → Mem → Prop) (w0 : World) (b_x o_x b_r o_r : Nat) (m : Mem) :
  vc Tryz.prog w0 TryzTtH (lv_F20 I0 X0) jtF (bodyOf Tryz.f20) 0 (postV TryzTtH Tryz.f20.results.toList K) (env0 [(.pointer (some ⟨b_x, o_x, none⟩)), (.iface 48 (.pointer (some ⟨b_r, o_r, none⟩)))]) m = M_F20 I0 X0 K w0 b_x o_x b_r o_r m := by kernel_rfl
theorem C_F20 {w0 : World} {I0 : LI} {X0 : LX} {mu0 : LMm} {K : Value → Mem → Prop} {b_x o_x b_r o_r : Nat} {m : Mem} (hB0 : ∀ (b_r o_r b_buf o_buf l_buf c_buf : Nat) (n_ : Int) (ba oa : Nat) (s4 : Value) (n : Nat) (m : Mem), I0 (P0_F20 b_r o_r b_buf o_buf l_buf c_buf n_ ba oa) [.vv s4] m → mu0 (P0_F20 b_r o_r b_buf o_buf l_buf c_buf n_ ba oa) [.vv s4] m < n + 1 → R0_F20 I0 X0 mu0  w0 b_r o_r b_buf o_buf l_buf c_buf n_ ba oa s4 n m)
  (h : M_F20 I0 X0 K w0 b_x o_x b_r o_r m) : callV Tryz.prog w0 20 [(.pointer (some ⟨b_x, o_x, none⟩)), (.iface 48 (.pointer (some ⟨b_r, o_r, none⟩)))] m K :=
 callV_of TryzMixed TryzTtH_ok (lv := (lv_F20 I0 X0)) (jt := jtF) (c := (bodyOf Tryz.f20)) Tryz.func20 (by kernel_rfl) (by kernel_rfl) (Nat.le_of_ble_eq_true (by kernel_rfl)) (by kernel_rfl) (loopsOK_of _ 0 (loops1 (by kernel_rfl) (S0_F20 hB0)) (scopes0 (by kernel_rfl))) ((M_F20_eq _ _ _ _ _ _ _ _ _).mpr h)
def M_F6  (K : Value → Mem → Prop) (w0 : World) (sd : Option Addr) (ld cd : Nat) (m : Mem) : Prop :=
 ∀ B1, Mem.fresh m B1 → ∀ m2, m2 = Mem.newC m B1 [.slice none 0 0, .int .i64 0, .int .i8 0] → callV Tryz.prog w0 16 [(.slice sd ld cd)] m2 fun v3 m4 => ∃ (b5 o14 l15 c16 : Nat), v3 = (.slice (some ⟨b5, o14, none⟩) l15 c16) ∧ callV Tryz.prog w0 15 [(.slice (some ⟨b5, o14, none⟩) l15 c16)] m4 fun v17 m18 => ∃ (b19 o20 : Nat), v17 = (.pointer (some ⟨b19, o20, none⟩)) ∧ callV Tryz.prog w0 17 [(.pointer (some ⟨b19, o20, none⟩)), (.iface 48 (.pointer (some ⟨B1, 0, none⟩)))] m18 fun v21 m22 => ∃ (b23 o24 l25 c26 : Nat), quietV Tryz.prog 18 [(.pointer (some ⟨B1, 0, none⟩))] m22 (.slice (some ⟨b23, o24, none⟩) l25 c26) ∧ isI v21 = true ∧ K (.tuple #[(.slice (some ⟨b23, o24, none⟩) l25 c26), (.bool (isN v21))]) m22
theorem M_F6_eq  (K : Value → Mem → Prop) (w0 : World) (sd : Option Addr) (ld cd : Nat) (m : Mem) :
  vc Tryz.prog w0 TryzTtH lvF jtF (bodyOf Tryz.f6) 0 (postV TryzTtH Tryz.f6.results.toList K) (env0 [(.slice sd ld cd)]) m = M_F6  K w0 sd ld cd m := by kernel_rfl
theorem C_F6 {w0 : World}  {K : Value → Mem → Prop} {sd : Option Addr} {ld cd : Nat} {m : Mem}
  (h : M_F6  K w0 sd ld cd m) : callV Tryz.prog w0 6 [(.slice sd ld cd)] m K :=
 callV_of TryzMixed TryzTtH_ok (lv := lvF) (jt := jtF) (c := (bodyOf Tryz.f6)) Tryz.func6 (by kernel_rfl) (by kernel_rfl) (Nat.le_of_ble_eq_true (by kernel_rfl)) (by kernel_rfl) (loopsOK_of _ 0 (loops0 (by kernel_rfl) ) (scopes0 (by kernel_rfl))) ((M_F6_eq  _ _ _ _ _ _).mpr h)
def M_F7  (K : Value → Mem → Prop) (w0 : World) (s_saved : Option Addr) (l_saved c_saved : Nat) (s_elder : Option Addr) (l_elder c_elder : Nat) (s_s : Option Addr) (l_s c_s : Nat) (n_ : Int) (m : Mem) : Prop :=
 ∀ B1, Mem.fresh m B1 → ∀ m2, m2 = Mem.new m B1 .u8 0 (fun _ => 0) → apV (.slice 5 .u8) (.slice (some ⟨B1, 0, none⟩) 0 0) (.slice s_saved l_saved c_saved) m2 fun v3 m4 => callV Tryz.prog w0 19 [v3] m4 fun v5 m6 => ∃ (b7 o12 : Nat), v5 = (.pointer (some ⟨b7, o12, none⟩)) ∧ callV Tryz.prog w0 16 [(.slice s_elder l_elder c_elder)] m6 fun v13 m14 => ∃ (b38 o39 l40 c41 : Nat), v13 = (.slice (some ⟨b38, o39, none⟩) l40 c41) ∧ callV Tryz.prog w0 15 [(.slice (some ⟨b38, o39, none⟩) l40 c41)] m14 fun v42 m43 => ∃ (b44 o45 : Nat), v42 = (.pointer (some ⟨b44, o45, none⟩)) ∧ callV Tryz.prog w0 20 [(.pointer (some ⟨b44, o45, none⟩)), (.iface 48 (.pointer (some ⟨b7, o12, none⟩)))] m43 fun v46 m47 => isI v46 = true ∧ cond (!isN v46) (K (.tuple #[(.slice none 0 0), (.slice none 0 0), (.int .i64 (0 : Int)), (.bool false)]) m47) (∀ B48, Mem.fresh m47 B48 → ∀ m49, m49 = Mem.new m47 B48 .u8 0 (fun _ => 0) → callV Tryz.prog w0 21 [(.pointer (some ⟨b44, o45, none⟩))] m49 fun v50 m51 => ∃ (b52 o53 l54 c55 : Nat), v50 = (.slice (some ⟨b52, o53, none⟩) l54 c55) ∧ apV (.slice 5 .u8) (.slice (some ⟨B48, 0, none⟩) 0 0) (.slice (some ⟨b52, o53, none⟩) l54 c55) m51 fun v56 m57 => ∀ B58, Mem.fresh m57 B58 → ∀ m59, m59 = Mem.new m57 B58 .u8 0 (fun _ => 0) → apV (.slice 5 .u8) (.slice (some ⟨B58, 0, none⟩) 0 0) (.slice s_s l_s c_s) m59 fun v60 m61 => callV Tryz.prog w0 22 [(.pointer (some ⟨b44, o45, none⟩)), v60, (.int .i64 n_)] m61 fun v62 m63 => callV Tryz.prog w0 23 [(.pointer (some ⟨b7, o12, none⟩))] m63 fun v64 m65 => ∃ (z66 : Int), v64 = (.int .i64 z66) ∧ K (.tuple #[v56, v62, (.int .i64 z66), (.bool true)]) m65)
theorem M_F7_eq  (K : Value → Mem → Prop) (w0 : World) (s_saved : Option Addr) (l_saved c_saved : Nat) (s_elder : Option Addr) (l_elder c_elder : Nat) (s_s : Option Addr) (l_s c_s : Nat) (n_ : Int) (m : Mem) :
  vc Tryz.prog w0 TryzTtH lvF jtF (bodyOf Tryz.f7) 0 (postV TryzTtH Tryz.f7.results.toList K) (env0 [(.slice s_saved l_saved c_saved), (.slice s_elder l_elder c_elder), (.slice s_s l_s c_s), (.int .i64 n_)]) m = M_F7  K w0 s_saved l_saved c_saved s_elder l_elder c_elder s_s l_s c_s n_ m := by kernel_rfl
theorem C_F7 {w0 : World}  {K : Value → Mem → Prop} {s_saved : Option Addr} {l_saved c_saved : Nat} {s_elder : Option Addr} {l_elder c_elder : Nat} {s_s : Option Addr} {l_s c_s : Nat} {n_ : Int} {m : Mem}
  (h : M_F7  K w0 s_saved l_saved c_saved s_elder l_elder c_elder s_s l_s c_s n_ m) : callV Tryz.prog w0 7 [(.slice s_saved l_saved c_saved), (.slice s_elder l_elder c_elder), (.slice s_s l_s c_s), (.int .i64 n_)] m K :=
 callV_of TryzMixed TryzTtH_ok (lv := lvF) (jt := jtF) (c := (bodyOf Tryz.f7)) Tryz.func7 (by kernel_rfl) (by kernel_rfl) (Nat.le_of_ble_eq_true (by kernel_rfl)) (by kernel_rfl) (loopsOK_of _ 0 (loops0 (by kernel_rfl) ) (scopes0 (by kernel_rfl))) ((M_F7_eq  _ _ _ _ _ _ _ _ _ _ _ _ _).mpr h)
def M_F3  (K : Value → Mem → Prop) (w0 : World) (sd : Option Addr) (ld cd : Nat) (n_ : Int) (m : Mem) : Prop :=
 cond (decide ((↑(ld) : Int) > (2147483647 : Int))) (K (.bool true) m) (cond (decide ((↑(ld) : Int) > (20000 : Int))) (K (.bool true) m) (cond (decide (n_ < (0 : Int))) (K (.bool true) m) (callV Tryz.prog w0 6 [(.slice sd ld cd)] m fun v1 m2 => ∃ (b3 o5 l6 c10 : Nat) (z11 : Bool), v1 = (.tuple #[(.slice (some ⟨b3, o5, none⟩) l6 c10), (.bool z11)]) ∧ cond (!z11) (K (.bool false) m2) (cond ((↑(l6) : Int) == (0 : Int)) (K (.bool false) m2) (0 ≤ n_ ∧ 0 < (↑(l6) : Int) ∧ 0 ≤ (n_ % (↑(l6) : Int)) ∧ (n_ % (↑(l6) : Int)) ≤ (↑(c10) : Int) ∧ callV Tryz.prog w0 7 [(.slice (some ⟨b3, o5, none⟩) (Int.toNat (n_ % (↑(l6) : Int))) c10), (.slice none 0 0), (.slice none 0 0), (.int .i64 (-1 : Int))] m2 fun v12 m13 => ∃ (s47 : Option Addr) (l48 c49 : Nat) (s50 : Option Addr) (l51 c52 : Nat) (z53 : Int) (z54 : Bool), v12 = (.tuple #[(.slice s47 l48 c49), (.slice s50 l51 c52), (.int .i64 z53), (.bool z54)]) ∧ K (.bool (!z54)) m13)))))
theorem M_F3_eq  (K : Value → Mem → Prop) (w0 : World) (sd : Option Addr) (ld cd : Nat) (n_ : Int) (m : Mem) :
  vc Tryz.prog w0 TryzTtH lvF jtF (bodyOf Tryz.f3) 0 (postV TryzTtH Tryz.f3.results.toList K) (env0 [(.slice sd ld cd), (.int .i64 n_)]) m = M_F3  K w0 sd ld cd n_ m := by kernel_rfl
theorem C_F3 {w0 : World}  {K : Value → Mem → Prop} {sd : Option Addr} {ld cd : Nat} {n_ : Int} {m : Mem}
  (h : M_F3  K w0 sd ld cd n_ m) : callV Tryz.prog w0 3 [(.slice sd ld cd), (.int .i64 n_)] m K :=
 callV_of TryzMixed TryzTtH_ok (lv := lvF) (jt := jtF) (c := (bodyOf Tryz.f3)) Tryz.func3 (by kernel_rfl) (by kernel_rfl) (Nat.le_of_ble_eq_true (by kernel_rfl)) (by kernel_rfl) (loopsOK_of _ 0 (loops0 (by kernel_rfl) ) (scopes0 (by kernel_rfl))) ((M_F3_eq  _ _ _ _ _ _ _).mpr h)
def M_F5  (K : Value → Mem → Prop) (w0 : World) (sd : Option Addr) (ld cd : Nat) (s_elder : Option Addr) (l_elder c_elder : Nat) (s_s : Option Addr) (l_s c_s : Nat) (n_ : Int) (m : Mem) : Prop :=
 cond (decide ((↑(ld) : Int) > (2147483647 : Int))) (K (.bool true) m) (cond (decide ((↑(l_elder) : Int) > (2147483647 : Int))) (K (.bool true) m) (cond (decide ((↑(l_s) : Int) > (2147483647 : Int))) (K (.bool true) m) (cond (decide ((↑(ld) : Int) > (20000 : Int))) (K (.bool true) m) (cond (decide ((↑(l_elder) : Int) > (20000 : Int))) (K (.bool true) m) (cond (decide ((↑(l_s) : Int) > (20000 : Int))) (K (.bool true) m) (callV Tryz.prog w0 6 [(.slice sd ld cd)] m fun v1 m2 => ∃ (b3 o4 l5 c6 : Nat) (z7 : Bool), v1 = (.tuple #[(.slice (some ⟨b3, o4, none⟩) l5 c6), (.bool z7)]) ∧ callV Tryz.prog w0 7 [(.slice (some ⟨b3, o4, none⟩) l5 c6), (.slice s_elder l_elder c_elder), (.slice s_s l_s c_s), (.int .i64 n_)] m2 fun v8 m9 => ∃ (s10 : Option Addr) (l11 c12 : Nat) (s13 : Option Addr) (l14 c99 : Nat) (z100 : Int) (z101 : Bool), v8 = (.tuple #[(.slice s10 l11 c12), (.slice s13 l14 c99), (.int .i64 z100), (.bool z101)]) ∧ cond z7 (cond z101 (cond (z100 == (0 : Int)) (callV Tryz.prog w0 10 [(.slice s10 l11 c12), (.slice sd ld cd)] m9 fun v102 m103 => ∃ (z104 : Bool), v102 = (.bool z104) ∧ cond z104 (callV Tryz.prog w0 11 [(.slice sd ld cd)] m103 fun v105 m106 => ∃ (b107 o108 l109 c110 : Nat), v105 = (.slice (some ⟨b107, o108, none⟩) l109 c110) ∧ callV Tryz.prog w0 10 [(.slice (some ⟨b107, o108, none⟩) l109 c110), (.slice sd ld cd)] m106 fun v111 m112 => ∃ (z113 : Bool), v111 = (.bool z113) ∧ cond z113 (callV Tryz.prog w0 8 [(.slice sd ld cd), (.slice s_s l_s c_s), (.int .i64 n_), (.slice s13 l14 c99)] m112 fun v114 m115 => ∃ (z116 : Bool), v114 = (.bool z116) ∧ cond z116 (callV Tryz.prog w0 9 [(.slice sd ld cd), (.slice s_s l_s c_s), (.int .i64 n_)] m115 fun v117 m118 => callV Tryz.prog w0 8 [(.slice sd ld cd), (.slice s_s l_s c_s), (.int .i64 n_), v117] m118 fun v119 m120 => ∃ (z121 : Bool), v119 = (.bool z121) ∧ cond z121 (callV Tryz.prog w0 14 [(.slice sd ld cd)] m120 fun v122 m123 => ∃ (b124 o125 l126 c127 : Nat), v122 = (.slice (some ⟨b124, o125, none⟩) l126 c127) ∧ callV Tryz.prog w0 13 [(.slice (some ⟨b124, o125, none⟩) l126 c127)] m123 fun v128 m129 => callV Tryz.prog w0 12 [(.slice sd ld cd), v128] m129 fun v130 m131 => ∃ (z132 : Bool), v130 = (.bool z132) ∧ K (.bool z132) m131) (K (.bool false) m120)) (K (.bool false) m115)) (K (.bool false) m112)) (K (.bool false) m103)) (K (.bool false) m9)) (K (.bool false) m9)) (K (.bool false) m9)))))))
theorem M_F5_eq  (K : Value → Mem → Prop) (w0 : World) (sd : Option Addr) (ld cd : Nat) (s_elder : Option Addr) (l_elder c_elder : Nat) (s_s : Option Addr) (l_s c_s : Nat) (n_ : Int) (m : Mem) :
  vc Tryz.prog w0 TryzTtH lvF jtF (bodyOf Tryz.f5) 0 (postV TryzTtH Tryz.f5.results.toList K) (env0 [(.slice sd ld cd), (.slice s_elder l_elder c_elder), (.slice s_s l_s c_s), (.int .i64 n_)]) m = M_F5  K w0 sd ld cd s_elder l_elder c_elder s_s l_s c_s n_ m := by kernel_rfl
theorem C_F5 {w0 : World}  {K : Value → Mem → Prop} {sd : Option Addr} {ld cd : Nat} {s_elder : Option Addr} {l_elder c_elder : Nat} {s_s : Option Addr} {l_s c_s : Nat} {n_ : Int} {m : Mem}
  (h : M_F5  K w0 sd ld cd s_elder l_elder c_elder s_s l_s c_s n_ m) : callV Tryz.prog w0 5 [(.slice sd ld cd), (.slice s_elder l_elder c_elder), (.slice s_s l_s c_s), (.int .i64 n_)] m K :=
 callV_of TryzMixed TryzTtH_ok (lv := lvF) (jt := jtF) (c := (bodyOf Tryz.f5)) Tryz.func5 (by kernel_rfl) (by kernel_rfl) (Nat.le_of_ble_eq_true (by kernel_rfl)) (by kernel_rfl) (loopsOK_of _ 0 (loops0 (by kernel_rfl) ) (scopes0 (by kernel_rfl))) ((M_F5_eq  _ _ _ _ _ _ _ _ _ _ _ _ _).mpr h)
end Go.Proofs.YtdhifgedhaapjaaGreatDoor
set_option maxRecDepth 100000
namespace Go.Proofs.YtdhifgedhaapjaaGreatDoor
open Go Sa
/-! ### the stream -/
structure I10 (h : List Int) (v : Nat) : Prop where
 len : h.length = 10
 pre : uv (2 * v) <+: h
 rg : ∀ x ∈ h, 0 ≤ x ∧ x < 256
def body (A : Nat → Nat) (j k : Nat) : List Int := (List.range' j k).flatMap fun i => uv (A i)
theorem body_zero (A : Nat → Nat) (j : Nat) : body A j 0 = [] := rfl
theorem body_succ (A : Nat → Nat) (j k : Nat) : body A j (k + 1) = body A j k ++ uv (A (j + k)) := by
 unfold body
 rw [List.range'_1_concat, List.flatMap_append]
 simp
theorem body_head (A : Nat → Nat) (j k : Nat) : body A j (k + 1) = uv (A j) ++ body A (j + 1) k := by
 unfold body
 rw [List.range'_succ]
 rfl
theorem body_rg (A : Nat → Nat) (j k : Nat) : ∀ x ∈ body A j k, 0 ≤ x ∧ x < 256 := fun x hx => by
 unfold body at hx
 obtain ⟨i, _, hi⟩ := List.mem_flatMap.1 hx
 exact uv_rg _ x hi
theorem body_len {A : Nat → Nat} (hA : ∀ i, A i < 2097152) (j : Nat) : ∀ k, (body A j k).length ≤ 3 * k
 | 0 => by simp [body_zero]
 | k + 1 => by
  have := body_len hA j k
  have := uv_len3 (hA (j + k))
  rw [body_succ, List.length_append]
  omega
inductive Sas (A : Nat → Nat) (n : Nat) : Nat → List Int → Prop
 | nil : Sas A n n []
 | cons (j k : Nat) (h s : List Int) : 1 ≤ k → j + k ≤ n → I10 h (10 + (body A j k).length) → 10 + (body A j k).length ≤ 16384 → Sas A n (j + k) s → Sas A n j (h ++ body A j k ++ s)
inductive Sas0 (A : Nat → Nat) : Nat → Nat → List Int → Prop
 | nil (j : Nat) : Sas0 A j j []
 | snoc (i j k : Nat) (h s : List Int) : 1 ≤ k → I10 h (10 + (body A j k).length) → 10 + (body A j k).length ≤ 16384 → Sas0 A i j s → Sas0 A i (j + k) (s ++ (h ++ body A j k))
theorem Sas0.done {A : Nat → Nat} {n : Nat} : ∀ {i j : Nat} {s t : List Int}, Sas0 A i j s → j ≤ n → Sas A n j t → Sas A n i (s ++ t)
 | _, _, _, t, .nil _, _, ht => ht
 | _, _, _, t, .snoc i j k h s hk hi hl hs, hj, ht => by
  have := Sas.cons j k h t hk hj hi hl ht
  rw [List.append_assoc]
  exact hs.done (by omega) this
theorem Sas.rg {A : Nat → Nat} {n j : Nat} {s : List Int} (h : Sas A n j s) : ∀ x ∈ s, 0 ≤ x ∧ x < 256 := by
 induction h with
 | nil => intro x hx; simp at hx
 | cons j k h s _ _ hi _ _ ih =>
  intro x hx
  simp only [List.mem_append] at hx
  rcases hx with (hx | hx) | hx
  ·exact hi.rg x hx
  ·exact body_rg _ _ _ x hx
  ·exact ih x hx
/-! ### the work row -/
structure Bf (a : Mem) (b : Nat) : Prop where
 kd : ∀ i, i < 16384 → a.kd b i = some .u8
 ro : a.ro b = false
 rg : ∀ i, i < 16384 → 0 ≤ a.val b i ∧ a.val b i < 256
theorem Bf.wr {a : Mem} {b : Nat} (h : Bf a b) (o : Nat) {L : List Int} (hL : ∀ x ∈ L, 0 ≤ x ∧ x < 256) : Bf (a.wr b o L) b :=
 ⟨h.kd, h.ro, fun i hi => by
  simp only [Mem.wr]
  split
  ·rename_i hc
   have : i - o < L.length := by omega
   apply hL
   rw [List.getD_eq_getElem?_getD, List.getElem?_eq_getElem this]
   simp
  ·exact h.rg i hi⟩
theorem Bf.by_ {a : Mem} {b : Nat} (h : Bf a b) {n : Nat} (hn : n ≤ 16384) : By a b 0 n (a.val b) :=
 ⟨fun i hi => by rw [Nat.zero_add]; exact h.kd i (by omega), fun i _ => by rw [Nat.zero_add], fun i hi => h.rg i (by omega)⟩
theorem BufG.wr {a m : Mem} {B g c len : Nat} {L : List Int} (h : BufG a m B g c len L) {b : Nat} {k : IntKind} {x : Nat} (hk : a.kd b x = some k) (o : Nat) (M : List Int) : BufG (a.wr b o M) (m.wr b o M) B g c len L := by
 have hb : b ≠ B := kd_ne hk h.fB
 have hg : b ≠ g := kd_ne hk h.fg
 exact
 {h with
  ext := h.ext.wr2 b o M
  fB := h.fB
  fg := h.fg
  vo := by rw [wr_other _ _ _ _ fun e => absurd e.symm hb]; exact h.vo
  vg := h.vg.keep fun e => absurd e.symm hg }
theorem Buf0.wr {a m : Mem} {B : Nat} (h : Buf0 a m B) {b : Nat} {k : IntKind} {x : Nat} (hk : a.kd b x = some k) (o : Nat) (M : List Int) : Buf0 (a.wr b o M) (m.wr b o M) B := by
 have hb : b ≠ B := kd_ne hk h.fB
 exact
 {h with
  ext := h.ext.wr2 b o M
  fB := h.fB
  vo := by rw [wr_other _ _ _ _ fun e => absurd e.symm hb]; exact h.vo }
theorem BufAt.wr {a m : Mem} {B : Nat} {L : List Int} (h : BufAt a m B L) {b : Nat} {k : IntKind} {x : Nat} (hk : a.kd b x = some k) (o : Nat) (M : List Int) : BufAt (a.wr b o M) (m.wr b o M) B L := by
 rcases h with ⟨h1, h2⟩ | ⟨g, c, h2⟩
 ·exact .inl ⟨h1, h2.wr hk o M⟩
 ·exact .inr ⟨g, c, h2.wr hk o M⟩
theorem BufAt.ext {a m : Mem} {B : Nat} {L : List Int} (h : BufAt a m B L) : Ext a m := by
 rcases h with ⟨_, h⟩ | ⟨_, _, h⟩ <;> exact h.ext
theorem BufAt.kB {a m : Mem} {B : Nat} {L : List Int} (h : BufAt a m B L) : m.kd B 1 = some .i64 := by
 rcases h with ⟨_, h⟩ | ⟨_, _, h⟩ <;> exact h.ko
theorem BufAt.fB {a m : Mem} {B : Nat} {L : List Int} (h : BufAt a m B L) : a.fresh B := by
 rcases h with ⟨_, h⟩ | ⟨_, _, h⟩ <;> exact h.fB
theorem BufAt.grow {z a m m' : Mem} {B : Nat} {L : List Int} (h : BufAt a m B L) (e : Ext z a) (e' : Ext m m') : BufAt z m' B L := by
 rcases h with ⟨h1, h⟩ | ⟨g, c, h⟩
 ·exact .inl ⟨h1, (e.trans h.ext).trans e', e.fresh h.fB, e'.ro _ h.ro, e'.kd _ _ _ h.ko, (e'.val _ _ _ h.ko).trans h.vo, e'.kd _ _ _ h.kl, e'.ob _ _ _ h.ob⟩
 ·exact .inr ⟨g, c, (e.trans h.ext).trans e', e.fresh h.fB, e'.ro _ h.ro, e'.kd _ _ _ h.ko, (e'.val _ _ _ h.ko).trans h.vo, e'.kd _ _ _ h.kl, e'.ob _ _ _ h.ob, h.hl, h.hc, h.hm, h.h0, e.fresh h.fg, h.ne, e'.ro _ h.rg, fun i hi => e'.kd _ _ _ (h.kg i hi),
   h.vg.ext e' fun i hi => by rw [Nat.zero_add]; exact h.kg i (by have := h.hc; omega)⟩
theorem Ext.newC2 {a m : Mem} (h : Ext a m) (B : Nat) (cs : List Value) : Ext (a.newC B cs) (m.newC B cs) := by
 refine ⟨fun x y k hk => ?_, fun x y k hk => ?_, fun x y v hv => ?_, fun x hx => ?_⟩
 ·simp only [Mem.newC] at hk ⊢
  split
  ·rename_i e; rw [if_pos e] at hk; exact hk
  ·rename_i e; rw [if_neg e] at hk; exact h.kd _ _ _ hk
 ·simp only [Mem.newC] at hk ⊢
  split
  ·rfl
  ·rename_i e; rw [if_neg e] at hk; exact h.val _ _ _ hk
 ·simp only [Mem.newC] at hv ⊢
  split
  ·rename_i e; rw [if_pos e] at hv; exact hv
  ·rename_i e; rw [if_neg e] at hv; exact h.ob _ _ _ hv
 ·simp only [Mem.newC] at hx ⊢
  split
  ·rfl
  ·rename_i e; rw [if_neg e] at hx; exact h.ro _ hx
theorem Ext.so2 {a m : Mem} (h : Ext a m) (B o : Nat) (v : Value) : Ext (a.so B o v) (m.so B o v) := by
 refine ⟨h.kd, h.val, fun x y u hu => ?_, h.ro⟩
 simp only [Mem.so] at hu ⊢
 split
 ·rename_i e; rw [if_pos e] at hu; exact hu
 ·rename_i e; rw [if_neg e] at hu; exact h.ob _ _ _ hu
theorem fresh_newC {a : Mem} {B x : Nat} (h : a.fresh x) (hne : x ≠ B) (cs : List Value) : (a.newC B cs).fresh x := fun o => by
 simp only [Mem.newC, if_neg hne]; exact h o
theorem fresh_so {a : Mem} {B x : Nat} (h : a.fresh x) (hne : x ≠ B) (o : Nat) (v : Value) : (a.so B o v).fresh x := fun y => by
 simp only [Mem.so]
 rw [if_neg (fun e => hne e.1)]
 exact h y
theorem BufAt.newC {a m : Mem} {B : Nat} {L : List Int} (h : BufAt a m B L) {B1 : Nat} (hB : m.fresh B1) (cs : List Value) : BufAt (a.newC B1 cs) (m.newC B1 cs) B L := by
 rcases h with ⟨h1, h⟩ | ⟨g, c, h⟩
 ·have e1 : B ≠ B1 := kd_ne h.ko hB
  refine .inl ⟨h1, h.ext.newC2 _ _, fresh_newC h.fB e1 _, ?_, ?_, ?_, ?_, ?_⟩ <;> simp only [Mem.newC, if_neg e1]
  ·exact h.ro
  ·exact h.ko
  ·exact h.vo
  ·exact h.kl
  ·exact h.ob
 ·have e1 : B ≠ B1 := kd_ne h.ko hB
  have e2 : g ≠ B1 := kd_ne (h.kg 0 h.h0) hB
  refine .inr ⟨g, c, h.ext.newC2 _ _, fresh_newC h.fB e1 _, ?_, ?_, ?_, ?_, ?_, h.hl, h.hc, h.hm, h.h0, fresh_newC h.fg e2 _, h.ne, ?_, fun i hi => ?_, fun i hi => ?_⟩ <;> simp only [Mem.newC, if_neg e1, if_neg e2]
  ·exact h.ro
  ·exact h.ko
  ·exact h.vo
  ·exact h.kl
  ·exact h.ob
  ·exact h.rg
  ·exact h.kg i hi
  ·exact h.vg i hi
theorem BufAt.so {a m : Mem} {B : Nat} {L : List Int} (h : BufAt a m B L) {B1 o1 : Nat} {u : Value} (hu : a.ob B1 o1 = some u) (o : Nat) (v : Value) : BufAt (a.so B1 o v) (m.so B1 o v) B L := by
 rcases h with ⟨h1, h⟩ | ⟨g, c, h⟩
 ·have e1 : B1 ≠ B := ob_ne hu h.fB
  refine .inl ⟨h1, h.ext.so2 _ _ _, fresh_so h.fB e1.symm _ _, h.ro, h.ko, h.vo, h.kl, ?_⟩
  simp only [Mem.so]
  rw [if_neg (fun e => e1 e.1.symm)]
  exact h.ob
 ·have e1 : B1 ≠ B := ob_ne hu h.fB
  have e2 : B1 ≠ g := ob_ne hu h.fg
  refine .inr ⟨g, c, h.ext.so2 _ _ _, fresh_so h.fB e1.symm _ _, h.ro, h.ko, h.vo, h.kl, ?_, h.hl, h.hc, h.hm, h.h0, fresh_so h.fg e2.symm _ _, h.ne, h.rg, h.kg, h.vg⟩
  simp only [Mem.so]
  rw [if_neg (fun e => e1 e.1.symm)]
  exact h.ob
def Wst (z m : Mem) (b B : Nat) (L M : List Int) : Prop := ∃ a, Ext z a ∧ z.fresh b ∧ Bf a b ∧ At a b 10 M ∧ BufAt a m B L
section
variable {z m : Mem} {b B : Nat} {L M : List Int}
theorem Wst.ext (h : Wst z m b B L M) : Ext z m := by
 obtain ⟨a, h1, _, _, _, h5⟩ := h
 exact h1.trans h5.ext
theorem Wst.grow {m' : Mem} (h : Wst z m b B L M) (e : Ext m m') : Wst z m' b B L M := by
 obtain ⟨a, h1, h2, h3, h4, h5⟩ := h
 exact ⟨a, h1, h2, h3, h4, h5.grow (Ext.refl _) e⟩
theorem Wst.newC (h : Wst z m b B L M) {B1 : Nat} (hB : m.fresh B1) (cs : List Value) : Wst (z.newC B1 cs) (m.newC B1 cs) b B L M := by
 obtain ⟨a, h1, h2, h3, h4, h5⟩ := h
 have e1 : b ≠ B1 := kd_ne (h5.ext.kd _ _ _ (h3.kd 0 (by omega))) hB
 refine ⟨a.newC B1 cs, h1.newC2 _ _, fresh_newC h2 e1 _, ⟨fun i hi => ?_, ?_, fun i hi => ?_⟩, fun i hi => ?_, h5.newC hB cs⟩ <;> simp only [Mem.newC, if_neg e1]
 ·exact h3.kd i hi
 ·exact h3.ro
 ·exact h3.rg i hi
 ·exact h4 i hi
theorem Wst.so (h : Wst z m b B L M) {B1 o1 : Nat} {u : Value} (hu : z.ob B1 o1 = some u) (o : Nat) (v : Value) : Wst (z.so B1 o v) (m.so B1 o v) b B L M := by
 obtain ⟨a, h1, h2, h3, h4, h5⟩ := h
 have e1 : B1 ≠ b := ob_ne hu h2
 exact ⟨a.so B1 o v, h1.so2 _ _ _, fresh_so h2 e1.symm _ _, ⟨h3.kd, h3.ro, h3.rg⟩, h4, h5.so (h1.ob _ _ _ hu) o v⟩
theorem At.pre {a : Mem} {x : Nat} {W : List Int} (h : At a x 0 W) {k : Nat} (hk : W.length ≤ k) : W <+: lst (a.val x) k := by
 refine ⟨(lst (a.val x) k).drop W.length, ?_⟩
 apply List.ext_getElem?
 intro i
 rcases Nat.lt_or_ge i W.length with hlt | hge
 ·rw [List.getElem?_append_left hlt, lst_getElem? (by omega)]
  have := h i hlt
  rw [Nat.zero_add] at this
  rw [this, List.getD_eq_getElem?_getD, List.getElem?_eq_getElem hlt]
  rfl
 ·rw [List.getElem?_append_right hge, List.getElem?_drop]
  congr 1
  omega
theorem lst_add (T : Nat → Int) (j k : Nat) : lst T (j + k) = lst T j ++ lst (fun i => T (j + i)) k := by
 unfold lst
 rw [List.range_add, List.map_append, List.map_map]
 rfl
theorem wint_32 {w0 : World} {x : Nat} {K : Value → Mem → Prop} (h : Wst z m b B L M) (hx : x ≤ 1000000) (hL : L.length ≤ 900000000) (hK : ∀ m' hd, I10 hd x → Wst z m' b B (L ++ hd) [] → K .nilIface m') :
  callV Tryz.prog w0 32 [.iface 48 (.pointer (some ⟨B, 0, none⟩)), .slice (some ⟨b, 0, none⟩) 16384 16384, .int .i64 x] m K := by
 obtain ⟨a, hza, hzb, hbf, _, hba⟩ := h
 have hme := hba.ext
 refine C_F32 ?_
 unfold M_F32
 refine put_48 (fun i hi => by rw [Nat.zero_add]; exact hme.kd _ _ _ (hbf.kd i hi)) (hme.ro _ hbf.ro) hx (by omega) (by omega) fun z3 => ?_
 have hb' := hba.wr (hbf.kd 0 (by omega)) 0 (uv (2 * x))
 have hbf' := hbf.wr 0 (uv_rg (2 * x))
 have hza' := hza.wr hzb 0 (uv (2 * x))
 have hl3 := uv_len3 (x := 2 * x) (by omega)
 have hat := (At.wr a b 0 (uv (2 * x))).pre (k := 10) (by omega)
 generalize a.wr b 0 (uv (2 * x)) = a' at *
 refine ⟨_, rfl, z, hza'.trans hb'.ext, fun m' => Wst z m' b B (L ++ lst (a'.val b) 10) [], fun m2 h2 => h2.ext, by omega, by omega, by omega, (10 : Int), .nilIface, ?_, fun m6 h6 => hK m6 _ ⟨lst_length _ _, hat, lst_rg fun i hi => hbf'.rg i (by omega)⟩ h6⟩
 refine write_148 (n := 10) hb' (hbf'.by_ (by omega)) (by omega) (fun _ => rfl) fun m' hm' => ⟨_, _, rfl, rfl, a', hza', hzb, hbf', fun i hi => by simp at hi, hm'⟩
theorem wslice_34 {w0 : World} {A : Nat → Nat} {ba oa n ca j : Nat} {K : Value → Mem → Prop} (h : Wst z m b B L M) (hk : ∀ i, i < n → z.kd ba (oa + i) = some .i32) (hv : ∀ i, i < n → z.val ba (oa + i) = (A (j + i) : Nat)) (hA : ∀ i, A i < 2097152)
  (h1 : 1 ≤ n) (hn : n ≤ 1000000) (hL0 : L ≠ []) (hL : L.length ≤ 900000000)
  (hK : ∀ k m' hd, 1 ≤ k → k ≤ n → I10 hd (10 + (body A j k).length) → 10 + (body A j k).length ≤ 16384 → Wst z m' b B (L ++ (hd ++ body A j k)) [] → K (.tuple #[.int .i64 k, .nilIface]) m') :
  callV Tryz.prog w0 34 [.iface 48 (.pointer (some ⟨B, 0, none⟩)), .slice (some ⟨b, 0, none⟩) 16384 16384, .agg #[.slice (some ⟨ba, oa, none⟩) n ca, .slice none 0 0]] m K := by
 have key : ∀ B1, m.fresh B1 → ∀ z1, z1 = z.newC B1 [(.slice (some ⟨ba, oa, none⟩) n ca), (.slice none 0 0)] → Ext z z1 ∧ z1.ob B1 0 = some (.slice (some ⟨ba, oa, none⟩) n ca) ∧ z1.ob B1 1 = some (.slice none 0 0) := fun B1 hB1 z1 hz1 => by
  subst hz1
  exact ⟨Ext.newC z (h.ext.fresh hB1) _, by simp [Mem.newC, Value.obj?], by simp [Mem.newC, Value.obj?]⟩
 refine C_F34 (I0 := fun ps ls m1 => ∃ (B1 : Nat) (z1 : Mem) (k : Nat), ps = P0_F34 B 0 b 0 16384 16384 B1 0 n ∧ ls = [.iv .i64 k, .iv .i64 (10 + (body A j k).length : Nat)] ∧ k ≤ n ∧ 10 + (body A j k).length ≤ 16384 ∧ Ext z z1 ∧ z1.ob B1 0 = some (.slice (some ⟨ba, oa, none⟩) n ca) ∧ Wst z1 m1 b B L (body A j k))
  (X0 := fun _ _ ls m1 => ∃ (z1 : Mem) (k : Nat), ls = [.iv .i64 k, .iv .i64 (10 + (body A j k).length : Nat)] ∧ 1 ≤ k ∧ k ≤ n ∧ 10 + (body A j k).length ≤ 16384 ∧ Ext z z1 ∧ Wst z1 m1 b B L (body A j k))
  (mu0 := fun _ ls => match ls with | [.iv _ k, _] => n - k.toNat | _ => 0) ?_ ?_
 ·rintro b_w o_w b_buf o_buf l_buf c_buf bd5 od5 m_ n_ p k0 m1 ⟨B1, z1, k, hps, hls, hkn, hp16, hz1, hob, hw⟩ hmu
  obtain ⟨⟨rfl, rfl⟩, ⟨rfl, rfl, rfl, rfl⟩, ⟨rfl, rfl⟩, rfl⟩ : (b_w = B ∧ o_w = 0) ∧ (b_buf = b ∧ o_buf = 0 ∧ l_buf = 16384 ∧ c_buf = 16384) ∧ (bd5 = B1 ∧ od5 = 0) ∧ m_ = n := by
   unfold P0_F34 at hps
   simpa using hps
  obtain ⟨rfl, rfl⟩ : n_ = k ∧ p = (10 + (body A j k).length : Nat) := by simpa using hls
  have hmu' : n - k < k0 + 1 := by simpa using hmu
  have hxit : (k < n → 16384 < 10 + (body A j k).length + 10) → XF1 L0_F34 (fun _ _ ls m1 => ∃ (z1 : Mem) (k : Nat), ls = [.iv .i64 k, .iv .i64 (10 + (body A j k).length : Nat)] ∧ 1 ≤ k ∧ k ≤ n ∧ 10 + (body A j k).length ≤ 16384 ∧ Ext z z1 ∧ Wst z1 m1 b_buf b_w L (body A j k)) 0
    (P0_F34 b_w 0 b_buf 0 16384 16384 bd5 0 n) [(.int .i64 k), (.int .i64 (10 + (body A j k).length : Nat))] m1 := fun hx => by
   refine XF1_mk ⟨z1, k, rfl, ?_, hkn, hp16, hz1, hw⟩
   rcases Nat.eq_zero_or_pos k with h0 | h0
   ·subst h0
    have := hx (by omega)
    rw [body_zero] at this
    simp at this
   ·exact h0
  unfold R0_F34
  refine cond_of (fun hb => ?_) (fun hb => hxit fun hlt => ?_)
  ·have hlt : k < n := by have := of_decide_eq_true hb; omega
   refine ⟨inR_i64 (by omega) (by omega), cond_of (fun hb => ?_) (fun hb => hxit fun _ => by have := of_decide_eq_false hb; omega)⟩
   have hp : 10 + (body A j k).length + 10 ≤ 16384 := by have := of_decide_eq_true hb; omega
   have hl3 := uv_len3 (hA (j + k))
   have hAk := hA (j + k)
   refine ⟨z1, hw.ext, fun m' => Wst z1 m' b_buf b_w L (body A j (k + 1)), fun m2 h2 => h2.ext, by omega, by omega, by omega, (A (j + k) : Nat), ?_, ((uv (A (j + k))).length : Int), ?_, inR_i64 (by omega) (by omega), fun m23 h23 => ⟨inR_i64 (by omega) (by omega), ?_⟩⟩
   ·have := get_q (A := fun i => (A (j + i) : Nat)) (i := (k : Int)) hob (by omega) (by omega) (by rw [Int.toNat_natCast]; exact hz1.kd _ _ _ (hk k hlt)) (by rw [Int.toNat_natCast]; exact (hz1.val _ _ _ (hk k hlt)).trans (hv k hlt)) (by rw [Int.toNat_natCast]; omega)
    rw [Int.toNat_natCast] at this
    exact this
   ·rw [Int.toNat_natCast, if_neg (by omega), Nat.zero_add, show IntKind.wrap .u64 ((A (j + k) : Nat) : Int) = ((A (j + k) : Nat) : Int) by rw [wrapU64]; omega]
    obtain ⟨a, hza, hzb, hbf, hat, hba⟩ := hw
    have hme := hba.ext
    refine put_49 (fun i hi => hme.kd _ _ _ (hbf.kd _ (by omega))) (hme.ro _ hbf.ro) (by omega) (by omega) ⟨_, rfl, rfl, a.wr b_buf (10 + (body A j k).length) (uv (A (j + k))), hza.wr hzb _ _, hzb, hbf.wr _ (uv_rg _), ?_, hba.wr (hbf.kd 0 (by omega)) _ _⟩
    rw [body_succ]
    exact (hat.keep fun _ => .inl (by omega)).append (At.wr _ _ _ _)
   ·rw [show ((k : Int) + 1) = ((k + 1 : Nat) : Int) by omega, show (((10 + (body A j k).length : Nat) : Int) + ((uv (A (j + k))).length : Int)) = ((10 + (body A j (k + 1)).length : Nat) : Int) by rw [body_succ, List.length_append]; omega]
    refine KF1_mk ⟨⟨_, z1, k + 1, rfl, rfl, by omega, ?_, hz1, hob, h23⟩, ?_⟩
    ·rw [body_succ, List.length_append]; omega
    ·show n - ((k + 1 : Nat) : Int).toNat < k0
     omega
  ·have := of_decide_eq_false hb
   omega
 ·unfold M_F34
  rintro B1 hB1 m2 rfl
  obtain ⟨hz1, ho0, ho1⟩ := key B1 hB1 _ rfl
  have hw := h.newC hB1 [(.slice (some ⟨ba, oa, none⟩) n ca), (.slice none 0 0)]
  refine len_33 (hw.ext.ob _ _ _ ho0) (hw.ext.ob _ _ _ ho1) (by omega) ⟨_, rfl, ⟨B1, _, 0, rfl, by rw [body_zero]; rfl, by omega, by rw [body_zero]; simp, hz1, ho0, ?_⟩, ?_⟩
  ·rw [body_zero]
   obtain ⟨a, g1, g2, g3, _, g5⟩ := hw
   exact ⟨a, g1, g2, g3, fun i hi => by simp at hi, g5⟩
  rintro z6 z7 m8 ⟨z1, k, hls, hk1, hkn, hp16, hz1', hw'⟩ _
  obtain ⟨rfl, rfl⟩ : z6 = k ∧ z7 = (10 + (body A j k).length : Nat) := by simpa using hls
  obtain ⟨a, hza, hzb, hbf, hat, hba⟩ := hw'
  have hme := hba.ext
  refine put_48 (fun i hi => by rw [Nat.zero_add]; exact hme.kd _ _ _ (hbf.kd i hi)) (hme.ro _ hbf.ro) (by omega) (by omega) (by omega) fun z11 => ?_
  have hl3 := uv_len3 (x := 2 * (10 + (body A j k).length)) (by omega)
  have hb' := hba.wr (hbf.kd 0 (by omega)) 0 (uv (2 * (10 + (body A j k).length)))
  have hbf' := hbf.wr 0 (uv_rg (2 * (10 + (body A j k).length)))
  have hza' := hza.wr hzb 0 (uv (2 * (10 + (body A j k).length)))
  have hat1 := (At.wr a b 0 (uv (2 * (10 + (body A j k).length)))).pre (k := 10) (by omega)
  have hat2 := hat.keep (b' := b) (o' := 0) (M := uv (2 * (10 + (body A j k).length))) fun _ => .inr (by omega)
  generalize a.wr b 0 (uv (2 * (10 + (body A j k).length))) = a' at *
  have hsplit : lst (a'.val b) (10 + (body A j k).length) = lst (a'.val b) 10 ++ body A j k := by rw [lst_add, hat2.list_eq]
  refine ⟨_, rfl, z, (hz1'.trans hza').trans hb'.ext, fun m' => Wst z m' b B (L ++ (lst (a'.val b) 10 ++ body A j k)) [], fun m2 h2 => h2.ext, by omega, by omega, by omega, ((10 + (body A j k).length : Nat) : Int), .nilIface, ?_,
   fun m6 h6 => hK k m6 _ hk1 hkn ⟨lst_length _ _, hat1, lst_rg fun i hi => hbf'.rg i (by omega)⟩ hp16 h6⟩
  rw [Int.toNat_natCast]
  refine write_148 (n := 10 + (body A j k).length) hb' (hbf'.by_ (by omega)) (by omega) (fun e => absurd e hL0) fun m' hm' => ⟨_, _, rfl, rfl, a', hz1'.trans hza', hz1'.fresh hzb, hbf', fun i hi => by simp at hi, by rw [← hsplit]; exact hm'⟩
theorem Ext.new2 {a m : Mem} (h : Ext a m) (B : Nat) (k : IntKind) (n : Nat) (f : Nat → Int) : Ext (a.new B k n f) (m.new B k n f) := by
 refine ⟨fun x y k hk => ?_, fun x y k hk => ?_, h.ob, fun x hx => ?_⟩
 ·simp only [Mem.new] at hk ⊢
  split
  ·rename_i e; rw [if_pos e] at hk; exact hk
  ·rename_i e; rw [if_neg e] at hk; exact h.kd _ _ _ hk
 ·simp only [Mem.new] at hk ⊢
  split
  ·rfl
  ·rename_i e; rw [if_neg e] at hk; exact h.val _ _ _ hk
 ·simp only [Mem.new] at hx ⊢
  split
  ·rfl
  ·rename_i e; rw [if_neg e] at hx; exact h.ro _ hx
theorem fresh_new {a : Mem} {B x : Nat} (h : a.fresh x) (hne : x ≠ B) (k : IntKind) (n : Nat) (f : Nat → Int) : (a.new B k n f).fresh x := fun o => by
 simp only [Mem.new, if_neg hne]; exact h o
theorem BufAt.new {a m : Mem} {B : Nat} {L : List Int} (h : BufAt a m B L) {B1 : Nat} (hB : m.fresh B1) (k : IntKind) (n : Nat) (f : Nat → Int) : BufAt (a.new B1 k n f) (m.new B1 k n f) B L := by
 rcases h with ⟨h1, h⟩ | ⟨g, c, h⟩
 ·have e1 : B ≠ B1 := kd_ne h.ko hB
  refine .inl ⟨h1, h.ext.new2 _ _ _ _, fresh_new h.fB e1 _ _ _, ?_, ?_, ?_, ?_, h.ob⟩ <;> simp only [Mem.new, if_neg e1]
  ·exact h.ro
  ·exact h.ko
  ·exact h.vo
  ·exact h.kl
 ·have e1 : B ≠ B1 := kd_ne h.ko hB
  have e2 : g ≠ B1 := kd_ne (h.kg 0 h.h0) hB
  refine .inr ⟨g, c, h.ext.new2 _ _ _ _, fresh_new h.fB e1 _ _ _, ?_, ?_, ?_, ?_, h.ob, h.hl, h.hc, h.hm, h.h0, fresh_new h.fg e2 _ _ _, h.ne, ?_, fun i hi => ?_, fun i hi => ?_⟩ <;> simp only [Mem.new, if_neg e1, if_neg e2]
  ·exact h.ro
  ·exact h.ko
  ·exact h.vo
  ·exact h.kl
  ·exact h.rg
  ·exact h.kg i hi
  ·exact h.vg i hi
theorem Wst.of_new {z m : Mem} {B : Nat} {L : List Int} (h : BufAt z m B L) {b : Nat} (hb : m.fresh b) : Wst z (m.new b .u8 16384 (fun _ => 0)) b B L [] := by
 refine ⟨z.new b .u8 16384 (fun _ => 0), Ext.new z (h.ext.fresh hb) _ _ _, h.ext.fresh hb, ⟨fun i hi => ?_, ?_, fun i _ => ?_⟩, fun i hi => by simp at hi, h.new hb _ _ _⟩ <;> simp only [Mem.new, if_true]
 ·rw [if_pos hi]
 ·omega
variable {bx ox bd od cd ba oa ca n : Nat} {T A : Nat → Int}
def WrS (z : Mem) (b B bv : Nat) (L0 : List Int) (A' : Nat → Nat) (ba n : Nat) (m : Mem) (j : Nat) : Prop :=
 ∃ (z1 : Mem) (o c : Nat) (s : List Int), j ≤ n ∧ Sas0 A' 0 j s ∧ s.length ≤ 13 * j ∧ Ext z z1 ∧ z1.ob bv 0 = some (.slice (some ⟨ba, o, none⟩) (n - j) c) ∧ z1.ob bv 1 = some (.slice none 0 0) ∧ z1.ro bv = false ∧ z.fresh bv ∧ n - j ≤ c ∧
  (∀ i, i < n - j → z1.kd ba (o + i) = some .i32 ∧ z1.val ba (o + i) = (A' (j + i) : Nat)) ∧ Wst z1 m b B (L0 ++ s) []
theorem write_17 {w0 : World} {K : Value → Mem → Prop} (h : BufAt z m B []) (hx : IxOK z bx ox bd od cd ba oa ca n T A)
  (hK : ∀ m' hd s, I10 hd n → Sas (fun i => (A i).toNat) n 0 s → BufAt z m' B (hd ++ lst T n ++ s) → K .nilIface m') :
  callV Tryz.prog w0 17 [.pointer (some ⟨bx, ox, none⟩), .iface 48 (.pointer (some ⟨B, 0, none⟩))] m K := by
 have hn := hx.hn
 have hA : ∀ i, (fun i => if i < n then (A i).toNat else 0) i < 2097152 := fun i => by
  simp only
  split
  ·rename_i hi
   obtain ⟨p, hp, hpn⟩ := hx.place hi
   rw [hp]; omega
  ·omega
 have hAe : ∀ i, i < n → A i = ((fun i => if i < n then (A i).toNat else 0) i : Nat) := fun i hi => by
  obtain ⟨p, hp, hpn⟩ := hx.place hi
  simp only [if_pos hi]
  rw [hp]; omega
 generalize hA' : (fun i => if i < n then (A i).toNat else 0) = A' at hA hAe
 have hSas : ∀ {j s}, Sas A' n j s → Sas (fun i => (A i).toNat) n j s := fun {j s} hs => by
  induction hs with
  | nil => exact .nil
  | cons j k h s h1 h2 h3 h4 _ ih =>
   have e : body A' j k = body (fun i => (A i).toNat) j k := by
    unfold body
    have key : ∀ l : List Nat, (∀ i ∈ l, i < n) → l.flatMap (fun i => uv (A' i)) = l.flatMap (fun i => uv ((A i).toNat)) := fun l hl => by
     induction l with
     | nil => rfl
     | cons x l ih =>
      rw [List.flatMap_cons, List.flatMap_cons, ih (fun i hi => hl i (by simp [hi]))]
      congr 2
      have := hAe x (hl x (by simp))
      omega
    exact key _ fun i hi => by rw [List.mem_range'_1] at hi; omega
   rw [e] at h3 h4 ⊢
   exact .cons j k h s h1 h2 h3 h4 ih
 refine C_F17 (I0 := fun ps ls m1 => ∃ (b bv : Nat) (hd : List Int) (j : Nat), ps = P0_F17 B 0 b 0 16384 16384 bv 0 ∧ I10 hd n ∧ WrS z b B bv (hd ++ lst T n) A' ba n m1 j ∧ ∃ v, ls = [.vv v])
  (X0 := fun i _ _ m1 => i = 0 ∧ ∃ (b bv : Nat) (hd : List Int), I10 hd n ∧ WrS z b B bv (hd ++ lst T n) A' ba n m1 n)
  (mu0 := fun ps _ m1 => match ps with
   | [_, _, .pt bv o] => (match m1.ob bv o with
    | some (.slice _ l _) => l
    | _ => 0)
   | _ => 0) ?_ ?_
 ·rintro b_w o_w b_buf o_buf l_buf c_buf ba' oa' s4 k0 m1 ⟨b, bv, hd, j, hps, hI, ⟨z1, o, c, s, hj, hs0, hslen, hz1, ho0, ho1, hro, hfr, hc, hval, hw⟩, v, hls⟩ hmu
  obtain ⟨⟨rfl, rfl⟩, ⟨rfl, rfl, rfl, rfl⟩, rfl, rfl⟩ : (b_w = B ∧ o_w = 0) ∧ (b_buf = b ∧ o_buf = 0 ∧ l_buf = 16384 ∧ c_buf = 16384) ∧ ba' = bv ∧ oa' = 0 := by
   unfold P0_F17 at hps
   simpa using hps
  have ho0' := hw.ext.ob _ _ _ ho0
  have hmu' : n - j < k0 + 1 := by
   have : (match m1.ob ba' 0 with
    | some (.slice _ l _) => l
    | _ => 0) < k0 + 1 := hmu
   rw [ho0'] at this
   exact this
  have hlen : (hd ++ lst T n ++ s).length ≤ 10 + n + 13 * n := by
   rw [List.length_append, List.length_append, hI.len, lst_length]
   omega
  unfold R0_F17
  refine len_33 ho0' (hw.ext.ob _ _ _ ho1) (by omega) ⟨_, rfl, cond_of (fun hb => ?_) (fun hb => ?_)⟩
  ·have hlt : 0 < n - j := by have := of_decide_eq_true hb; omega
   refine ⟨ba, o, n - j, c, ⟨ho0', hw.ext.ob _ _ _ ho1, trivial⟩, wslice_34 (A := A') (j := j) hw (fun i hi => (hval i hi).1) (fun i hi => (hval i hi).2) hA (by omega) (by omega) (fun e => ?_) (by omega) fun k m2 hd2 hk1 hkn hi10 h16 hw2 => ⟨_, _, rfl, rfl, cond_of (fun hb => by cases hb) (fun _ => ?_)⟩⟩
   ·have := congrArg List.length e
    rw [List.length_append, List.length_append, hI.len] at this
    simp at this
   refine len_33 (hw2.ext.ob _ _ _ ho0) (hw2.ext.ob _ _ _ ho1) (by omega) ⟨_, rfl, ?_⟩
   refine slice_35 (hw2.ext.ob _ _ _ ho0) hkn hc fun m3 e3 => ?_
   have hw3 := hw2.grow e3
   rw [show n - j - k = n - (j + k) by omega]
   refine ⟨_, _, _, _, rfl, rfl, by rw [hw3.ext.ob _ _ _ ho0]; rfl, hw3.ext.ro _ hro, ?_⟩
   rintro m100 rfl
   have hw4 := hw3.so ho0 0 (.slice (some ⟨ba, o + (if k = c then 0 else k), none⟩) (n - (j + k)) (c - k))
   have ho1' : (z1.so ba' 0 (.slice (some ⟨ba, o + (if k = c then 0 else k), none⟩) (n - (j + k)) (c - k))).ob ba' 1 = some (.slice none 0 0) := by
    simp only [Mem.so]; rw [if_neg (by omega)]; exact ho1
   refine ⟨rfl, by rw [hw4.ext.ob _ _ _ ho1']; rfl, hw4.ext.ro _ hro, ?_⟩
   rintro m101 rfl
   have hw5 := hw4.so ho1' (0 + 1) (.slice none 0 0)
   have ho0'' : ((z1.so ba' 0 (.slice (some ⟨ba, o + (if k = c then 0 else k), none⟩) (n - (j + k)) (c - k))).so ba' (0 + 1) (.slice none 0 0)).ob ba' 0 = some (.slice (some ⟨ba, o + (if k = c then 0 else k), none⟩) (n - (j + k)) (c - k)) := by
    simp [Mem.so]
   have hbl := body_len hA j k
   refine KFm1_mk ⟨⟨b_buf, ba', hd, j + k, rfl, hI, ⟨(z1.so ba' 0 (.slice (some ⟨ba, o + (if k = c then 0 else k), none⟩) (n - (j + k)) (c - k))).so ba' (0 + 1) (.slice none 0 0), o + (if k = c then 0 else k), c - k, s ++ (hd2 ++ body A' j k), by omega, .snoc 0 j k hd2 s hk1 hi10 h16 hs0, ?_, (hz1.so hfr _ _).so hfr _ _, ho0'', ?_, hro, hfr, by omega, fun i hi => ?_, ?_⟩, _, rfl⟩, ?_⟩
   ·rw [List.length_append, List.length_append, hi10.len]
    omega
   ·simp [Mem.so]
   ·have hkc : k ≠ c := by omega
    rw [if_neg hkc]
    have := hval (k + i) (by omega)
    rw [← Nat.add_assoc, ← Nat.add_assoc] at this
    exact this
   ·rw [← List.append_assoc]; exact hw5
   ·show (match ((m3.so ba' 0 (.slice (some ⟨ba, o + (if k = c then 0 else k), none⟩) (n - (j + k)) (c - k))).so ba' (0 + 1) (.slice none 0 0)).ob ba' 0 with
     | some (.slice _ l _) => l
     | _ => 0) < k0
    rw [hw5.ext.ob _ _ _ ho0'']
    show n - (j + k) < k0
    omega
  ·have hz : n - j = 0 := by have := of_decide_eq_false hb; omega
   obtain rfl : j = n := by omega
   exact XF1_mk ⟨rfl, b_buf, ba', hd, hI, z1, o, c, s, hj, hs0, hslen, hz1, ho0, ho1, hro, hfr, hc, hval, hw⟩
 ·unfold M_F17
  refine ⟨by omega, by omega, by omega, ?_⟩
  rintro B1 hB1 m2 hm2
  have hw : Wst z m2 B1 B [] [] := by rw [hm2]; exact Wst.of_new h hB1
  clear hm2
  refine ⟨bd, od, n, cd, hw.ext.ob _ _ _ hx.f0, wint_32 hw (by omega) (by simp) fun m3 hd hI hw3 => ⟨rfl, cond_of (fun hb => by cases hb) (fun _ => ?_)⟩⟩
  refine ⟨z, hw3.ext, fun m' => Wst z m' B1 B (hd ++ lst T n) [], fun m2 h2 => h2.ext, bd, od, n, cd, hx.f0, (n : Int), .nilIface, ?_, fun m13 h13 => ⟨rfl, cond_of (fun hb => by cases hb) (fun _ => ?_)⟩⟩
  ·obtain ⟨a, g1, g2, g3, g4, g5⟩ := hw3
   refine write_148 g5 (hx.by_.ext g1) (by rw [List.nil_append, hI.len]; omega) (fun e => ?_) fun m' hm' => ⟨_, _, rfl, rfl, a, g1, g2, g3, g4, hm'⟩
   have := congrArg List.length e
   rw [List.nil_append, hI.len] at this
   cases this
  refine ⟨ba, oa, n, ca, ⟨h13.ext.ob _ _ _ hx.f1, h13.ext.ob _ _ _ hx.f2, trivial⟩, ?_⟩
  rintro B72 hB72 m73 rfl
  have hfr := h13.ext.fresh hB72
  have hw4 := h13.newC hB72 [.slice none 0 0, .slice none 0 0]
  have q0 : (z.newC B72 [.slice none 0 0, .slice none 0 0]).ob B72 0 = some (.slice none 0 0) := by simp [Mem.newC, Value.obj?]
  have q1 : (z.newC B72 [.slice none 0 0, .slice none 0 0]).ob B72 1 = some (.slice none 0 0) := by simp [Mem.newC, Value.obj?]
  have qr : (z.newC B72 [.slice none 0 0, .slice none 0 0]).ro B72 = false := by simp [Mem.newC]
  have qe := Ext.newC z hfr [.slice none 0 0, .slice none 0 0]
  generalize z.newC B72 [.slice none 0 0, .slice none 0 0] = zz at *
  refine ⟨rfl, by rw [hw4.ext.ob _ _ _ q0]; rfl, hw4.ext.ro _ qr, ?_⟩
  rintro m74 rfl
  have hw5 := hw4.so q0 0 (.slice (some ⟨ba, oa, none⟩) n ca)
  have q1' : (zz.so B72 0 (.slice (some ⟨ba, oa, none⟩) n ca)).ob B72 1 = some (.slice none 0 0) := by
   simp only [Mem.so]; rw [if_neg (by omega)]; exact q1
  refine ⟨rfl, by rw [hw5.ext.ob _ _ _ q1']; rfl, hw5.ext.ro _ qr, ?_⟩
  rintro m75 rfl
  have hw6 := hw5.so q1' (0 + 1) (.slice none 0 0)
  refine ⟨⟨B1, B72, hd, 0, rfl, hI, ⟨(zz.so B72 0 (.slice (some ⟨ba, oa, none⟩) n ca)).so B72 (0 + 1) (.slice none 0 0), oa, ca, [], by omega, .nil 0, by simp, (qe.so hfr _ _).so hfr _ _, ?_, ?_, qr, hfr, hx.hca, fun i hi => ?_, ?_⟩, _, rfl⟩, ?_, ?_⟩
  ·simp [Mem.so]
  ·simp [Mem.so]
  ·have hi' : i < n := by omega
   refine ⟨qe.kd _ _ _ (hx.ak i hi'), ?_⟩
   rw [Nat.zero_add i]
   exact ((qe.val _ _ _ (hx.ak i hi')).trans (hx.av i hi')).trans (hAe i hi')
  ·rw [List.append_nil]; exact hw6
  ·rintro z76 m77 ⟨_, b, bv, hd, hI, z1, o, c, s, hj, hs0, hslen, hz1, ho0, ho1, hro, hfr, hc, hval, a, g1, g2, g3, g4, g5⟩ _
   have := hs0.done (n := n) (Nat.le_refl _) .nil
   rw [List.append_nil] at this
   exact hK m77 hd s hI (hSas this) (g5.grow (hz1.trans g1) (Ext.refl _))
  ·rintro z76 m77 ⟨h, _⟩ _
   cases h
end
end Go.Proofs.YtdhifgedhaapjaaGreatDoor

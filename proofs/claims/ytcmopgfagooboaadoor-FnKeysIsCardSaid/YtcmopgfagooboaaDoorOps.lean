/- Frames told by a function, and what single operations on 32-bit words do to them: for a function of a thousand slots. -/
import Derived.Test.YtcmopgfagooboaaDoorProg
import Derived.Test.YtcmopgfagooboaaDoorMd5
import Derived.WalkKit
import Derived.WalkLawsBesides
import Derived.WalkSpells
import Derived.Handy
import Derived.Lib.Hide
import Derived.Deep.QuietTactic
import Derived.BigQuiet
namespace Go.Proofs.YtcmopgfagooboaaDoor
open Go.RowKit
open Md5 (W)

/-- a word of 32 bits as a value -/
abbrev U (x : W) : Value := .int .u32 ((x.toNat : Nat) : Int)

theorem toNat_lt (x : W) : x.toNat < 4294967296 := x.isLt
theorem u_xor (x y : W) : bits .xor .u32 ((x.toNat : Nat) : Int) ((y.toNat : Nat) : Int) = (((x ^^^ y).toNat : Nat) : Int) := by
  rw [u32_xor_nat _ _ (toNat_lt x) (toNat_lt y), BitVec.toNat_xor]
theorem u_and (x y : W) : bits .and .u32 ((x.toNat : Nat) : Int) ((y.toNat : Nat) : Int) = (((x &&& y).toNat : Nat) : Int) := by
  rw [u32_and_nat _ _ (toNat_lt x) (toNat_lt y), BitVec.toNat_and]
theorem u_or (x y : W) : bits .or .u32 ((x.toNat : Nat) : Int) ((y.toNat : Nat) : Int) = (((x ||| y).toNat : Nat) : Int) := by
  rw [u32_or_nat _ _ (toNat_lt x) (toNat_lt y), BitVec.toNat_or]
theorem u_add (x y : W) : IntKind.u32.wrap (((x.toNat : Nat) : Int) + ((y.toNat : Nat) : Int)) = (((x + y).toNat : Nat) : Int) := by
  rw [IntKind.wrap_u32', BitVec.toNat_add]
  omega
theorem u_not (x : W) : bits .xor .u32 IntKind.u32.max ((x.toNat : Nat) : Int) = (((~~~x).toNat : Nat) : Int) := by
  have h := u_xor (BitVec.allOnes 32) x
  rw [BitVec.allOnes_xor] at h
  exact h
theorem u_andNot (x y : W) : bits .andNot .u32 ((x.toNat : Nat) : Int) ((y.toNat : Nat) : Int) = (((x &&& ~~~y).toNat : Nat) : Int) := by
  rw [u32_andNot_nat _ _ (toNat_lt x) (toNat_lt y), BitVec.toNat_and, BitVec.toNat_not]

theorem rot_bits (x : W) (k : Nat) (_h1 : 1 ≤ k) (h2 : k ≤ 31) : bits .or .u32 (((x.toNat : Nat) : Int) * 2 ^ k % 4294967296) (((x.toNat : Nat) : Int) / 2 ^ (32 - k)) = (((x.rotateLeft k).toNat : Nat) : Int) := by
  have e1 : ((x.toNat : Nat) : Int) * 2 ^ k % 4294967296 = ((x.toNat * 2 ^ k % 4294967296 : Nat) : Int) := by simp
  have e2 : ((x.toNat : Nat) : Int) / 2 ^ (32 - k) = ((x.toNat / 2 ^ (32 - k) : Nat) : Int) := by simp
  have l1 : x.toNat * 2 ^ k % 4294967296 < 4294967296 := Nat.mod_lt _ (by decide)
  have l2 : x.toNat / 2 ^ (32 - k) < 4294967296 := Nat.lt_of_le_of_lt (Nat.div_le_self _ _) (toNat_lt x)
  rw [e1, e2, u32_or_nat _ _ l1 l2, BitVec.toNat_rotateLeft, Nat.mod_eq_of_lt (show k < 32 by omega), Nat.shiftLeft_eq, Nat.shiftRight_eq_div_pow]
theorem and31 (k : Nat) (h : k ≤ 31) : bits BinOp.and .u64 (k : Int) 31 = (k : Int) := by
  have e := u64_and_nat k 31 (by omega) (by omega)
  rw [show 31 = 2 ^ 5 - 1 by decide, Nat.and_two_pow_sub_one_eq_mod, Nat.mod_eq_of_lt (by omega)] at e
  exact e
theorem ret_u32 {a b : Int} (h : a = b) : Ending.returned (.int .u32 a) = .returned (.int .u32 b) := by rw [h]
/-- bits.RotateLeft32 -/
theorem rot_any (x : W) (k : Nat) (h1 : 1 ≤ k) (h2 : k ≤ 31) (w : World) :
    Calls Tryd.prog 23 #[U x, .int .i64 k] w fun e w' => e = .returned (U (x.rotateLeft k)) ∧ w = w' := by
  have hb := and31 k h2
  have H := Lib.hid (rot_bits x k h1 h2)
  go_enter Tryd.func23, Tryd.ntmps23
  go_wp2
  go_ret
  exact ⟨ret_u32 H.out, rfl⟩
/-- spec.left -/
theorem left_any (x : W) (k : Nat) (h1 : 1 ≤ k) (h2 : k ≤ 31) (w : World) :
    Calls Tryd.prog 17 #[U x, .int .i64 k] w fun e w' => e = .returned (U (x.rotateLeft k)) ∧ ∃ q, w' = w.drewN q := by
  have H := Lib.hid (rot_bits x k h1 h2)
  go_enter Tryd.func17, Tryd.ntmps17
  go_wp2
  go_quiet (fail)
  go_wp2
  go_ret
  exact ⟨ret_u32 H.out, _, rfl⟩

/-- the number of slots of md5.blockGeneric -/
abbrev N : Nat := 1058
def upd (f : Nat → Value) (d : Nat) (v : Value) : Nat → Value := fun k => if k = d then v else f k
theorem upd_same (f : Nat → Value) (d : Nat) (v : Value) : upd f d v d = v := if_pos rfl
theorem upd_ne (f : Nat → Value) (d : Nat) (v : Value) (k : Nat) (h : k ≠ d) : upd f d v k = f k := if_neg h
/-- a frame whose slots are those of f -/
structure At (a : Act) (f : Nat → Value) : Prop where
  defers : a.defers = []
  size : a.tmps.size = N
  get : ∀ k, k < N → a.tmps.getD k undef = f k
theorem At.put {a : Act} {f : Nat → Value} (h : At a f) (d : Nat) (v : Value) (hd : d < N) : At (a.put (some d) v) (upd f d v) where
  defers := h.defers
  size := by simp only [Act.put, Array.size_setIfInBounds]; exact h.size
  get k hk := by
    have hs := h.size
    simp only [Act.put]
    by_cases e : k = d
    · subst e
      rw [upd_same]
      simp [Array.getD, Array.size_setIfInBounds, hs, hk]
    · rw [upd_ne _ _ _ _ e, ← h.get k hk]
      simp [Array.getD, Array.size_setIfInBounds, hs, hk, Ne.symm e]
/-- a frame whose first thirty slots are those of f -/
structure Live (a : Act) (f : Nat → Value) : Prop where
  defers : a.defers = []
  size : a.tmps.size = N
  get : ∀ k, k < 30 → a.tmps.getD k undef = f k
theorem Live.at_ {a : Act} {f : Nat → Value} (h : Live a f) : ∃ g, At a g ∧ ∀ k, k < 30 → g k = f k :=
  ⟨fun k => a.tmps.getD k undef, ⟨h.defers, h.size, fun _ _ => rfl⟩, h.get⟩
theorem At.live {a : Act} {f g : Nat → Value} (h : At a g) (e : ∀ k, k < 30 → g k = f k) : Live a f :=
  ⟨h.defers, h.size, fun k hk => (h.get k (by unfold N; omega)).trans (e k hk)⟩

section
variable {P : Program} {ops : Array Oper} {Q : Exit → Act → World → Prop} {a : Act} {w w' : World} {rest : List Oper} {f : Nat → Value}
/-- an operation that gives a value -/
theorem op_at {op : Op} {ty : TypeId} {pos : String} {after : Array Edge} {d : Nat} {v : Value} (hA : At a f) (hd : d < N)
    (hrun : (execOp a.eval ⟨some d, op, ty, pos, after, none⟩).run P w = .ok (.value v) w')
    (h : ∀ a', At a' (upd f d v) → wpList P ops Q rest a' w') : wpList P ops Q (⟨some d, op, ty, pos, after, none⟩ :: rest) a w :=
  wpList_plain rfl fun K hK => by
    show Oper.upon P _ a K Q ((execOp a.eval _).run P w)
    rw [hrun]
    exact hK _ _ (h _ (hA.put d v hd))
theorem eval_at (hA : At a f) {i : Nat} (hi : i < N) {v : Value} (hv : f i = v) : a.eval (.tmp i) = v := (hA.get i hi).trans hv
theorem op_move {ty : TypeId} {pos : String} {after : Array Edge} {d i : Nat} {v : Value} (hA : At a f) (hd : d < N) (hi : i < N) (hv : f i = v)
    (h : ∀ a', At a' (upd f d v) → wpList P ops Q rest a' w) : wpList P ops Q (⟨some d, .move (.tmp i), ty, pos, after, none⟩ :: rest) a w :=
  op_at hA hd (by show (pure (Next.value (a.eval (.tmp i))) : Sem Next).run P w = _; rw [eval_at hA hi hv]; rfl) h
theorem op_assign {ty : TypeId} {pos : String} {after : Array Edge} {d i : Nat} {v : Value} (hA : At a f) (hd : d < N) (hi : i < N) (hv : f i = v)
    (h : ∀ a', At a' (upd f d v) → wpList P ops Q rest a' w) : wpList P ops Q (⟨some d, .assign (.tmp i), ty, pos, after, none⟩ :: rest) a w :=
  op_at hA hd (by show (pure (Next.value (a.eval (.tmp i))) : Sem Next).run P w = _; rw [eval_at hA hi hv]; rfl) h
end

theorem run_xor (x y : W) (w : World) (ρ : Operand → Value) (d : Option Nat) (i j : Operand) (ty : TypeId) (pos : String) (after : Array Edge) (hx : ρ i = U x) (hy : ρ j = U y) :
    (execOp ρ ⟨d, .binOp .xor 37 i j 37, ty, pos, after, none⟩).run Tryd.prog w = .ok (.value (U (x ^^^ y))) w := by
  simp [go_sem, execOp, hx, hy, u_xor]
theorem run_and (x y : W) (w : World) (ρ : Operand → Value) (d : Option Nat) (i j : Operand) (ty : TypeId) (pos : String) (after : Array Edge) (hx : ρ i = U x) (hy : ρ j = U y) :
    (execOp ρ ⟨d, .binOp .and 37 i j 37, ty, pos, after, none⟩).run Tryd.prog w = .ok (.value (U (x &&& y))) w := by
  simp [go_sem, execOp, hx, hy, u_and]
theorem run_or (x y : W) (w : World) (ρ : Operand → Value) (d : Option Nat) (i j : Operand) (ty : TypeId) (pos : String) (after : Array Edge) (hx : ρ i = U x) (hy : ρ j = U y) :
    (execOp ρ ⟨d, .binOp .or 37 i j 37, ty, pos, after, none⟩).run Tryd.prog w = .ok (.value (U (x ||| y))) w := by
  simp [go_sem, execOp, hx, hy, u_or]
theorem run_add (x y : W) (w : World) (ρ : Operand → Value) (d : Option Nat) (i j : Operand) (ty : TypeId) (pos : String) (after : Array Edge) (hx : ρ i = U x) (hy : ρ j = U y) :
    (execOp ρ ⟨d, .binOp .add 37 i j 37, ty, pos, after, none⟩).run Tryd.prog w = .ok (.value (U (x + y))) w := by
  simp [go_sem, execOp, hx, hy, u_add]
theorem run_not (x : W) (w : World) (ρ : Operand → Value) (d : Option Nat) (i : Operand) (ty : TypeId) (pos : String) (after : Array Edge) (hx : ρ i = U x) :
    (execOp ρ ⟨d, .unOp .xor 37 i, ty, pos, after, none⟩).run Tryd.prog w = .ok (.value (U (~~~x))) w := by
  simp [go_sem, execOp, hx]
  have h := u_not x
  rw [BitVec.toNat_not] at h
  exact h
end Go.Proofs.YtcmopgfagooboaaDoor

/- Words for the tables and the bytes of the check: a block that holds a table of 32-bit words, cells that hold bytes, and what the Go operators on 32-bit words come to. -/
import Derived.Test.YtpcbdomhhoffkaaRows
import Derived.Test.YtpcbdomhhoffkaaCrc
import Derived.WalkKit
import Derived.Lib.Hide
import Derived.Deep.Draws
namespace Go.Proofs.Ytpcbdomhhoffkaa.Fp
open Go.RowKit

/-- block B holds at least n words, those of f, and none of these is frozen -/
def Tab (w : World) (B n : Nat) (f : Nat → Nat) : Prop := ∀ j, j < n → w.cell? ⟨B, j, none⟩ = some (.int .u32 (f j : Nat)) ∧ w.frozen? ⟨B, j, none⟩ = false
/-- the cells from 'off' on of block b hold these bytes -/
def Bytes (w : World) (b off : Nat) (L : List Nat) : Prop := ∀ j, j < L.length → w.cell? ⟨b, off + j, none⟩ = some (.int .u8 (L.getD j 0 : Nat))

theorem Tab.set {w : World} {B n : Nat} {f : Nat → Nat} (h : Tab w B n f) (k c : Nat) (hk : k < n) : Tab (w.setCell ⟨B, k, none⟩ (.int .u32 (c : Nat))) B n (fun j => if j = k then c else f j) := by
  intro j hj
  refine ⟨?_, by rw [World.frozen?_setCell]; exact (h j hj).2⟩
  by_cases e : j = k
  · subst e
    simp only [if_true]
    exact World.cell?_setCell_same _ _ _ (h j hj).1
  · simp only [if_neg e]
    rw [← (h j hj).1]
    exact World.cell?_setCell_other _ _ _ _ (fun q => e (congrArg Addr.off q).symm)
theorem Tab.congr {w w' : World} {B n : Nat} {f : Nat → Nat} (h : Tab w B n f) (hb : w'.heap[B]? = w.heap[B]?) : Tab w' B n f := fun j hj =>
  ⟨(World.cell?_of_block (w := w) hb).trans (h j hj).1, (World.frozen?_of_block (w := w) hb).trans (h j hj).2⟩
theorem Tab.of {w : World} {B n : Nat} {f g : Nat → Nat} (h : Tab w B n f) (e : ∀ j, j < n → f j = g j) : Tab w B n g := fun j hj => by
  rw [← e j hj]; exact h j hj
theorem Bytes.congr {w w' : World} {b off : Nat} {L : List Nat} (h : Bytes w b off L) (hb : w'.heap[b]? = w.heap[b]?) : Bytes w' b off L := fun j hj =>
  (World.cell?_of_block (w := w) hb).trans (h j hj)
theorem Bytes.drop {w : World} {b off : Nat} {L : List Nat} (h : Bytes w b off L) (k : Nat) : Bytes w b (off + k) (L.drop k) := fun j hj => by
  rw [List.length_drop] at hj
  have := h (k + j) (by omega)
  rw [Nat.add_assoc, this]
  simp [List.getD, List.getElem?_drop]

theorem val_u32 {a b : Int} (h : a = b) : Value.int .u32 a = .int .u32 b := by rw [h]
theorem ret_u32 {a b : Int} (h : a = b) : Ending.returned (.int .u32 a) = .returned (.int .u32 b) := by rw [h]
theorem xor_u32 (a b : Nat) (ha : a < 2 ^ 32) (hb : b < 2 ^ 32) : bits BinOp.xor .u32 (a : Int) (b : Int) = ((a ^^^ b : Nat) : Int) := u32_xor_nat a b (by omega) (by omega)
theorem and1 (x : Nat) (h : x < 2 ^ 32) : bits BinOp.and .u32 (x : Int) 1 = ((x % 2 : Nat) : Int) := by
  have e := u32_and_nat x 1 (by omega) (by omega)
  rw [Nat.and_one_is_mod] at e
  exact e
theorem even_of (x : Nat) (h : x < 2 ^ 32) (e : ¬ x % 2 = 1) : (bits BinOp.and .u32 (x : Int) 1 == 1) = false := by
  rw [and1 x h, show x % 2 = 0 by omega]; rfl
theorem odd_of (x : Nat) (h : x < 2 ^ 32) (e : x % 2 = 1) : (bits BinOp.and .u32 (x : Int) 1 == 1) = true := by
  rw [and1 x h, e]; rfl
theorem turn_odd (x : Nat) (h : x < 2 ^ 32) (e : x % 2 = 1) : bits BinOp.xor .u32 ((x : Int) / 2) 3988292384 = ((Crc.turn x : Nat) : Int) := by
  have e1 : bits BinOp.xor .u32 ((x : Int) / 2) 3988292384 = ((x / 2 ^^^ 3988292384 : Nat) : Int) := u32_xor_nat (x / 2) 3988292384 (by omega) (by omega)
  rw [e1]
  unfold Crc.turn Crc.poly
  rw [if_pos e]
theorem turn_even (x : Nat) (e : ¬ x % 2 = 1) : (x : Int) / 2 = ((Crc.turn x : Nat) : Int) := by
  unfold Crc.turn
  rw [if_neg e]
  rfl
theorem and255 (x : Nat) (h : x < 2 ^ 32) : bits BinOp.and .u32 (x : Int) 255 = ((x % 256 : Nat) : Int) := by
  have e := u32_and_nat x 255 (by omega) (by omega)
  rw [show 255 = 2 ^ 8 - 1 by decide, Nat.and_two_pow_sub_one_eq_mod] at e
  exact e
/-- all bits turned -/
theorem not_nat (x : Nat) (h : x < 2 ^ 32) : 4294967295 ^^^ x = 4294967295 - x := by
  have e := Crc.split_at 0 x
  apply Nat.eq_of_testBit_eq
  intro i
  have h1 := @Nat.testBit_two_pow_sub_succ x 32 h i
  rw [show 2 ^ 32 - (x + 1) = 4294967295 - x by omega] at h1
  rw [h1, Nat.testBit_xor, show (4294967295 : Nat) = 2 ^ 32 - 1 by decide, Nat.testBit_two_pow_sub_one]
  by_cases hi : i < 32
  · simp [hi]
  · have : x.testBit i = false := Nat.testBit_lt_two_pow (Nat.lt_of_lt_of_le h (Nat.pow_le_pow_right (by decide) (by omega)))
    simp [hi, this]
theorem not_u32 (x : Nat) (h : x < 2 ^ 32) : bits BinOp.xor .u32 IntKind.u32.max (x : Int) = ((4294967295 - x : Nat) : Int) := by
  have e : bits BinOp.xor .u32 ((4294967295 : Nat) : Int) (x : Int) = ((4294967295 ^^^ x : Nat) : Int) := u32_xor_nat 4294967295 x (by omega) (by omega)
  rw [not_nat x h] at e
  exact e
theorem le4_or (p0 p1 p2 p3 : Nat) (h0 : p0 < 256) (h1 : p1 < 256) (h2 : p2 < 256) (h3 : p3 < 256) :
    bits BinOp.or .u32 (bits BinOp.or .u32 (bits BinOp.or .u32 (p0 : Int) ((p1 : Int) * 256)) ((p2 : Int) * 65536)) ((p3 : Int) * 16777216) = ((Crc.le4 p0 p1 p2 p3 : Nat) : Int) := by
  have f1 : p0 ||| p1 * 256 = p0 + 256 * p1 := by
    rw [Nat.or_comm, Nat.mul_comm, show 256 = 2 ^ 8 by decide, ← Nat.two_pow_add_eq_or_of_lt (by omega)]; omega
  have f2 : (p0 + 256 * p1) ||| p2 * 65536 = p0 + 256 * p1 + 65536 * p2 := by
    rw [Nat.or_comm, Nat.mul_comm, show 65536 = 2 ^ 16 by decide, ← Nat.two_pow_add_eq_or_of_lt (by omega)]; omega
  have f3 : (p0 + 256 * p1 + 65536 * p2) ||| p3 * 16777216 = p0 + 256 * p1 + 65536 * p2 + 16777216 * p3 := by
    rw [Nat.or_comm, Nat.mul_comm, show 16777216 = 2 ^ 24 by decide, ← Nat.two_pow_add_eq_or_of_lt (by omega)]; omega
  have e1 : bits BinOp.or .u32 (p0 : Int) ((p1 : Int) * 256) = ((p0 + 256 * p1 : Nat) : Int) := by
    rw [← f1]; exact u32_or_nat p0 (p1 * 256) (by omega) (by omega)
  have e2 : bits BinOp.or .u32 ((p0 + 256 * p1 : Nat) : Int) ((p2 : Int) * 65536) = ((p0 + 256 * p1 + 65536 * p2 : Nat) : Int) := by
    rw [← f2]; exact u32_or_nat _ (p2 * 65536) (by omega) (by omega)
  have e3 : bits BinOp.or .u32 ((p0 + 256 * p1 + 65536 * p2 : Nat) : Int) ((p3 : Int) * 16777216) = ((p0 + 256 * p1 + 65536 * p2 + 16777216 * p3 : Nat) : Int) := by
    rw [← f3]; exact u32_or_nat _ (p3 * 16777216) (by omega) (by omega)
  rw [e1, e2, e3]
  rfl
theorem byte_index (x p : Nat) (hp : p < 256) : bits BinOp.xor .u8 ((x : Int) % 256) (p : Int) = ((x % 256 ^^^ p : Nat) : Int) :=
  u8_xor_nat (x % 256) p (by omega) hp
end Go.Proofs.Ytpcbdomhhoffkaa.Fp

/- spec.at: four bytes as a number, the highest first. -/
import Derived.Test.YtcmopgfagooboaaDoorNumber
namespace Go.Proofs.YtcmopgfagooboaaDoor
open Go.RowKit
open Md5 (W H4)

theorem i64_or_nat (a b : Nat) (ha : a < 2 ^ 62) (hb : b < 2 ^ 62) : bits .or .i64 (a : Int) (b : Int) = ((a ||| b : Nat) : Int) := by
  have hx : a ||| b < 2 ^ 62 := Nat.or_lt_two_pow ha hb
  show IntKind.i64.wrap ((BitVec.ofInt 64 (a : Int) ||| BitVec.ofInt 64 (b : Int)).toNat : Int) = _
  rw [BitVec.toNat_or, BitVec.ofInt_natCast, BitVec.ofInt_natCast, BitVec.toNat_ofNat, BitVec.toNat_ofNat, Nat.mod_eq_of_lt (by omega), Nat.mod_eq_of_lt (by omega), IntKind.wrap_i64]
  omega
theorem at_step (A : Nat) (x : UInt8) (hA : A < 2 ^ 40) : bits BinOp.or .i64 (wrap64 ((A : Int) * 256)) (x.toNat : Int) = ((A * 256 + x.toNat : Nat) : Int) := by
  have hx := x.toNat_lt
  have e : wrap64 ((A : Int) * 256) = ((A * 256 : Nat) : Int) := by unfold wrap64; omega
  rw [e, i64_or_nat _ _ (by omega) (by omega), Nat.mul_comm, show 256 = 2 ^ 8 by decide, ← Nat.two_pow_add_eq_or_of_lt (by omega)]
theorem at_all (x0 x1 x2 x3 : UInt8) : bits BinOp.or IntKind.i64 (wrap64 (bits BinOp.or IntKind.i64 (wrap64 (bits BinOp.or IntKind.i64 (wrap64 (bits BinOp.or IntKind.i64 0 ↑x0.toNat * 256)) ↑x1.toNat * 256)) ↑x2.toNat * 256)) ↑x3.toNat =
    (((Md5.le x3 x2 x1 x0).toNat : Nat) : Int) := by
  have y0 := x0.toNat_lt
  have y1 := x1.toNat_lt
  have y2 := x2.toNat_lt
  have y3 := x3.toNat_lt
  have e := i64_or_nat 0 x0.toNat (by decide) (by omega)
  rw [Nat.zero_or] at e
  rw [show (0 : Int) = ((0 : Nat) : Int) from rfl, e, at_step _ _ (by omega), at_step _ _ (by omega), at_step _ _ (by omega)]
  unfold Md5.le
  rw [BitVec.toNat_ofNat, Nat.mod_eq_of_lt (by omega)]
  congr 1
  omega
theorem ret_i64 {a b : Int} (h : a = b) : Ending.returned (.int .i64 a) = .returned (.int .i64 b) := by rw [h]

set_option maxRecDepth 100000 in
theorem at_any (b off cap : Nat) (x0 x1 x2 x3 : UInt8) (w : World) (c0 : w.cell? ⟨b, off, none⟩ = some (B8 x0)) (c1 : w.cell? ⟨b, off + 1, none⟩ = some (B8 x1)) (c2 : w.cell? ⟨b, off + 2, none⟩ = some (B8 x2)) (c3 : w.cell? ⟨b, off + 3, none⟩ = some (B8 x3)) (hcap : 4 ≤ cap) (hcm : cap ≤ 9223372036854775807) :
    Calls Tryd.prog 16 #[.slice (some ⟨b, off, none⟩) 4 cap, .int .i64 0, .int .i64 4] w fun e w' => e = .returned (.int .i64 ((Md5.le x3 x2 x1 x0).toNat : Nat)) ∧ w' = w := by
  have y0 := x0.toNat_lt
  have y1 := x1.toNat_lt
  have y2 := x2.toNat_lt
  have y3 := x3.toNat_lt
  have HE := Lib.hid (ret_i64 (at_all x0 x1 x2 x3))
  generalize Md5.le x3 x2 x1 x0 = r at HE ⊢
  go_enter Tryd.func16, Tryd.ntmps16
  go_wp2
  refine wp_loop_rounds 5 ?_
  rw [rounds_succ]
  go_wp2
  rw [rounds_succ]
  go_wp2
  rw [rounds_succ]
  go_wp2
  rw [rounds_succ]
  go_wp2
  rw [rounds_succ]
  go_wp2
  go_ret
  exact ⟨HE.out, rfl⟩
end Go.Proofs.YtcmopgfagooboaaDoor

/- What impl.TypeOf, spec.TypeOf, impl.TypeValue and spec.TypeValue compute: method and class by remainders, for numbers of 14 bits, methods of 12 bits and classes of two. -/
import Derived.Test.YtpcbdomhhoffkaaRows
import Derived.Test.YtpcbdomhhoffkaaTypeNum
import Derived.WalkKit
import Derived.WalkLawsBesides
import Derived.WalkSpells
import Derived.Handy
import Derived.Lib.Hide
import Derived.RegionTactic
import Derived.Deep.QuietTactic
import Derived.BigQuiet
namespace Go.Proofs.Ytpcbdomhhoffkaa.Types
open Go.RowKit

/-- the method of a type -/
def mth (v : Int) : Int := v % 16 + v / 32 % 8 * 16 + v / 512 % 32 * 128
/-- the class of a type -/
def cls (v : Int) : Int := v / 16 % 2 + v / 256 % 2 * 2
/-- the type of method and class -/
def typ (m c : Int) : Int := m % 16 + c % 2 * 16 + m / 16 % 8 * 32 + c / 2 % 2 * 256 + m / 128 % 32 * 512

theorem wraps_i64 (n : Int) (h₀ : 0 ≤ n) (h₁ : n < 2 ^ 62) : IntKind.i64.wrap n = n := by rw [IntKind.wrap_i64]; omega
theorem i64_and_nat (a b : Nat) (ha : a < 2 ^ 62) (hb : b < 2 ^ 62) : bits .and .i64 (a : Int) (b : Int) = ((a &&& b : Nat) : Int) := (bits_nat .i64 62 (by decide) wraps_i64 a b ha hb).1
theorem i64_or_nat (a b : Nat) (ha : a < 2 ^ 62) (hb : b < 2 ^ 62) : bits .or .i64 (a : Int) (b : Int) = ((a ||| b : Nat) : Int) := (bits_nat .i64 62 (by decide) wraps_i64 a b ha hb).2
theorem div_nat (a b : Nat) : (a : Int) / (b : Int) = ((a / b : Nat) : Int) := (Int.natCast_ediv a b).symm

theorem wrap64_nat (n : Nat) (h : n < 2 ^ 62) : wrap64 (n : Int) = (n : Int) := by unfold wrap64; omega
theorem u16_nat (n : Nat) (h : n < 65536) : IntKind.u16.wrap (n : Int) = (n : Int) := by rw [IntKind.wrap_u16]; omega

/-- a masked number of 14 bits, shifted up -/
theorem i64_part (a m k : Nat) (ha : a < 16384) (hm : m < 16384) (hk : k < 16384) : wrap64 (bits .and .i64 (a : Int) (m : Int) * (k : Int)) = (((a &&& m) * k : Nat) : Int) := by
  have h1 : a &&& m ≤ m := Nat.and_le_right
  have h2 : (a &&& m) * k ≤ 16384 * 16384 := Nat.mul_le_mul (by omega) (by omega)
  rw [i64_and_nat a m (by omega) (by omega), ← Int.natCast_mul, wrap64_nat _ (by omega)]
theorem or_lt (a b : Nat) (ha : a < 2 ^ 40) (hb : b < 2 ^ 40) : a ||| b < 2 ^ 40 := Nat.or_lt_two_pow ha hb
theorem i64_join (a b : Nat) (ha : a < 2 ^ 40) (hb : b < 2 ^ 40) : bits .or .i64 (a : Int) (b : Int) = ((a ||| b : Nat) : Int) := i64_or_nat a b (by omega) (by omega)
theorem part_lt (a m k : Nat) (hm : m < 16384) (hk : k < 16384) : (a &&& m) * k < 2 ^ 40 := by
  have h1 : a &&& m ≤ m := Nat.and_le_right
  have h2 : (a &&& m) * k ≤ 16384 * 16384 := Nat.mul_le_mul (by omega) (by omega)
  omega
theorem low_lt (a m : Nat) (hm : m < 16384) : a &&& m < 2 ^ 40 := by
  have h1 : a &&& m ≤ m := Nat.and_le_right
  omega

theorem specM_is (n : Nat) (h : n < 16384) :
    bits BinOp.or IntKind.i64 (bits BinOp.or IntKind.i64 (bits BinOp.and IntKind.i64 (n : Int) 15) (wrap64 (bits BinOp.and IntKind.i64 ((n : Int) / 32) 7 * 16))) (wrap64 (bits BinOp.and IntKind.i64 ((n : Int) / 512) 31 * 128)) = mth n := by
  have e1 : bits BinOp.and IntKind.i64 (n : Int) 15 = ((n &&& 15 : Nat) : Int) := i64_and_nat n 15 (by omega) (by omega)
  have e2 : wrap64 (bits BinOp.and IntKind.i64 ((n : Int) / 32) 7 * 16) = (((n / 32 &&& 7) * 16 : Nat) : Int) := i64_part (n / 32) 7 16 (by omega) (by omega) (by omega)
  have e3 : wrap64 (bits BinOp.and IntKind.i64 ((n : Int) / 512) 31 * 128) = (((n / 512 &&& 31) * 128 : Nat) : Int) := i64_part (n / 512) 31 128 (by omega) (by omega) (by omega)
  have b1 := low_lt n 15 (by omega)
  have b2 := part_lt (n / 32) 7 16 (by omega) (by omega)
  have b3 := part_lt (n / 512) 31 128 (by omega) (by omega)
  rw [e1, e2, e3, i64_join _ _ b1 b2, i64_join _ _ (or_lt _ _ b1 b2) b3]
  have h := (TypeNum.ofType_at n h).1
  unfold TypeNum.specM TypeNum.mth at h
  rw [h]
  rfl
theorem specC_is (n : Nat) (h : n < 16384) :
    bits BinOp.or IntKind.i64 (bits BinOp.and IntKind.i64 ((n : Int) / 16) 1) (wrap64 (bits BinOp.and IntKind.i64 ((n : Int) / 256) 1 * 2)) = cls n := by
  have e1 : bits BinOp.and IntKind.i64 ((n : Int) / 16) 1 = ((n / 16 &&& 1 : Nat) : Int) := i64_and_nat (n / 16) 1 (by omega) (by omega)
  have e2 : wrap64 (bits BinOp.and IntKind.i64 ((n : Int) / 256) 1 * 2) = (((n / 256 &&& 1) * 2 : Nat) : Int) := i64_part (n / 256) 1 2 (by omega) (by omega) (by omega)
  have b1 := low_lt (n / 16) 1 (by omega)
  have b2 := part_lt (n / 256) 1 2 (by omega) (by omega)
  rw [e1, e2, i64_join _ _ b1 b2]
  have h := (TypeNum.ofType_at n h).2.1
  unfold TypeNum.specC TypeNum.cls at h
  rw [h]
  rfl
theorem u16_low (a m : Nat) (ha : a < 65536) (hm : m < 65536) : bits BinOp.and IntKind.u16 (a : Int) (m : Int) = ((a &&& m : Nat) : Int) := u16_and_nat a m ha hm
theorem u16_add (a b : Nat) (h : a + b < 65536) : IntKind.u16.wrap ((a : Int) + (b : Int)) = ((a + b : Nat) : Int) := by
  rw [← Int.natCast_add]; exact u16_nat _ h
theorem u16_mul (a b : Nat) (h : a * b < 65536) : IntKind.u16.wrap ((a : Int) * (b : Int)) = ((a * b : Nat) : Int) := by
  rw [← Int.natCast_mul]; exact u16_nat _ h
theorem implM_is (n : Nat) (h : n < 16384) :
    wrap64 (IntKind.u16.wrap (IntKind.u16.wrap (bits BinOp.and IntKind.u16 (n : Int) 15 + bits BinOp.and IntKind.u16 ((n : Int) / 2) 112) + bits BinOp.and IntKind.u16 ((n : Int) / 4) 3968)) = mth n := by
  have e1 : bits BinOp.and IntKind.u16 (n : Int) 15 = ((n &&& 15 : Nat) : Int) := u16_low n 15 (by omega) (by omega)
  have e2 : bits BinOp.and IntKind.u16 ((n : Int) / 2) 112 = ((n / 2 &&& 112 : Nat) : Int) := u16_low (n / 2) 112 (by omega) (by omega)
  have e3 : bits BinOp.and IntKind.u16 ((n : Int) / 4) 3968 = ((n / 4 &&& 3968 : Nat) : Int) := u16_low (n / 4) 3968 (by omega) (by omega)
  have b1 : n &&& 15 ≤ 15 := Nat.and_le_right
  have b2 : n / 2 &&& 112 ≤ 112 := Nat.and_le_right
  have b3 : n / 4 &&& 3968 ≤ 3968 := Nat.and_le_right
  rw [e1, e2, e3, u16_add _ _ (by omega), u16_add _ _ (by omega), wrap64_nat _ (by omega)]
  have h := (TypeNum.ofType_at n h).2.2.1
  unfold TypeNum.implM TypeNum.mth at h
  rw [h]
  rfl
theorem implC_is (n : Nat) (h : n < 16384) :
    IntKind.u16.wrap (bits BinOp.and IntKind.u16 ((n : Int) / 16) 1 + bits BinOp.and IntKind.u16 ((n : Int) / 128) 2) % 256 = cls n := by
  have e1 : bits BinOp.and IntKind.u16 ((n : Int) / 16) 1 = ((n / 16 &&& 1 : Nat) : Int) := u16_low (n / 16) 1 (by omega) (by omega)
  have e2 : bits BinOp.and IntKind.u16 ((n : Int) / 128) 2 = ((n / 128 &&& 2 : Nat) : Int) := u16_low (n / 128) 2 (by omega) (by omega)
  have b1 : n / 16 &&& 1 ≤ 1 := Nat.and_le_right
  have b2 : n / 128 &&& 2 ≤ 2 := Nat.and_le_right
  rw [e1, e2, u16_add _ _ (by omega)]
  have h := (TypeNum.ofType_at n h).2.2.2
  unfold TypeNum.implC at h
  rw [h]
  have hc : cls (n : Int) = ((TypeNum.cls n : Nat) : Int) := rfl
  have hl : TypeNum.cls n < 4 := by unfold TypeNum.cls; omega
  omega
theorem specT_is (m c : Nat) (h : m < 4096) (g : c < 4) :
    bits BinOp.or IntKind.i64 (bits BinOp.or IntKind.i64 (bits BinOp.or IntKind.i64 (bits BinOp.or IntKind.i64 (bits BinOp.and IntKind.i64 (m : Int) 15) (wrap64 (bits BinOp.and IntKind.i64 (c : Int) 1 * 16))) (wrap64 (bits BinOp.and IntKind.i64 ((m : Int) / 16) 7 * 32))) (wrap64 (bits BinOp.and IntKind.i64 ((c : Int) / 2) 1 * 256))) (wrap64 (bits BinOp.and IntKind.i64 ((m : Int) / 128) 31 * 512)) = typ m c := by
  have e1 : bits BinOp.and IntKind.i64 (m : Int) 15 = ((m &&& 15 : Nat) : Int) := i64_and_nat m 15 (by omega) (by omega)
  have e2 : wrap64 (bits BinOp.and IntKind.i64 (c : Int) 1 * 16) = (((c &&& 1) * 16 : Nat) : Int) := i64_part c 1 16 (by omega) (by omega) (by omega)
  have e3 : wrap64 (bits BinOp.and IntKind.i64 ((m : Int) / 16) 7 * 32) = (((m / 16 &&& 7) * 32 : Nat) : Int) := i64_part (m / 16) 7 32 (by omega) (by omega) (by omega)
  have e4 : wrap64 (bits BinOp.and IntKind.i64 ((c : Int) / 2) 1 * 256) = (((c / 2 &&& 1) * 256 : Nat) : Int) := i64_part (c / 2) 1 256 (by omega) (by omega) (by omega)
  have e5 : wrap64 (bits BinOp.and IntKind.i64 ((m : Int) / 128) 31 * 512) = (((m / 128 &&& 31) * 512 : Nat) : Int) := i64_part (m / 128) 31 512 (by omega) (by omega) (by omega)
  have b1 := low_lt m 15 (by omega)
  have b2 := part_lt c 1 16 (by omega) (by omega)
  have b3 := part_lt (m / 16) 7 32 (by omega) (by omega)
  have b4 := part_lt (c / 2) 1 256 (by omega) (by omega)
  have b5 := part_lt (m / 128) 31 512 (by omega) (by omega)
  rw [e1, e2, e3, e4, e5, i64_join _ _ b1 b2, i64_join _ _ (or_lt _ _ b1 b2) b3, i64_join _ _ (or_lt _ _ (or_lt _ _ b1 b2) b3) b4, i64_join _ _ (or_lt _ _ (or_lt _ _ (or_lt _ _ b1 b2) b3) b4) b5]
  have h := (TypeNum.toType_at m c h g).1
  unfold TypeNum.specT TypeNum.typ at h
  rw [h]
  rfl
theorem implT_is (m c : Nat) (h : m < 4096) (g : c < 4) :
    wrap64 (IntKind.u16.wrap (IntKind.u16.wrap (IntKind.u16.wrap (bits BinOp.and IntKind.u16 (m : Int) 15 + IntKind.u16.wrap (bits BinOp.and IntKind.u16 (m : Int) 112 * 2)) + IntKind.u16.wrap (bits BinOp.and IntKind.u16 (m : Int) 3968 * 4)) + IntKind.u16.wrap (IntKind.u16.wrap (bits BinOp.and IntKind.u16 (c : Int) 1 * 16) + IntKind.u16.wrap (bits BinOp.and IntKind.u16 (c : Int) 2 * 128)))) = typ m c := by
  have e1 : bits BinOp.and IntKind.u16 (m : Int) 15 = ((m &&& 15 : Nat) : Int) := u16_low m 15 (by omega) (by omega)
  have e2 : bits BinOp.and IntKind.u16 (m : Int) 112 = ((m &&& 112 : Nat) : Int) := u16_low m 112 (by omega) (by omega)
  have e3 : bits BinOp.and IntKind.u16 (m : Int) 3968 = ((m &&& 3968 : Nat) : Int) := u16_low m 3968 (by omega) (by omega)
  have e4 : bits BinOp.and IntKind.u16 (c : Int) 1 = ((c &&& 1 : Nat) : Int) := u16_low c 1 (by omega) (by omega)
  have e5 : bits BinOp.and IntKind.u16 (c : Int) 2 = ((c &&& 2 : Nat) : Int) := u16_low c 2 (by omega) (by omega)
  have b1 : m &&& 15 ≤ 15 := Nat.and_le_right
  have b2 : m &&& 112 ≤ 112 := Nat.and_le_right
  have b3 : m &&& 3968 ≤ 3968 := Nat.and_le_right
  have b4 : c &&& 1 ≤ 1 := Nat.and_le_right
  have b5 : c &&& 2 ≤ 2 := Nat.and_le_right
  have f2 : IntKind.u16.wrap (((m &&& 112 : Nat) : Int) * 2) = (((m &&& 112) * 2 : Nat) : Int) := u16_mul _ 2 (by omega)
  have f3 : IntKind.u16.wrap (((m &&& 3968 : Nat) : Int) * 4) = (((m &&& 3968) * 4 : Nat) : Int) := u16_mul _ 4 (by omega)
  have f4 : IntKind.u16.wrap (((c &&& 1 : Nat) : Int) * 16) = (((c &&& 1) * 16 : Nat) : Int) := u16_mul _ 16 (by omega)
  have f5 : IntKind.u16.wrap (((c &&& 2 : Nat) : Int) * 128) = (((c &&& 2) * 128 : Nat) : Int) := u16_mul _ 128 (by omega)
  rw [e1, e2, e3, e4, e5, f2, f3, f4, f5, u16_add _ _ (by omega), u16_add _ _ (by omega), u16_add _ _ (by omega), u16_add _ _ (by omega), wrap64_nat _ (by omega)]
  have h := (TypeNum.toType_at m c h g).2
  unfold TypeNum.implT TypeNum.typ at h
  rw [h]
  rfl

theorem ret_int {k : IntKind} {a b : Int} (h : a = b) : Ending.returned (.int k a) = .returned (.int k b) := by rw [h]
theorem ret_ints {k l : IntKind} {a b c d : Int} (h : a = b) (g : c = d) : Ending.returned (.tuple #[.int k a, .int l c]) = .returned (.tuple #[.int k b, .int l d]) := by rw [h, g]

theorem typeOf_spec (v : Int) (h0 : 0 ≤ v) (h1 : v ≤ 16383) (w : World) :
    Calls Try.prog 8 #[.int .i64 v] w fun e w' => e = .returned (.tuple #[.int .i64 (mth v), .int .i64 (cls v)]) ∧ w = w' := by
  obtain ⟨n, rfl⟩ := Int.eq_ofNat_of_zero_le h0
  have HM := Lib.hid (specM_is n (by omega))
  have HC := Lib.hid (specC_is n (by omega))
  go_enter Try.func8, Try.ntmps8
  go_wp2
  go_ret2
  exact ⟨ret_ints HM.out HC.out, rfl⟩
theorem typeOf_impl (v : Int) (h0 : 0 ≤ v) (h1 : v ≤ 16383) (w : World) :
    Calls Try.prog 7 #[.int .i64 v] w fun e w' => e = .returned (.tuple #[.int .i64 (mth v), .int .i64 (cls v)]) ∧ Grown w w' := by
  obtain ⟨n, rfl⟩ := Int.eq_ofNat_of_zero_le h0
  have HM := Lib.hid (implM_is n (by omega))
  have HC := Lib.hid (implC_is n (by omega))
  go_enter Try.func7, Try.ntmps7
  go_wp2
  go_quiet (fail)
  go_wp2
  go_ret2
  exact ⟨ret_ints HM.out HC.out, (Grown.refl w).alloc _ _⟩
theorem typeValue_spec (m c : Int) (h0 : 0 ≤ m) (h1 : m ≤ 4095) (h2 : 0 ≤ c) (h3 : c ≤ 3) (w : World) :
    Calls Try.prog 10 #[.int .i64 m, .int .i64 c] w fun e w' => e = .returned (.int .i64 (typ m c)) ∧ w = w' := by
  obtain ⟨n, rfl⟩ := Int.eq_ofNat_of_zero_le h0
  obtain ⟨k, rfl⟩ := Int.eq_ofNat_of_zero_le h2
  have H := Lib.hid (specT_is n k (by omega) (by omega))
  go_enter Try.func10, Try.ntmps10
  go_wp2
  go_ret
  exact ⟨ret_int H.out, rfl⟩
theorem typeValue_impl (m c : Int) (h0 : 0 ≤ m) (h1 : m ≤ 4095) (h2 : 0 ≤ c) (h3 : c ≤ 3) (w : World) :
    Calls Try.prog 9 #[.int .i64 m, .int .i64 c] w fun e w' => e = .returned (.int .i64 (typ m c)) ∧ Grown w w' := by
  obtain ⟨n, rfl⟩ := Int.eq_ofNat_of_zero_le h0
  obtain ⟨k, rfl⟩ := Int.eq_ofNat_of_zero_le h2
  have H := Lib.hid (implT_is n k (by omega) (by omega))
  go_enter Try.func9, Try.ntmps9
  go_wp2
  go_ret
  exact ⟨ret_int H.out, by go_grown⟩
end Go.Proofs.Ytpcbdomhhoffkaa.Types

/- md5.digest.Write at a digest that holds whole blocks, and at one that pads to whole blocks. -/
import Derived.Test.YtcmopgfagooboaaDoorDigest
import Derived.Deep.QuietTactic
import Derived.StillTailTactics
import Derived.OwnWalk
namespace Go.Proofs.YtcmopgfagooboaaDoor
open Go.RowKit
open Md5 (W H4)
theorem ret_nil {a b : Int} (h : a = b) : Ending.returned (.tuple #[.int .i64 a, .nilIface]) = .returned (.tuple #[.int .i64 b, .nilIface]) := by rw [h]
theorem wraps_i64 (n : Int) (h₀ : 0 ≤ n) (h₁ : n < 2 ^ 62) : IntKind.i64.wrap n = n := by rw [IntKind.wrap_i64]; omega
theorem andNot63 (n e : Nat) (h : n ≤ 1000000) (he : e = n / 64 * 64) : bits BinOp.andNot .i64 (n : Int) 63 = (e : Int) := by
  subst he
  have hw : IntKind.i64.wrap ((n / 64 * 64 : Nat) : Int) = ((n / 64 * 64 : Nat) : Int) := wraps_i64 _ (by omega) (by omega)
  have hm : (BitVec.ofInt 64 (n : Int) &&& ~~~BitVec.ofInt 64 63).toNat = n / 64 * 64 := by
    rw [BitVec.toNat_and, BitVec.ofInt_natCast, BitVec.toNat_ofNat, Nat.mod_eq_of_lt (by omega), show (~~~BitVec.ofInt 64 63).toNat = 2 ^ 6 * (2 ^ 58 - 1) by decide]
    apply Nat.eq_of_testBit_eq
    intro i
    rw [Nat.testBit_and, Nat.testBit_two_pow_mul, Nat.testBit_two_pow_sub_one, show n / 64 * 64 = 2 ^ 6 * (n / 2 ^ 6) by omega, Nat.testBit_two_pow_mul, Nat.testBit_div_two_pow]
    by_cases h1 : 6 ≤ i
    · by_cases h2 : i - 6 < 58
      · simp [h1, h2, Nat.sub_add_cancel h1]
      · have : n.testBit i = false := Nat.testBit_lt_two_pow (Nat.lt_of_lt_of_le (show n < 2 ^ 20 by omega) (Nat.pow_le_pow_right (by decide) (by omega)))
        simp [this, Nat.sub_add_cancel h1]
    · simp [h1]
  show IntKind.i64.wrap (((BitVec.ofInt 64 (n : Int) &&& ~~~BitVec.ofInt 64 63).toNat : Nat) : Int) = _
  rw [hm, hw]
set_option maxRecDepth 100000 in
set_option maxHeartbeats 1000000 in
theorem writeA_long (D b o n cap m : Nat) (h : H4) (Xs L : List UInt8) (len : Nat) (w : World) (r : Raw w D h Xs 0 len) (hl : L.length = n) (hcap : n ≤ cap) (hcm : cap ≤ 9223372036854775807) (hn : n ≤ 1000000) (hlen : len ≤ 1000000)
    (e : Nat) (hm : e = 64 * m) (he : e = n / 64 * 64) (he0 : 0 < e) (het : e < n) (hb : Bytes w b o L) (hbD : b ≠ D) :
    Calls Tryd.prog 12 #[.pointer (some ⟨D, 0, none⟩), .slice (some ⟨b, o, none⟩) n cap] w fun e' w' => e' = .returned (.tuple #[.int .i64 n, .nilIface]) ∧
      Raw w' D (Md5.blocks m h L) (L.drop e ++ Xs.drop (n - e)) (n - e) (len + n) ∧ Only D w w' := by
  have g68 := r.cnx
  have g69 := r.clen
  have z68 := r.free 68
  have z69 := r.free 69
  have hand := andNot63 n e hn he
  have h64 : 64 ≤ n := by omega
  have h63 : n - e < 64 := by omega
  have hr1 : Raw (w.setCell ⟨D, 69, none⟩ (.int .u64 ((len : Int) + (n : Int)))) D h Xs 0 (len + n) := by
    have := r.setLen (len + n)
    rwa [Int.natCast_add] at this
  have ho1 : Only D w (w.setCell ⟨D, 69, none⟩ (.int .u64 ((len : Int) + (n : Int)))) := (Only.refl D w).setCell _
  have hb1 : Bytes (w.setCell ⟨D, 69, none⟩ (.int .u64 ((len : Int) + (n : Int)))) b o L := hb.congr (ho1.block b hbD)
  have HK := Lib.hid (block_any D b o e cap m h (L.take e) _ hm (by rw [List.length_take]; omega) (by omega) hcm (hb1.take e) hr1.c0 hr1.c1 hr1.c2 hr1.c3 (hr1.free 0) (hr1.free 1) (hr1.free 2) (hr1.free 3))
  have HR := Lib.hid hr1
  have HO := Lib.hid ho1
  have HB := Lib.hid hb1
  have HM := Lib.hid hm
  have HL := Lib.hid hl
  clear hr1 ho1 hb1 hm r hb hl he
  go_enter Tryd.func12, Tryd.ntmps12
  go_wp2_with fail
  refine HK.out.mono ?_
  rintro e' w2 ⟨rfl, hBl⟩
  obtain ⟨r2, o2⟩ := HR.out.blocked hBl
  have hb2 := Lib.hid ((HB.out.congr (o2.block b hbD)).drop e)
  have HO2 := Lib.hid (HO.out.trans o2)
  obtain ⟨T, hT⟩ : ∃ T, L.drop e = T := ⟨_, rfl⟩
  have HT := Lib.hid hT
  have HTl : Hid (T.length = n - e) := by show T.length = n - e; rw [← hT, List.length_drop, HL.out]
  rw [hT] at hb2
  clear hT hBl o2 HK HR HO HB g68 g69 z68 z69
  have R2 := Lib.hid r2
  clear r2
  go_wp2_with (with_reducible refine wpList_copy_raw rfl _ _ rfl R2.out 0 4 _ _ rfl rfl b _ _ _ rfl T hb2.out ?c1 ?c2 ?_)
  case c1 => rw [HTl.out]; exact (Nat.min_eq_left (by omega)).symm
  case c2 => rw [HTl.out]; omega
  intro w3 r3 o3
  rw [HTl.out]
  rw [HTl.out] at r3
  have g68 := r3.cnx
  have z68 := r3.free 68
  have R3 := Lib.hid r3
  have HO3 := Lib.hid (HO2.out.trans o3)
  clear r3 o3
  go_wp2_with fail
  go_ret2
  refine ⟨rfl, ?_, HO3.out.setCell _⟩
  have hf := R3.out.setNx (n - e)
  have hbk := Md5.blocks_append m h (L.take e) (L.drop e) (by have := HM.out; rw [List.length_take, HL.out]; omega)
  rw [List.take_append_drop] at hbk
  rw [← hbk] at hf
  rw [HT.out]
  exact hf
set_option maxRecDepth 100000 in
set_option maxHeartbeats 1000000 in
theorem writeA_short (D b o n cap : Nat) (h : H4) (Xs L : List UInt8) (len : Nat) (w : World) (r : Raw w D h Xs 0 len) (hl : L.length = n) (hn : n < 64) (hlen : len ≤ 1000000)
    (hn0 : 0 < n) (hb : Bytes w b o L) (hbD : b ≠ D) :
    Calls Tryd.prog 12 #[.pointer (some ⟨D, 0, none⟩), .slice (some ⟨b, o, none⟩) n cap] w fun e' w' => e' = .returned (.tuple #[.int .i64 n, .nilIface]) ∧
      Raw w' D h (L ++ Xs.drop n) n (len + n) ∧ Only D w w' := by
  have g68 := r.cnx
  have g69 := r.clen
  have z68 := r.free 68
  have z69 := r.free 69
  have hr1 : Raw (w.setCell ⟨D, 69, none⟩ (.int .u64 ((len : Int) + (n : Int)))) D h Xs 0 (len + n) := by
    have := r.setLen (len + n)
    rwa [Int.natCast_add] at this
  have ho1 : Only D w (w.setCell ⟨D, 69, none⟩ (.int .u64 ((len : Int) + (n : Int)))) := (Only.refl D w).setCell _
  have hb1 : Bytes (w.setCell ⟨D, 69, none⟩ (.int .u64 ((len : Int) + (n : Int)))) b o L := hb.congr (ho1.block b hbD)
  have R2 := Lib.hid hr1
  have HO2 := Lib.hid ho1
  have HB := Lib.hid hb1
  have HTl := Lib.hid hl
  clear hr1 ho1 hb1 r hb hl
  go_enter Tryd.func12, Tryd.ntmps12
  go_wp2_with (with_reducible refine wpList_copy_raw rfl _ _ rfl R2.out 0 4 _ _ rfl rfl b _ _ _ rfl L HB.out ?c1 ?c2 ?_)
  case c1 => rw [HTl.out]; exact (Nat.min_eq_left (by omega)).symm
  case c2 => rw [HTl.out]; omega
  intro w3 r3 o3
  rw [HTl.out]
  rw [HTl.out] at r3
  have g68 := r3.cnx
  have z68 := r3.free 68
  have R3 := Lib.hid r3
  have HO3 := Lib.hid (HO2.out.trans o3)
  clear r3 o3
  go_wp2_with fail
  go_ret2
  exact ⟨rfl, R3.out.setNx n, HO3.out.setCell _⟩
set_option maxRecDepth 100000 in
set_option maxHeartbeats 1000000 in
theorem writeA_none (D cap : Nat) (a : Option Addr) (h : H4) (Xs : List UInt8) (len : Nat) (w : World) (r : Raw w D h Xs 0 len) (hlen : len ≤ 1000000) :
    Calls Tryd.prog 12 #[.pointer (some ⟨D, 0, none⟩), .slice a 0 cap] w fun e' w' => e' = .returned (.tuple #[.int .i64 0, .nilIface]) ∧
      Raw w' D h Xs 0 len ∧ Only D w w' := by
  have g68 := r.cnx
  have g69 := r.clen
  have z68 := r.free 68
  have z69 := r.free 69
  have R2 := Lib.hid (r.setLen len)
  have HO2 := Lib.hid ((Only.refl D w).setCell (i := 69) (.int .u64 (len : Nat)))
  clear r
  go_enter Tryd.func12, Tryd.ntmps12
  go_wp2
  go_ret2
  exact ⟨rfl, R2.out, HO2.out⟩
set_option maxRecDepth 100000 in
set_option maxHeartbeats 1000000 in
theorem writeA_whole (D b o n cap m : Nat) (h : H4) (Xs L : List UInt8) (len : Nat) (w : World) (r : Raw w D h Xs 0 len) (hl : L.length = n) (hcap : n ≤ cap) (hcm : cap ≤ 9223372036854775807) (hn : n ≤ 1000000) (hlen : len ≤ 1000000)
    (hm : n = 64 * m) (h64 : 64 ≤ n) (hb : Bytes w b o L) (hbD : b ≠ D) :
    Calls Tryd.prog 12 #[.pointer (some ⟨D, 0, none⟩), .slice (some ⟨b, o, none⟩) n cap] w fun e' w' => e' = .returned (.tuple #[.int .i64 n, .nilIface]) ∧
      Raw w' D (Md5.blocks m h L) Xs 0 (len + n) ∧ Only D w w' := by
  have g68 := r.cnx
  have g69 := r.clen
  have z68 := r.free 68
  have z69 := r.free 69
  have hand := andNot63 n n hn (by omega)
  have hr1 : Raw (w.setCell ⟨D, 69, none⟩ (.int .u64 ((len : Int) + (n : Int)))) D h Xs 0 (len + n) := by
    have := r.setLen (len + n)
    rwa [Int.natCast_add] at this
  have ho1 : Only D w (w.setCell ⟨D, 69, none⟩ (.int .u64 ((len : Int) + (n : Int)))) := (Only.refl D w).setCell _
  have hb1 : Bytes (w.setCell ⟨D, 69, none⟩ (.int .u64 ((len : Int) + (n : Int)))) b o L := hb.congr (ho1.block b hbD)
  have HK := Lib.hid (block_any D b o n cap m h L _ hm hl hcap hcm hb1 hr1.c0 hr1.c1 hr1.c2 hr1.c3 (hr1.free 0) (hr1.free 1) (hr1.free 2) (hr1.free 3))
  have HR := Lib.hid hr1
  have HO := Lib.hid ho1
  clear hr1 ho1 hb1 hm r hb hl
  by_cases hcn : cap = n
  · subst hcn
    go_enter Tryd.func12, Tryd.ntmps12
    go_wp2_with fail
    refine HK.out.mono ?_
    rintro e' w2 ⟨rfl, hBl⟩
    obtain ⟨r2, o2⟩ := HR.out.blocked hBl
    have R2 := Lib.hid r2
    have HO2 := Lib.hid (HO.out.trans o2)
    clear hBl o2 r2 HK HR HO g68 g69 z68 z69
    go_wp2_with fail
    go_ret2
    exact ⟨rfl, R2.out, HO2.out⟩
  · have hlt : n < cap := by omega
    clear hcn
    go_enter Tryd.func12, Tryd.ntmps12
    go_wp2_with fail
    refine HK.out.mono ?_
    rintro e' w2 ⟨rfl, hBl⟩
    obtain ⟨r2, o2⟩ := HR.out.blocked hBl
    have R2 := Lib.hid r2
    have HO2 := Lib.hid (HO.out.trans o2)
    clear hBl o2 r2 HK HR HO g68 g69 z68 z69
    go_wp2_with fail
    go_ret2
    exact ⟨rfl, R2.out, HO2.out⟩
end Go.Proofs.YtcmopgfagooboaaDoor

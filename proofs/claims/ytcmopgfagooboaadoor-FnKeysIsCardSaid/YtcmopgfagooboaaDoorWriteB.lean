/- md5.digest.Write at a digest that holds some bytes, where what is written fills one block or two. -/
import Derived.Test.YtcmopgfagooboaaDoorWrite
namespace Go.Proofs.YtcmopgfagooboaaDoor
open Go.RowKit
open Md5 (W H4)

set_option maxRecDepth 100000 in
set_option maxHeartbeats 1000000 in
theorem writeB_one (D b o n cap k : Nat) (h : H4) (Xs L : List UInt8) (len : Nat) (w : World) (r : Raw w D h Xs k len) (hl : L.length = n) (hcap : n ≤ cap) (_hcm : cap ≤ 1000000) (hlen : len ≤ 1000000)
    (hk : 0 < k) (hk64 : k < 64) (hnk : n + k = 64) (hb : Bytes w b o L) (hbD : b ≠ D) :
    Calls Tryd.prog 12 #[.pointer (some ⟨D, 0, none⟩), .slice (some ⟨b, o, none⟩) n cap] w fun e' w' => e' = .returned (.tuple #[.int .i64 n, .nilIface]) ∧
      Raw w' D (Md5.blocks 1 h (Xs.take k ++ L)) (Xs.take k ++ L) 0 (len + n) ∧ Only D w w' := by
  have g68 := r.cnx
  have g69 := r.clen
  have z68 := r.free 68
  have z69 := r.free 69
  have hr1 : Raw (w.setCell ⟨D, 69, none⟩ (.int .u64 ((len : Int) + (n : Int)))) D h Xs k (len + n) := by
    have := r.setLen (len + n)
    rwa [Int.natCast_add] at this
  have ho1 : Only D w (w.setCell ⟨D, 69, none⟩ (.int .u64 ((len : Int) + (n : Int)))) := (Only.refl D w).setCell _
  have hb1 : Bytes (w.setCell ⟨D, 69, none⟩ (.int .u64 ((len : Int) + (n : Int)))) b o L := hb.congr (ho1.block b hbD)
  have R2 := Lib.hid hr1
  have HO2 := Lib.hid ho1
  have HB := Lib.hid hb1
  have HTl := Lib.hid hl
  have HX := Lib.hid r.xl
  have HNK := Lib.hid hnk
  have hle : n + k ≤ 64 := by omega
  have hge : 64 ≤ n + k := by omega
  have hsum : ((k : Int) + (n : Int) == 64) = true := by rw [beq_iff_eq]; omega
  clear hr1 ho1 hb1 r hb hl hnk
  go_enter Tryd.func12, Tryd.ntmps12
  go_wp2_with fail
  have g1 := R2.out.cnx
  have i1 : (k : Int) ≤ 64 := by omega
  have i2 : (0 : Int) ≤ (k : Int) := by omega
  have i3 : ¬ (k = 64) := by omega
  have i4 : ¬ (64 = k) := by omega
  have i5 : ¬ (64 < k) := by omega
  generalize hw1 : w.setCell ⟨D, 69, none⟩ (.int .u64 ((len : Int) + (n : Int))) = w1 at *
  have HW := Lib.hid hw1
  clear hw1
  go_still_tail 9, (by kernel_rfl)
  refine wpList_copy_raw rfl _ _ rfl (R2.out.drewN 1) k (4 + k) _ _ rfl rfl b _ _ _ rfl L HB.out ?c1 ?c2 ?_
  case c1 => rw [HTl.out]; exact (Nat.min_eq_left (by omega)).symm
  case c2 => rw [HTl.out]; omega
  intro w3 r3 o3
  have hd : Xs.drop (k + L.length) = [] := List.drop_of_length_le (by rw [HX.out, HTl.out]; omega)
  rw [hd, List.append_nil] at r3
  rw [HTl.out]
  have hr4 : Raw (w3.setCell ⟨D, 68, none⟩ (.int .i64 ((k : Int) + (n : Int)))) D h (Xs.take k ++ L) (k + n) (len + n) := by
    have := r3.setNx (k + n)
    rwa [Int.natCast_add] at this
  have ho4 := (HO2.out.trans (((Only.refl D w1).drewN 1).trans o3)).setCell (i := 68) (.int .i64 ((k : Int) + (n : Int)))
  have g68 := r3.cnx
  have z68 := r3.free 68
  have HK := Lib.hid (block_any D D 4 64 64 1 h (Xs.take k ++ L) _ rfl (by rw [List.length_append, List.length_take, HX.out, HTl.out]; omega) (by omega) (by omega) hr4.bytes hr4.c0 hr4.c1 hr4.c2 hr4.c3 (hr4.free 0) (hr4.free 1) (hr4.free 2) (hr4.free 3))
  have R4 := Lib.hid hr4
  have HO4 := Lib.hid ho4
  clear hr4 ho4 r3 o3 hd g1 i1 i2 i3 i4 i5
  by_cases hcn : cap = n
  · subst hcn
    go_wp2_with fail
    refine HK.out.mono ?_
    rintro e' w5 ⟨rfl, hBl⟩
    obtain ⟨r5, o5⟩ := R4.out.blocked hBl
    have z5 := r5.free 68
    have g5 := r5.cnx
    have R5 := Lib.hid (r5.setNx 0)
    have HO5 := Lib.hid ((HO4.out.trans o5).setCell (i := 68) (.int .i64 ((0 : Nat) : Int)))
    clear hBl o5 r5 HK R4 HO4 g68 z68
    go_wp2_with fail
    go_ret2
    exact ⟨rfl, R5.out, HO5.out⟩
  · have hlt : n < cap := by omega
    clear hcn
    go_wp2_with fail
    refine HK.out.mono ?_
    rintro e' w5 ⟨rfl, hBl⟩
    obtain ⟨r5, o5⟩ := R4.out.blocked hBl
    have z5 := r5.free 68
    have g5 := r5.cnx
    have R5 := Lib.hid (r5.setNx 0)
    have HO5 := Lib.hid ((HO4.out.trans o5).setCell (i := 68) (.int .i64 ((0 : Nat) : Int)))
    clear hBl o5 r5 HK R4 HO4 g68 z68
    go_wp2_with fail
    go_ret2
    exact ⟨rfl, R5.out, HO5.out⟩
theorem goInt_is (n : Nat) : goInt n = .int .i64 (n : Nat) := rfl
set_option maxRecDepth 100000 in
set_option maxHeartbeats 1000000 in
theorem writeB_two (D b o n cap k c : Nat) (h : H4) (Xs L : List UInt8) (len : Nat) (w : World) (r : Raw w D h Xs k len) (hl : L.length = n) (hcap : n ≤ cap) (hcm : cap ≤ 1000000) (hlen : len ≤ 1000000)
    (hk : 0 < k) (hc : k + c = 64) (hc0 : 0 < c) (hn : n = c + 64) (hb : Bytes w b o L) (hbD : b ≠ D) :
    Calls Tryd.prog 12 #[.pointer (some ⟨D, 0, none⟩), .slice (some ⟨b, o, none⟩) n cap] w fun e' w' => e' = .returned (.tuple #[.int .i64 n, .nilIface]) ∧
      Raw w' D (Md5.blocks 2 h (Xs.take k ++ L)) (Xs.take k ++ L.take c) 0 (len + n) ∧ Only D w w' := by
  have g68 := r.cnx
  have g69 := r.clen
  have z68 := r.free 68
  have z69 := r.free 69
  have hr1 : Raw (w.setCell ⟨D, 69, none⟩ (.int .u64 ((len : Int) + (n : Int)))) D h Xs k (len + n) := by
    have := r.setLen (len + n)
    rwa [Int.natCast_add] at this
  have ho1 : Only D w (w.setCell ⟨D, 69, none⟩ (.int .u64 ((len : Int) + (n : Int)))) := (Only.refl D w).setCell _
  have hb1 : Bytes (w.setCell ⟨D, 69, none⟩ (.int .u64 ((len : Int) + (n : Int)))) b o L := hb.congr (ho1.block b hbD)
  have R2 := Lib.hid hr1
  have HO2 := Lib.hid ho1
  have HB := Lib.hid hb1
  have HX := Lib.hid r.xl
  have HL := Lib.hid hl
  have HN := Lib.hid hn
  have HC := Lib.hid hc
  have hn1 : n ≤ c + 64 := by omega
  have hn2 : c + 64 ≤ n := by omega
  have hk1 : k + c ≤ 64 := by omega
  have hk2 : 64 ≤ k + c := by omega
  have hsum : ((k : Int) + (c : Int) == 64) = true := by rw [beq_iff_eq]; omega
  have h6463 : bits BinOp.andNot .i64 ((n - c : Nat) : Int) 63 = 64 := by rw [show n - c = 64 by omega]; exact andNot63 64 64 (by omega) (by omega)
  obtain ⟨T, hT⟩ : ∃ T, L.take c = T := ⟨_, rfl⟩
  obtain ⟨V, hV⟩ : ∃ V, L.drop c = V := ⟨_, rfl⟩
  have HT := Lib.hid hT
  have HV := Lib.hid hV
  have HTl : Hid (T.length = c) := by show T.length = c; rw [← hT, List.length_take]; omega
  have HVl : Hid (V.length = 64) := by show V.length = 64; rw [← hV, List.length_drop]; omega
  clear hr1 ho1 hb1 r hb hl hn hc hT hV
  go_enter Tryd.func12, Tryd.ntmps12
  go_wp2_with fail
  have i1 : (k : Int) ≤ 64 := by omega
  have i2 : (0 : Int) ≤ (k : Int) := by omega
  have i3 : ¬ (k = 64) := by omega
  have i4 : ¬ (64 = k) := by omega
  have i5 : ¬ (64 < k) := by omega
  have g1 := R2.out.cnx
  generalize hw1 : w.setCell ⟨D, 69, none⟩ (.int .u64 ((len : Int) + (n : Int))) = w1 at *
  have HW := Lib.hid hw1
  clear hw1
  go_still_tail 9, (by kernel_rfl)
  refine wpList_copy_raw rfl _ _ rfl (R2.out.drewN 1) k (4 + k) _ _ rfl rfl b _ _ _ rfl T (HT.out ▸ HB.out.take c) ?c1 ?c2 ?_
  case c1 => rw [HTl.out, show (64 : Nat) - k = c by omega]; exact (Nat.min_eq_right (by omega)).symm
  case c2 => rw [HTl.out]; omega
  intro w3 r3 o3
  have hd : Xs.drop (k + T.length) = [] := List.drop_of_length_le (by rw [HX.out, HTl.out]; omega)
  rw [hd, List.append_nil] at r3
  rw [HTl.out]
  have hr4 : Raw (w3.setCell ⟨D, 68, none⟩ (.int .i64 ((k : Int) + (c : Int)))) D h (Xs.take k ++ T) (k + c) (len + n) := by
    have := r3.setNx (k + c)
    rwa [Int.natCast_add] at this
  have ho4 := (((Only.refl D w1).drewN 1).trans o3).setCell (i := 68) (.int .i64 ((k : Int) + (c : Int)))
  have g68 := r3.cnx
  have z68 := r3.free 68
  have HK := Lib.hid (block_any D D 4 64 64 1 h (Xs.take k ++ T) _ rfl (by rw [List.length_append, List.length_take, HX.out, HTl.out]; omega) (by omega) (by omega) hr4.bytes hr4.c0 hr4.c1 hr4.c2 hr4.c3 (hr4.free 0) (hr4.free 1) (hr4.free 2) (hr4.free 3))
  have R4 := Lib.hid hr4
  have HO4 := Lib.hid ho4
  clear hr4 ho4 r3 o3 hd g1 i1 i2 i3 i4 i5
  go_wp2_with fail
  refine HK.out.mono ?_
  rintro e' w5 ⟨rfl, hBl⟩
  obtain ⟨r5, o5⟩ := R4.out.blocked hBl
  have z5 := r5.free 68
  have g5 := r5.cnx
  have r6 := r5.setNx 0
  have o6 := (HO4.out.trans o5).setCell (i := 68) (.int .i64 ((0 : Nat) : Int))
  have hb6 : Bytes (w5.setCell ⟨D, 68, none⟩ (.int .i64 ((0 : Nat) : Int))) b (o + c) V := HV.out ▸ ((HB.out.congr (o6.block b hbD)).drop c)
  have HK2 := Lib.hid (block_any D b (o + c) 64 (cap - c) 1 (Md5.blocks 1 h (Xs.take k ++ T)) V _ rfl HVl.out (by omega) (by omega) hb6 r6.c0 r6.c1 r6.c2 r6.c3 (r6.free 0) (r6.free 1) (r6.free 2) (r6.free 3))
  have R6 := Lib.hid r6
  have HO6 := Lib.hid (HO2.out.trans o6)
  clear hBl o5 r5 HK R4 HO4 g68 z68 r6 o6 hb6
  have HEnd : Hid (Md5.blocks 1 (Md5.blocks 1 h (Xs.take k ++ T)) V = Md5.blocks 2 h (Xs.take k ++ L)) := by
    show _ = _
    have hx := HX.out
    have hxt : (Xs.take k ++ T).length = 64 := by rw [List.length_append, List.length_take, HX.out, HTl.out]; omega
    have e1 : Xs.take k ++ L = (Xs.take k ++ T) ++ V := by rw [← HT.out, ← HV.out, List.append_assoc, List.take_append_drop]
    rw [e1, show 2 = 1 + 1 by rfl, Md5.blocks_add, Md5.blocks_append 1 h _ V (by omega), List.drop_append, List.drop_of_length_le (by omega), List.nil_append, hxt]
    rfl
  have hge : 64 ≤ n - c := by omega
  have hle : n - c ≤ 64 := by omega
  by_cases hcn : cap - c = 64
  · rw [hcn] at HK2
    go_wp2_with fail
    refine HK2.out.mono ?_
    rintro e' w7 ⟨rfl, hBl⟩
    obtain ⟨r7, o7⟩ := R6.out.blocked hBl
    rw [HEnd.out] at r7
    have R7 := Lib.hid r7
    have HO7 := Lib.hid (HO6.out.trans o7)
    clear hBl r7 o7 HK2 R6 HO6 z5 g5
    go_wp2_with fail
    go_ret2
    exact ⟨rfl, by rw [HT.out]; exact R7.out, HO7.out⟩
  · have hlt : 64 < cap - c := by omega
    clear hcn
    go_wp2_with fail
    refine HK2.out.mono ?_
    rintro e' w7 ⟨rfl, hBl⟩
    obtain ⟨r7, o7⟩ := R6.out.blocked hBl
    rw [HEnd.out] at r7
    have R7 := Lib.hid r7
    have HO7 := Lib.hid (HO6.out.trans o7)
    clear hBl r7 o7 HK2 R6 HO6 z5 g5
    go_wp2_with fail
    go_ret2
    exact ⟨rfl, by rw [HT.out]; exact R7.out, HO7.out⟩
end Go.Proofs.YtcmopgfagooboaaDoor

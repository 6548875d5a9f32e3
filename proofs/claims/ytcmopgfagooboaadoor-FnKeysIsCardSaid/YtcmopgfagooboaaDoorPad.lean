/- The bytes that MD5 lays behind a message, and what Write makes of them. -/
import Derived.Test.YtcmopgfagooboaaDoorPut
import Derived.Test.YtcmopgfagooboaaDoorWriteB
import Derived.Test.YtcmopgfagooboaaDoorNew
namespace Go.Proofs.YtcmopgfagooboaaDoor
open Go.RowKit
open Md5 (W H4)

/-- how many zeros -/
def padOf (len : Nat) : Nat := (119 - len % 64) % 64
/-- what is laid behind -/
def tail (len : Nat) : List UInt8 := 128 :: (List.replicate (padOf len) 0 ++ le64 (8 * len))
theorem tail_length (len : Nat) : (tail len).length = 9 + padOf len := by simp [tail, le64]; omega
theorem pad_lt (len : Nat) : padOf len < 64 := Nat.mod_lt _ (by decide)

theorem lay_is (A M Z : List UInt8) (v : Nat) (hM : M.length = 8) : ∀ k, k ≤ 8 → lay (A ++ (M ++ Z)) A.length v k = A ++ ((((List.range 8).map (byteOf v)).take k ++ M.drop k) ++ Z)
  | 0, _ => by simp [lay]
  | k + 1, hk => by
    simp only [lay]
    rw [lay_is A M Z v hM k (by omega), List.set_append_right _ _ (by omega), Nat.add_sub_cancel_left]
    congr 1
    have hl : (List.take k ((List.range 8).map (byteOf v))).length = k := by rw [List.length_take]; simp; omega
    rw [List.set_append_left _ _ (by rw [List.length_append, hl, List.length_drop, hM]; omega), List.set_append_right _ _ (by omega), hl, Nat.sub_self]
    congr 1
    have hd : M.drop k = M.getD k 0 :: M.drop (k + 1) := by
      rw [List.drop_eq_getElem_cons (by omega)]
      simp [List.getD, show k < M.length by omega]
    rw [hd, List.set_cons_zero, List.take_succ_eq_append_getElem (by simp; omega), List.append_assoc]
    simp
theorem lay_tail (len : Nat) : (lay (128 :: List.replicate 71 0) (1 + padOf len) (8 * len) 8).take (9 + padOf len) = tail len := by
  have hp := pad_lt len
  have e : (128 :: List.replicate 71 0 : List UInt8) = (128 :: List.replicate (padOf len) 0) ++ (List.replicate 8 0 ++ List.replicate (63 - padOf len) 0) := by
    rw [List.cons_append, List.replicate_append_replicate, List.replicate_append_replicate, show padOf len + (8 + (63 - padOf len)) = 71 by omega]
  have h := lay_is (128 :: List.replicate (padOf len) 0) (List.replicate 8 0) (List.replicate (63 - padOf len) 0) (8 * len) (by simp) 8 (by omega)
  rw [← e, show (128 :: List.replicate (padOf len) 0 : List UInt8).length = 1 + padOf len by simp; omega] at h
  rw [h]
  have h8 : ((List.range 8).map (byteOf (8 * len))).take 8 ++ (List.replicate 8 (0 : UInt8)).drop 8 = le64 (8 * len) := by
    rw [List.take_of_length_le (by simp), List.drop_of_length_le (by simp), List.append_nil]; rfl
  rw [h8, ← List.append_assoc, List.take_append_of_le_length (by simp [le64]; omega), List.take_of_length_le (by simp [le64]; omega)]
  rfl

/-- Write of the bytes behind: all blocks are whole -/
theorem pad_any (D g len : Nat) (h : H4) (Xs : List UInt8) (w : World) (r : Raw w D h Xs (len % 64) len) (hlen : len ≤ 900000) (hb : Bytes w g 0 (tail len)) (hgD : g ≠ D) :
    Calls Tryd.prog 12 #[.pointer (some ⟨D, 0, none⟩), .slice (some ⟨g, 0, none⟩) (9 + padOf len) 72] w fun e w' => e = .returned (.tuple #[.int .i64 ((9 + padOf len : Nat) : Int), .nilIface]) ∧
      (∃ Ys, Raw w' D (Md5.blocks ((len % 64 + 9 + padOf len) / 64) h (Xs.take (len % 64) ++ tail len)) Ys 0 (len + (9 + padOf len))) ∧ Only D w w' := by
  have hp : padOf len = (119 - len % 64) % 64 := rfl
  have hl := tail_length len
  by_cases h0 : len % 64 = 0
  · rw [h0] at r ⊢
    have hn : 9 + padOf len = 64 := by omega
    refine (writeA_whole D g 0 (9 + padOf len) 72 1 h Xs (tail len) len w r hl (by omega) (by omega) (by omega) (by omega) (by omega) (by omega) hb hgD).mono ?_
    rintro e w' ⟨he, hr, ho⟩
    refine ⟨he, ?_, ho⟩
    rw [show (0 + 9 + padOf len) / 64 = 1 by omega]
    exact ⟨_, hr⟩
  · by_cases h1 : len % 64 ≤ 55
    · refine (writeB_one D g 0 (9 + padOf len) 72 (len % 64) h Xs (tail len) len w r hl (by omega) (by omega) (by omega) (by omega) (by omega) (by omega) hb hgD).mono ?_
      rintro e w' ⟨he, hr, ho⟩
      refine ⟨he, ?_, ho⟩
      rw [show (len % 64 + 9 + padOf len) / 64 = 1 by omega]
      exact ⟨_, hr⟩
    · refine (writeB_two D g 0 (9 + padOf len) 72 (len % 64) (64 - len % 64) h Xs (tail len) len w r hl (by omega) (by omega) (by omega) (by omega) (by omega) (by omega) (by omega) hb hgD).mono ?_
      rintro e w' ⟨he, hr, ho⟩
      refine ⟨he, ?_, ho⟩
      rw [show (len % 64 + 9 + padOf len) / 64 = 2 by omega]
      exact ⟨_, hr⟩
end Go.Proofs.YtcmopgfagooboaaDoor

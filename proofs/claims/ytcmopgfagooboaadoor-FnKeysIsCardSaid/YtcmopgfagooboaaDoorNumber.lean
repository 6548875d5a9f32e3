/- spec.number: the bytes of a number, the highest first; spec.back: a slice of bytes from behind; spec.at. -/
import Derived.Test.YtcmopgfagooboaaDoorOwn
namespace Go.Proofs.YtcmopgfagooboaaDoor
open Go.RowKit
open Md5 (W H4)

/-- the first k of the n bytes of a number, the highest first -/
def big (x n k : Nat) : List UInt8 := (List.range k).map fun j => byteOf x (n - 1 - j)
theorem big_length (x n k : Nat) : (big x n k).length = k := by simp [big]
theorem big_succ (x n k : Nat) : big x n (k + 1) = big x n k ++ [byteOf x (n - 1 - k)] := by simp [big, List.range_succ]

set_option maxRecDepth 100000 in
theorem number_any (x n : Nat) (w : World) (hn : n ≤ 8) :
    Calls Tryd.prog 15 #[.int .i64 x, .int .i64 n] w fun e w' => ∃ v, e = .returned v ∧ OwnB w' w.heap.size v (big x n n) ∧ Below w.heap.size w w' := by
  go_enter Tryd.func15, Tryd.ntmps15
  go_wp2
  go_loopw [5, 6] (fun v i wr => ∃ k : Nat, k ≤ n ∧ i = .int .i64 ((n : Int) - 1 - k) ∧ OwnB wr w.heap.size v (big x n k) ∧ Below w.heap.size w wr) (fun _ i _ => (intOf i + 1).toNat)
  case atStart => exact ⟨0, Nat.zero_le _, by congr 1; omega, OwnB.made w (Nat.le_refl _), (Below.refl _ _).alloc (Nat.le_refl _) _⟩
  case round =>
    obtain ⟨k, hk, rfl, hown, hbel⟩ := hrel
    have hown := Lib.hid hown
    have hbel := Lib.hid hbel
    go_wp2_with (at_builtin; refine wpList_push rfl (.tmp 14) (.tmp 20) rfl w wr w.heap.size w.heap.size u5 (big x n k) (byteOf x (n - 1 - k)) _ rfl rfl ?hu hown.out ?hL ?hb (Nat.le_refl _) hbel.out ?_)
    case hu =>
      rw [← B8_of (b := byteOf x (n - 1 - k))]
      rw [byteOf_toNat, Int.natCast_emod, Int.natCast_ediv, Int.natCast_pow, Int.pow_mul]
      rfl
    case hL => rw [big_length]; omega
    case hb => exact hbel.out.size
    · intro v' w1 h1 h2
      have hlt : k < n := by omega
      rw [← big_succ] at h1
      have H1 := Lib.hid h1
      have H2 := Lib.hid h2
      clear h1 h2
      go_wp2
      go_roundw
      case rel => exact ⟨k + 1, hlt, by congr 1; omega, H1.out, H2.out⟩
      case measure => simp [intOf]; omega
    · obtain rfl : k = n := by omega
      go_ret
      exact ⟨_, rfl, hown.out, hbel.out⟩
set_option maxRecDepth 100000 in
theorem back_any (b off n cap : Nat) (L : List UInt8) (w : World) (hb : Bytes w b off L) (hn : L.length = n) (hnc : n ≤ cap) (hn1 : n ≤ 1000) (hblt : b < w.heap.size) :
    Calls Tryd.prog 14 #[.slice (some ⟨b, off, none⟩) n cap] w fun e w' => ∃ v, e = .returned v ∧ OwnB w' w.heap.size v L.reverse ∧ Below w.heap.size w w' := by
  have HB := Lib.hid hb
  have HN := Lib.hid hn
  clear hb hn
  go_enter Tryd.func14, Tryd.ntmps14
  go_wp2
  go_loopw [3, 8] (fun v i wr => ∃ k : Nat, k ≤ n ∧ i = .int .i64 k ∧ OwnB wr w.heap.size v (L.reverse.take k) ∧ Below w.heap.size w wr) (fun _ i _ => (n - intOf i).toNat)
  case atStart => exact ⟨0, Nat.zero_le _, rfl, OwnB.made w (Nat.le_refl _), (Below.refl _ _).alloc (Nat.le_refl _) _⟩
  case round =>
    obtain ⟨k, hk, rfl, hown, hbel⟩ := hrel
    have hc : k < n → wr.cell? ⟨b, off + (n - 1 - k), none⟩ = some (B8 (L.getD (n - 1 - k) 0)) := fun h => (hbel.cell (by exact hblt)).trans (HB.out _ (by rw [HN.out]; omega))
    have hown := Lib.hid hown
    have hbel := Lib.hid hbel
    go_wp2_with (at_builtin; refine wpList_push rfl (.tmp 11) (.tmp 20) rfl w wr w.heap.size w.heap.size u3 _ (L[n - 1 - k]?.getD 0) _ rfl rfl rfl hown.out ?hL ?hb (Nat.le_refl _) hbel.out ?_)
    case hL => rw [List.length_take]; omega
    case hb => exact hbel.out.size
    · intro v' w1 h1 h2
      have hlt : k < n := by omega
      have e : L.reverse.take k ++ [L[n - 1 - k]?.getD 0] = L.reverse.take (k + 1) := by
        rw [List.take_add_one, List.getElem?_reverse (by rw [HN.out]; exact hlt), HN.out, List.getElem?_eq_getElem (by rw [HN.out]; omega)]
        rfl
      rw [e] at h1
      have H1 := Lib.hid h1
      have H2 := Lib.hid h2
      clear h1 h2 e hc
      go_wp2
      go_roundw
      case rel => exact ⟨k + 1, hlt, by go_num, H1.out, H2.out⟩
      case measure => simp [intOf]; omega
    · obtain rfl : k = n := by omega
      go_ret
      refine ⟨_, rfl, ?_, hbel.out⟩
      have h := hown.out
      rw [List.take_of_length_le (by rw [List.length_reverse, HN.out]; exact Nat.le_refl _)] at h
      exact h

end Go.Proofs.YtcmopgfagooboaaDoor

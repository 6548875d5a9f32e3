/- The two long keys: the string user:realm:password and its digest, on either side. -/
import Derived.Test.YtcmopgfagooboaaDoorSpec
import Derived.Lib.ConvBytes
namespace Go.Proofs.YtcmopgfagooboaaDoor
open Go.RowKit
open Md5 (W H4)

/-- the text that both sides hash -/
def text (u r p : ByteArray) : ByteArray := (((u ++ ⟨#[58]⟩) ++ r) ++ ⟨#[58]⟩) ++ p
theorem text_size (u r p : ByteArray) : (text u r p).size = u.size + r.size + p.size + 2 := by
  simp only [text, ByteArray.size_append']
  have : (⟨#[58]⟩ : ByteArray).size = 1 := rfl
  omega
/-- the digest of a text -/
def digestOf (L : List UInt8) : List UInt8 := out16 (Md5.blocks ((L.length + 9 + padOf L.length) / 64) Md5.iv (L ++ tail L.length))
theorem OwnB.mono {w : World} {B B' : Nat} {v : Value} {L : List UInt8} (h : OwnB w B v L) (hB : B' ≤ B) : OwnB w B' v L := by
  refine ⟨h.1, ?_⟩
  rcases h.2 with h2 | ⟨g, cap, cur, rfl, h3, h4⟩
  · exact .inl h2
  · exact .inr ⟨g, cap, cur, rfl, Nat.le_trans hB h3, h4⟩
theorem conv_bytes (w : World) (s : ByteArray) : Bytes (Lib.bytesWorld w 5 s) w.heap.size 0 s.data.toList := fun j hj => by
  rw [Nat.zero_add]
  exact Lib.bytesWorld_cell w 5 s j (by simpa using hj)
theorem conv_below (w : World) (s : ByteArray) : Below w.heap.size w (Lib.bytesWorld w 5 s) :=
  ⟨rfl, rfl, rfl, by rw [Lib.bytesWorld_size]; omega, fun k hk => Lib.bytesWorld_at_old w 5 s k hk⟩

set_option maxRecDepth 100000 in
theorem spec_long (u r p : ByteArray) (w : World) (hu : u.size ≤ 1000) (hr : r.size ≤ 1000) (hp : p.size ≤ 1000) (h2 : 2 ≤ w.heap.size) (hsi : w.rangeAt 0 0 (Md5.sines.map U)) (htu : Turns w) :
    Calls Tryd.prog 6 #[.string u, .string r, .string p] w fun e w' => ∃ v, e = .returned v ∧ OwnB w' w.heap.size v (digestOf (text u r p).data.toList) ∧ Below w.heap.size w w' := by
  have hcv := fun (w : World) (s : ByteArray) => Lib.run_convert_string_bytes (P := Tryd.prog) w 9 23 5 s Tryd.underlying9 Tryd.underlying23 Tryd.underlying5
  have HSI := Lib.hid hsi
  have HTU := Lib.hid htu
  clear hsi htu
  go_enter Tryd.func6, Tryd.ntmps6
  go_wp2_with fail
  have hl : (text u r p).data.toList.length = u.size + 1 + r.size + 1 + p.size := by
    rw [Array.length_toList, ByteArray.size_data, text_size]; omega
  refine Calls.mono (spec_md5 w.heap.size 0 (u.size + 1 + r.size + 1 + p.size) (grownCap w (u.size + 1 + r.size + 1 + p.size) 0 5) (text u r p).data.toList (Lib.bytesWorld w 5 (text u r p)) (conv_bytes w _) hl (grownCap_ge _ _ _ _) (by omega) (by rw [Lib.bytesWorld_size]; omega)
    (by rw [Lib.bytesWorld_size]; omega) (fun j v hj => (Lib.bytesWorld_old w 5 _ _ (by show 0 < _; omega)).trans (HSI.out j v hj)) (fun j hj => (Lib.bytesWorld_old w 5 _ _ (by show 1 < _; omega)).trans (HTU.out j hj))) ?_
  rintro e w2 ⟨v, rfl, hown, hbel⟩
  have HO := Lib.hid (hown.mono (B' := w.heap.size) (by rw [Lib.bytesWorld_size]; omega))
  have HB := Lib.hid ((conv_below w (text u r p)).trans (hbel.mono (by rw [Lib.bytesWorld_size]; omega)))
  replace hl := Lib.hid hl
  clear hown hbel
  go_wp2
  go_ret
  refine ⟨_, rfl, ?_, HB.out⟩
  unfold digestOf
  rw [hl.out]
  exact HO.out

/-- what the digest holds behind one Write into a fresh one -/
theorem write_fresh (D b o n cap : Nat) (Xs L : List UInt8) (w : World) (r : Raw w D Md5.iv Xs 0 0) (hl : L.length = n) (h1 : 1 ≤ n) (hn : n ≤ 5000) (hcap : n ≤ cap) (hcm : cap ≤ 9223372036854775807) (hb : Bytes w b o L) (hbD : b ≠ D) :
    Calls Tryd.prog 12 #[.pointer (some ⟨D, 0, none⟩), .slice (some ⟨b, o, none⟩) n cap] w fun e w' => e = .returned (.tuple #[.int .i64 n, .nilIface]) ∧
      ∃ Xs', Raw w' D (Md5.blocks (n / 64) Md5.iv L) Xs' (n % 64) n ∧ Xs'.take (n % 64) = L.drop (64 * (n / 64)) ∧ Only D w w' := by
  by_cases hs : n < 64
  · refine (writeA_short D b o n cap Md5.iv Xs L 0 w r hl hs (by decide) h1 hb hbD).mono ?_
    rintro e w' ⟨he, hr, ho⟩
    refine ⟨he, L ++ Xs.drop n, ?_, ?_, ho⟩
    · rw [show n / 64 = 0 by omega, show n % 64 = n by omega]
      rw [Nat.zero_add] at hr
      exact hr
    · rw [show n / 64 = 0 by omega, show n % 64 = n by omega, List.take_append, hl, Nat.sub_self, List.take_of_length_le (by omega)]
      simp
  · by_cases hw : n % 64 = 0
    · refine (writeA_whole D b o n cap (n / 64) Md5.iv Xs L 0 w r hl hcap hcm (by omega) (by decide) (by omega) (by omega) hb hbD).mono ?_
      rintro e w' ⟨he, hr, ho⟩
      refine ⟨he, Xs, ?_, ?_, ho⟩
      · rw [hw]
        rw [Nat.zero_add] at hr
        exact hr
      · rw [hw, List.drop_of_length_le (by omega)]
        rfl
    · refine (writeA_long D b o n cap (n / 64) Md5.iv Xs L 0 w r hl hcap hcm (by omega) (by decide) (64 * (n / 64)) rfl (by omega) (by omega) (by omega) hb hbD).mono ?_
      rintro e w' ⟨he, hr, ho⟩
      have e1 : n - 64 * (n / 64) = n % 64 := by omega
      rw [e1, Nat.zero_add] at hr
      refine ⟨he, _, hr, ?_, ho⟩
      rw [List.take_append, List.length_drop, hl, e1, Nat.sub_self, List.take_of_length_le (by rw [List.length_drop]; omega)]
      simp
theorem final_is (n : Nat) (Xs L : List UInt8) (hl : L.length = n) (hx : Xs.take (n % 64) = L.drop (64 * (n / 64))) : out16 (final (Md5.blocks (n / 64) Md5.iv L) Xs n) = digestOf L := by
  unfold final digestOf
  rw [hl, hx, show (n + 9 + padOf n) / 64 = n / 64 + (n % 64 + 9 + padOf n) / 64 by omega, Md5.blocks_add, Md5.blocks_append (n / 64) _ L _ (by omega), List.drop_append_of_le_length (by omega)]

set_option maxRecDepth 100000 in
theorem impl_long (u r p : ByteArray) (w : World) (hu : u.size ≤ 1000) (hr : r.size ≤ 1000) (hp : p.size ≤ 1000) :
    Calls Tryd.prog 8 #[.string u, .string r, .string p] w fun e w' => ∃ v, e = .returned v ∧ OwnB w' w.heap.size v (digestOf (text u r p).data.toList) ∧ Below w.heap.size w w' := by
  have hcv := fun (w : World) (s : ByteArray) => Lib.run_convert_string_bytes (P := Tryd.prog) w 9 23 5 s Tryd.underlying9 Tryd.underlying23 Tryd.underlying5
  go_enter Tryd.func8, Tryd.ntmps8
  go_wp2_with fail
  refine Calls.mono (new_any w) ?_
  rintro e w1 ⟨rfl, hraw, hbel1, hs1⟩
  have Hraw := Lib.hid hraw
  have Hbel1 := Lib.hid hbel1
  have Hs1 := Lib.hid hs1
  clear hraw hbel1 hs1
  go_wp2_with fail
  have hl : (text u r p).data.toList.length = u.size + 1 + r.size + 1 + p.size := by
    rw [Array.length_toList, ByteArray.size_data, text_size]; omega
  have hcap : u.size + 1 + r.size + 1 + p.size ≤ grownCap w1 (u.size + 1 + r.size + 1 + p.size) 0 5 := grownCap_ge _ _ _ _
  have hcm : grownCap w1 (u.size + 1 + r.size + 1 + p.size) 0 5 ≤ maxLen := grownCap_le_maxLen _ _ _ _ (by unfold maxLen; omega)
  refine Calls.mono (write_fresh w.heap.size w1.heap.size 0 (u.size + 1 + r.size + 1 + p.size) (grownCap w1 (u.size + 1 + r.size + 1 + p.size) 0 5) _ (text u r p).data.toList (Lib.bytesWorld w1 5 (text u r p)) (Hraw.out.congr (Lib.bytesWorld_at_old _ _ _ _ (by rw [Hs1.out]; omega))) hl (by omega) (by omega) hcap hcm
    (conv_bytes w1 _) (by rw [Hs1.out]; omega)) ?_
  rintro e w3 ⟨rfl, Xs, hraw3, hx, ho3⟩
  have HF := Lib.hid (final_is _ Xs _ hl hx)
  have Hraw3 := Lib.hid hraw3
  have HB3 := Lib.hid ((Hbel1.out.trans ((conv_below w1 (text u r p)).mono (by rw [Hs1.out]; omega))).trans (ho3.below (Nat.le_refl _)))
  clear hraw3 hx ho3 hl hcap hcm hcv
  go_wp2_with fail
  refine Calls.mono (sum_any w.heap.size _ Xs _ w3 Hraw3.out (by omega)) ?_
  rintro e w4 ⟨v, rfl, hown, hbel⟩
  have HO : Hid (OwnB w4 w.heap.size v (digestOf (text u r p).data.toList)) := by
    rw [← HF.out]
    exact OwnB.mono (L := out16 _) hown HB3.out.size
  have HB := Lib.hid (HB3.out.trans (hbel.mono HB3.out.size))
  clear hown hbel
  go_wp2
  go_ret
  exact ⟨_, rfl, HO.out, HB.out⟩

set_option maxRecDepth 100000 in
theorem impl_key (u r p : ByteArray) (w : World) (hu : u.size ≤ 1000) (hr : r.size ≤ 1000) (hp : p.size ≤ 1000) :
    Calls Tryd.prog 5 #[.string u, .string r, .string p] w fun e w' => ∃ v, e = .returned v ∧ OwnB w' w.heap.size v (digestOf (text u r p).data.toList) ∧ Below w.heap.size w w' := by
  go_enter Tryd.func5, Tryd.ntmps5
  go_wp2_with fail
  refine Calls.mono (impl_long u r p w hu hr hp) ?_
  rintro e w1 ⟨v, rfl, hown, hbel⟩
  have HO := Lib.hid hown
  have HB := Lib.hid hbel
  clear hown hbel
  go_wp2
  go_ret
  exact ⟨_, rfl, HO.out, HB.out⟩

set_option maxRecDepth 100000 in
/-- the short key: the password's own bytes -/
theorem short_key (p : ByteArray) (w : World) :
    Calls Tryd.prog 7 #[.string p] w fun e w' => e = .returned (.slice (some ⟨w.heap.size, 0, none⟩) p.size (grownCap w p.size 0 5)) ∧ w' = Lib.bytesWorld w 5 p := by
  have hcv := fun (w : World) (s : ByteArray) => Lib.run_convert_string_bytes (P := Tryd.prog) w 9 27 5 s Tryd.underlying9 Tryd.underlying27 Tryd.underlying5
  go_enter Tryd.func7, Tryd.ntmps7
  go_wp2_with (first | go_in | fail)
  all_goals go_ret
  all_goals exact ⟨rfl, rfl⟩
end Go.Proofs.YtcmopgfagooboaaDoor

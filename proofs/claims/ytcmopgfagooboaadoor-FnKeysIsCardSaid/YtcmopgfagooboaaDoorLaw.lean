/- laws.same and laws.FnKeysIs: the walk. -/
import Derived.Test.YtcmopgfagooboaaDoorLong
namespace Go.Proofs.YtcmopgfagooboaaDoor
open Go.RowKit
open Md5 (W H4)

theorem conv_back (w : World) (B : Nat) (g cp : Nat) (L : List UInt8) (n : Nat) (hn : L.length = n) (hb : Bytes w g 0 L) (_hB : B = B) :
    (convert 23 9 (.slice (some ⟨g, 0, none⟩) n cp)).run Tryd.prog w = .ok (.string ⟨L.toArray⟩) w := by
  subst hn
  refine run_convert_bytes_back w 23 9 5 ⟨g, 0, none⟩ cp L Tryd.underlying23 Tryd.underlying5 Tryd.underlying9 fun j hj => ?_
  rw [add_at, hb j hj]
  simp [List.getD, hj]

set_option maxRecDepth 100000 in
theorem same_any (v1 v2 : Value) (L : List UInt8) (B1 B2 : Nat) (w : World) (h1 : OwnB w B1 v1 L) (h2 : OwnB w B2 v2 L) (hl : L.length = 16) :
    Calls Tryd.prog 4 #[v1, v2] w fun e w' => e = .returned (.bool true) ∧ w' = w := by
  obtain ⟨g1, cp1, rfl, _, _, _, _, hb1, _⟩ := h1.bytes (by omega)
  obtain ⟨g2, cp2, rfl, _, _, _, _, hb2, _⟩ := h2.bytes (by omega)
  rw [hl]
  have e1 := conv_back w B1 g1 cp1 L 16 hl hb1 rfl
  have e2 := conv_back w B1 g2 cp2 L 16 hl hb2 rfl
  generalize (⟨L.toArray⟩ : ByteArray) = s at e1 e2
  clear h1 h2 hb1 hb2 hl
  go_enter Tryd.func4, Tryd.ntmps4
  go_wp2
  go_ret
  exact ⟨by simp, rfl⟩

theorem law_big (a0 a1 a2 : ByteArray) (w0 : a0.size ≤ maxLen) (w1 : a1.size ≤ maxLen) (w2 : a2.size ≤ maxLen) (h : 1000 < a0.size ∨ 1000 < a1.size ∨ 1000 < a2.size) (w : World) :
    Calls Tryd.prog 3 #[.string a0, .string a1, .string a2] w fun e w' => e = .returned (.bool true) ∧ Below w.heap.size w w' := by
  unfold maxLen at w0 w1 w2
  by_cases x0 : 2147483647 < a0.size
  · go_enter Tryd.func3, Tryd.ntmps3
    go_wp2
    all_goals go_ret
    all_goals exact ⟨rfl, Below.refl _ _⟩
  · by_cases x1 : 2147483647 < a1.size
    · go_enter Tryd.func3, Tryd.ntmps3
      go_wp2
      all_goals go_ret
      all_goals exact ⟨rfl, Below.refl _ _⟩
    · by_cases x2 : 2147483647 < a2.size
      · go_enter Tryd.func3, Tryd.ntmps3
        go_wp2
        all_goals go_ret
        all_goals exact ⟨rfl, Below.refl _ _⟩
      · by_cases y0 : 1000 < a0.size
        · go_enter Tryd.func3, Tryd.ntmps3
          go_wp2
          all_goals go_ret
          all_goals exact ⟨rfl, Below.refl _ _⟩
        · by_cases y1 : 1000 < a1.size
          · go_enter Tryd.func3, Tryd.ntmps3
            go_wp2
            all_goals go_ret
            all_goals exact ⟨rfl, Below.refl _ _⟩
          · have y2 : 1000 < a2.size := by omega
            go_enter Tryd.func3, Tryd.ntmps3
            go_wp2
            all_goals go_ret
            all_goals exact ⟨rfl, Below.refl _ _⟩

theorem short_back (p : ByteArray) (w w' : World) (hk : w'.heap[w.heap.size]? = (Lib.bytesWorld w 5 p).heap[w.heap.size]?) (cp : Nat) :
    (convert 23 9 (.slice (some ⟨w.heap.size, 0, none⟩) p.size cp)).run Tryd.prog w' = .ok (.string p) w' := by
  have h := conv_back w' 0 w.heap.size cp p.data.toList p.size (by simp) ((conv_bytes w p).congr hk) rfl
  exact h
set_option maxRecDepth 100000 in
theorem law_small (u r p : ByteArray) (w : World) (hu : u.size ≤ 1000) (hr : r.size ≤ 1000) (hp : p.size ≤ 1000) (h2 : 2 ≤ w.heap.size) (hsi : w.rangeAt 0 0 (Md5.sines.map U)) (htu : Turns w) :
    Calls Tryd.prog 3 #[.string u, .string r, .string p] w fun e w' => e = .returned (.bool true) ∧ Below w.heap.size w w' := by
  have HSI := Lib.hid hsi
  have HTU := Lib.hid htu
  clear hsi htu
  go_enter Tryd.func3, Tryd.ntmps3
  go_wp2_with fail
  refine Calls.mono (impl_key u r p w hu hr hp) ?_
  rintro e w1 ⟨v1, rfl, hown1, hbel1⟩
  have HO1 := Lib.hid hown1
  have HB1 := Lib.hid hbel1
  have HSI1 := Lib.hid (fun j v (hj : (Md5.sines.map U)[j]? = some v) => (hbel1.cell (p := ⟨0, 0 + j, none⟩) (by show 0 < _; omega)).trans (HSI.out j v hj))
  have HTU1 := Lib.hid (fun j (hj : j < 16) => (hbel1.cell (p := ⟨1, j, none⟩) (by show 1 < _; omega)).trans (HTU.out j hj))
  have h21 : 2 ≤ w1.heap.size := by have := hbel1.size; omega
  clear hown1 hbel1
  go_wp2_with fail
  refine Calls.mono (spec_long u r p w1 hu hr hp h21 HSI1.out HTU1.out) ?_
  rintro e w2 ⟨v2, rfl, hown2, hbel2⟩
  have HO2 := Lib.hid hown2
  have HO12 := Lib.hid (HO1.out.kept hbel2)
  have HB2 := Lib.hid (HB1.out.trans (hbel2.mono HB1.out.size))
  clear hown2 hbel2
  go_wp2_with fail
  refine Calls.mono (same_any v1 v2 _ _ _ w2 HO12.out HO2.out rfl) ?_
  rintro e w3 ⟨rfl, rfl⟩
  go_wp2_with fail
  refine Calls.mono (short_key p w3) ?_
  rintro e w4 ⟨rfl, rfl⟩
  have hcb := short_back p w3 (Lib.bytesWorld w3 5 p) rfl (grownCap w3 p.size 0 5)
  have HB4 := Lib.hid (HB2.out.trans ((conv_below w3 p).mono HB2.out.size))
  go_wp2
  all_goals go_ret
  exact ⟨by simp, HB4.out⟩
/-- ████ THE WALK ████ -/
theorem law_any (u r p : ByteArray) (w : World) (w0 : u.size ≤ maxLen) (w1 : r.size ≤ maxLen) (w2 : p.size ≤ maxLen) (h2 : 2 ≤ w.heap.size) (hsi : w.rangeAt 0 0 (Md5.sines.map U)) (htu : Turns w) :
    Calls Tryd.prog 3 #[.string u, .string r, .string p] w fun e w' => e = .returned (.bool true) ∧ Below w.heap.size w w' := by
  by_cases h : 1000 < u.size ∨ 1000 < r.size ∨ 1000 < p.size
  · exact law_big u r p w0 w1 w2 h w
  · exact law_small u r p w (by omega) (by omega) (by omega) h2 hsi htu
end Go.Proofs.YtcmopgfagooboaaDoor

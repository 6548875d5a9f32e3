/- crc32.slicingMakeTable lays the eight tables in a new block. -/
import Derived.Test.YtpcbdomhhoffkaaCrcTable
namespace Go.Proofs.Ytpcbdomhhoffkaa.Fp
open Go.RowKit

def zeros : Array Value := Array.replicate 2048 (.int .u32 0)
theorem zero52 (w : World) : Sem.run Try.prog (zeroValue 52) w = .ok (.agg zeros) w := by kernel_rfl
theorem tab_zeros (w : World) : Tab (w.alloc (.cells zeros 52)) w.heap.size 2048 (fun _ => 0) := by
  intro j hj
  have hb : (w.alloc (.cells zeros 52)).heap[w.heap.size]? = some (.cells zeros 52) := (MapKept.heap_alloc w _).1
  refine ⟨?_, ?_⟩
  · unfold World.cell?
    simp only [hb]
    unfold zeros
    rw [Array.getElem?_replicate, if_pos hj]
    rfl
  · unfold World.frozen?
    simp only [hb]
    simp

/-- what holds when k columns are laid, and of column k the first m rows -/
structure Laid (B : Nat) (w wr : World) (k m : Nat) (f : Nat → Nat) : Prop where
  tab : Tab wr B 2048 f
  first : ∀ j, j < 256 → f j = Crc.tables j
  cols : ∀ j i, j < 8 → i < k → f (j * 256 + i) = Crc.tables (j * 256 + i)
  col : ∀ j, j < m → f (j * 256 + k) = Crc.tables (j * 256 + k)
  below : Below B w wr
theorem Laid.next {B : Nat} {w wr : World} {k m : Nat} {f : Nat → Nat} (h : Laid B w wr k m f) (hk : k < 256) (hm : m < 8) (hm1 : 0 < m) :
    Laid B w (wr.setCell ⟨B, m * 256 + k, none⟩ (.int .u32 (Crc.tables (m * 256 + k) : Nat))) k (m + 1) (fun j => if j = m * 256 + k then Crc.tables (m * 256 + k) else f j) where
  tab := h.tab.set _ _ (by omega)
  first j hj := by rw [if_neg (by omega)]; exact h.first j hj
  cols j i hj hi := by
    rw [if_neg (by omega)]
    exact h.cols j i hj hi
  col j hj := by
    by_cases e : j = m
    · subst e; rw [if_pos rfl]
    · rw [if_neg (by omega)]; exact h.col j (by omega)
  below := h.below.setCell (Nat.le_refl _) _
theorem Laid.column {B : Nat} {w wr : World} {k : Nat} {f : Nat → Nat} (h : Laid B w wr k 8 f) (hk : k < 256) : ∃ f, Laid B w wr (k + 1) 0 f :=
  ⟨f, h.tab, h.first, fun j i hj hi => by
    by_cases e : i = k
    · subst e; exact h.col j hj
    · exact h.cols j i hj (by omega), fun j hj => by omega, h.below⟩
theorem Laid.first_row {B : Nat} {w wr : World} {k : Nat} {f : Nat → Nat} (h : Laid B w wr k 0 f) (hk : k < 256) : Laid B w wr k 1 f :=
  ⟨h.tab, h.first, h.cols, fun j hj => by
      obtain rfl : j = 0 := by omega
      rw [Nat.zero_mul, Nat.zero_add]
      exact h.first k hk, h.below⟩
theorem Laid.whole {B : Nat} {w wr : World} {f : Nat → Nat} (h : Laid B w wr 256 0 f) : Tab wr B 2048 Crc.tables :=
  h.tab.of fun j hj => by
    have := h.cols (j / 256) (j % 256) (by omega) (by omega)
    rwa [show j / 256 * 256 + j % 256 = j by omega] at this

def Made (w w' : World) : Prop := Tab w' w.heap.size 2048 Crc.tables ∧ Below w.heap.size w w'
set_option maxRecDepth 100000 in
theorem make_any (w : World) : Calls Try.prog 22 #[.int .u32 3988292384] w fun e w' => e = .returned (.pointer (some ⟨w.heap.size, 0, none⟩)) ∧ Made w w' := by
  have hz := fun w => zero52 w
  go_enter Try.func22, Try.ntmps22
  go_wp2_with fail
  refine (pop_any w.heap.size _ _ (tab_zeros w)).mono ?_
  rintro e w1 ⟨rfl, ⟨g0, hg0, hgt⟩, hb⟩
  have hL : ∃ f, Laid w.heap.size w w1 0 0 f := ⟨g0, hg0, hgt, fun j i _ h => by omega, fun j h => by omega, ((Below.refl _ _).alloc (Nat.le_refl _) _).trans hb⟩
  clear hg0 hgt hb
  have HL := Lib.hid hL
  clear hL
  go_wp2_with fail
  go_loopg [4] 256 (fun g i wr => ∃ k : Nat, k + g = 256 ∧ i = .int .i64 k ∧ ∃ f, Laid w.heap.size w wr k 0 f)
  case atStart => exact ⟨0, by omega, rfl, HL.out⟩
  case round =>
    obtain ⟨k, hk, rfl, hF⟩ := hrel
    by_cases hlt : k < 256
    · obtain ⟨f0, hf0⟩ := hF
      have hf1 := hf0.first_row hlt
      have hc := (hf1.tab k (by omega)).1
      rw [hf1.first k hlt] at hc
      have hF : ∃ f, Laid w.heap.size w wr k 1 f := ⟨f0, hf1⟩
      have HF := Lib.hid hF
      clear hF hf0 hf1
      generalize hx : Crc.tables k = x at hc
      have HX := Lib.hid hx
      clear hx
      go_wp2_with fail
      obtain ⟨wo, rfl⟩ : ∃ wo : World, wo = wr := ⟨_, rfl⟩
      obtain ⟨gouter, rfl⟩ : ∃ go : Nat, go = gk := ⟨_, rfl⟩
      go_loopg [5, 6] 7 (fun g c j wr => ∃ m : Nat, 1 ≤ m ∧ m + g = 8 ∧ j = .int .i64 m ∧ c = .int .u32 (Crc.tables ((m - 1) * 256 + k) : Nat) ∧ ∃ f, Laid w.heap.size w wr k m f)
      case atStart => exact ⟨1, by omega, by omega, rfl, by rw [Nat.sub_self, Nat.zero_mul, Nat.zero_add, HX.out], HF.out⟩
      case round =>
        obtain ⟨m, hm1, hm, rfl, rfl, f1, hf1⟩ := hrel
        by_cases hlm : m < 8
        · have hnext := Crc.tables_next (m - 1) k hlt
          rw [show m - 1 + 1 = m by omega] at hnext
          have hxl := Crc.tables_lt ((m - 1) * 256 + k)
          have hnl := Crc.tables_lt (m * 256 + k)
          have hlaid := hf1.next hlt hlm hm1
          have hcell := (hf1.tab (m * 256 + k) (by omega)).1
          have hfro := (hf1.tab (m * 256 + k) (by omega)).2
          generalize Crc.tables ((m - 1) * 256 + k) = y at hnext hxl ⊢
          have hidx := and255 y hxl
          have hul : y % 256 < 256 := Nat.mod_lt _ (by decide)
          generalize y % 256 = u at hidx hul hnext
          have hread := (hf1.tab u (by omega)).1
          rw [hf1.first u hul] at hread
          have htl := Crc.tables_lt u
          generalize Crc.tables u = t at hread htl hnext
          have hxor : bits BinOp.xor .u32 (t : Int) ((y : Int) / 256) = ((t ^^^ y / 256 : Nat) : Int) := xor_u32 t (y / 256) htl (by omega)
          rw [← hnext] at hxor
          clear hnext
          generalize hv : Crc.tables (m * 256 + k) = v at hxor hnl hlaid
          have HV := Lib.hid hv
          have HN := Lib.hid hlaid
          generalize f1 (m * 256 + k) = old at hcell
          clear hv hlaid hf1
          go_wp2
          go_roundg (gk - 1)
          case measure => omega
          case rel => exact ⟨m + 1, by omega, by omega, by go_num, by rw [Nat.add_sub_cancel, HV.out], _, HN.out⟩
        · obtain rfl : m = 8 := by omega
          have HD := Lib.hid (hf1.column hlt)
          clear hf1
          go_wp2
          go_roundg (gouter - 1)
          case measure => omega
          case rel => exact ⟨k + 1, by omega, by go_num, HD.out⟩
    · obtain rfl : k = 256 := by omega
      obtain ⟨f, hf⟩ := hF
      have HM : Hid (Made w wr) := ⟨hf.whole, hf.below⟩
      clear hf
      go_wp2
      go_ret
      exact ⟨rfl, HM.out⟩
end Go.Proofs.Ytpcbdomhhoffkaa.Fp

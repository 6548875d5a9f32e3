/- md5.lePutUint64 and md5.lePutUint32 write numbers into an array of bytes, the lowest byte first. -/
import Derived.Test.YtcmopgfagooboaaDoorDigest
import Derived.WalkSpells
import Derived.Deep.LoopGhost
namespace Go.Proofs.YtcmopgfagooboaaDoor
open Go.RowKit
open Md5 (W H4)

/-- byte i of a number -/
def byteOf (n i : Nat) : UInt8 := UInt8.ofNat (n / 256 ^ i)
theorem byteOf_toNat (n i : Nat) : (byteOf n i).toNat = n / 256 ^ i % 256 := by
  unfold byteOf
  rw [UInt8.toNat_ofNat']
/-- block g is just these bytes -/
def Row (w : World) (g : Nat) (t : TypeId) (L : List UInt8) : Prop := w.heap[g]? = some (.cells (L.map B8).toArray t (0, 0))
section
variable {w w' : World} {g : Nat} {t : TypeId} {L : List UInt8}
theorem Row.cell (h : Row w g t L) (j : Nat) (hj : j < L.length) : w.cell? ⟨g, j, none⟩ = some (B8 (L.getD j 0)) := by
  rw [cell_of_row w g j _ t (0, 0) h]
  simp [List.getD, hj]
theorem Row.free (h : Row w g t L) (j : Nat) : w.frozen? ⟨g, j, none⟩ = false := by
  unfold Row at h
  simp [World.frozen?, h]
theorem Row.set (h : Row w g t L) (j : Nat) (b : UInt8) : Row (w.setCell ⟨g, j, none⟩ (B8 b)) g t (L.set j b) := by
  unfold Row at h ⊢
  rw [set_at w g j _ t _ h, List.map_set]
theorem Row.congr (h : Row w g t L) (e : w'.heap[g]? = w.heap[g]?) : Row w' g t L := e.trans h
theorem Row.lt (h : Row w g t L) : g < w.heap.size := (Array.getElem?_eq_some_iff.1 h).1
theorem Row.bytes (h : Row w g t L) : Bytes w g 0 L := fun j hj => by rw [Nat.zero_add]; exact h.cell j hj
end
theorem B8_of {x : Int} {b : UInt8} (h : x = ((b.toNat : Nat) : Int)) : Value.int .u8 x = B8 b := by rw [h]

/-- four bytes, the lowest first -/
def le32 (x : W) : List UInt8 := [byteOf x.toNat 0, byteOf x.toNat 1, byteOf x.toNat 2, byteOf x.toNat 3]
theorem put32 (g t off n cap : Nat) (x : W) (L : List UInt8) (w : World) (h : Row w g t L) (hn : 4 ≤ n) (hL : off + 4 ≤ L.length) :
    Calls Tryd.prog 25 #[.slice (some ⟨g, off, none⟩) n cap, U x] w fun e w' => e = .returned (.tuple #[]) ∧
      Row w' g t ((((L.set off (byteOf x.toNat 0)).set (off + 1) (byteOf x.toNat 1)).set (off + 2) (byteOf x.toNat 2)).set (off + 3) (byteOf x.toNat 3)) ∧ Only g w w' := by
  have g0 := h.cell off (by omega)
  have g1 := h.cell (off + 1) (by omega)
  have g2 := h.cell (off + 2) (by omega)
  have g3 := h.cell (off + 3) (by omega)
  have z0 := h.free off
  have z1 := h.free (off + 1)
  have z2 := h.free (off + 2)
  have z3 := h.free (off + 3)
  have hx := toNat_lt x
  have b0 := byteOf_toNat x.toNat 0
  have b1 := byteOf_toNat x.toNat 1
  have b2 := byteOf_toNat x.toNat 2
  have b3 := byteOf_toNat x.toNat 3
  generalize byteOf x.toNat 0 = c0 at b0 ⊢
  generalize byteOf x.toNat 1 = c1 at b1 ⊢
  generalize byteOf x.toNat 2 = c2 at b2 ⊢
  generalize byteOf x.toNat 3 = c3 at b3 ⊢
  have HR := Lib.hid ((((h.set off c0).set (off + 1) c1).set (off + 2) c2).set (off + 3) c3)
  have HO := Lib.hid (((((Only.refl g w).setCell (i := off) (B8 c0)).setCell (i := off + 1) (B8 c1)).setCell (i := off + 2) (B8 c2)).setCell (i := off + 3) (B8 c3))
  have e0 : ((x.toNat : Nat) : Int) % 256 = ((c0.toNat : Nat) : Int) := by omega
  have e1 : ((x.toNat : Nat) : Int) / 256 % 256 = ((c1.toNat : Nat) : Int) := by omega
  have e2 : ((x.toNat : Nat) : Int) / 65536 % 256 = ((c2.toNat : Nat) : Int) := by omega
  have e3 : ((x.toNat : Nat) : Int) / 16777216 = ((c3.toNat : Nat) : Int) := by omega
  clear h b0 b1 b2 b3
  go_enter Tryd.func25, Tryd.ntmps25
  go_wp2
  go_end0
  exact ⟨rfl, HR.out, HO.out⟩
/-- eight bytes of a number, the lowest first, laid over a list from a place on -/
def le64 (v : Nat) : List UInt8 := (List.range 8).map (byteOf v)
def lay (L : List UInt8) (off v : Nat) : Nat → List UInt8
  | 0 => L
  | k + 1 => (lay L off v k).set (off + k) (byteOf v k)
theorem lay_length (L : List UInt8) (off v : Nat) : ∀ k, (lay L off v k).length = L.length
  | 0 => rfl
  | k + 1 => by simp [lay, lay_length L off v k]
theorem put64 (g t off n cap v : Nat) (L : List UInt8) (w : World) (h : Row w g t L) (_hv : v < 2 ^ 62) (hn : 8 ≤ n) (hL : off + 8 ≤ L.length) :
    Calls Tryd.prog 24 #[.slice (some ⟨g, off, none⟩) n cap, .int .u64 v] w fun e w' => e = .returned (.tuple #[]) ∧ Row w' g t (lay L off v 8) ∧ Only g w w' := by
  have g7 := h.cell (off + 7) (by omega)
  have HR := Lib.hid h
  clear h
  go_enter Tryd.func24, Tryd.ntmps24
  go_wp2
  clear g7
  go_loopg [4] 8 (fun gk i wr => ∃ k : Nat, k + gk = 8 ∧ i = .int .i64 k ∧ Row wr g t (lay L off v k) ∧ Only g w wr)
  case atStart => exact ⟨0, by omega, rfl, HR.out, Only.refl _ _⟩
  case round =>
    obtain ⟨k, hk, rfl, hr, ho⟩ := hrel
    by_cases hlt : k < 8
    · have gk' := hr.cell (off + k) (by rw [lay_length]; omega)
      have zk := hr.free (off + k)
      have hb := byteOf_toNat v k
      have hset := hr.set (off + k) (byteOf v k)
      have ho2 := ho.setCell (i := off + k) (B8 (byteOf v k))
      have HS : Hid (Row (wr.setCell ⟨g, off + k, none⟩ (B8 (byteOf v k))) g t (lay L off v (k + 1))) := hset
      have HO := Lib.hid ho2
      clear hset ho2 hr ho
      generalize byteOf v k = c at hb HS HO
      have hval : (v : Int) / 2 ^ (8 * k) % 256 = ((c.toNat : Nat) : Int) := by
        rw [hb, show (256 : Nat) = 2 ^ 8 by decide, ← Nat.pow_mul]
        simp
      clear hb
      go_wp2
      go_roundg (gk - 1)
      case measure => omega
      case rel => exact ⟨k + 1, by omega, by go_num, HS.out, HO.out⟩
    · obtain rfl : k = 8 := by omega
      have HS := Lib.hid hr
      have HO := Lib.hid ho
      clear hr ho
      go_wp2
      go_end0
      exact ⟨rfl, HS.out, HO.out⟩
end Go.Proofs.YtcmopgfagooboaaDoor

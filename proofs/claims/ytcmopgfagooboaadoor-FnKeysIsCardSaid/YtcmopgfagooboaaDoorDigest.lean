/- The digest's block in memory, and what stores, copies and whole blocks do to it. -/
import Derived.Test.YtcmopgfagooboaaDoorBlock
import Derived.Laws.CopyOwn
namespace Go.Proofs.YtcmopgfagooboaaDoor
open Go.RowKit
open Md5 (W H4)

abbrev B8 (b : UInt8) : Value := .int .u8 ((b.toNat : Nat) : Int)
/-- only block D may have turned -/
structure Only (D : Nat) (w w' : World) : Prop where
  os : w'.os = w.os
  tape : w'.tape = w.tape
  output : w'.output = w.output
  size : w'.heap.size = w.heap.size
  block : ∀ k, k ≠ D → w'.heap[k]? = w.heap[k]?
theorem Only.refl (D : Nat) (w : World) : Only D w w := ⟨rfl, rfl, rfl, rfl, fun _ _ => rfl⟩
theorem Only.trans {D : Nat} {a b c : World} (h : Only D a b) (k : Only D b c) : Only D a c :=
  ⟨k.os.trans h.os, k.tape.trans h.tape, k.output.trans h.output, k.size.trans h.size, fun i hi => (k.block i hi).trans (h.block i hi)⟩
theorem Only.drewN {D : Nat} {a w : World} (h : Only D a w) (n : Nat) : Only D a (w.drewN n) := ⟨h.os, h.tape, h.output, h.size, h.block⟩
theorem Only.setCell {D : Nat} {a w : World} (h : Only D a w) {i : Nat} (u : Value) : Only D a (w.setCell ⟨D, i, none⟩ u) :=
  h.trans ⟨rfl, rfl, rfl, by simp [World.setCell], fun k hk => Below.heap_setCell _ _ _ _ hk⟩
theorem Only.setRow {D : Nat} {a w : World} (h : Only D a w) (cs : Array Value) : Only D a (w.setRow D cs) :=
  h.trans ⟨rfl, rfl, rfl, by simp [World.setRow], fun k hk => setRow_other _ _ _ _ hk⟩
theorem Only.below {D B : Nat} {w w' : World} (h : Only D w w') (hB : B ≤ D) : Below B w w' :=
  ⟨h.os, h.tape, h.output, by rw [h.size]; exact Nat.le_refl _, fun k hk => h.block k (by omega)⟩
theorem Bytes.congr {w w' : World} {b off : Nat} {L : List UInt8} (h : Bytes w b off L) (hb : w'.heap[b]? = w.heap[b]?) : Bytes w' b off L := fun j hj =>
  (World.cell?_of_block (w := w) hb).trans (h j hj)
theorem Bytes.drop {w : World} {b off : Nat} {L : List UInt8} (h : Bytes w b off L) (k : Nat) : Bytes w b (off + k) (L.drop k) := fun j hj => by
  rw [List.length_drop] at hj
  have := h (k + j) (by omega)
  rw [Nat.add_assoc, this]
  simp [List.getD, List.getElem?_drop]
theorem Bytes.take {w : World} {b off : Nat} {L : List UInt8} (h : Bytes w b off L) (k : Nat) : Bytes w b off (L.take k) := fun j hj => by
  rw [List.length_take] at hj
  rw [h j (by omega)]
  simp [List.getD, show j < k by omega]

/-- the digest's seventy cells -/
def image (h : H4) (Xs : List UInt8) (nx len : Nat) : List Value := [U h.a, U h.b, U h.c, U h.d] ++ (Xs.map B8 ++ [.int .i64 (nx : Nat), .int .u64 (len : Nat)])
theorem image_length (h : H4) (Xs : List UInt8) (nx len : Nat) (hx : Xs.length = 64) : (image h Xs nx len).length = 70 := by simp [image, hx]
/-- block D is a digest -/
structure Raw (w : World) (D : Nat) (h : H4) (Xs : List UInt8) (nx len : Nat) : Prop where
  xl : Xs.length = 64
  blk : w.heap[D]? = some (.cells (image h Xs nx len).toArray 47 (0, 0))
section
variable {w w' : World} {D : Nat} {h : H4} {Xs : List UInt8} {nx len : Nat}
theorem Raw.cell (r : Raw w D h Xs nx len) (j : Nat) : w.cell? ⟨D, j, none⟩ = (image h Xs nx len)[j]? := by
  rw [cell_of_row w D j _ 47 (0, 0) r.blk]; simp
theorem Raw.c0 (r : Raw w D h Xs nx len) : w.cell? ⟨D, 0, none⟩ = some (U h.a) := r.cell 0
theorem Raw.c1 (r : Raw w D h Xs nx len) : w.cell? ⟨D, 1, none⟩ = some (U h.b) := r.cell 1
theorem Raw.c2 (r : Raw w D h Xs nx len) : w.cell? ⟨D, 2, none⟩ = some (U h.c) := r.cell 2
theorem Raw.c3 (r : Raw w D h Xs nx len) : w.cell? ⟨D, 3, none⟩ = some (U h.d) := r.cell 3
theorem Raw.cx (r : Raw w D h Xs nx len) (j : Nat) (hj : j < 64) : w.cell? ⟨D, 4 + j, none⟩ = some (B8 (Xs.getD j 0)) := by
  have hx : j < Xs.length := by rw [r.xl]; exact hj
  rw [r.cell, image, List.getElem?_append_right (by simp), show 4 + j - [U h.a, U h.b, U h.c, U h.d].length = j by simp, List.getElem?_append_left (by simpa using hx)]
  simp [List.getD, hx]
theorem Raw.cnx (r : Raw w D h Xs nx len) : w.cell? ⟨D, 68, none⟩ = some (.int .i64 (nx : Nat)) := by
  rw [r.cell, image, List.getElem?_append_right (by simp), List.getElem?_append_right (by simp [r.xl])]
  simp [r.xl]
theorem Raw.clen (r : Raw w D h Xs nx len) : w.cell? ⟨D, 69, none⟩ = some (.int .u64 (len : Nat)) := by
  rw [r.cell, image, List.getElem?_append_right (by simp), List.getElem?_append_right (by simp [r.xl])]
  simp [r.xl]
theorem Raw.free (r : Raw w D h Xs nx len) (j : Nat) : w.frozen? ⟨D, j, none⟩ = false := by
  simp [World.frozen?, r.blk]
theorem Raw.bytes (r : Raw w D h Xs nx len) : Bytes w D 4 Xs := fun j hj => r.cx j (by rw [← r.xl]; exact hj)
theorem Raw.lt (r : Raw w D h Xs nx len) : D < w.heap.size := (Array.getElem?_eq_some_iff.1 r.blk).1
theorem Raw.congr (r : Raw w D h Xs nx len) (e : w'.heap[D]? = w.heap[D]?) : Raw w' D h Xs nx len := ⟨r.xl, e.trans r.blk⟩
theorem Raw.drewN (r : Raw w D h Xs nx len) (n : Nat) : Raw (w.drewN n) D h Xs nx len := ⟨r.xl, r.blk⟩
theorem set_at (w : World) (D i : Nat) (cs : List Value) (t : TypeId) (u : Value) (hb : w.heap[D]? = some (.cells cs.toArray t (0, 0))) : (w.setCell ⟨D, i, none⟩ u).heap[D]? = some (.cells (cs.set i u).toArray t (0, 0)) := by
  simp [World.setCell, Array.getElem?_modify, hb]
theorem Raw.setNx (r : Raw w D h Xs nx len) (k : Nat) : Raw (w.setCell ⟨D, 68, none⟩ (.int .i64 (k : Nat))) D h Xs k len := by
  refine ⟨r.xl, ?_⟩
  rw [set_at w D 68 _ 47 _ r.blk]
  congr 3
  rw [image, List.set_append_right _ _ (by simp), List.set_append_right _ _ (by simp [r.xl])]
  simp [r.xl, image]
theorem Raw.setLen (r : Raw w D h Xs nx len) (k : Nat) : Raw (w.setCell ⟨D, 69, none⟩ (.int .u64 (k : Nat))) D h Xs nx k := by
  refine ⟨r.xl, ?_⟩
  rw [set_at w D 69 _ 47 _ r.blk]
  congr 3
  rw [image, List.set_append_right _ _ (by simp), List.set_append_right _ _ (by simp [r.xl])]
  simp [r.xl, image]
theorem Raw.blocked {h' : H4} (r : Raw w D h Xs nx len) (hb : Blocked D h' w w') : Raw w' D h' Xs nx len ∧ Only D w w' := by
  obtain ⟨q, rfl⟩ := hb
  refine ⟨⟨r.xl, ?_⟩, ((((((Only.refl D w).drewN q).setCell _).setCell _).setCell _).setCell _)⟩
  rw [set_at _ D 3 _ 47 _ (set_at _ D 2 _ 47 _ (set_at _ D 1 _ 47 _ (set_at _ D 0 _ 47 _ (r.drewN q).blk)))]
  simp [image]
theorem Raw.copied (r : Raw w D h Xs nx len) (k : Nat) (P : List UInt8) (hk : k + P.length ≤ 64) :
    Raw (w.setRow D ((image h Xs nx len).take (4 + k) ++ (P.map B8 ++ (image h Xs nx len).drop (4 + k + P.length))).toArray) D h (Xs.take k ++ (P ++ Xs.drop (k + P.length))) nx len := by
  refine ⟨by simp [r.xl]; omega, ?_⟩
  rw [setRow_heap w D _ _ 47 (0, 0) r.blk]
  congr 3
  have hx := r.xl
  simp only [image]
  rw [List.take_append, List.take_of_length_le (by simp), List.drop_append, List.drop_of_length_le (by simp; omega)]
  simp only [List.length_cons, List.length_nil, List.nil_append, List.map_append, List.append_assoc]
  congr 1
  rw [show 4 + k - (0 + 1 + 1 + 1 + 1) = k by omega, show 4 + k + P.length - (0 + 1 + 1 + 1 + 1) = k + P.length by omega]
  rw [List.take_append, List.drop_append]
  simp only [List.length_map, hx]
  rw [show k - 64 = 0 by omega, show k + P.length - 64 = 0 by omega]
  simp [List.map_take, List.map_drop]
end
theorem size5 : (Tryd.prog.info? 5).map (·.size) = some 1 := by kernel_rfl
theorem add_at (b o j : Nat) : (⟨b, o, none⟩ : Addr).add j = ⟨b, o + j, none⟩ := by
  unfold Addr.add
  split <;> simp_all
/-- copy into the digest's room for bytes -/
theorem wpList_copy_raw {w : World} {ops : Array Oper} {rest : List Oper} {op : Oper} {a : Act} {Q : Exit → Act → World → Prop} {D : Nat} {h : H4} {Xs : List UInt8} {nx len : Nat} (hgd : op.guard = none) (d s : Operand)
    (ho : op.op = .call { callee := .builtin .copy, args := #[d, s], argTypes := #[23, 23] }) (r : Raw w D h Xs nx len) (k off dLen dCap : Nat) (hoff : off = 4 + k) (hd : a.eval d = .slice (some ⟨D, off, none⟩) dLen dCap)
    (b o sLen sCap : Nat) (hs : a.eval s = .slice (some ⟨b, o, none⟩) sLen sCap) (L : List UInt8) (hb : Bytes w b o L) (hl : L.length = Nat.min sLen dLen) (hk : k + L.length ≤ 64)
    (hnext : ∀ w', Raw w' D h (Xs.take k ++ (L ++ Xs.drop (k + L.length))) nx len → Only D w w' → wpList Tryd.prog ops Q rest (a.put op.dst (goInt L.length)) w') : wpList Tryd.prog ops Q (op :: rest) a w := by
  subst hoff
  have hc := wpList_copy_own (P := Tryd.prog) (w := w) (ops := ops) (rest := rest) (Q := Q) hgd d s 23 23 ho 5 Tryd.underlying23 size5 D (4 + k) dLen dCap ⟨b, o, none⟩ sLen sCap hd hs (image h Xs nx len).toArray 47 r.blk (L.map B8)
    (by rw [List.length_map]; exact hl) (fun j v hv => by
      rw [List.getElem?_map] at hv
      cases hx : L[j]? with
      | none => rw [hx] at hv; cases hv
      | some x =>
        rw [hx] at hv
        injection hv with hv
        subst hv
        have hj : j < L.length := (List.getElem?_eq_some_iff.1 hx).1
        rw [add_at, hb j hj, show L.getD j 0 = x by simp [List.getD, hx]])
    (by simp only [List.length_map, List.size_toArray, image_length h Xs nx len r.xl]; omega) (fun v hv => by obtain ⟨x, _, rfl⟩ := List.mem_map.1 hv; rfl)
  rw [List.length_map] at hc
  exact hc (hnext _ (r.copied k L hk) ((Only.refl D w).setRow _))
end Go.Proofs.YtcmopgfagooboaaDoor

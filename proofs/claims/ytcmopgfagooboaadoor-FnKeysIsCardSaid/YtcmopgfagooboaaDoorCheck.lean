/- md5.digest.checkSum hands back the sixteen bytes of MD5. -/
import Derived.Test.YtcmopgfagooboaaDoorPad
import Derived.Laws.Rows
import Derived.Laws.ResultCell
namespace Go.Proofs.YtcmopgfagooboaaDoor
open Go.RowKit
open Md5 (W H4)

/-- no old block but D has turned -/
structure Past (D : Nat) (w w' : World) : Prop where
  os : w'.os = w.os
  tape : w'.tape = w.tape
  output : w'.output = w.output
  size : w.heap.size ≤ w'.heap.size
  block : ∀ k, k < w.heap.size → k ≠ D → w'.heap[k]? = w.heap[k]?
theorem Past.only {D : Nat} {a w w' : World} (h : Past D a w) (o : Only D w w') : Past D a w' :=
  ⟨o.os.trans h.os, o.tape.trans h.tape, o.output.trans h.output, by rw [o.size]; exact h.size, fun k hk hn => (o.block k hn).trans (h.block k hk hn)⟩
theorem Past.new {D g : Nat} {a w w' : World} (h : Past D a w) (o : Only g w w') (hg : a.heap.size ≤ g) : Past D a w' :=
  ⟨o.os.trans h.os, o.tape.trans h.tape, o.output.trans h.output, by rw [o.size]; exact h.size, fun k hk hn => (o.block k (by omega)).trans (h.block k hk hn)⟩
theorem Past.alloc {D : Nat} {a w : World} (h : Past D a w) (o : Obj) : Past D a (w.alloc o) :=
  ⟨h.os, h.tape, h.output, by have := h.size; simp; omega, fun k hk hn => (Below.heap_alloc w o k (by have := h.size; omega)).trans (h.block k hk hn)⟩
theorem Past.refl (D : Nat) (w : World) : Past D w w := ⟨rfl, rfl, rfl, Nat.le_refl _, fun _ _ _ => rfl⟩

def z16 : Array Value := ((List.replicate 16 0).map B8).toArray
theorem zero49_is (w : World) : Sem.run Tryd.prog (zeroValue 49) w = .ok (.agg z16) w := by kernel_rfl
def z72 : Array Value := ((List.replicate 72 0).map B8).toArray
theorem zero53_is (w : World) : Sem.run Tryd.prog (zeroValue 53) w = .ok (.agg z72) w := by kernel_rfl
theorem info53 : (Tryd.prog.info? 53).map (·.size) = some 72 := by kernel_rfl
theorem info49 : (Tryd.prog.info? 49).map (·.size) = some 16 := by kernel_rfl
theorem p72_is : z72.setIfInBounds 0 (.int .u8 128) = ((128 :: List.replicate 71 0).map B8).toArray := by rfl
/-- the sixteen bytes of a state -/
def out16 (h : H4) : List UInt8 := le32 h.a ++ (le32 h.b ++ (le32 h.c ++ le32 h.d))
theorem row_all (L : List UInt8) : (L.map B8).toArray.all (·.oneCell') = true := by
  rw [Array.all_eq_true_iff_forall_mem]
  intro v hv
  obtain ⟨x, _, rfl⟩ := List.mem_map.1 (by simpa using hv)
  rfl

/-- what the bytes behind make of the state -/
def final (h : H4) (Xs : List UInt8) (len : Nat) : H4 := Md5.blocks ((len % 64 + 9 + padOf len) / 64) h (Xs.take (len % 64) ++ tail len)

theorem pad_wrap (len : Nat) (_h : len ≤ 900000) : (IntKind.u64.wrap (55 - (len : Int))).tmod 64 = ((padOf len : Nat) : Int) := by
  rw [IntKind.wrap_u64, Int.tmod_eq_emod_of_nonneg (Int.emod_nonneg _ (by decide))]
  unfold padOf
  omega

/-- the array of 72 bytes that begins with 128 is laid -/
theorem store_tmp {ops : Array Oper} {rest : List Oper} {o : Oper} {a : Act} {w : World} {Q : Exit → Act → World → Prop} (hgd : o.guard = none) (x y : Operand) (ho : o.op = .store 53 x y)
    (hx : a.eval x = .pointer (some ⟨w.heap.size + 1, 0, none⟩)) (hy : a.eval y = .agg (z72.setIfInBounds 0 (.int .u8 128))) (D : Nat) (hD : D < w.heap.size)
    (h : ∀ w2, Row w2 (w.heap.size + 1) 53 (128 :: List.replicate 71 0) → w2.heap[w.heap.size]? = some (.cells z16 49 (0, 0)) → Past D w w2 → w2.heap.size = w.heap.size + 2 → w2.heap[D]? = w.heap[D]? → wpList Tryd.prog ops Q rest (a.put o.dst undef) w2) :
    wpList Tryd.prog ops Q (o :: rest) a ((w.alloc (.cells z16 49)).alloc (.cells z72 53)) := by
  refine wpList_store_row hgd 53 x y ho (w.heap.size + 1) (z72.setIfInBounds 0 (.int .u8 128)) hx hy 53 z72 (heap_alloc2_new w _ _) info53 rfl (by rw [p72_is]; exact row_all _) (h _ ?_ ?_ ?_ ?_ ?_)
  · unfold Row
    rw [← p72_is]
    exact setRow_heap _ _ z72 _ 53 (0, 0) (heap_alloc2_new w _ _)
  · rw [setRow_other _ _ _ _ (by omega), Below.heap_alloc _ _ _ (by simp)]
    exact heap_alloc_new w _
  · exact (((Past.refl D w).alloc _).alloc _).new ((Only.refl (w.heap.size + 1) _).setRow _) (by omega)
  · simp [World.setRow]
  · rw [setRow_other _ _ _ _ (by omega), Below.heap_alloc _ _ _ (by simp; omega), Below.heap_alloc _ _ _ hD]

set_option maxRecDepth 100000 in
set_option maxHeartbeats 2000000 in
theorem check_any (D : Nat) (hst : H4) (Xs : List UInt8) (len : Nat) (w : World) (r : Raw w D hst Xs (len % 64) len) (hlen : len ≤ 900000) :
    Calls Tryd.prog 21 #[.pointer (some ⟨D, 0, none⟩)] w fun e w' => e = .returned (.agg ((out16 (final hst Xs len)).map B8).toArray) ∧ Past D w w' := by
  have h1 := zero49_is
  have h2 := zero53_is
  have hlt := r.lt
  have hpad := pad_wrap len hlen
  have hpl := pad_lt len
  have HLay := Lib.hid (lay_tail len)
  have HPad := Lib.hid (fun (w : World) g Xs (hs : H4) r hb hg => pad_any D g len hs Xs w r hlen hb hg)
  have HT := Lib.hid (tail_length len)
  have hfin : final hst Xs len = Md5.blocks ((len % 64 + 9 + padOf len) / 64) hst (Xs.take (len % 64) ++ tail len) := rfl
  generalize padOf len = p at *
  have HF := Lib.hid hfin
  clear hfin
  have HR := Lib.hid r
  clear r
  go_enter Tryd.func21, Tryd.ntmps21
  go_wp2_with (refine store_tmp rfl _ _ rfl rfl rfl D hlt ?_; intro w2 hrow hz hpast hsize hD2; have r2 := HR.out.congr hD2; have g69 := r2.clen; have R2 := Lib.hid r2; have Hrow := Lib.hid hrow; have Hz := Lib.hid hz; have Hpast := Lib.hid hpast; clear r2 hrow hz hpast hD2)
  have i1 : (1 : Int) + (p : Int) ≤ 72 := by omega
  have i2 : (0 : Int) ≤ 1 + (p : Int) := by omega
  have i3 : ¬ (72 = 1 + p) := by omega
  have i4 : (1 + (p : Int)).toNat = 1 + p := by omega
  have hput : Calls Tryd.prog 24 #[.slice (some ⟨w.heap.size + 1, 1 + p, none⟩) (72 - (1 + p)) (72 - (1 + p)), .int .u64 ((len : Int) * 8)] (w2.drewN 1) fun e w' => e = .returned (.tuple #[]) ∧ Row w' (w.heap.size + 1) 53 (lay (128 :: List.replicate 71 0) (1 + p) (8 * len) 8) ∧ Only (w.heap.size + 1) (w2.drewN 1) w' := by
    have := put64 (w.heap.size + 1) 53 (1 + p) (72 - (1 + p)) (72 - (1 + p)) (8 * len) (128 :: List.replicate 71 0) (w2.drewN 1) Hrow.out (by omega) (by omega) (by simp; omega)
    rwa [show ((8 * len : Nat) : Int) = (len : Int) * 8 by omega] at this
  have HPut := Lib.hid hput
  have i5 : IntKind.u64.wrap (1 + (p : Int)) = 1 + (p : Int) := by rw [IntKind.wrap_u64]; omega
  have i6 : IntKind.u64.wrap ((len : Int) * 8) = (len : Int) * 8 := by rw [IntKind.wrap_u64]; omega
  clear hput
  go_still_tail 8, (by kernel_rfl)
  clear i5 i6
  go_wp2_with fail
  refine HPut.out.mono ?_
  rintro e w3 ⟨rfl, hrow3, ho3⟩
  have hb3 : Bytes w3 (w.heap.size + 1) 0 (tail len) := by rw [← HLay.out]; exact hrow3.bytes.take (9 + p)
  have hr3 : Raw w3 D hst Xs (len % 64) len := R2.out.congr (ho3.block D (by omega))
  have HK := Lib.hid (HPad.out w3 (w.heap.size + 1) Xs hst hr3 hb3 (by omega))
  have hz3 : w3.heap[w.heap.size]? = some (.cells z16 49 (0, 0)) := (ho3.block w.heap.size (by omega)).trans Hz.out
  have hp3 : Past D w w3 := Hpast.out.new (((Only.refl (w.heap.size + 1) w2).drewN 1).trans ho3) (by omega)
  have Hz3 := Lib.hid hz3
  have Hp3 := Lib.hid hp3
  have hs3 : w3.heap.size = w.heap.size + 2 := ho3.size.trans hsize
  have Hs3 := Lib.hid hs3
  clear hrow3 ho3 hb3 hr3 hz3 hp3 hs3 hsize Hrow Hz Hpast R2 HPut HPad HLay HT g69 i1 i2 i3 i4
  have j1 : (0 : Int) ≤ 1 + (p : Int) + 8 := by omega
  have j2 : 1 + (p : Int) + 8 ≤ 72 := by omega
  have j3 : (1 + (p : Int) + 8).toNat = 9 + p := by omega
  have j4 : 1 + p + 8 = 9 + p := by omega
  go_wp2_with fail
  refine HK.out.mono ?_
  rintro e w4 ⟨rfl, ⟨Ys, hr4⟩, ho4⟩
  rw [← HF.out] at hr4
  have g68 := hr4.cnx
  have hz4 : w4.heap[w.heap.size]? = some (.cells z16 49 (0, 0)) := (ho4.block w.heap.size (by omega)).trans Hz3.out
  have hs4 : w4.heap.size = w.heap.size + 2 := ho4.size.trans Hs3.out
  have hr5 : Raw (w4.alloc (.cells z16 49)) D (final hst Xs len) Ys 0 (len + (9 + p)) := hr4.congr (Below.heap_alloc _ _ _ (by omega))
  have hz5 : (w4.alloc (.cells z16 49)).heap[w.heap.size]? = some (.cells z16 49 (0, 0)) := (Below.heap_alloc _ _ _ (by omega)).trans hz4
  have hp5 : Past D w (w4.alloc (.cells z16 49)) := (Hp3.out.only ho4).alloc _
  have hrow5 : Row (w4.alloc (.cells z16 49)) w4.heap.size 49 (List.replicate 16 0) := heap_alloc_new w4 _
  have R5 := Lib.hid hr5
  have Hz5 := Lib.hid hz5
  have Hp5 := Lib.hid hp5
  have Hr5 := Lib.hid hrow5
  have hle4 : w.heap.size + 2 ≤ w4.heap.size := by omega
  clear hr4 ho4 hz4 hs4 hr5 hz5 hp5 hrow5 HK HF Hz3 Hp3 Hs3 j1 j2 j3 j4 hpad
  go_wp2_with fail
  generalize hfin : final hst Xs len = hf at R5
  have HFin := Lib.hid hfin
  clear hfin
  generalize hw5 : w4.alloc (.cells z16 49) = w5 at R5 Hz5 Hp5 Hr5 ⊢
  have HW5 := Lib.hid hw5
  clear hw5
  generalize w4.heap.size = T at Hr5 hle4 ⊢
  have hTD : D ≠ T := by omega
  have hTw : w.heap.size ≠ T := by omega
  have hTl : w.heap.size ≤ T := by omega
  have g0 := R5.out.c0
  go_still_tail 6, (by kernel_rfl)
  go_wp2_with fail
  refine (put32 T 49 0 16 16 hf.a (List.replicate 16 0) (w5.drewN 1) Hr5.out (by omega) (by simp)).mono ?_
  rintro e w6 ⟨rfl, hrow, ho⟩
  have ho' := ((Only.refl T w5).drewN 1).trans ho
  have R6 := Lib.hid (R5.out.congr (ho'.block D hTD))
  have Hz6 := Lib.hid ((ho'.block w.heap.size hTw).trans Hz5.out)
  have Hp6 := Lib.hid (Hp5.out.new ho' hTl)
  obtain ⟨L1, hL1⟩ : ∃ L, (((((List.replicate 16 0).set 0 (byteOf hf.a.toNat 0)).set (0 + 1) (byteOf hf.a.toNat 1)).set (0 + 2) (byteOf hf.a.toNat 2)).set (0 + 3) (byteOf hf.a.toNat 3)) = L := ⟨_, rfl⟩
  rw [hL1] at hrow
  have HL1 : Hid (L1.length = 16) := by show L1.length = 16; rw [← hL1]; simp
  have HE1 := Lib.hid hL1
  have Hr6 := Lib.hid hrow
  clear hrow ho ho' hL1 g0 R5 Hz5 Hp5 Hr5
  go_wp2_with fail
  have g1 := R6.out.c1
  go_still_tail 6, (by kernel_rfl)
  go_wp2_with fail
  refine (put32 T 49 4 12 12 hf.b L1 (w6.drewN 1) Hr6.out (by omega) (by rw [HL1.out]; omega)).mono ?_
  rintro e w7 ⟨rfl, hrow, ho⟩
  have ho' := ((Only.refl T w6).drewN 1).trans ho
  have R7 := Lib.hid (R6.out.congr (ho'.block D hTD))
  have Hz7 := Lib.hid ((ho'.block w.heap.size hTw).trans Hz6.out)
  have Hp7 := Lib.hid (Hp6.out.new ho' hTl)
  obtain ⟨L2, hL2⟩ : ∃ L, ((((L1.set 4 (byteOf hf.b.toNat 0)).set (4 + 1) (byteOf hf.b.toNat 1)).set (4 + 2) (byteOf hf.b.toNat 2)).set (4 + 3) (byteOf hf.b.toNat 3)) = L := ⟨_, rfl⟩
  rw [hL2] at hrow
  have HL2 : Hid (L2.length = 16) := by show L2.length = 16; rw [← hL2]; simp; exact HL1.out
  have HE2 := Lib.hid hL2
  have Hr7 := Lib.hid hrow
  clear hrow ho ho' hL2 g1 R6 Hz6 Hp6 Hr6
  go_wp2_with fail
  have g2 := R7.out.c2
  go_still_tail 6, (by kernel_rfl)
  go_wp2_with fail
  refine (put32 T 49 8 8 8 hf.c L2 (w7.drewN 1) Hr7.out (by omega) (by rw [HL2.out]; omega)).mono ?_
  rintro e w8 ⟨rfl, hrow, ho⟩
  have ho' := ((Only.refl T w7).drewN 1).trans ho
  have R8 := Lib.hid (R7.out.congr (ho'.block D hTD))
  have Hz8 := Lib.hid ((ho'.block w.heap.size hTw).trans Hz7.out)
  have Hp8 := Lib.hid (Hp7.out.new ho' hTl)
  obtain ⟨L3, hL3⟩ : ∃ L, ((((L2.set 8 (byteOf hf.c.toNat 0)).set (8 + 1) (byteOf hf.c.toNat 1)).set (8 + 2) (byteOf hf.c.toNat 2)).set (8 + 3) (byteOf hf.c.toNat 3)) = L := ⟨_, rfl⟩
  rw [hL3] at hrow
  have HL3 : Hid (L3.length = 16) := by show L3.length = 16; rw [← hL3]; simp; exact HL2.out
  have HE3 := Lib.hid hL3
  have Hr8 := Lib.hid hrow
  clear hrow ho ho' hL3 g2 R7 Hz7 Hp7 Hr7
  go_wp2_with fail
  have g3 := R8.out.c3
  go_still_tail 6, (by kernel_rfl)
  go_wp2_with fail
  refine (put32 T 49 12 4 4 hf.d L3 (w8.drewN 1) Hr8.out (by omega) (by rw [HL3.out]; omega)).mono ?_
  rintro e w9 ⟨rfl, hrow, ho⟩
  have ho' := ((Only.refl T w8).drewN 1).trans ho
  have R9 := Lib.hid (R8.out.congr (ho'.block D hTD))
  have Hz9 := Lib.hid ((ho'.block w.heap.size hTw).trans Hz8.out)
  have Hp9 := Lib.hid (Hp8.out.new ho' hTl)
  obtain ⟨L4, hL4⟩ : ∃ L, ((((L3.set 12 (byteOf hf.d.toNat 0)).set (12 + 1) (byteOf hf.d.toNat 1)).set (12 + 2) (byteOf hf.d.toNat 2)).set (12 + 3) (byteOf hf.d.toNat 3)) = L := ⟨_, rfl⟩
  rw [hL4] at hrow
  have HL4 : Hid (L4.length = 16) := by show L4.length = 16; rw [← hL4]; simp; exact HL3.out
  have HE4 := Lib.hid hL4
  have Hr9 := Lib.hid hrow
  clear hrow ho ho' hL4 g3 R8 Hz8 Hp8 Hr8
  have HEnd : Hid (L4 = out16 hf) := by
    show L4 = out16 hf
    rw [← HE4.out, ← HE3.out, ← HE2.out, ← HE1.out]
    rfl
  obtain ⟨CS, hCS⟩ : ∃ CS, (L4.map B8).toArray = CS := ⟨_, rfl⟩
  have hcs : CS.size = 16 := by rw [← hCS]; simp; exact HL4.out
  have hload : (Tryd.prog.info? 49).map (·.size) = some CS.size := by rw [hcs]; exact info49
  have hall : CS.all (·.oneCell') = true := by rw [← hCS]; exact row_all _
  have hheap : w9.heap[T]? = some (.cells CS 49 (0, 0)) := by rw [← hCS]; exact Hr9.out
  have hz16 : z16.size = CS.size := by rw [hcs]; rfl
  have HCS := Lib.hid hCS
  have Hload := Lib.hid hload
  have Hall := Lib.hid hall
  have Hheap := Lib.hid hheap
  have Hz16 := Lib.hid hz16
  clear hCS hcs hload hall hheap hz16 Hr9
  go_wp2_with (first | (refine wpList_load_row rfl 49 _ rfl T rfl 49 CS (0, 0) _ Hheap.out Tryd.underlying49 rfl Hload.out ?_) | (refine wpList_store_row rfl 49 _ _ rfl w.heap.size CS rfl rfl 49 z16 Hz9.out Hload.out Hz16.out Hall.out ?_))
  refine bodyPost_ret (v := .agg CS) (results_cell_row rfl _ _ w.heap.size 49 CS (0, 0) _ rfl (setRow_heap _ _ _ _ 49 (0, 0) Hz9.out) Tryd.underlying49 rfl Hload.out) rfl ?_
  refine ⟨?_, Hp9.out.new ((Only.refl w.heap.size w9).setRow _) (Nat.le_refl _)⟩
  rw [← HCS.out, HEnd.out, HFin.out]
end Go.Proofs.YtcmopgfagooboaaDoor

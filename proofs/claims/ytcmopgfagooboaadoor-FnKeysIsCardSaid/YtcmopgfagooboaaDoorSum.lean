/- md5.digest.Sum behind nothing: a new slice with the sixteen bytes; the digest itself stays. -/
import Derived.Test.YtcmopgfagooboaaDoorCheck
import Derived.OwnWalk
namespace Go.Proofs.YtcmopgfagooboaaDoor
open Go.RowKit
open Md5 (W H4)

/-- a whole array or struct is laid into a block that was made just now -/
theorem store_new {P : Program} {ops : Array Oper} {rest : List Oper} {o : Oper} {a : Act} {w : World} {Q : Exit → Act → World → Prop} (hgd : o.guard = none) (ty : TypeId) (x y : Operand) (ho : o.op = .store ty x y) (t : TypeId) (Z CS : Array Value)
    (hx : a.eval x = .pointer (some ⟨w.heap.size, 0, none⟩)) (hy : a.eval y = .agg CS) (hi : (P.info? ty).map (·.size) = some CS.size) (hz : Z.size = CS.size) (h1 : CS.all (·.oneCell') = true)
    (h : ∀ w2, w2.heap[w.heap.size]? = some (.cells CS t (0, 0)) → Below w.heap.size w w2 → w2.heap.size = w.heap.size + 1 → wpList P ops Q rest (a.put o.dst undef) w2) :
    wpList P ops Q (o :: rest) a (w.alloc (.cells Z t)) := by
  refine wpList_store_row hgd ty x y ho w.heap.size CS hx hy t Z (heap_alloc_new w _) hi hz h1 (h _ ?_ ?_ ?_)
  · exact setRow_heap _ _ Z _ t (0, 0) (heap_alloc_new w _)
  · exact below_setRow ((Below.refl w.heap.size w).alloc (Nat.le_refl _) _) (Nat.le_refl _) _
  · simp [World.setRow]
theorem info47 : (Tryd.prog.info? 47).map (·.size) = some 70 := by kernel_rfl
theorem info5 : (Tryd.prog.info? 5).map (fun i => (i.zero, i.size, i.bytes)) = some (some (.int .u8 0), 1, 1) := by kernel_rfl
theorem image_all (h : H4) (Xs : List UInt8) (nx len : Nat) : (image h Xs nx len).toArray.all (·.oneCell') = true := by
  rw [Array.all_eq_true_iff_forall_mem]
  intro v hv
  have hv : v ∈ image h Xs nx len := by simpa using hv
  simp only [image, List.mem_append, List.mem_cons, List.not_mem_nil, or_false, List.mem_map] at hv
  rcases hv with (rfl | rfl | rfl | rfl) | ⟨x, _, rfl⟩ | rfl | rfl <;> rfl
theorem Past.below {D B : Nat} {w w' : World} (h : Past D w w') (hB : B ≤ D) (hs : B ≤ w.heap.size) : Below B w w' :=
  ⟨h.os, h.tape, h.output, h.size, fun k hk => h.block k (by omega) (by omega)⟩

set_option maxRecDepth 100000 in
set_option maxHeartbeats 1000000 in
theorem sum_any (D : Nat) (hst : H4) (Xs : List UInt8) (len : Nat) (w : World) (r : Raw w D hst Xs (len % 64) len) (hlen : len ≤ 900000) :
    Calls Tryd.prog 13 #[.pointer (some ⟨D, 0, none⟩), .slice none 0 0] w fun e w' => ∃ v, e = .returned v ∧ w'.ownsRow w.heap.size 5 1 v 16 ((out16 (final hst Xs len)).map B8) ∧ Below w.heap.size w w' := by
  have hz := zero47_is
  have hz9 := zero49_is
  obtain ⟨i0, hi, hz0, hz1, hz2⟩ := info_parts info5
  obtain ⟨CS, hCS⟩ : ∃ CS, (image hst Xs (len % 64) len).toArray = CS := ⟨_, rfl⟩
  have hblk := r.blk
  rw [hCS] at hblk
  have hsz : CS.size = 70 := by rw [← hCS, List.size_toArray, image_length _ _ _ _ r.xl]
  have Hblk := Lib.hid hblk
  have Hload : Hid ((Tryd.prog.info? 47).map (·.size) = some CS.size) := by show _ = _; rw [hsz]; exact info47
  have Hz47 : Hid (zero47.size = CS.size) := by show _ = _; rw [hsz]; rfl
  have Hall : Hid (CS.all (·.oneCell') = true) := by show _ = _; rw [← hCS]; exact image_all _ _ _ _
  have HCS := Lib.hid hCS
  have Hxl := Lib.hid r.xl
  obtain ⟨OS, hOS⟩ : ∃ OS, ((out16 (final hst Xs len)).map B8).toArray = OS := ⟨_, rfl⟩
  have HOS := Lib.hid hOS
  have hos : OS.size = 16 := by rw [← hOS]; simp [out16, le32]
  have Hoload : Hid ((Tryd.prog.info? 49).map (·.size) = some OS.size) := by show _ = _; rw [hos]; exact info49
  have Hoz : Hid (z16.size = OS.size) := by show _ = _; rw [hos]; rfl
  have Hoall : Hid (OS.all (·.oneCell') = true) := by show _ = _; rw [← hOS]; exact row_all _
  clear r hblk hCS hsz hOS hos
  go_enter Tryd.func13, Tryd.ntmps13
  go_wp2_with (first
    | (refine wpList_load_row rfl 47 _ rfl D rfl 47 CS (0, 0) _ Hblk.out Tryd.underlying47 rfl Hload.out ?_)
    | (refine store_new rfl 47 _ _ rfl 47 zero47 CS rfl rfl Hload.out Hz47.out Hall.out ?_; intro w2 hb2 hbel hs2; have Hb2 := Lib.hid hb2; have Hbel := Lib.hid hbel; have Hs2 := Lib.hid hs2; clear hb2 hbel hs2))
  have r2 : Raw w2 w.heap.size hst Xs (len % 64) len := ⟨Hxl.out, by rw [HCS.out]; exact Hb2.out⟩
  refine (check_any w.heap.size hst Xs len w2 r2 hlen).mono ?_
  rintro e w3 ⟨rfl, hp⟩
  have hbel3 := Hbel.out.trans (hp.below (Nat.le_refl _) (by have := Hs2.out; omega))
  have hge : w.heap.size ≤ w3.heap.size := hbel3.size
  have Hbel3 := Lib.hid hbel3
  rw [HOS.out]
  clear hp r2 hbel3 Hbel Hb2 Hs2 hz
  go_wp2_with (first
    | (refine store_new rfl 49 _ _ rfl 49 z16 OS rfl rfl Hoload.out Hoz.out Hoall.out ?_; intro w4 hb4 hbel4 hs4; have Hb4 := Lib.hid hb4; have Hbel4 := Lib.hid (Hbel3.out.trans (hbel4.mono hge)); have Hs4 := Lib.hid hs4; clear hb4 hbel4 hs4)
    | (at_builtin; refine wpList_append_own _ rfl _ _ 23 rfl w.heap.size 5 i0 (.int .u8 0) 1 1 Tryd.underlying23 hi hz0 hz1 hz2 rfl (by decide) _ _ _ rfl (World.ownsRow_nil _ _ _ _) ⟨w3.heap.size, 0, none⟩ 16 16 ((out16 (final hst Xs len)).map B8) rfl ?c0 ?c1 ?c2 ?c3 ?c4 ?c5 ?_))
  case c0 => simp [out16, le32]
  case c1 =>
    intro j u hu
    rw [add_at]
    simp only [World.cell?, Hb4.out, ← HOS.out]
    simpa using hu
  case c2 =>
    intro u hu
    obtain ⟨x, _, rfl⟩ := List.mem_map.1 hu
    rfl
  case c3 => decide
  case c4 => decide
  case c5 => exact Hbel4.out.size
  intro v' w' hown' hgrow _
  have HC := Lib.hid hown'
  have HD := Lib.hid (Hbel4.out.grown hgrow Hbel4.out.size (fun k hk => by simp [Value.ownBlock] at hk))
  clear hown' hgrow
  go_wp2
  go_ret
  exact ⟨_, rfl, HC.out, HD.out⟩
end Go.Proofs.YtcmopgfagooboaaDoor

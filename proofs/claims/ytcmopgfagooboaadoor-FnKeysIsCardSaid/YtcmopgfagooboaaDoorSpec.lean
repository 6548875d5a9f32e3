/- spec.MD5. -/
import Derived.Test.YtcmopgfagooboaaDoorAt
import Derived.Deep.MidRow
import Derived.BigQuiet
namespace Go.Proofs.YtcmopgfagooboaaDoor
open Go.RowKit
open Md5 (W H4)

def sliceLen : Value → Nat
  | .slice _ n _ => n
  | _ => 0
def padded (M : List UInt8) (k : Nat) : List UInt8 := M ++ 128 :: List.replicate k 0
theorem padded_length (M : List UInt8) (k : Nat) : (padded M k).length = M.length + 1 + k := by simp [padded]; omega
theorem padded_succ (M : List UInt8) (k : Nat) : padded M k ++ [0] = padded M (k + 1) := by simp [padded, List.replicate_succ']
theorem big_rev (x : Nat) : (big x 8 8).reverse = le64 x := rfl
theorem full_eq (M : List UInt8) (k : Nat) (h : k = padOf M.length) : padded M k ++ le64 (8 * M.length) = M ++ tail M.length := by
  subst h
  simp [padded, tail]
theorem iv_cells : (#[.int .u32 1732584193, .int .u32 4023233417, .int .u32 2562383102, .int .u32 271733878] : Array Value) = #[U Md5.iv.a, U Md5.iv.b, U Md5.iv.c, U Md5.iv.d] := rfl
theorem info40 : (Tryd.prog.info? 40).map (·.size) = some 64 := by kernel_rfl
abbrev ivCells : Array Value := #[.int .u32 1732584193, .int .u32 4023233417, .int .u32 2562383102, .int .u32 271733878]
theorem zero38_is (w : World) : Sem.run Tryd.prog (zeroValue 38) w = .ok (.agg #[.int .u32 0, .int .u32 0, .int .u32 0, .int .u32 0]) w := by kernel_rfl
theorem info38 : (Tryd.prog.info? 38).map (·.size) = some 4 := by kernel_rfl

/-- the numbers of the turns lie in block 1 -/
def Turns (w : World) : Prop := ∀ j, j < 16 → w.cell? ⟨1, j, none⟩ = some (.int .i64 (Md5.turns.getD j 0 : Nat))
/-- what the block loop holds -/
structure Held (w wr : World) (S G : Nat) (h : H4) (D : List UInt8) : Prop where
  st : wr.heap[S]? = some (.cells #[U h.a, U h.b, U h.c, U h.d] 38 (0, 0))
  by' : Bytes wr G 0 D
  lt : G < wr.heap.size
  bel : Below S w wr
theorem Held.drewN {w wr : World} {S G : Nat} {h : H4} {D : List UInt8} (x : Held w wr S G h D) (n : Nat) : Held w (wr.drewN n) S G h D :=
  ⟨x.st, x.by', x.lt, ⟨x.bel.os, x.bel.tape, x.bel.output, x.bel.size, x.bel.block⟩⟩
theorem Held.below {w wr wr' : World} {S G : Nat} {h : H4} {D : List UInt8} (x : Held w wr S G h D) (hb : Below wr.heap.size wr wr') (hS : S < wr.heap.size) : Held w wr' S G h D :=
  ⟨(hb.block S hS).trans x.st, x.by'.congr (hb.block G x.lt), Nat.lt_of_lt_of_le x.lt hb.size, x.bel.trans (hb.mono (by omega))⟩
theorem Held.S_lt {w wr : World} {S G : Nat} {h : H4} {D : List UInt8} (x : Held w wr S G h D) : S < wr.heap.size := (Array.getElem?_eq_some_iff.1 x.st).1
theorem index_row (cs : Array Value) (t : Nat) (z : W) (ht : t < 64) (h : cs[t]? = some (U z)) (w : World) : (Instr.index 40 (.agg cs) (.int .i64 (t : Nat))).run Tryd.prog w = .ok (U z) w := by
  have hn : (0 : Int) ≤ (t : Int) ∧ (t : Int) < 64 := by omega
  simp [Instr.index, run_underlying Tryd.underlying40, asIntOf, hn, go_sem, ht, h]
/-- the four bytes of word p of a block -/
theorem four {w wr : World} {S G : Nat} {h : H4} {D : List UInt8} (x : Held w wr S G h D) (i p : Nat) (hl : 64 * i + 4 * p + 4 ≤ D.length) :
    ∃ x0 x1 x2 x3 : UInt8, Bytes wr G (64 * i + 4 * p) [x0, x1, x2, x3] ∧ Md5.le x0 x1 x2 x3 = Md5.wordsOf (D.drop (64 * i)) p := by
  refine ⟨D.getD (64 * i + 4 * p) 0, D.getD (64 * i + 4 * p + 1) 0, D.getD (64 * i + 4 * p + 2) 0, D.getD (64 * i + 4 * p + 3) 0, fun j hj => ?_, ?_⟩
  · have c := x.by' (64 * i + 4 * p + j) (by simp at hj; omega)
    rw [Nat.zero_add] at c
    rw [c]
    match j, hj with
    | 0, _ => rfl
    | 1, _ => rfl
    | 2, _ => rfl
    | 3, _ => rfl
  · simp [Md5.wordsOf, List.getD, List.getElem?_drop, Nat.add_assoc]
theorem u_add' (x y : W) : (((x.toNat : Nat) : Int) + ((y.toNat : Nat) : Int)) % 4294967296 = (((x + y).toNat : Nat) : Int) := by
  rw [BitVec.toNat_add]; omega
theorem turn_fine : ∀ t, t < 64 → 1 ≤ Md5.turn t ∧ Md5.turn t ≤ 31 := by decide +kernel
theorem u_add4 (x y z u : W) : (((x.toNat : Nat) : Int) + ((y.toNat : Nat) : Int) + ((z.toNat : Nat) : Int) + ((u.toNat : Nat) : Int)) % 4294967296 = (((x + y + z + u).toNat : Nat) : Int) := by
  rw [BitVec.toNat_add, BitVec.toNat_add, BitVec.toNat_add]; omega
/-- one step of the inner loop -/
theorem step_word (X : Nat → W) (hh : H4) (t s : Nat) (qa qb qc qd f x k z : W) (ha : Md5.Q X hh t = qa) (hb : Md5.Q X hh (t + 3) = qb) (hc : Md5.Q X hh (t + 2) = qc) (hd : Md5.Q X hh (t + 1) = qd)
    (hf : f = Md5.fn t qb qc qd) (hx : x = X (Md5.pick t)) (hk : Md5.sine t = k) (hs : Md5.turn t = s) (hz : qa + f + x + k = z) :
    (((qb.toNat : Nat) : Int) + (((z.rotateLeft s).toNat : Nat) : Int)) % 4294967296 = (((Md5.Q X hh (t + 1 + 3)).toNat : Nat) : Int) := by
  rw [u_add', show t + 1 + 3 = t + 4 by omega, Md5.Q_four, ha, hb, hc, hd]
  unfold Md5.word
  rw [← hf, ← hx, hk, hs, hz]
theorem Held.stored {w wr : World} {S G : Nat} {h : H4} {D : List UInt8} (x : Held w wr S G h D) (CS : Array Value) (h' : H4) (hCS : CS = #[U h'.a, U h'.b, U h'.c, U h'.d]) (hGS : G ≠ S) : Held w (wr.setRow S CS) S G h' D := by
  subst hCS
  exact ⟨setRow_heap _ _ _ _ 38 (0, 0) x.st, x.by'.congr (setRow_other _ _ _ _ hGS), by simpa [World.setRow] using x.lt, below_setRow x.bel (Nat.le_refl _) _⟩
theorem blocks_succ (i : Nat) (h : H4) (D : List UInt8) : Md5.blocks (i + 1) h D = Md5.compress (Md5.blocks i h D) (Md5.wordsOf (D.drop (64 * i))) := by
  rw [Md5.blocks_add]; rfl
theorem Held.stored4 {w wr : World} {S G : Nat} {h : H4} {D : List UInt8} (x : Held w wr S G h D) (a b c d : Value) (h' : H4) (ha : a = U h'.a) (hb : b = U h'.b) (hc : c = U h'.c) (hd : d = U h'.d) (hGS : G ≠ S) :
    Held w ((((wr.setCell ⟨S, 0, none⟩ a).setCell ⟨S, 1, none⟩ b).setCell ⟨S, 2, none⟩ c).setCell ⟨S, 3, none⟩ d) S G h' D := by
  subst ha hb hc hd
  have o : Only S wr ((((wr.setCell ⟨S, 0, none⟩ (U h'.a)).setCell ⟨S, 1, none⟩ (U h'.b)).setCell ⟨S, 2, none⟩ (U h'.c)).setCell ⟨S, 3, none⟩ (U h'.d)) := ((((Only.refl S wr).setCell _).setCell _).setCell _).setCell _
  refine ⟨?_, x.by'.congr (o.block G hGS), by rw [o.size]; exact x.lt, x.bel.trans (o.below (Nat.le_refl _))⟩
  rw [set_at _ S 3 _ 38 _ (set_at _ S 2 _ 38 _ (set_at _ S 1 _ 38 _ (set_at _ S 0 [U h.a, U h.b, U h.c, U h.d] 38 _ x.st)))]
  rfl
theorem index_four (cs : Array Value) (t : Nat) (z : W) (ht : t < 4) (h : cs[t]? = some (U z)) (w : World) : (Instr.index 38 (.agg cs) (.int .i64 (t : Nat))).run Tryd.prog w = .ok (U z) w := by
  have hn : (0 : Int) ≤ (t : Int) ∧ (t : Int) < 4 := by omega
  simp [Instr.index, run_underlying Tryd.underlying38, asIntOf, hn, go_sem, ht, h]
/-- the words of the answer -/
def outs (h : H4) (j : Nat) : List UInt8 := ([h.a, h.b, h.c, h.d].take j).flatMap le32
theorem outs_four (h : H4) : outs h 4 = out16 h := by simp [outs, out16]
theorem outs_length (h : H4) (j : Nat) (hj : j ≤ 4) : (outs h j).length = 4 * j := by
  match j, hj with
  | 0, _ => rfl
  | 1, _ => rfl
  | 2, _ => rfl
  | 3, _ => rfl
  | 4, _ => rfl
theorem outs_succ (h : H4) (j : Nat) (hj : j < 4) (z : W) (hz : [h.a, h.b, h.c, h.d].getD j 0 = z) : outs h j ++ le32 z = outs h (j + 1) := by
  subst hz
  match j, hj with
  | 0, _ => simp [outs]
  | 1, _ => simp [outs]
  | 2, _ => simp [outs]
  | 3, _ => simp [outs]
theorem four_at (h : H4) (j : Nat) (hj : j < 4) : (#[U h.a, U h.b, U h.c, U h.d] : Array Value)[j]? = some (U ([h.a, h.b, h.c, h.d].getD j 0)) := by
  match j, hj with
  | 0, _ => rfl
  | 1, _ => rfl
  | 2, _ => rfl
  | 3, _ => rfl
theorem big_rev4 (x : W) : (big x.toNat 4 4).reverse = le32 x := rfl
theorem not_yet (n k : Nat) (hk : k ≤ padOf n) (h : (((n : Int) + 1 + k) % 64 != 56) = true) : k < padOf n := by
  have h : ¬ ((n : Int) + 1 + k) % 64 = 56 := by simpa using h
  unfold padOf at *
  omega
theorem now (n k : Nat) (hk : k ≤ padOf n) (h : (((n : Int) + 1 + k) % 64 != 56) = false) : k = padOf n := by
  have h : ((n : Int) + 1 + k) % 64 = 56 := by simpa using h
  unfold padOf at *
  omega

set_option maxRecDepth 100000 in
set_option maxHeartbeats 8000000 in
theorem spec_md5 (b off n cap : Nat) (M : List UInt8) (w : World) (hb : Bytes w b off M) (hn : M.length = n) (_hnc : n ≤ cap) (hn1 : n ≤ 5000) (hblt : b < w.heap.size) (h2 : 2 ≤ w.heap.size)
    (hsi : w.rangeAt 0 0 (Md5.sines.map U)) (htu : Turns w) :
    Calls Tryd.prog 9 #[.slice (some ⟨b, off, none⟩) n cap] w fun e w' => ∃ v, e = .returned v ∧ OwnB w' w.heap.size v (out16 (Md5.blocks ((n + 9 + padOf n) / 64) Md5.iv (M ++ tail n))) ∧ Below w.heap.size w w' := by
  obtain ⟨R, hR⟩ : ∃ R, out16 (Md5.blocks ((n + 9 + padOf n) / 64) Md5.iv (M ++ tail n)) = R := ⟨_, rfl⟩
  rw [hR]
  have HR := Lib.hid hR
  clear hR
  have HB := Lib.hid hb
  have HN := Lib.hid hn
  obtain ⟨SL, hSLe⟩ : ∃ SL, Md5.sines.map U = SL := ⟨_, rfl⟩
  rw [hSLe] at hsi
  have HSI := Lib.hid hsi
  have hSLs : ∀ t, t < 64 → SL[t]? = some (U (Md5.sine t)) := fun t ht => by
    rw [← hSLe, List.getElem?_map, Md5.sine, List.getD, List.getElem?_eq_getElem (show t < Md5.sines.length from ht)]
    rfl
  have HSL := Lib.hid hSLs
  have HSZ : Hid ((Tryd.prog.info? 40).map (·.size) = some SL.length) := by show _ = _; rw [← hSLe]; exact info40
  clear hSLe hSLs
  have HTU := Lib.hid htu
  clear hb hn hsi htu
  go_enter Tryd.func9, Tryd.ntmps9
  have hW2 : Below (w.heap.size + 1) (w.alloc (.cells ivCells 38)) ((w.alloc (.cells ivCells 38)).alloc (.cells #[] 5)) := (Below.refl _ _).alloc (by simp) _
  have hown2 : OwnB ((w.alloc (.cells ivCells 38)).alloc (.cells #[] 5)) (w.heap.size + 1) (.slice (some ⟨w.heap.size + 1, 0, none⟩) 0 0) [] := by
    have h := OwnB.made (base := w.heap.size + 1) (w.alloc (.cells ivCells 38)) (by simp)
    simpa using h
  have hM2 : Bytes ((w.alloc (.cells ivCells 38)).alloc (.cells #[] 5)) b off M := HB.out.congr ((((Below.refl w.heap.size w).alloc (Nat.le_refl _) (.cells ivCells 38)).alloc (by simp) (.cells #[] 5)).block b hblt)
  have HW2 := Lib.hid hW2
  have Hown2 := Lib.hid hown2
  have HM2 := Lib.hid hM2
  clear hW2 hown2 hM2
  go_wp2_with (first
    | (at_builtin; refine wpList_concat rfl (.tmp 18) (.tmp 19) rfl (w.alloc (.cells ivCells 38)) _ (w.heap.size + 1) (w.heap.size + 1) (.slice (some ⟨w.heap.size + 1, 0, none⟩) 0 0) [] M b off n cap (by rfl) (by rfl) Hown2.out HN.out HM2.out (by simp only [List.length_nil, HN.out]; omega) (by simp) (Nat.le_refl _) HW2.out ?_; intro v3 w3 hown3 hbel3; have Hown3 := Lib.hid hown3; have Hbel3 := Lib.hid hbel3; clear hown3 hbel3)
    | (at_builtin; refine wpList_push rfl (.tmp 20) (.tmp 21) rfl (w.alloc (.cells ivCells 38)) w3 (w.heap.size + 1) (w.heap.size + 1) v3 _ 128 _ (by rfl) (by rfl) rfl Hown3.out (by simp only [List.nil_append, HN.out]; omega) (by have := Hbel3.out.size; simp at this; omega) (Nat.le_refl _) Hbel3.out ?_; intro v4 w4 hown4 hbel4; have Hown4 := Lib.hid hown4; have Hbel4 := Lib.hid hbel4; clear hown4 hbel4))
  go_loopw [4] (fun v wr => ∃ k : Nat, k ≤ padOf n ∧ OwnB wr (w.heap.size + 1) v (padded M k) ∧ Below (w.heap.size + 1) (w.alloc (.cells ivCells 38)) wr) (fun v _ => n + 1 + padOf n - sliceLen v)
  case atStart => exact ⟨0, Nat.zero_le _, Hown4.out, Hbel4.out⟩
  case round =>
    obtain ⟨k, hk, hown, hbel⟩ := hrel
    obtain ⟨g, cp, rfl, hg1, hg2, hcp1, hcp2, hbs, _⟩ := hown.bytes (by rw [padded_length]; omega)
    have hlen := padded_length M k
    rw [HN.out] at hlen
    rw [hlen] at hcp1
    generalize hL : (padded M k).length = L at hown ⊢
    replace hown := Lib.hid hown
    replace hbel := Lib.hid hbel
    replace hbs := Lib.hid hbs
    have hsz : w.heap.size + 1 ≤ wr.heap.size := by have := hbel.out.size; simp at this; omega
    obtain rfl : L = n + 1 + k := by omega
    have hp : padOf n < 64 := pad_lt n
    clear hlen
    have HL := Lib.hid hL
    clear hL
    go_wp2_with (at_builtin; refine wpList_push rfl (.tmp 27) (.tmp 28) rfl (w.alloc (.cells ivCells 38)) wr (w.heap.size + 1) (w.heap.size + 1) (.slice (some ⟨g, 0, none⟩) (n + 1 + k) cp) (padded M k) 0 _ (by rfl) (by rfl) rfl hown.out (by rw [HL.out]; omega) hsz (Nat.le_refl _) hbel.out ?_; intro v5 w5 hown5 hbel5; have Hown5 := Lib.hid hown5; have Hbel5 := Lib.hid hbel5; clear hown5 hbel5)
    · have hlt : k < padOf n := not_yet n k hk (by assumption)
      have h5 := Hown5.out
      rw [padded_succ] at h5
      obtain ⟨g5, cp5, rfl, _, _, _, _, _, _⟩ := h5.bytes (by rw [padded_length]; omega)
      refine ⟨⟨k + 1, hlt, h5, Hbel5.out⟩, ?_⟩
      simp only [sliceLen, padded_length, HN.out]
      omega
    · obtain rfl : k = padOf n := now n k hk (by assumption)
      refine Calls.mono (number_any (8 * n) 8 wr (by decide)) ?_
      rintro e w6 ⟨v6, rfl, hown6, hbel6⟩
      obtain ⟨g6, cp6, rfl, hg6, hg6', hcp6, hcp6', hbs6, _⟩ := hown6.bytes (by rw [big_length]; decide)
      rw [big_length] at hcp6
      replace hown6 := Lib.hid hown6
      replace hbs6 := Lib.hid hbs6
      replace hbel6 := Lib.hid hbel6
      generalize hL : (big (8 * n) 8 8).length = L8
      obtain rfl : L8 = 8 := by rw [← hL, big_length]
      have HL8 := Lib.hid hL
      clear hL
      go_wp2_with fail
      refine Calls.mono (back_any g6 0 8 cp6 (big (8 * n) 8 8) w6 hbs6.out HL8.out hcp6 (by decide) hg6') ?_
      rintro e w7 ⟨v7, rfl, hown7, hbel7⟩
      rw [big_rev] at hown7
      obtain ⟨g7, cp7, rfl, hg7, hg7', hcp7, hcp7', hbs7, _⟩ := hown7.bytes (by simp [le64])
      replace hown7 := Lib.hid hown7
      replace hbs7 := Lib.hid hbs7
      replace hbel7 := Lib.hid hbel7
      generalize hL : (le64 (8 * n)).length = L8
      obtain rfl : L8 = 8 := by rw [← hL]; simp [le64]
      have HL8' := Lib.hid hL
      clear hL
      have H7 : Hid (OwnB w7 (w.heap.size + 1) (.slice (some ⟨g, 0, none⟩) (n + 1 + padOf n) cp) (padded M (padOf n))) := (hown.out.kept hbel6.out).kept hbel7.out
      have HB7 : Hid (Below (w.heap.size + 1) (w.alloc (.cells ivCells 38)) w7) := (hbel.out.trans (hbel6.out.mono hsz)).trans (hbel7.out.mono (by have := hbel6.out.size; omega))
      go_wp2_with (at_builtin; refine wpList_concat rfl (.tmp 30) (.tmp 35) rfl (w.alloc (.cells ivCells 38)) w7 (w.heap.size + 1) (w.heap.size + 1) (.slice (some ⟨g, 0, none⟩) (n + 1 + padOf n) cp) (padded M (padOf n)) (le64 (8 * n)) g7 0 8 cp7 (by rfl) (by rfl) H7.out HL8'.out hbs7.out (by rw [HL.out, HL8'.out]; omega) (by have := HB7.out.size; simp at this; omega) (Nat.le_refl _) HB7.out ?_; intro v8 w8 hown8 hbel8; have Hown8 := Lib.hid hown8; have Hbel8 := Lib.hid hbel8; clear hown8 hbel8)
      obtain ⟨G, CP, rfl, hG, hG', hCP, hCP', hD, _⟩ := Hown8.out.bytes (by rw [List.length_append, HL8'.out]; omega)
      generalize hNT : (padded M (padOf n) ++ le64 (8 * n)).length = NT at hCP ⊢
      have e8 : padded M (padOf n) ++ le64 (8 * n) = M ++ tail n := by have := full_eq M (padOf n) (by rw [HN.out]); rw [HN.out] at this; exact this
      rw [e8] at hD hNT
      obtain ⟨D, hDe⟩ : ∃ D, M ++ tail n = D := ⟨_, rfl⟩
      rw [hDe] at hD hNT
      have HDe := Lib.hid hDe
      have HD := Lib.hid hD
      have hm : NT = 64 * ((n + 9 + padOf n) / 64) := by rw [← hNT, ← hDe, List.length_append, tail_length, HN.out]; unfold padOf; omega
      generalize hmm : (n + 9 + padOf n) / 64 = m at hm
      have Hmm := Lib.hid hmm
      clear hmm
      have hm1 : NT ≤ 64 * m := by omega
      have hm2 : 64 * m ≤ NT := by omega
      have hNT9 : NT ≤ 10000 := by rw [← hNT, ← hDe, List.length_append, tail_length, HN.out]; omega
      have HDl := Lib.hid (show D.length = NT from hNT)
      clear hm hNT hDe hD e8 hbel6 hown6 hbs6 hown7 hbs7 hbel7 H7 HB7 hown hbel hbs Hown8 HL8 HL8' HL
      have Hst : Hid (Held w w8 w.heap.size G Md5.iv D) := ⟨(Hbel8.out.block w.heap.size (Nat.lt_succ_self _)).trans (heap_alloc_new w _), HD.out, hG', ((Below.refl w.heap.size w).alloc (Nat.le_refl _) _).trans (Hbel8.out.mono (by omega))⟩
      clear Hbel8 HD HB HN
      go_loopw [4] (fun v wr => ∃ (i : Nat) (ao : Option Addr) (r c : Nat), v = .slice ao r c ∧ i ≤ m ∧ r + 64 * i = NT ∧ (i < m → ao = some ⟨G, 64 * i, none⟩ ∧ c = CP - 64 * i) ∧ Held w wr w.heap.size G (Md5.blocks i Md5.iv D) D) (fun v _ => sliceLen v)
      case atStart => exact ⟨0, _, _, _, rfl, Nat.zero_le _, by omega, fun _ => ⟨rfl, rfl⟩, Hst.out⟩
      case round =>
        obtain ⟨i, ao, r, c, rfl, hi, hr, hao, hheld⟩ := hrel
        have hr1 : r + 64 * i ≤ NT := by omega
        have hr2 : NT ≤ r + 64 * i := by omega
        replace hheld := Lib.hid hheld
        clear hr Hst
        by_cases hlt : i < m
        · obtain ⟨rfl, rfl⟩ := hao hlt
          have hc1 : 64 + 64 * i ≤ CP := by omega
          have hr3 : 64 ≤ r := by omega
          clear hao
          have g0 : wr.cell? ⟨w.heap.size, 0, none⟩ = some (U (Md5.blocks i Md5.iv D).a) := by rw [cell_of_row wr _ 0 _ 38 (0, 0) hheld.out.st]; rfl
          have g1 : wr.cell? ⟨w.heap.size, 1, none⟩ = some (U (Md5.blocks i Md5.iv D).b) := by rw [cell_of_row wr _ 1 _ 38 (0, 0) hheld.out.st]; rfl
          have g2 : wr.cell? ⟨w.heap.size, 2, none⟩ = some (U (Md5.blocks i Md5.iv D).c) := by rw [cell_of_row wr _ 2 _ 38 (0, 0) hheld.out.st]; rfl
          have g3 : wr.cell? ⟨w.heap.size, 3, none⟩ = some (U (Md5.blocks i Md5.iv D).d) := by rw [cell_of_row wr _ 3 _ 38 (0, 0) hheld.out.st]; rfl
          go_wp2_with fail
          go_quiet (fail)
          generalize hWD : wr.drewN nq = wd
          have Hd : Held w wd w.heap.size G (Md5.blocks i Md5.iv D) D := by rw [← hWD]; exact hheld.out.drewN nq
          have hsw : wd.rangeAt 0 0 SL := fun j v hj => (Hd.bel.cell (show 0 < w.heap.size by omega)).trans (HSI.out j v hj)
          replace Hd := Lib.hid Hd
          have Hsw := Lib.hid hsw
          clear hsw hWD g0 g1 g2 g3 hheld
          obtain ⟨hh, hhe⟩ : ∃ hh, Md5.blocks i Md5.iv D = hh := ⟨_, rfl⟩
          obtain ⟨X, hXe⟩ : ∃ X, Md5.wordsOf (D.drop (64 * i)) = X := ⟨_, rfl⟩
          rw [hhe]
          have Hhe := Lib.hid hhe
          have HXe := Lib.hid hXe
          clear hhe hXe
          go_wp2_with (refine wpList_load_mid rfl 40 _ rfl 0 0 rfl SL _ Hsw.out Tryd.underlying40 rfl HSZ.out ?_)
          go_loopw [5, 6, 7, 8, 51] (fun s5 s6 s7 s8 s51 wx => ∃ t : Nat, t ≤ 64 ∧ s51 = .int .i64 t ∧ s5 = U (Md5.Q X hh t) ∧ s6 = U (Md5.Q X hh (t + 3)) ∧ s7 = U (Md5.Q X hh (t + 2)) ∧ s8 = U (Md5.Q X hh (t + 1)) ∧ Held w wx w.heap.size G hh D) (fun _ _ _ _ x _ => 64 - (intOf x).toNat)
          case atStart =>
            obtain ⟨q0, q1, q2, q3⟩ := Md5.Q_start X hh
            refine ⟨0, Nat.zero_le _, rfl, by rw [q0], by rw [q3], by rw [q2], by rw [q1], ?_⟩
            have h := Hd.out
            rw [Hhe.out] at h
            exact h
          case round =>
            obtain ⟨t, ht, rfl, rfl, rfl, rfl, rfl, hheld⟩ := hrel
            replace hheld := Lib.hid hheld
            obtain ⟨k, hk⟩ : ∃ k, Md5.sine t = k := ⟨_, rfl⟩
            have hS : t < 64 → ∀ w, (Instr.index 40 (.agg SL.toArray) (.int .i64 (t : Nat))).run Tryd.prog w = .ok (U k) w := fun h w => index_row _ t k h (by rw [← hk]; simpa using HSL.out t h) w
            replace hk := Lib.hid hk
            obtain ⟨qa, ha⟩ : ∃ q, Md5.Q X hh t = q := ⟨_, rfl⟩
            obtain ⟨qb, hb⟩ : ∃ q, Md5.Q X hh (t + 3) = q := ⟨_, rfl⟩
            obtain ⟨qc, hc⟩ : ∃ q, Md5.Q X hh (t + 2) = q := ⟨_, rfl⟩
            obtain ⟨qd, hd⟩ : ∃ q, Md5.Q X hh (t + 1) = q := ⟨_, rfl⟩
            rw [ha, hb, hc, hd]
            replace ha := Lib.hid ha
            replace hb := Lib.hid hb
            replace hc := Lib.hid hc
            replace hd := Lib.hid hd
            by_cases htl : t < 64
            · have hS := hS htl
              obtain ⟨s, hs⟩ : ∃ s, Md5.turn t = s := ⟨_, rfl⟩
              have hs1 : 1 ≤ s ∧ s ≤ 31 := by rw [← hs]; exact turn_fine t htl
              have hs2 := hs1.1
              have hs3 := hs1.2
              have htu : w.cell? ⟨1, t / 16 * 4 + t % 4, none⟩ = some (.int .i64 (s : Nat)) := by rw [← hs]; exact HTU.out _ (by omega)
              replace hs := Lib.hid hs
              replace htu := Lib.hid htu
              clear hs1
              have hpl : ∀ p, p < 16 → 64 * i + 4 * p + 4 ≤ D.length := fun p hp => by rw [HDl.out]; omega
              replace hpl := Lib.hid hpl
              rcases (show t < 16 ∨ (16 ≤ t ∧ t < 32) ∨ (32 ≤ t ∧ t < 48) ∨ 48 ≤ t by omega) with hq | ⟨hq, hq'⟩ | ⟨hq, hq'⟩ | hq
              · go_wp2_with fail
                simp only [u_and, u_not, u_or]
                generalize hf : qb &&& qc ||| ~~~qb &&& qd = f
                have hf : f = Md5.fn t qb qc qd := by rw [← hf]; unfold Md5.fn; rw [if_neg (by omega), if_neg (by omega), if_neg (by omega)]
                obtain ⟨x0, x1, x2, x3, hB, hx⟩ := four hheld.out i (t) (hpl.out _ (by omega))
                rw [HXe.out, show t = Md5.pick t by unfold Md5.pick; rw [if_neg (by omega), if_neg (by omega), if_neg (by omega)]] at hx
                replace hf := Lib.hid hf
                refine Calls.mono (back_any G _ 4 _ [x0, x1, x2, x3] wr hB rfl (by omega) (by decide) hheld.out.lt) ?_
                rintro e w9 ⟨v9, rfl, hown9, hbel9⟩
                obtain ⟨g9, cp9, rfl, hg9, hg9', hcp9, hcp9', hbs9, _⟩ := hown9.bytes (by simp)
                have hh9 := Lib.hid (hheld.out.below hbel9 hheld.out.S_lt)
                have c0 : w9.cell? ⟨g9, 0, none⟩ = some (B8 x3) := hbs9 0 (by simp)
                have c1 : w9.cell? ⟨g9, 0 + 1, none⟩ = some (B8 x2) := hbs9 1 (by simp)
                have c2 : w9.cell? ⟨g9, 0 + 2, none⟩ = some (B8 x1) := hbs9 2 (by simp)
                have c3 : w9.cell? ⟨g9, 0 + 3, none⟩ = some (B8 x0) := hbs9 3 (by simp)
                have HA := Lib.hid (at_any g9 0 cp9 x3 x2 x1 x0 w9 c0 c1 c2 c3 (by simpa using hcp9) (by unfold maxLen at hcp9'; omega))
                have htu := htu.out
                rw [← hh9.out.bel.cell (show 1 < w.heap.size by omega)] at htu
                generalize hxx : Md5.le x0 x1 x2 x3 = x at hx HA
                replace hx := Lib.hid hx
                have hxl := toNat_lt x
                clear hB hown9 hbel9 hbs9 c0 c1 c2 c3 hxx
                go_wp2_with fail
                refine Calls.mono HA.out ?_
                rintro e w10 ⟨rfl, rfl⟩
                go_wp2_with fail
                rw [u_add4]
                generalize hz : qa + f + x + k = z
                replace hz := Lib.hid hz
                refine Calls.mono (left_any z s hs2 hs3 w10) ?_
                rintro e w11 ⟨rfl, q11, rfl⟩
                have hh11 := Lib.hid (hh9.out.drewN q11)
                have HW := Lib.hid (step_word X hh t s qa qb qc qd f x k z ha.out hb.out hc.out hd.out hf.out hx.out hk.out hs.out hz.out)
                clear htu
                go_wp2
                refine ⟨⟨t + 1, htl, by go_num, ?_, ?_, ?_, ?_, hh11.out⟩, by simp [intOf]; omega⟩
                · rw [hd.out]
                · exact congrArg (Value.int .u32) HW.out
                · rw [show t + 1 + 2 = t + 3 by omega, hb.out]
                · rw [show t + 1 + 1 = t + 2 by omega, hc.out]
              · go_wp2_with fail
                simp only [u_and, u_andNot, u_or]
                generalize hf : qb &&& qd ||| qc &&& ~~~qd = f
                have hf : f = Md5.fn t qb qc qd := by rw [← hf]; unfold Md5.fn; rw [if_pos (by omega)]
                obtain ⟨x0, x1, x2, x3, hB, hx⟩ := four hheld.out i ((5 * t + 1) % 16) (hpl.out _ (by omega))
                rw [HXe.out, show (5 * t + 1) % 16 = Md5.pick t by unfold Md5.pick; rw [if_pos (by omega)]] at hx
                replace hf := Lib.hid hf
                refine Calls.mono (back_any G _ 4 _ [x0, x1, x2, x3] wr hB rfl (by omega) (by decide) hheld.out.lt) ?_
                rintro e w9 ⟨v9, rfl, hown9, hbel9⟩
                obtain ⟨g9, cp9, rfl, hg9, hg9', hcp9, hcp9', hbs9, _⟩ := hown9.bytes (by simp)
                have hh9 := Lib.hid (hheld.out.below hbel9 hheld.out.S_lt)
                have c0 : w9.cell? ⟨g9, 0, none⟩ = some (B8 x3) := hbs9 0 (by simp)
                have c1 : w9.cell? ⟨g9, 0 + 1, none⟩ = some (B8 x2) := hbs9 1 (by simp)
                have c2 : w9.cell? ⟨g9, 0 + 2, none⟩ = some (B8 x1) := hbs9 2 (by simp)
                have c3 : w9.cell? ⟨g9, 0 + 3, none⟩ = some (B8 x0) := hbs9 3 (by simp)
                have HA := Lib.hid (at_any g9 0 cp9 x3 x2 x1 x0 w9 c0 c1 c2 c3 (by simpa using hcp9) (by unfold maxLen at hcp9'; omega))
                have htu := htu.out
                rw [← hh9.out.bel.cell (show 1 < w.heap.size by omega)] at htu
                generalize hxx : Md5.le x0 x1 x2 x3 = x at hx HA
                replace hx := Lib.hid hx
                have hxl := toNat_lt x
                clear hB hown9 hbel9 hbs9 c0 c1 c2 c3 hxx
                go_wp2_with fail
                refine Calls.mono HA.out ?_
                rintro e w10 ⟨rfl, rfl⟩
                go_wp2_with fail
                rw [u_add4]
                generalize hz : qa + f + x + k = z
                replace hz := Lib.hid hz
                refine Calls.mono (left_any z s hs2 hs3 w10) ?_
                rintro e w11 ⟨rfl, q11, rfl⟩
                have hh11 := Lib.hid (hh9.out.drewN q11)
                have HW := Lib.hid (step_word X hh t s qa qb qc qd f x k z ha.out hb.out hc.out hd.out hf.out hx.out hk.out hs.out hz.out)
                clear htu
                go_wp2
                refine ⟨⟨t + 1, htl, by go_num, ?_, ?_, ?_, ?_, hh11.out⟩, by simp [intOf]; omega⟩
                · rw [hd.out]
                · exact congrArg (Value.int .u32) HW.out
                · rw [show t + 1 + 2 = t + 3 by omega, hb.out]
                · rw [show t + 1 + 1 = t + 2 by omega, hc.out]
              · go_wp2_with fail
                simp only [u_xor]
                generalize hf : qb ^^^ qc ^^^ qd = f
                have hf : f = Md5.fn t qb qc qd := by rw [← hf]; unfold Md5.fn; rw [if_neg (by omega), if_pos (by omega)]
                obtain ⟨x0, x1, x2, x3, hB, hx⟩ := four hheld.out i ((3 * t + 5) % 16) (hpl.out _ (by omega))
                rw [HXe.out, show (3 * t + 5) % 16 = Md5.pick t by unfold Md5.pick; rw [if_neg (by omega), if_pos (by omega)]] at hx
                replace hf := Lib.hid hf
                refine Calls.mono (back_any G _ 4 _ [x0, x1, x2, x3] wr hB rfl (by omega) (by decide) hheld.out.lt) ?_
                rintro e w9 ⟨v9, rfl, hown9, hbel9⟩
                obtain ⟨g9, cp9, rfl, hg9, hg9', hcp9, hcp9', hbs9, _⟩ := hown9.bytes (by simp)
                have hh9 := Lib.hid (hheld.out.below hbel9 hheld.out.S_lt)
                have c0 : w9.cell? ⟨g9, 0, none⟩ = some (B8 x3) := hbs9 0 (by simp)
                have c1 : w9.cell? ⟨g9, 0 + 1, none⟩ = some (B8 x2) := hbs9 1 (by simp)
                have c2 : w9.cell? ⟨g9, 0 + 2, none⟩ = some (B8 x1) := hbs9 2 (by simp)
                have c3 : w9.cell? ⟨g9, 0 + 3, none⟩ = some (B8 x0) := hbs9 3 (by simp)
                have HA := Lib.hid (at_any g9 0 cp9 x3 x2 x1 x0 w9 c0 c1 c2 c3 (by simpa using hcp9) (by unfold maxLen at hcp9'; omega))
                have htu := htu.out
                rw [← hh9.out.bel.cell (show 1 < w.heap.size by omega)] at htu
                generalize hxx : Md5.le x0 x1 x2 x3 = x at hx HA
                replace hx := Lib.hid hx
                have hxl := toNat_lt x
                clear hB hown9 hbel9 hbs9 c0 c1 c2 c3 hxx
                go_wp2_with fail
                refine Calls.mono HA.out ?_
                rintro e w10 ⟨rfl, rfl⟩
                go_wp2_with fail
                rw [u_add4]
                generalize hz : qa + f + x + k = z
                replace hz := Lib.hid hz
                refine Calls.mono (left_any z s hs2 hs3 w10) ?_
                rintro e w11 ⟨rfl, q11, rfl⟩
                have hh11 := Lib.hid (hh9.out.drewN q11)
                have HW := Lib.hid (step_word X hh t s qa qb qc qd f x k z ha.out hb.out hc.out hd.out hf.out hx.out hk.out hs.out hz.out)
                clear htu
                go_wp2
                refine ⟨⟨t + 1, htl, by go_num, ?_, ?_, ?_, ?_, hh11.out⟩, by simp [intOf]; omega⟩
                · rw [hd.out]
                · exact congrArg (Value.int .u32) HW.out
                · rw [show t + 1 + 2 = t + 3 by omega, hb.out]
                · rw [show t + 1 + 1 = t + 2 by omega, hc.out]
              · go_wp2_with fail
                simp only [u_not, u_or, u_xor]
                generalize hf : qc ^^^ (qb ||| ~~~qd) = f
                have hf : f = Md5.fn t qb qc qd := by rw [← hf]; unfold Md5.fn; rw [if_neg (by omega), if_neg (by omega), if_pos (by omega)]
                obtain ⟨x0, x1, x2, x3, hB, hx⟩ := four hheld.out i (7 * t % 16) (hpl.out _ (by omega))
                rw [HXe.out, show 7 * t % 16 = Md5.pick t by unfold Md5.pick; rw [if_neg (by omega), if_neg (by omega), if_pos (by omega)]] at hx
                replace hf := Lib.hid hf
                refine Calls.mono (back_any G _ 4 _ [x0, x1, x2, x3] wr hB rfl (by omega) (by decide) hheld.out.lt) ?_
                rintro e w9 ⟨v9, rfl, hown9, hbel9⟩
                obtain ⟨g9, cp9, rfl, hg9, hg9', hcp9, hcp9', hbs9, _⟩ := hown9.bytes (by simp)
                have hh9 := Lib.hid (hheld.out.below hbel9 hheld.out.S_lt)
                have c0 : w9.cell? ⟨g9, 0, none⟩ = some (B8 x3) := hbs9 0 (by simp)
                have c1 : w9.cell? ⟨g9, 0 + 1, none⟩ = some (B8 x2) := hbs9 1 (by simp)
                have c2 : w9.cell? ⟨g9, 0 + 2, none⟩ = some (B8 x1) := hbs9 2 (by simp)
                have c3 : w9.cell? ⟨g9, 0 + 3, none⟩ = some (B8 x0) := hbs9 3 (by simp)
                have HA := Lib.hid (at_any g9 0 cp9 x3 x2 x1 x0 w9 c0 c1 c2 c3 (by simpa using hcp9) (by unfold maxLen at hcp9'; omega))
                have htu := htu.out
                rw [← hh9.out.bel.cell (show 1 < w.heap.size by omega)] at htu
                generalize hxx : Md5.le x0 x1 x2 x3 = x at hx HA
                replace hx := Lib.hid hx
                have hxl := toNat_lt x
                clear hB hown9 hbel9 hbs9 c0 c1 c2 c3 hxx
                go_wp2_with fail
                refine Calls.mono HA.out ?_
                rintro e w10 ⟨rfl, rfl⟩
                go_wp2_with fail
                rw [u_add4]
                generalize hz : qa + f + x + k = z
                replace hz := Lib.hid hz
                refine Calls.mono (left_any z s hs2 hs3 w10) ?_
                rintro e w11 ⟨rfl, q11, rfl⟩
                have hh11 := Lib.hid (hh9.out.drewN q11)
                have HW := Lib.hid (step_word X hh t s qa qb qc qd f x k z ha.out hb.out hc.out hd.out hf.out hx.out hk.out hs.out hz.out)
                clear htu
                go_wp2
                refine ⟨⟨t + 1, htl, by go_num, ?_, ?_, ?_, ?_, hh11.out⟩, by simp [intOf]; omega⟩
                · rw [hd.out]
                · exact congrArg (Value.int .u32) HW.out
                · rw [show t + 1 + 2 = t + 3 by omega, hb.out]
                · rw [show t + 1 + 1 = t + 2 by omega, hc.out]
            · obtain rfl : t = 64 := by omega
              have g0 : wr.cell? ⟨w.heap.size, 0, none⟩ = some (U hh.a) := by rw [cell_of_row wr _ 0 _ 38 (0, 0) hheld.out.st]; rfl
              have g1 : wr.cell? ⟨w.heap.size, 1, none⟩ = some (U hh.b) := by rw [cell_of_row wr _ 1 _ 38 (0, 0) hheld.out.st]; rfl
              have g2 : wr.cell? ⟨w.heap.size, 2, none⟩ = some (U hh.c) := by rw [cell_of_row wr _ 2 _ 38 (0, 0) hheld.out.st]; rfl
              have g3 : wr.cell? ⟨w.heap.size, 3, none⟩ = some (U hh.d) := by rw [cell_of_row wr _ 3 _ 38 (0, 0) hheld.out.st]; rfl
              clear hS
              have z0 : wr.frozen? ⟨w.heap.size, 0, none⟩ = false := by simp [World.frozen?, hheld.out.st]
              have z1 : wr.frozen? ⟨w.heap.size, 1, none⟩ = false := by simp [World.frozen?, hheld.out.st]
              have z2 : wr.frozen? ⟨w.heap.size, 2, none⟩ = false := by simp [World.frozen?, hheld.out.st]
              have z3 : wr.frozen? ⟨w.heap.size, 3, none⟩ = false := by simp [World.frozen?, hheld.out.st]
              have hnew := Lib.hid (hheld.out.stored4 (.int .u32 (((hh.a.toNat : Nat) + (qa.toNat : Nat) : Int) % 4294967296)) (.int .u32 (((hh.b.toNat : Nat) + (qb.toNat : Nat) : Int) % 4294967296)) (.int .u32 (((hh.c.toNat : Nat) + (qc.toNat : Nat) : Int) % 4294967296))
                (.int .u32 (((hh.d.toNat : Nat) + (qd.toNat : Nat) : Int) % 4294967296)) (Md5.compress hh X) (by rw [u_add', ← ha.out]; rfl) (by rw [u_add', ← hb.out]; rfl) (by rw [u_add', ← hc.out]; rfl) (by rw [u_add', ← hd.out]; rfl) (show G ≠ w.heap.size by omega))
              go_wp2
              refine ⟨⟨i + 1, _, r - 64, _, rfl, hlt, by omega, fun h => ⟨?_, by omega⟩, ?_⟩, ?_⟩
              · rw [if_neg (by omega)]
                congr 2
              · rw [blocks_succ, Hhe.out, HXe.out]
                exact hnew.out
              · simp [sliceLen]; omega
        · obtain rfl : i = m := by omega
          obtain rfl : r = 0 := by omega
          obtain ⟨hh, hhe⟩ : ∃ hh, Md5.blocks i Md5.iv D = hh := ⟨_, rfl⟩
          rw [hhe] at hheld
          have Hhe := Lib.hid hhe
          clear hhe hao
          have hA := Lib.hid (hheld.out.below ((Below.refl wr.heap.size wr).alloc (Nat.le_refl _) (.cells #[] 5)) hheld.out.S_lt)
          have g0 : (wr.alloc (.cells #[] 5)).cell? ⟨w.heap.size, 0, none⟩ = some (U hh.a) := by rw [cell_of_row _ _ 0 _ 38 (0, 0) hA.out.st]; rfl
          have g1 : (wr.alloc (.cells #[] 5)).cell? ⟨w.heap.size, 1, none⟩ = some (U hh.b) := by rw [cell_of_row _ _ 1 _ 38 (0, 0) hA.out.st]; rfl
          have g2 : (wr.alloc (.cells #[] 5)).cell? ⟨w.heap.size, 2, none⟩ = some (U hh.c) := by rw [cell_of_row _ _ 2 _ 38 (0, 0) hA.out.st]; rfl
          have g3 : (wr.alloc (.cells #[] 5)).cell? ⟨w.heap.size, 3, none⟩ = some (U hh.d) := by rw [cell_of_row _ _ 3 _ 38 (0, 0) hA.out.st]; rfl
          go_wp2_with fail
          go_loopw [14, 152] (fun v x wx => ∃ j : Nat, j ≤ 4 ∧ x = .int .i64 j ∧ OwnB wx w.heap.size v (outs hh j) ∧ Below w.heap.size w wx) (fun _ x _ => 4 - (intOf x).toNat)
          case atStart => exact ⟨0, Nat.zero_le _, rfl, OwnB.made wr hheld.out.bel.size, hheld.out.bel.alloc hheld.out.bel.size _⟩
          case round =>
            obtain ⟨j, hj, rfl, hown4, hbel4⟩ := hrel
            replace hown4 := Lib.hid hown4
            replace hbel4 := Lib.hid hbel4
            obtain ⟨z, hz⟩ : ∃ z, [hh.a, hh.b, hh.c, hh.d].getD j 0 = z := ⟨_, rfl⟩
            by_cases hjl : j < 4
            · have hI := index_four #[U hh.a, U hh.b, U hh.c, U hh.d] j z hjl (by rw [four_at hh j hjl, hz])
              replace hz := Lib.hid hz
              have hzl := toNat_lt z
              go_wp2_with fail
              refine Calls.mono (number_any z.toNat 4 wr (by decide)) ?_
              rintro e w6 ⟨v6, rfl, hown6, hbel6⟩
              obtain ⟨g6, cp6, rfl, hg6, hg6', hcp6, hcp6', hbs6, _⟩ := hown6.bytes (by rw [big_length]; decide)
              rw [big_length] at hcp6
              have HL4 := Lib.hid (big_length z.toNat 4 4)
              replace hbs6 := Lib.hid hbs6
              replace hbel6 := Lib.hid hbel6
              rw [big_length]
              clear hown6
              go_wp2_with fail
              refine Calls.mono (back_any g6 0 4 cp6 (big z.toNat 4 4) w6 hbs6.out HL4.out hcp6 (by decide) hg6') ?_
              rintro e w7 ⟨v7, rfl, hown7, hbel7⟩
              rw [big_rev4] at hown7
              obtain ⟨g7, cp7, rfl, hg7, hg7', hcp7, hcp7', hbs7, _⟩ := hown7.bytes (by simp [le32])
              have HLl := Lib.hid (show (le32 z).length = 4 from rfl)
              replace hbs7 := Lib.hid hbs7
              replace hbel7 := Lib.hid hbel7
              rw [HLl.out]
              clear hown7
              have H7 := Lib.hid ((hown4.out.kept hbel6.out).kept hbel7.out)
              have hs6 : w.heap.size ≤ w6.heap.size := by have := hbel6.out.size; have := hbel4.out.size; omega
              have hs7 : w.heap.size ≤ w7.heap.size := by have := hbel7.out.size; omega
              have HB7 := Lib.hid ((hbel4.out.trans (hbel6.out.mono hbel4.out.size)).trans (hbel7.out.mono hs6))
              go_wp2_with (at_builtin; refine wpList_concat rfl (.tmp 155) (.tmp 159) rfl w w7 w.heap.size w.heap.size u14 (outs hh j) (le32 z) g7 0 4 cp7 (by rfl) (by rfl) H7.out HLl.out hbs7.out (by rw [outs_length hh j hj, HLl.out]; omega) hs7 (Nat.le_refl _) HB7.out ?_; intro v8 w8 hown8 hbel8; have Hown8 := Lib.hid hown8; have Hbel8 := Lib.hid hbel8; clear hown8 hbel8)
              refine ⟨⟨j + 1, hjl, by go_num, ?_, Hbel8.out⟩, by simp [intOf]; omega⟩
              rw [← outs_succ hh j hjl z hz.out]
              exact Hown8.out
            · obtain rfl : j = 4 := by omega
              go_wp2
              go_ret
              refine ⟨_, rfl, ?_, hbel4.out⟩
              rw [← HR.out, Hmm.out, HDe.out, Hhe.out, ← outs_four]
              exact hown4.out
end Go.Proofs.YtcmopgfagooboaaDoor

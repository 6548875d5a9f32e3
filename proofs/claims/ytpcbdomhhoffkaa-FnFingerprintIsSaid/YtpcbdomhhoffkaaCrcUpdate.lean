/- crc32.slicingUpdate takes bytes eight at a time by the eight tables, and the rest one by one. -/
import Derived.Test.YtpcbdomhhoffkaaCrcMake
import Derived.Outline
namespace Go.Proofs.Ytpcbdomhhoffkaa.Fp
open Go.RowKit

theorem xor_chain (a b c d e f g h : Nat) (ha : a < 2 ^ 32) (hb : b < 2 ^ 32) (hc : c < 2 ^ 32) (hd : d < 2 ^ 32) (he : e < 2 ^ 32) (hf : f < 2 ^ 32) (hg : g < 2 ^ 32) (hh : h < 2 ^ 32) :
    bits BinOp.xor .u32 (bits BinOp.xor .u32 (bits BinOp.xor .u32 (bits BinOp.xor .u32 (bits BinOp.xor .u32 (bits BinOp.xor .u32 (bits BinOp.xor .u32 (a : Int) (b : Int)) (c : Int)) (d : Int)) (e : Int)) (f : Int)) (g : Int)) (h : Int) =
      ((a ^^^ b ^^^ c ^^^ d ^^^ e ^^^ f ^^^ g ^^^ h : Nat) : Int) := by
  have e1 := Nat.xor_lt_two_pow ha hb
  have e2 := Nat.xor_lt_two_pow e1 hc
  have e3 := Nat.xor_lt_two_pow e2 hd
  have e4 := Nat.xor_lt_two_pow e3 he
  have e5 := Nat.xor_lt_two_pow e4 hf
  have e6 := Nat.xor_lt_two_pow e5 hg
  rw [xor_u32 _ _ ha hb, xor_u32 _ _ e1 hc, xor_u32 _ _ e2 hd, xor_u32 _ _ e3 he, xor_u32 _ _ e4 hf, xor_u32 _ _ e5 hg, xor_u32 _ _ e6 hh]

theorem take8 (L : List Nat) (k : Nat) (h : k + 8 ≤ L.length) : L.take (k + 8) = L.take k ++ [L.getD k 0, L.getD (k + 1) 0, L.getD (k + 2) 0, L.getD (k + 3) 0, L.getD (k + 4) 0, L.getD (k + 5) 0, L.getD (k + 6) 0, L.getD (k + 7) 0] := by
  have s : ∀ j, j < L.length → L.take (j + 1) = L.take j ++ [L.getD j 0] := fun j hj => by
    rw [List.take_succ_eq_append_getElem hj]; simp [List.getD, hj]
  rw [show k + 8 = k + 7 + 1 by omega, s (k + 7) (by omega), show k + 7 = k + 6 + 1 by omega, s (k + 6) (by omega), show k + 6 = k + 5 + 1 by omega, s (k + 5) (by omega), show k + 5 = k + 4 + 1 by omega, s (k + 4) (by omega),
    show k + 4 = k + 3 + 1 by omega, s (k + 3) (by omega), show k + 3 = k + 2 + 1 by omega, s (k + 2) (by omega), show k + 2 = k + 1 + 1 by omega, s (k + 1) (by omega), s k (by omega)]
  simp only [List.append_assoc, List.cons_append, List.nil_append]

/-- one round, in numbers: what the eight look-ups make of c is what the eight bytes make of it -/
theorem round8 (L : List Nat) (k d c x : Nat) (h : k + 8 ≤ L.length) (hL : ∀ y ∈ L, y < 256) (hc : Crc.over d (L.take k) = c)
    (hx : x = c ^^^ Crc.le4 (L.getD k 0) (L.getD (k + 1) 0) (L.getD (k + 2) 0) (L.getD (k + 3) 0)) (hxl : x < 2 ^ 32) :
    Crc.over d (L.take (k + 8)) = Crc.tables (L.getD (k + 7) 0) ^^^ Crc.tables (256 + L.getD (k + 6) 0) ^^^ Crc.tables (512 + L.getD (k + 5) 0) ^^^ Crc.tables (768 + L.getD (k + 4) 0) ^^^
      Crc.tables (1024 + x / 16777216) ^^^ Crc.tables (1280 + x / 65536 % 256) ^^^ Crc.tables (1536 + x / 256 % 256) ^^^ Crc.tables (1792 + x % 256) := by
  have hb : ∀ j, j < L.length → L.getD j 0 < 256 := fun j hj => by
    simp only [List.getD, List.getElem?_eq_getElem hj, Option.getD_some]
    exact hL _ (List.getElem_mem hj)
  have t0 : ∀ i, i < 256 → Crc.tables i = Crc.turns 8 i := fun i hi => by have := Crc.tables_at 0 i hi; rwa [Nat.zero_mul, Nat.zero_add] at this
  have t1 : ∀ i, i < 256 → Crc.tables (256 + i) = Crc.turns 16 i := fun i hi => Crc.tables_at 1 i hi
  have t2 : ∀ i, i < 256 → Crc.tables (512 + i) = Crc.turns 24 i := fun i hi => Crc.tables_at 2 i hi
  have t3 : ∀ i, i < 256 → Crc.tables (768 + i) = Crc.turns 32 i := fun i hi => Crc.tables_at 3 i hi
  have t4 : ∀ i, i < 256 → Crc.tables (1024 + i) = Crc.turns 40 i := fun i hi => Crc.tables_at 4 i hi
  have t5 : ∀ i, i < 256 → Crc.tables (1280 + i) = Crc.turns 48 i := fun i hi => Crc.tables_at 5 i hi
  have t6 : ∀ i, i < 256 → Crc.tables (1536 + i) = Crc.turns 56 i := fun i hi => Crc.tables_at 6 i hi
  have t7 : ∀ i, i < 256 → Crc.tables (1792 + i) = Crc.turns 64 i := fun i hi => Crc.tables_at 7 i hi
  rw [t0 _ (hb _ (by omega)), t1 _ (hb _ (by omega)), t2 _ (hb _ (by omega)), t3 _ (hb _ (by omega)), t4 _ (by omega), t5 _ (Nat.mod_lt _ (by decide)), t6 _ (Nat.mod_lt _ (by decide)), t7 _ (Nat.mod_lt _ (by decide))]
  rw [take8 L k h, Crc.over_append, hc]
  exact Crc.eight c _ _ _ _ _ _ _ _ (hb _ (by omega)) (hb _ (by omega)) (hb _ (by omega)) x hx

theorem none_any (B c : Nat) (a : Option Addr) (cap : Nat) (w : World) :
    Calls Try.prog 21 #[.int .u32 c, .pointer (some ⟨B, 0, none⟩), .slice a 0 cap] w fun e w' => e = .returned (.int .u32 c) ∧ w = w' := by
  go_enter Try.func21, Try.ntmps21
  go_wp2
  go_ret
  exact ⟨rfl, rfl⟩
theorem short_any (B b off n cap c : Nat) (L : List Nat) (w : World) (hc : c < 2 ^ 32) (hL : ∀ x ∈ L, x < 256) (hn : L.length = n) (h0 : 0 < n) (h1 : n < 16) (hT : Tab w B 2048 Crc.tables) (hb : Bytes w b off L) :
    Calls Try.prog 21 #[.int .u32 c, .pointer (some ⟨B, 0, none⟩), .slice (some ⟨b, off, none⟩) n cap] w fun e w' => e = .returned (.int .u32 (4294967295 - Crc.over (4294967295 - c) L : Nat)) ∧ w = w' := by
  have hk := simple_any B b off n cap c L w hc hL hn (by omega) hT hb
  have HK := Lib.hid hk
  have h2 : ((n : Int) == 0) = false := by simp; omega
  clear hk hT hb hn hL
  go_enter Try.func21, Try.ntmps21
  go_wp2_with fail
  refine HK.out.mono ?_
  rintro e w' ⟨rfl, rfl⟩
  go_wp2
  go_ret
  exact ⟨rfl, rfl⟩
set_option maxRecDepth 100000 in
theorem long_any (B b off n cap c : Nat) (L : List Nat) (w : World) (hc : c < 2 ^ 32) (hL : ∀ x ∈ L, x < 256) (hn : L.length = n) (h1 : 16 ≤ n) (hm : n ≤ 140737488355328) (hnc : n ≤ cap) (_hcap : cap ≤ 9223372036854775807) (hT : Tab w B 2048 Crc.tables) (hb : Bytes w b off L) :
    Calls Try.prog 21 #[.int .u32 c, .pointer (some ⟨B, 0, none⟩), .slice (some ⟨b, off, none⟩) n cap] w fun e w' => e = .returned (.int .u32 (4294967295 - Crc.over (4294967295 - c) L : Nat)) ∧ ∃ q, w' = w.drewN q := by
  have h0 := not_u32 c hc
  have HT := Lib.hid hT
  have HB := Lib.hid hb
  have HN := Lib.hid hn
  have HL := Lib.hid hL
  obtain ⟨d, hd⟩ : ∃ d, 4294967295 - c = d := ⟨_, rfl⟩
  rw [hd] at h0 ⊢
  have hdl : d < 2 ^ 32 := by omega
  clear hT hb hn hL hd
  go_enter Try.func21, Try.ntmps21
  go_wp2_with fail
  go_loopg [0, 2] n (fun g x p wr => ∃ k o m cp v : Nat, k + g = n ∧ Hid (o = off + k) ∧ m + k ≤ n ∧ n ≤ m + k ∧ 0 < m ∧ m ≤ cp ∧ cp ≤ cap ∧ p = .slice (some ⟨b, o, none⟩) m cp ∧ x = .int .u32 v ∧ Hid (v = Crc.over d (L.take k)) ∧ ∃ q, wr = w.drewN q)
  case atStart => exact ⟨0, off, n, cap, d, by omega, rfl, by omega, by omega, by omega, hnc, by omega, rfl, rfl, rfl, 0, rfl⟩
  case round =>
    obtain ⟨k, o, m, cp, v, hk, ho, hm1, hm2, hm3, hmc, hcc, rfl, rfl, hv, q, rfl⟩ := hrel
    by_cases hlt : 8 < m
    · have hvl : v < 2 ^ 32 := by rw [hv.out]; exact Crc.over_lt _ d hdl (fun x hx => HL.out x (List.mem_of_mem_take hx))
      have hlen : k + 8 ≤ L.length := by have := HN.out; omega
      have hp : ∀ j, j < 8 → L.getD (k + j) 0 < 256 := fun j hj => by
        have hj' : k + j < L.length := by omega
        simp only [List.getD, List.getElem?_eq_getElem hj', Option.getD_some]
        exact HL.out _ (List.getElem_mem hj')
      have hq : ∀ j, j < 8 → w.cell? ⟨b, o + j, none⟩ = some (.int .u8 (L.getD (k + j) 0 : Nat)) := fun j hj => by
        rw [ho.out, Nat.add_assoc]; exact HB.out (k + j) (by omega)
      have hpl := hp
      have HR := fun x hx hxl => round8 L k d v x hlen HL.out hv.out.symm hx hxl
      have q0 : w.cell? ⟨b, o, none⟩ = some (.int .u8 (L.getD k 0 : Nat)) := hq 0 (by omega)
      have l0 : L.getD k 0 < 256 := hp 0 (by omega)
      have q1 : w.cell? ⟨b, o + 1, none⟩ = some (.int .u8 (L.getD (k + 1) 0 : Nat)) := hq 1 (by omega)
      have l1 : L.getD (k + 1) 0 < 256 := hp 1 (by omega)
      have q2 : w.cell? ⟨b, o + 2, none⟩ = some (.int .u8 (L.getD (k + 2) 0 : Nat)) := hq 2 (by omega)
      have l2 : L.getD (k + 2) 0 < 256 := hp 2 (by omega)
      have q3 : w.cell? ⟨b, o + 3, none⟩ = some (.int .u8 (L.getD (k + 3) 0 : Nat)) := hq 3 (by omega)
      have l3 : L.getD (k + 3) 0 < 256 := hp 3 (by omega)
      have q4 : w.cell? ⟨b, o + 4, none⟩ = some (.int .u8 (L.getD (k + 4) 0 : Nat)) := hq 4 (by omega)
      have l4 : L.getD (k + 4) 0 < 256 := hp 4 (by omega)
      have q5 : w.cell? ⟨b, o + 5, none⟩ = some (.int .u8 (L.getD (k + 5) 0 : Nat)) := hq 5 (by omega)
      have l5 : L.getD (k + 5) 0 < 256 := hp 5 (by omega)
      have q6 : w.cell? ⟨b, o + 6, none⟩ = some (.int .u8 (L.getD (k + 6) 0 : Nat)) := hq 6 (by omega)
      have l6 : L.getD (k + 6) 0 < 256 := hp 6 (by omega)
      have q7 : w.cell? ⟨b, o + 7, none⟩ = some (.int .u8 (L.getD (k + 7) 0 : Nat)) := hq 7 (by omega)
      have l7 : L.getD (k + 7) 0 < 256 := hp 7 (by omega)
      clear hp hpl hq
      generalize L.getD k 0 = p0 at q0 l0 HR
      generalize L.getD (k + 1) 0 = p1 at q1 l1 HR
      generalize L.getD (k + 2) 0 = p2 at q2 l2 HR
      generalize L.getD (k + 3) 0 = p3 at q3 l3 HR
      generalize L.getD (k + 4) 0 = p4 at q4 l4 HR
      generalize L.getD (k + 5) 0 = p5 at q5 l5 HR
      generalize L.getD (k + 6) 0 = p6 at q6 l6 HR
      generalize L.getD (k + 7) 0 = p7 at q7 l7 HR
      have hle : Crc.le4 p0 p1 p2 p3 < 2 ^ 32 := by unfold Crc.le4; omega
      have hxor := xor_u32 v (Crc.le4 p0 p1 p2 p3) hvl hle
      have hxl : v ^^^ Crc.le4 p0 p1 p2 p3 < 2 ^ 32 := Nat.xor_lt_two_pow hvl hle
      replace HR := HR _ rfl hxl
      generalize v ^^^ Crc.le4 p0 p1 p2 p3 = x at hxor hxl HR
      have i4 : x / 16777216 < 256 := by omega
      have e5 : bits BinOp.and .u32 ((x : Int) / 65536) 255 = ((x / 65536 % 256 : Nat) : Int) := and255 (x / 65536) (by omega)
      have i5 : x / 65536 % 256 < 256 := by omega
      have e6 : bits BinOp.and .u32 ((x : Int) / 256) 255 = ((x / 256 % 256 : Nat) : Int) := and255 (x / 256) (by omega)
      have i6 : x / 256 % 256 < 256 := by omega
      have e7 := and255 x hxl
      have i7 : x % 256 < 256 := by omega
      have r4 := (HT.out (1024 + x / 16777216) (by omega)).1
      generalize x / 65536 % 256 = u5 at e5 i5 HR
      generalize x / 256 % 256 = u6 at e6 i6 HR
      generalize x % 256 = u7 at e7 i7 HR
      have r0 := (HT.out (p7) (by omega)).1
      have r1 := (HT.out (256 + p6) (by omega)).1
      have r2 := (HT.out (512 + p5) (by omega)).1
      have r3 := (HT.out (768 + p4) (by omega)).1
      have r5 := (HT.out (1280 + u5) (by omega)).1
      have r6 := (HT.out (1536 + u6) (by omega)).1
      have r7 := (HT.out (1792 + u7) (by omega)).1
      have b0 := Crc.tables_lt p7
      generalize Crc.tables p7 = a0 at r0 b0 HR
      have b1 := Crc.tables_lt (256 + p6)
      generalize Crc.tables (256 + p6) = a1 at r1 b1 HR
      have b2 := Crc.tables_lt (512 + p5)
      generalize Crc.tables (512 + p5) = a2 at r2 b2 HR
      have b3 := Crc.tables_lt (768 + p4)
      generalize Crc.tables (768 + p4) = a3 at r3 b3 HR
      have b4 := Crc.tables_lt (1024 + x / 16777216)
      generalize Crc.tables (1024 + x / 16777216) = a4 at r4 b4 HR
      have b5 := Crc.tables_lt (1280 + u5)
      generalize Crc.tables (1280 + u5) = a5 at r5 b5 HR
      have b6 := Crc.tables_lt (1536 + u6)
      generalize Crc.tables (1536 + u6) = a6 at r6 b6 HR
      have b7 := Crc.tables_lt (1792 + u7)
      generalize Crc.tables (1792 + u7) = a7 at r7 b7 HR
      have HC := Lib.hid (xor_chain a0 a1 a2 a3 a4 a5 a6 a7 b0 b1 b2 b3 b4 b5 b6 b7)
      replace HR := Lib.hid HR
      clear hv hvl hle b0 b1 b2 b3 b4 b5 b6 b7 hlen
      go_wp2_with fail
      refine (le_any b o m cp p0 p1 p2 p3 _ (by omega) l0 l1 l2 l3 (by simpa using q0) (by simpa using q1) (by simpa using q2) (by simpa using q3)).mono ?_
      rintro e w1 ⟨rfl, q', rfl⟩
      go_wp2_with fail
      go_quiet (fail)
      go_wp2_with fail
      go_roundg (gk - 8)
      case measure => omega
      case rel =>
        have HO : Hid (o + 8 = off + (k + 8)) := by
          have := ho.out
          show o + 8 = off + (k + 8)
          omega
        exact ⟨k + 8, o + 8, m - 8, cp - 8, _, by omega, HO, by omega, by omega, by omega, by omega, by omega, rfl, val_u32 HC.out, HR.out.symm, _, rfl⟩
    · have hvl : v < 2 ^ 32 := by rw [hv.out]; exact Crc.over_lt _ d hdl (fun x hx => HL.out x (List.mem_of_mem_take hx))
      have h3 := not_u32 v hvl
      have hfin : Crc.over (4294967295 - (4294967295 - v)) (L.drop k) = Crc.over d L := by
        rw [show 4294967295 - (4294967295 - v) = v by omega, hv.out, ← Crc.over_append, List.take_append_drop]
      have hT2 : Tab (w.drewN q) B 2048 Crc.tables := HT.out
      have hB2 : Bytes (w.drewN q) b o (L.drop k) := by rw [ho.out]; exact HB.out.drop k
      have hK := simple_any B b o m cp (4294967295 - v) (L.drop k) (w.drewN q) (by omega) (fun x hx => HL.out x (List.mem_of_mem_drop hx)) (by rw [List.length_drop]; have := HN.out; omega) (by omega) hT2 hB2
      rw [hfin] at hK
      have HK := Lib.hid hK
      have h4 : ((m : Int) == 0) = false := by simp; omega
      clear hK hfin hT2 hB2
      go_wp2_with fail
      refine HK.out.mono ?_
      rintro e w' ⟨rfl, rfl⟩
      go_wp2_with fail
      go_ret
      exact ⟨rfl, q, rfl⟩
end Go.Proofs.Ytpcbdomhhoffkaa.Fp

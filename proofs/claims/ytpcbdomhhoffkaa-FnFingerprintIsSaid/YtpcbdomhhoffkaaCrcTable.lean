/- crc32.simplePopulateTable lays the table of one byte, crc32.leUint32 reads four bytes, crc32.simpleUpdate takes bytes one by one by the table. -/
import Derived.Test.YtpcbdomhhoffkaaCrcWords
import Derived.WalkLawsBesides
import Derived.WalkSpells
import Derived.Handy
import Derived.Deep.QuietTactic
import Derived.BigQuiet
import Derived.Deep.LoopGhost
namespace Go.Proofs.Ytpcbdomhhoffkaa.Fp
open Go.RowKit

theorem le_any (b off n cap : Nat) (p0 p1 p2 p3 : Nat) (w : World) (hn : 4 ≤ n) (h0 : p0 < 256) (h1 : p1 < 256) (h2 : p2 < 256) (h3 : p3 < 256)
    (c0 : w.cell? ⟨b, off, none⟩ = some (.int .u8 p0)) (c1 : w.cell? ⟨b, off + 1, none⟩ = some (.int .u8 p1)) (c2 : w.cell? ⟨b, off + 2, none⟩ = some (.int .u8 p2)) (c3 : w.cell? ⟨b, off + 3, none⟩ = some (.int .u8 p3)) :
    Calls Try.prog 23 #[.slice (some ⟨b, off, none⟩) n cap] w fun e w' => e = .returned (.int .u32 (Crc.le4 p0 p1 p2 p3 : Nat)) ∧ ∃ q, w' = w.drewN q := by
  have H := Lib.hid (le4_or p0 p1 p2 p3 h0 h1 h2 h3)
  go_enter Try.func23, Try.ntmps23
  go_wp2
  go_quiet (fail)
  go_wp2
  go_ret
  exact ⟨ret_u32 H.out, _, rfl⟩

def Populated (B : Nat) (w w' : World) : Prop := (∃ g, Tab w' B 2048 g ∧ ∀ j, j < 256 → g j = Crc.tables j) ∧ Below B w w'
set_option maxRecDepth 100000 in
theorem pop_any (B : Nat) (f : Nat → Nat) (w : World) (hT : Tab w B 2048 f) :
    Calls Try.prog 25 #[.int .u32 3988292384, .pointer (some ⟨B, 0, none⟩)] w fun e w' => e = .returned (.tuple #[]) ∧ Populated B w w' := by
  go_enter Try.func25, Try.ntmps25
  go_wp2
  go_loopg [4] 256 (fun g i wr => ∃ k : Nat, k + g = 256 ∧ i = .int .i64 k ∧ (∃ f', Tab wr B 2048 f' ∧ ∀ j, j < k → f' j = Crc.tables j) ∧ Below B w wr)
  case atStart => exact ⟨0, by omega, rfl, ⟨f, hT, fun j h => by omega⟩, Below.refl _ _⟩
  case round =>
    obtain ⟨k, hk, rfl, HF, hB⟩ := hrel
    replace HF := Lib.hid HF
    by_cases hlt : k < 256
    · go_wp2
      go_loop [5, 6] (fun c j => ∃ m : Nat, m ≤ 8 ∧ j = .int .i64 m ∧ c = .int .u32 (Crc.turns m k : Nat)) (fun _ j => 8 - (intOf j).toNat)
      case atStart => exact ⟨0, by omega, rfl, rfl⟩
      case round =>
        obtain ⟨m, hm, rfl, rfl⟩ := hrel
        by_cases hlt : m < 8
        · have hl := Crc.turns_lt m k (by omega)
          have hs := Crc.turns_succ m k
          generalize Crc.turns m k = x at hl hs ⊢
          have HS := Lib.hid hs
          clear hs
          by_cases ht : x % 2 = 1
          · have h1 := odd_of x hl ht
            have h2 := Lib.hid (turn_odd x hl ht)
            clear ht
            go_wp2
            go_round
            case rel => exact ⟨m + 1, by omega, by go_num, by rw [HS.out]; exact val_u32 h2.out⟩
            case measure => simp [intOf]; omega
          · have h1 := even_of x hl ht
            have h2 := Lib.hid (turn_even x ht)
            clear ht
            go_wp2
            go_round
            case rel => exact ⟨m + 1, by omega, by go_num, by rw [HS.out]; exact val_u32 h2.out⟩
            case measure => simp [intOf]; omega
        · obtain ⟨f', hT', hf'⟩ := HF.out
          have hc := (hT' k (by omega)).1
          have hz := (hT' k (by omega)).2
          have hl := Crc.turns_lt m k (by omega)
          obtain rfl : m = 8 := by omega
          generalize hx : Crc.turns 8 k = x at hl ⊢
          have HX := Lib.hid hx
          have HT := Lib.hid hT'
          have HG := Lib.hid hf'
          clear hx hT' hf'
          go_wp2
          go_roundg (gk - 1)
          case measure => omega
          case rel => exact ⟨k + 1, by omega, by go_num, ⟨_, HT.out.set k x (by omega), fun j hj => by
            by_cases e : j = k
            · subst e
              simp only [if_true]
              rw [← HX.out]
              have := Crc.tables_at 0 j (by omega)
              rw [Nat.zero_mul, Nat.zero_add] at this
              exact this.symm
            · simp only [if_neg e]; exact HG.out j (by omega)⟩, hB.setCell (Nat.le_refl _) _⟩
    · obtain rfl : k = 256 := by omega
      go_wp2
      go_end0
      exact ⟨rfl, HF.out, hB⟩

theorem take_over (L : List Nat) (k c : Nat) (h : k < L.length) : Crc.over c (L.take (k + 1)) = Crc.turns 8 (Crc.over c (L.take k) ^^^ L.getD k 0) := by
  rw [List.take_succ_eq_append_getElem h, Crc.over_append]
  simp [Crc.over, List.getD, h]
set_option maxRecDepth 100000 in
theorem simple_any (B b off n cap c : Nat) (L : List Nat) (w : World) (hc : c < 2 ^ 32) (hL : ∀ x ∈ L, x < 256) (hn : L.length = n) (hm : n ≤ 9223372036854775807) (hT : Tab w B 2048 Crc.tables) (hb : Bytes w b off L) :
    Calls Try.prog 24 #[.int .u32 c, .pointer (some ⟨B, 0, none⟩), .slice (some ⟨b, off, none⟩) n cap] w fun e w' => e = .returned (.int .u32 (4294967295 - Crc.over (4294967295 - c) L : Nat)) ∧ w = w' := by
  have h0 := not_u32 c hc
  have HT := Lib.hid hT
  have HB := Lib.hid hb
  have HN := Lib.hid hn
  have HL := Lib.hid hL
  obtain ⟨d, hd⟩ : ∃ d, 4294967295 - c = d := ⟨_, rfl⟩
  rw [hd] at h0 ⊢
  have hdl : d < 2 ^ 32 := by omega
  clear hT hb hn hL hd
  go_enter Try.func24, Try.ntmps24
  go_wp2
  go_loop [0, 13] (fun x i => ∃ k : Nat, k ≤ n ∧ i = .int .i64 k ∧ x = .int .u32 (Crc.over d (L.take k) : Nat)) (fun _ i => n - (intOf i).toNat)
  case atStart => exact ⟨0, by omega, rfl, rfl⟩
  case round =>
    obtain ⟨k, hk, rfl, rfl⟩ := hrel
    have hl := Crc.over_lt (L.take k) d hdl (fun x hx => HL.out x (List.mem_of_mem_take hx))
    by_cases hlt : k < n
    · have hs := take_over L k d (by have := HN.out; omega)
      have hp := HB.out k (by have := HN.out; omega)
      have hpl : L.getD k 0 < 256 := by
        have hlen : k < L.length := by have := HN.out; omega
        simp only [List.getD, List.getElem?_eq_getElem hlen, Option.getD_some]
        exact HL.out _ (List.getElem_mem hlen)
      generalize Crc.over d (L.take k) = x at hl hs ⊢
      generalize L.getD k 0 = p at hs hp hpl
      rw [Crc.byte_by_table x p] at hs
      have hi := byte_index x p hpl
      have hil : (x % 256) ^^^ p < 256 := Nat.xor_lt_two_pow (n := 8) (by omega) (by omega)
      generalize (x % 256) ^^^ p = u at hi hil hs
      have ht := (HT.out u (by omega)).1
      have htl := Crc.tables_lt u
      have hte : Crc.tables u = Crc.turns 8 u := by
        have := Crc.tables_at 0 u hil
        rwa [Nat.zero_mul, Nat.zero_add] at this
      rw [← hte] at hs
      clear hte
      generalize Crc.tables u = t at ht htl hs
      have HX : Hid (bits BinOp.xor .u32 (t : Int) ((x : Int) / 256) = ((t ^^^ x / 256 : Nat) : Int)) := xor_u32 t (x / 256) htl (by omega)
      have HS := Lib.hid hs
      clear hs
      go_wp2
      go_round
      case rel => exact ⟨k + 1, by omega, by go_num, by rw [HS.out]; exact val_u32 HX.out⟩
      case measure => simp [intOf]; omega
    · obtain rfl : k = n := by omega
      have hfin : L.take k = L := List.take_of_length_le (by have := HN.out; omega)
      rw [hfin] at hl ⊢
      have HY := Lib.hid (not_u32 (Crc.over d L) hl)
      clear hfin
      go_wp2
      go_ret
      exact ⟨ret_u32 HY.out, rfl⟩
end Go.Proofs.Ytpcbdomhhoffkaa.Fp

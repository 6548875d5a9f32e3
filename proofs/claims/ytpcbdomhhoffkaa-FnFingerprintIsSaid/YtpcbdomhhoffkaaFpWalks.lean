/- impl.FingerprintValue and spec.Fingerprint at bytes: both come to the check of the bytes, turned by the constant. -/
import Derived.Test.YtpcbdomhhoffkaaCrcUpdate
import Derived.Test.YtpcbdomhhoffkaaClone
namespace Go.Proofs.Ytpcbdomhhoffkaa.Fp
open Go.RowKit

/-- the check of bytes -/
def check (L : List Nat) : Nat := 4294967295 - Crc.over 4294967295 L
theorem check_lt (L : List Nat) : check L < 2 ^ 32 := by unfold check; omega

/-- UpdateIEEE -/
theorem update_any (a : Option Addr) (n cap g : Nat) (L : List Nat) (w : World) (hL : ∀ x ∈ L, x < 256) (hn : L.length = n) (hm : n ≤ 140737488355328) (hnc : n ≤ cap) (hcap : cap ≤ 9223372036854775807)
    (ha : 0 < n → a = some ⟨g, 0, none⟩ ∧ g < w.heap.size ∧ Bytes w g 0 L) :
    Calls Try.prog 20 #[.int .u32 0, .slice a n cap] w fun e w' => e = .returned (.int .u32 (check L : Nat)) ∧ Below w.heap.size w w' := by
  have HL := Lib.hid hL
  have HN := Lib.hid hn
  have HA := Lib.hid ha
  clear hL hn ha
  go_enter Try.func20, Try.ntmps20
  go_wp2_with fail
  refine (make_any _).mono ?_
  rintro e w1 ⟨rfl, hT, hB⟩
  by_cases h0 : n = 0
  · subst h0
    have HR : Hid (check L = 0) := by
      have : L = [] := List.eq_nil_of_length_eq_zero HN.out
      subst this
      rfl
    have HBe := Lib.hid hB
    clear hT hB
    go_wp2_with fail
    refine (none_any w.heap.size 0 a cap w1).mono ?_
    rintro e w2 ⟨rfl, rfl⟩
    go_wp2_with fail
    go_ret
    exact ⟨ret_u32 (by rw [HR.out]; rfl), HBe.out⟩
  · obtain ⟨rfl, hg, hbytes⟩ := HA.out (by omega)
    have hb1 : Bytes w1 g 0 L := hbytes.congr (hB.block g hg)
    by_cases h16 : n < 16
    · have HK := Lib.hid (short_any w.heap.size g 0 n cap 0 L w1 (by decide) HL.out HN.out (by omega) h16 hT hb1)
      have HBe := Lib.hid hB
      clear hT hB hb1 hbytes
      go_wp2_with fail
      refine HK.out.mono ?_
      rintro e w2 ⟨rfl, rfl⟩
      go_wp2_with fail
      go_ret
      exact ⟨rfl, HBe.out⟩
    · have HK := Lib.hid (long_any w.heap.size g 0 n cap 0 L w1 (by decide) HL.out HN.out (by omega) hm hnc hcap hT hb1)
      have HBe := Lib.hid hB
      clear hT hB hb1 hbytes
      go_wp2_with fail
      refine HK.out.mono ?_
      rintro e w2 ⟨rfl, q, rfl⟩
      go_wp2_with fail
      go_ret
      exact ⟨rfl, HBe.out.trans ⟨rfl, rfl, rfl, Nat.le_refl _, fun _ _ => rfl⟩⟩

theorem finger_u32 (c : Nat) (h : c < 2 ^ 32) : bits BinOp.xor .u32 (c : Int) 1398035790 = ((c ^^^ 1398035790 : Nat) : Int) := xor_u32 c 1398035790 h (by decide)

/-- ChecksumIEEE -/
theorem sum_any (a : Option Addr) (n cap g : Nat) (L : List Nat) (w : World) (hL : ∀ x ∈ L, x < 256) (hn : L.length = n) (hm : n ≤ 140737488355328) (hnc : n ≤ cap) (hcap : cap ≤ 9223372036854775807)
    (ha : 0 < n → a = some ⟨g, 0, none⟩ ∧ g < w.heap.size ∧ Bytes w g 0 L) :
    Calls Try.prog 19 #[.slice a n cap] w fun e w' => e = .returned (.int .u32 (check L : Nat)) ∧ Below w.heap.size w w' := by
  have HK := Lib.hid (update_any a n cap g L w hL hn hm hnc hcap ha)
  clear hL hn ha hm hnc hcap
  go_enter Try.func19, Try.ntmps19
  go_wp2_with fail
  refine HK.out.mono ?_
  rintro e w1 ⟨rfl, hB⟩
  have HB := Lib.hid hB
  clear hB
  go_wp2_with fail
  go_ret
  exact ⟨rfl, HB.out⟩
/-- stun.FingerprintValue -/
theorem stun_any (a : Option Addr) (n cap g : Nat) (L : List Nat) (w : World) (hL : ∀ x ∈ L, x < 256) (hn : L.length = n) (hm : n ≤ 140737488355328) (hnc : n ≤ cap) (hcap : cap ≤ 9223372036854775807)
    (ha : 0 < n → a = some ⟨g, 0, none⟩ ∧ g < w.heap.size ∧ Bytes w g 0 L) :
    Calls Try.prog 16 #[.slice a n cap] w fun e w' => e = .returned (.int .u32 (check L ^^^ 1398035790 : Nat)) ∧ Below w.heap.size w w' := by
  have HK := Lib.hid (sum_any a n cap g L w hL hn hm hnc hcap ha)
  have HX := Lib.hid (finger_u32 (check L) (check_lt L))
  clear hL hn ha hm hnc hcap
  go_enter Try.func16, Try.ntmps16
  go_wp2_with fail
  refine HK.out.mono ?_
  rintro e w1 ⟨rfl, hB⟩
  have HB := Lib.hid hB
  clear hB
  go_wp2_with fail
  go_ret
  exact ⟨ret_u32 HX.out, HB.out⟩
/-- impl.FingerprintValue -/
theorem impl_of (x : Option Addr) (n cap : Nat) (L : List Nat) (w : World) (hL : ∀ x ∈ L, x < 256) (hn : L.length = n) (hm : n ≤ 140737488355328)
    (hc : Calls Try.prog 17 #[.slice x n cap] w fun e w' => ∃ v, e = .returned v ∧ Cloned w L n v w') :
    Calls Try.prog 11 #[.slice x n cap] w fun e w' => e = .returned (.int .u32 (check L ^^^ 1398035790 : Nat)) ∧ Below w.heap.size w w' := by
  have HC := Lib.hid hc
  have HL := Lib.hid hL
  have HN := Lib.hid hn
  clear hL hn hc
  go_enter Try.func11, Try.ntmps11
  go_wp2_with fail
  refine HC.out.mono ?_
  rintro e w1 ⟨v, rfl, a, c, rfl, hc1, hc2, hg, hB⟩
  have hg' : ∃ g, 0 < n → a = some ⟨g, 0, none⟩ ∧ g < w1.heap.size ∧ Bytes w1 g 0 L := by
    by_cases h0 : 0 < n
    · obtain ⟨g, h1, _, h2, h3⟩ := hg h0
      exact ⟨g, fun _ => ⟨h1, h2, h3⟩⟩
    · exact ⟨0, fun h => absurd h h0⟩
  obtain ⟨g, hg'⟩ := hg'
  have HK := Lib.hid (stun_any a n c g L w1 HL.out HN.out hm hc1 (by unfold maxLen at hc2; omega) hg')
  have HB := Lib.hid hB
  clear hB hg hg' hc1 hc2
  go_wp2_with fail
  refine HK.out.mono ?_
  rintro e w2 ⟨rfl, hB2⟩
  have HB2 := Lib.hid hB2
  clear hB2
  go_wp2_with fail
  go_ret
  exact ⟨rfl, HB.out.trans (HB2.out.mono HB.out.size)⟩

/-- spec.crc -/
theorem spec_crc (a : Option Addr) (b off n cap : Nat) (L : List Nat) (w : World) (hL : ∀ x ∈ L, x < 256) (hn : L.length = n) (hm : n ≤ 140737488355328) (ha : 0 < n → a = some ⟨b, off, none⟩ ∧ Bytes w b off L) :
    Calls Try.prog 18 #[.slice a n cap] w fun e w' => e = .returned (.int .u32 (check L : Nat)) ∧ w = w' := by
  have HL := Lib.hid hL
  have HN := Lib.hid hn
  have HA := Lib.hid ha
  clear hL hn ha
  go_enter Try.func18, Try.ntmps18
  go_wp2
  go_loop [3, 10] (fun x i => ∃ k v : Nat, k ≤ n ∧ i = .int .i64 k ∧ x = .int .u32 v ∧ Hid (v = Crc.over 4294967295 (L.take k))) (fun _ i => n - (intOf i).toNat)
  case atStart => exact ⟨0, 4294967295, by omega, rfl, rfl, rfl⟩
  case round =>
    obtain ⟨k, v, hk, rfl, rfl, hv⟩ := hrel
    have hvl : v < 2 ^ 32 := by rw [hv.out]; exact Crc.over_lt _ _ (by decide) (fun x hx => HL.out x (List.mem_of_mem_take hx))
    by_cases hlt : k < n
    · obtain ⟨rfl, hbytes⟩ := HA.out (by omega)
      have hlen : k < L.length := by have := HN.out; omega
      have hs := take_over L k 4294967295 hlen
      rw [← hv.out] at hs
      have hc := hbytes k hlen
      have hpl : L.getD k 0 < 256 := by
        simp only [List.getD, List.getElem?_eq_getElem hlen, Option.getD_some]
        exact HL.out _ (List.getElem_mem hlen)
      generalize L.getD k 0 = p at hs hc hpl
      have hx := xor_u32 v p hvl (by omega)
      have hyl : v ^^^ p < 2 ^ 32 := Nat.xor_lt_two_pow hvl (by omega)
      generalize v ^^^ p = y at hs hx hyl
      have HS := Lib.hid hs
      clear hs hbytes hv hlen
      go_wp2
      go_loop [3, 6] (fun c j => ∃ m : Nat, m ≤ 8 ∧ j = .int .i64 m ∧ c = .int .u32 (Crc.turns m y : Nat)) (fun _ j => 8 - (intOf j).toNat)
      case atStart => exact ⟨0, by omega, rfl, rfl⟩
      case round =>
        obtain ⟨m, hm, rfl, rfl⟩ := hrel
        by_cases hlm : m < 8
        · have hl := Crc.turns_lt m y hyl
          have ht := Crc.turns_succ m y
          generalize Crc.turns m y = x at hl ht ⊢
          have HT := Lib.hid ht
          clear ht
          by_cases hodd : x % 2 = 1
          · have h1 := odd_of x hl hodd
            have h2 := Lib.hid (turn_odd x hl hodd)
            clear hodd
            go_wp2
            go_round
            case rel => exact ⟨m + 1, by omega, by go_num, by rw [HT.out]; exact val_u32 h2.out⟩
            case measure => simp [intOf]; omega
          · have h1 := even_of x hl hodd
            have h2 := Lib.hid (turn_even x hodd)
            clear hodd
            go_wp2
            go_round
            case rel => exact ⟨m + 1, by omega, by go_num, by rw [HT.out]; exact val_u32 h2.out⟩
            case measure => simp [intOf]; omega
        · obtain rfl : m = 8 := by omega
          go_wp2
          go_round
          case rel => exact ⟨k + 1, _, by omega, by go_num, rfl, HS.out.symm⟩
          case measure => simp [intOf]; omega
    · obtain rfl : k = n := by omega
      have hfin : L.take k = L := List.take_of_length_le (by have := HN.out; omega)
      rw [hfin] at hv
      have HY := Lib.hid (not_u32 v hvl)
      clear hfin
      go_wp2
      go_ret
      exact ⟨ret_u32 (by rw [HY.out, hv.out]; rfl), rfl⟩
theorem spec_any (a : Option Addr) (b off n cap : Nat) (L : List Nat) (w : World) (hL : ∀ x ∈ L, x < 256) (hn : L.length = n) (hm : n ≤ 140737488355328) (ha : 0 < n → a = some ⟨b, off, none⟩ ∧ Bytes w b off L) :
    Calls Try.prog 12 #[.slice a n cap] w fun e w' => e = .returned (.int .u32 (check L ^^^ 1398035790 : Nat)) ∧ w = w' := by
  have HK := Lib.hid (spec_crc a b off n cap L w hL hn hm ha)
  have HX := Lib.hid (finger_u32 (check L) (check_lt L))
  clear hL hn ha hm
  go_enter Try.func12, Try.ntmps12
  go_wp2_with fail
  refine HK.out.mono ?_
  rintro e w1 ⟨rfl, rfl⟩
  go_wp2_with fail
  go_ret
  exact ⟨ret_u32 HX.out, rfl⟩
end Go.Proofs.Ytpcbdomhhoffkaa.Fp

/- md5.blockGeneric: whole blocks turn the state as the plain mathematics says; only the four words of the state are written. -/
import Derived.Test.YtcmopgfagooboaaDoorFrame
namespace Go.Proofs.YtcmopgfagooboaaDoor
open Go.RowKit
open Md5 (W H4)

def regs (r : Nat → Value) (a b c d : W) (k : Nat) : Value := if k = 4 then U a else if k = 5 then U b else if k = 6 then U c else if k = 7 then U d else r k
theorem Live.congr {a : Act} {f g : Nat → Value} (h : Live a f) (e : ∀ k, k < 30 → f k = g k) : Live a g := ⟨h.defers, h.size, fun k hk => (h.get k hk).trans (e k hk)⟩
theorem upd_a (r : Nat → Value) (a b c d z : W) : upd (regs r a b c d) 4 (U z) = regs r z b c d := by
  funext k; unfold upd regs; by_cases e : k = 4 <;> simp [e]
theorem upd_b (r : Nat → Value) (a b c d z : W) : upd (regs r a b c d) 5 (U z) = regs r a z c d := by
  funext k; unfold upd regs; by_cases e : k = 5 <;> simp [e]
theorem upd_c (r : Nat → Value) (a b c d z : W) : upd (regs r a b c d) 6 (U z) = regs r a b z d := by
  funext k; unfold upd regs; by_cases e : k = 6 <;> simp [e]
theorem upd_d (r : Nat → Value) (a b c d z : W) : upd (regs r a b c d) 7 (U z) = regs r a b c z := by
  funext k; unfold upd regs; by_cases e : k = 7 <;> simp [e]

theorem regs_a (r : Nat → Value) (a b c d : W) : regs r a b c d 4 = U a := rfl
theorem regs_b (r : Nat → Value) (a b c d : W) : regs r a b c d 5 = U b := rfl
theorem regs_c (r : Nat → Value) (a b c d : W) : regs r a b c d 6 = U c := rfl
theorem regs_d (r : Nat → Value) (a b c d : W) : regs r a b c d 7 = U d := rfl
theorem val_u32 {a b : Int} (h : a = b) : Value.int .u32 a = .int .u32 b := by rw [h]
theorem val_i64 {a b : Int} (h : a = b) : Value.int .i64 a = .int .i64 b := by rw [h]
theorem abstract_frame {P : Program} {c : Code} {Q : Exit → Act → World → Prop} {t : Array Value} {w : World} (hs : t.size = N)
    (h : ∀ (a : Act) (f : Nat → Value), Live a f → (∀ k, k < 30 → f k = t.getD k undef) → c.wp P Q a w) : c.wp P Q { tmps := t, defers := [] } w :=
  h _ (fun k => t.getD k undef) ⟨rfl, hs, fun _ _ => rfl⟩ fun _ _ => rfl
theorem regs_self (r : Nat → Value) (a b c d : W) (k : Nat) (ha : r 4 = U a) (hb : r 5 = U b) (hc : r 6 = U c) (hd : r 7 = U d) : r k = regs r a b c d k := by
  unfold regs
  by_cases e4 : k = 4
  · subst e4; rw [if_pos rfl, ha]
  · rw [if_neg e4]
    by_cases e5 : k = 5
    · subst e5; rw [if_pos rfl, hb]
    · rw [if_neg e5]
      by_cases e6 : k = 6
      · subst e6; rw [if_pos rfl, hc]
      · rw [if_neg e6]
        by_cases e7 : k = 7
        · subst e7; rw [if_pos rfl, hd]
        · rw [if_neg e7]
theorem regs_pass (r : Nat → Value) (a b c d : W) (k : Nat) (h : k < 4 ∨ 7 < k) : regs r a b c d k = r k := by
  unfold regs
  rw [if_neg (by omega), if_neg (by omega), if_neg (by omega), if_neg (by omega)]
/-- what holds at the loop's head: k of m blocks are taken up -/
structure Head (D b off n cap m : Nat) (h : H4) (L : List UInt8) (w : World) (g : Nat) (a : Act) (wr : World) (k : Nat) (f : Nat → Value) : Prop where
  num : k + g = m
  live : Live a f
  f0 : f 0 = .pointer (some ⟨D, 0, none⟩)
  f1 : f 1 = .slice (some ⟨b, off, none⟩) n cap
  f4 : f 4 = U (Md5.blocks k h L).a
  f5 : f 5 = U (Md5.blocks k h L).b
  f6 : f 6 = U (Md5.blocks k h L).c
  f7 : f 7 = U (Md5.blocks k h L).d
  f8 : f 8 = .int .i64 ((64 * k : Nat) : Int)
  world : ∃ q, wr = w.drewN q

def Blocked (D : Nat) (h : H4) (w w' : World) : Prop :=
  ∃ q, w' = (((((w.drewN q).setCell ⟨D, 0, none⟩ (U h.a)).setCell ⟨D, 1, none⟩ (U h.b)).setCell ⟨D, 2, none⟩ (U h.c)).setCell ⟨D, 3, none⟩ (U h.d))

theorem word_at {w : World} {b off : Nat} {L : List UInt8} (hb : Bytes w b off L) (k j : Nat) (hk : 64 * k + 64 ≤ L.length) (hj : j < 16) (o n cap q : Nat) (ho : o = off + 64 * k + 4 * j) (hn : 4 ≤ n) :
    Calls Tryd.prog 22 #[.slice (some ⟨b, o, none⟩) n cap] (w.drewN q) fun e w' => e = .returned (U (Md5.wordsOf (L.drop (64 * k)) j)) ∧ ∃ q, w' = w.drewN q := by
  have hc : ∀ i, i < 4 → (w.drewN q).cell? ⟨b, o + i, none⟩ = some (.int .u8 (((L.drop (64 * k)).getD (4 * j + i) 0).toNat : Nat)) := fun i hi => by
    have h := hb (64 * k + (4 * j + i)) (by omega)
    rw [World.cell?_drewN, show o + i = off + (64 * k + (4 * j + i)) by omega, h]
    simp [List.getD, List.getElem?_drop]
  refine (le_any b o n cap _ _ _ _ (w.drewN q) hn (hc 0 (by omega)) (hc 1 (by omega)) (hc 2 (by omega)) (hc 3 (by omega))).mono ?_
  rintro e w' ⟨he, q', hw⟩
  exact ⟨he, q + q', hw.trans (World.drewN_drewN _ _ _)⟩

set_option maxRecDepth 1000000 in
set_option maxHeartbeats 4000000 in
theorem block_any (D b off n cap m : Nat) (h : H4) (L : List UInt8) (w : World) (hn : n = 64 * m) (hL : L.length = n) (hcap : n ≤ cap) (hm : cap ≤ 9223372036854775807) (hb : Bytes w b off L)
    (c0 : w.cell? ⟨D, 0, none⟩ = some (U h.a)) (c1 : w.cell? ⟨D, 1, none⟩ = some (U h.b)) (c2 : w.cell? ⟨D, 2, none⟩ = some (U h.c)) (c3 : w.cell? ⟨D, 3, none⟩ = some (U h.d))
    (z0 : w.frozen? ⟨D, 0, none⟩ = false) (z1 : w.frozen? ⟨D, 1, none⟩ = false) (z2 : w.frozen? ⟨D, 2, none⟩ = false) (z3 : w.frozen? ⟨D, 3, none⟩ = false) :
    Calls Tryd.prog 20 #[.pointer (some ⟨D, 0, none⟩), .slice (some ⟨b, off, none⟩) n cap] w fun e w' => e = .returned (.tuple #[]) ∧ Blocked D (Md5.blocks m h L) w w' := by
  have HN := Lib.hid hn
  have HL := Lib.hid hL
  have HB := Lib.hid hb
  clear hn hL hb
  go_enter Tryd.func20, Tryd.ntmps20
  go_wp2_with fail
  go_quiet (fail)
  go_wp2_with fail
  refine wp_loop_ghost_k (fun g a wr => ∃ k f, Head D b off n cap m h L w g a wr k f) m ⟨0, _, by omega, ⟨rfl, by kernel_rfl, fun _ _ => rfl⟩, rfl, rfl, rfl, rfl, rfl, rfl, rfl, _, rfl⟩ ?_
  intro g a wr hI J K hJ hK
  obtain ⟨k, f, hI⟩ := hI
  obtain ⟨r, ha⟩ := written hI.live
  rw [hI.f0, hI.f1, hI.f4, hI.f5, hI.f6, hI.f7, hI.f8] at ha
  subst ha
  obtain ⟨q, rfl⟩ := hI.world
  have hnum := hI.num
  clear hI
  have hnm : n = 64 * m := HN.out
  by_cases hlt : k < m
  · have hle : 64 * k + 64 ≤ n := by omega
    clear hnm
    have hstep : Md5.blocks (k + 1) h L = Md5.compress (Md5.blocks k h L) (Md5.wordsOf (L.drop (64 * k))) := by rw [Md5.blocks_add]; rfl
    have hw := fun j hj o n cap q ho hn => word_at HB.out k j (by have := HL.out; omega) hj o n cap q ho hn
    generalize hhk : Md5.blocks k h L = hk at hstep
    generalize Md5.wordsOf (L.drop (64 * k)) = X at hstep hw
    have HS := Lib.hid hstep
    have HW := Lib.hid hw
    clear hhk hstep hw
    go_wp2_with fail
    refine (HW.out 0 (by omega) _ _ _ _ (by omega) (by omega)).mono ?_
    rintro e w1 ⟨rfl, q0, rfl⟩
    go_wp2_with fail
    refine (HW.out 1 (by omega) _ _ _ _ (by omega) (by omega)).mono ?_
    rintro e w1 ⟨rfl, q1, rfl⟩
    go_wp2_with fail
    refine (HW.out 2 (by omega) _ _ _ _ (by omega) (by omega)).mono ?_
    rintro e w1 ⟨rfl, q2, rfl⟩
    go_wp2_with fail
    refine (HW.out 3 (by omega) _ _ _ _ (by omega) (by omega)).mono ?_
    rintro e w1 ⟨rfl, q3, rfl⟩
    go_wp2_with fail
    refine (HW.out 4 (by omega) _ _ _ _ (by omega) (by omega)).mono ?_
    rintro e w1 ⟨rfl, q4, rfl⟩
    go_wp2_with fail
    refine (HW.out 5 (by omega) _ _ _ _ (by omega) (by omega)).mono ?_
    rintro e w1 ⟨rfl, q5, rfl⟩
    go_wp2_with fail
    refine (HW.out 6 (by omega) _ _ _ _ (by omega) (by omega)).mono ?_
    rintro e w1 ⟨rfl, q6, rfl⟩
    go_wp2_with fail
    refine (HW.out 7 (by omega) _ _ _ _ (by omega) (by omega)).mono ?_
    rintro e w1 ⟨rfl, q7, rfl⟩
    go_wp2_with fail
    refine (HW.out 8 (by omega) _ _ _ _ (by omega) (by omega)).mono ?_
    rintro e w1 ⟨rfl, q8, rfl⟩
    go_wp2_with fail
    refine (HW.out 9 (by omega) _ _ _ _ (by omega) (by omega)).mono ?_
    rintro e w1 ⟨rfl, q9, rfl⟩
    go_wp2_with fail
    refine (HW.out 10 (by omega) _ _ _ _ (by omega) (by omega)).mono ?_
    rintro e w1 ⟨rfl, q10, rfl⟩
    go_wp2_with fail
    refine (HW.out 11 (by omega) _ _ _ _ (by omega) (by omega)).mono ?_
    rintro e w1 ⟨rfl, q11, rfl⟩
    go_wp2_with fail
    refine (HW.out 12 (by omega) _ _ _ _ (by omega) (by omega)).mono ?_
    rintro e w1 ⟨rfl, q12, rfl⟩
    go_wp2_with fail
    refine (HW.out 13 (by omega) _ _ _ _ (by omega) (by omega)).mono ?_
    rintro e w1 ⟨rfl, q13, rfl⟩
    go_wp2_with fail
    refine (HW.out 14 (by omega) _ _ _ _ (by omega) (by omega)).mono ?_
    rintro e w1 ⟨rfl, q14, rfl⟩
    go_wp2_with fail
    refine (HW.out 15 (by omega) _ _ _ _ (by omega) (by omega)).mono ?_
    rintro e w1 ⟨rfl, q15, rfl⟩
    go_upto_region 23 with (fail)
    refine abstract_frame (by kernel_rfl) ?_
    intro a0 f' hlive hf
    have e0 : f' 0 = Value.pointer (some ⟨D, 0, none⟩) := hf 0 (by decide)
    have e1 : f' 1 = Value.slice (some ⟨b, off, none⟩) n cap := hf 1 (by decide)
    have e8 : f' 8 = Value.int .i64 (64 * (k : Int)) := hf 8 (by decide)
    have e10 : f' 10 = U hk.a := hf 10 (by decide)
    have e11 : f' 11 = U hk.b := hf 11 (by decide)
    have e12 : f' 12 = U hk.c := hf 12 (by decide)
    have e13 : f' 13 = U hk.d := hf 13 (by decide)
    have e14 : f' 14 = U (X 0) := hf 14 (by decide)
    have e15 : f' 15 = U (X 1) := hf 15 (by decide)
    have e16 : f' 16 = U (X 2) := hf 16 (by decide)
    have e17 : f' 17 = U (X 3) := hf 17 (by decide)
    have e18 : f' 18 = U (X 4) := hf 18 (by decide)
    have e19 : f' 19 = U (X 5) := hf 19 (by decide)
    have e20 : f' 20 = U (X 6) := hf 20 (by decide)
    have e21 : f' 21 = U (X 7) := hf 21 (by decide)
    have e22 : f' 22 = U (X 8) := hf 22 (by decide)
    have e23 : f' 23 = U (X 9) := hf 23 (by decide)
    have e24 : f' 24 = U (X 10) := hf 24 (by decide)
    have e25 : f' 25 = U (X 11) := hf 25 (by decide)
    have e26 : f' 26 = U (X 12) := hf 26 (by decide)
    have e27 : f' 27 = U (X 13) := hf 27 (by decide)
    have e28 : f' 28 = U (X 14) := hf 28 (by decide)
    have e29 : f' 29 = U (X 15) := hf 29 (by decide)
    have l0 : Live a0 (regs f' (Md5.Q X hk 0) (Md5.Q X hk 3) (Md5.Q X hk 2) (Md5.Q X hk 1)) := hlive.congr (fun i _ => regs_self f' _ _ _ _ i (by rw [(Md5.Q_start X hk).1]; exact hf 4 (by decide)) (by rw [(Md5.Q_start X hk).2.2.2]; exact hf 5 (by decide)) (by rw [(Md5.Q_start X hk).2.2.1]; exact hf 6 (by decide)) (by rw [(Md5.Q_start X hk).2.1]; exact hf 7 (by decide)))
    clear hlive hf
    refine line0 114 7 (Md5.Q X hk 0) (Md5.Q X hk 3) (Md5.Q X hk 2) (Md5.Q X hk 1) (X 0) (Md5.sine 0) l0 (by decide) (by decide) (by decide) (by decide) (by decide) (by decide) (by decide) rfl rfl rfl rfl e14 rfl (by decide) (by decide) (Md5.Q X hk 4) (Md5.line X hk 0 _ _ _ _ (Md5.form0 0 (by decide) _ _ _) rfl rfl rfl) ?_
    intro a1 l1
    rw [upd_a] at l1
    clear l0
    go_step
    go_step
    refine line0 129 12 (Md5.Q X hk 1) (Md5.Q X hk 4) (Md5.Q X hk 3) (Md5.Q X hk 2) (X 1) (Md5.sine 1) l1 (by decide) (by decide) (by decide) (by decide) (by decide) (by decide) (by decide) rfl rfl rfl rfl e15 rfl (by decide) (by decide) (Md5.Q X hk 5) (Md5.line X hk 1 _ _ _ _ (Md5.form0 1 (by decide) _ _ _) rfl rfl rfl) ?_
    intro a2 l2
    rw [upd_d] at l2
    clear l1
    go_step
    go_step
    refine line0 144 17 (Md5.Q X hk 2) (Md5.Q X hk 5) (Md5.Q X hk 4) (Md5.Q X hk 3) (X 2) (Md5.sine 2) l2 (by decide) (by decide) (by decide) (by decide) (by decide) (by decide) (by decide) rfl rfl rfl rfl e16 rfl (by decide) (by decide) (Md5.Q X hk 6) (Md5.line X hk 2 _ _ _ _ (Md5.form0 2 (by decide) _ _ _) rfl rfl rfl) ?_
    intro a3 l3
    rw [upd_c] at l3
    clear l2
    go_step
    go_step
    refine line0 159 22 (Md5.Q X hk 3) (Md5.Q X hk 6) (Md5.Q X hk 5) (Md5.Q X hk 4) (X 3) (Md5.sine 3) l3 (by decide) (by decide) (by decide) (by decide) (by decide) (by decide) (by decide) rfl rfl rfl rfl e17 rfl (by decide) (by decide) (Md5.Q X hk 7) (Md5.line X hk 3 _ _ _ _ (Md5.form0 3 (by decide) _ _ _) rfl rfl rfl) ?_
    intro a4 l4
    rw [upd_b] at l4
    clear l3
    go_step
    go_step
    refine line0 174 7 (Md5.Q X hk 4) (Md5.Q X hk 7) (Md5.Q X hk 6) (Md5.Q X hk 5) (X 4) (Md5.sine 4) l4 (by decide) (by decide) (by decide) (by decide) (by decide) (by decide) (by decide) rfl rfl rfl rfl e18 rfl (by decide) (by decide) (Md5.Q X hk 8) (Md5.line X hk 4 _ _ _ _ (Md5.form0 4 (by decide) _ _ _) rfl rfl rfl) ?_
    intro a5 l5
    rw [upd_a] at l5
    clear l4
    go_step
    go_step
    refine line0 189 12 (Md5.Q X hk 5) (Md5.Q X hk 8) (Md5.Q X hk 7) (Md5.Q X hk 6) (X 5) (Md5.sine 5) l5 (by decide) (by decide) (by decide) (by decide) (by decide) (by decide) (by decide) rfl rfl rfl rfl e19 rfl (by decide) (by decide) (Md5.Q X hk 9) (Md5.line X hk 5 _ _ _ _ (Md5.form0 5 (by decide) _ _ _) rfl rfl rfl) ?_
    intro a6 l6
    rw [upd_d] at l6
    clear l5
    go_step
    go_step
    refine line0 204 17 (Md5.Q X hk 6) (Md5.Q X hk 9) (Md5.Q X hk 8) (Md5.Q X hk 7) (X 6) (Md5.sine 6) l6 (by decide) (by decide) (by decide) (by decide) (by decide) (by decide) (by decide) rfl rfl rfl rfl e20 rfl (by decide) (by decide) (Md5.Q X hk 10) (Md5.line X hk 6 _ _ _ _ (Md5.form0 6 (by decide) _ _ _) rfl rfl rfl) ?_
    intro a7 l7
    rw [upd_c] at l7
    clear l6
    go_step
    go_step
    refine line0 219 22 (Md5.Q X hk 7) (Md5.Q X hk 10) (Md5.Q X hk 9) (Md5.Q X hk 8) (X 7) (Md5.sine 7) l7 (by decide) (by decide) (by decide) (by decide) (by decide) (by decide) (by decide) rfl rfl rfl rfl e21 rfl (by decide) (by decide) (Md5.Q X hk 11) (Md5.line X hk 7 _ _ _ _ (Md5.form0 7 (by decide) _ _ _) rfl rfl rfl) ?_
    intro a8 l8
    rw [upd_b] at l8
    clear l7
    go_step
    go_step
    refine line0 234 7 (Md5.Q X hk 8) (Md5.Q X hk 11) (Md5.Q X hk 10) (Md5.Q X hk 9) (X 8) (Md5.sine 8) l8 (by decide) (by decide) (by decide) (by decide) (by decide) (by decide) (by decide) rfl rfl rfl rfl e22 rfl (by decide) (by decide) (Md5.Q X hk 12) (Md5.line X hk 8 _ _ _ _ (Md5.form0 8 (by decide) _ _ _) rfl rfl rfl) ?_
    intro a9 l9
    rw [upd_a] at l9
    clear l8
    go_step
    go_step
    refine line0 249 12 (Md5.Q X hk 9) (Md5.Q X hk 12) (Md5.Q X hk 11) (Md5.Q X hk 10) (X 9) (Md5.sine 9) l9 (by decide) (by decide) (by decide) (by decide) (by decide) (by decide) (by decide) rfl rfl rfl rfl e23 rfl (by decide) (by decide) (Md5.Q X hk 13) (Md5.line X hk 9 _ _ _ _ (Md5.form0 9 (by decide) _ _ _) rfl rfl rfl) ?_
    intro a10 l10
    rw [upd_d] at l10
    clear l9
    go_step
    go_step
    refine line0 264 17 (Md5.Q X hk 10) (Md5.Q X hk 13) (Md5.Q X hk 12) (Md5.Q X hk 11) (X 10) (Md5.sine 10) l10 (by decide) (by decide) (by decide) (by decide) (by decide) (by decide) (by decide) rfl rfl rfl rfl e24 rfl (by decide) (by decide) (Md5.Q X hk 14) (Md5.line X hk 10 _ _ _ _ (Md5.form0 10 (by decide) _ _ _) rfl rfl rfl) ?_
    intro a11 l11
    rw [upd_c] at l11
    clear l10
    go_step
    go_step
    refine line0 279 22 (Md5.Q X hk 11) (Md5.Q X hk 14) (Md5.Q X hk 13) (Md5.Q X hk 12) (X 11) (Md5.sine 11) l11 (by decide) (by decide) (by decide) (by decide) (by decide) (by decide) (by decide) rfl rfl rfl rfl e25 rfl (by decide) (by decide) (Md5.Q X hk 15) (Md5.line X hk 11 _ _ _ _ (Md5.form0 11 (by decide) _ _ _) rfl rfl rfl) ?_
    intro a12 l12
    rw [upd_b] at l12
    clear l11
    go_step
    go_step
    refine line0 294 7 (Md5.Q X hk 12) (Md5.Q X hk 15) (Md5.Q X hk 14) (Md5.Q X hk 13) (X 12) (Md5.sine 12) l12 (by decide) (by decide) (by decide) (by decide) (by decide) (by decide) (by decide) rfl rfl rfl rfl e26 rfl (by decide) (by decide) (Md5.Q X hk 16) (Md5.line X hk 12 _ _ _ _ (Md5.form0 12 (by decide) _ _ _) rfl rfl rfl) ?_
    intro a13 l13
    rw [upd_a] at l13
    clear l12
    go_step
    go_step
    refine line0 309 12 (Md5.Q X hk 13) (Md5.Q X hk 16) (Md5.Q X hk 15) (Md5.Q X hk 14) (X 13) (Md5.sine 13) l13 (by decide) (by decide) (by decide) (by decide) (by decide) (by decide) (by decide) rfl rfl rfl rfl e27 rfl (by decide) (by decide) (Md5.Q X hk 17) (Md5.line X hk 13 _ _ _ _ (Md5.form0 13 (by decide) _ _ _) rfl rfl rfl) ?_
    intro a14 l14
    rw [upd_d] at l14
    clear l13
    go_step
    go_step
    refine line0 324 17 (Md5.Q X hk 14) (Md5.Q X hk 17) (Md5.Q X hk 16) (Md5.Q X hk 15) (X 14) (Md5.sine 14) l14 (by decide) (by decide) (by decide) (by decide) (by decide) (by decide) (by decide) rfl rfl rfl rfl e28 rfl (by decide) (by decide) (Md5.Q X hk 18) (Md5.line X hk 14 _ _ _ _ (Md5.form0 14 (by decide) _ _ _) rfl rfl rfl) ?_
    intro a15 l15
    rw [upd_c] at l15
    clear l14
    go_step
    go_step
    refine line0 339 22 (Md5.Q X hk 15) (Md5.Q X hk 18) (Md5.Q X hk 17) (Md5.Q X hk 16) (X 15) (Md5.sine 15) l15 (by decide) (by decide) (by decide) (by decide) (by decide) (by decide) (by decide) rfl rfl rfl rfl e29 rfl (by decide) (by decide) (Md5.Q X hk 19) (Md5.line X hk 15 _ _ _ _ (Md5.form0 15 (by decide) _ _ _) rfl rfl rfl) ?_
    intro a16 l16
    rw [upd_b] at l16
    clear l15
    go_step
    go_step
    refine line1 354 5 (Md5.Q X hk 16) (Md5.Q X hk 19) (Md5.Q X hk 18) (Md5.Q X hk 17) (X 1) (Md5.sine 16) l16 (by decide) (by decide) (by decide) (by decide) (by decide) (by decide) (by decide) rfl rfl rfl rfl e15 rfl (by decide) (by decide) (Md5.Q X hk 20) (Md5.line X hk 16 _ _ _ _ (Md5.form1 16 (by decide) _ _ _) rfl rfl rfl) ?_
    intro a17 l17
    rw [upd_a] at l17
    clear l16
    go_step
    go_step
    refine line1 369 9 (Md5.Q X hk 17) (Md5.Q X hk 20) (Md5.Q X hk 19) (Md5.Q X hk 18) (X 6) (Md5.sine 17) l17 (by decide) (by decide) (by decide) (by decide) (by decide) (by decide) (by decide) rfl rfl rfl rfl e20 rfl (by decide) (by decide) (Md5.Q X hk 21) (Md5.line X hk 17 _ _ _ _ (Md5.form1 17 (by decide) _ _ _) rfl rfl rfl) ?_
    intro a18 l18
    rw [upd_d] at l18
    clear l17
    go_step
    go_step
    refine line1 384 14 (Md5.Q X hk 18) (Md5.Q X hk 21) (Md5.Q X hk 20) (Md5.Q X hk 19) (X 11) (Md5.sine 18) l18 (by decide) (by decide) (by decide) (by decide) (by decide) (by decide) (by decide) rfl rfl rfl rfl e25 rfl (by decide) (by decide) (Md5.Q X hk 22) (Md5.line X hk 18 _ _ _ _ (Md5.form1 18 (by decide) _ _ _) rfl rfl rfl) ?_
    intro a19 l19
    rw [upd_c] at l19
    clear l18
    go_step
    go_step
    refine line1 399 20 (Md5.Q X hk 19) (Md5.Q X hk 22) (Md5.Q X hk 21) (Md5.Q X hk 20) (X 0) (Md5.sine 19) l19 (by decide) (by decide) (by decide) (by decide) (by decide) (by decide) (by decide) rfl rfl rfl rfl e14 rfl (by decide) (by decide) (Md5.Q X hk 23) (Md5.line X hk 19 _ _ _ _ (Md5.form1 19 (by decide) _ _ _) rfl rfl rfl) ?_
    intro a20 l20
    rw [upd_b] at l20
    clear l19
    go_step
    go_step
    refine line1 414 5 (Md5.Q X hk 20) (Md5.Q X hk 23) (Md5.Q X hk 22) (Md5.Q X hk 21) (X 5) (Md5.sine 20) l20 (by decide) (by decide) (by decide) (by decide) (by decide) (by decide) (by decide) rfl rfl rfl rfl e19 rfl (by decide) (by decide) (Md5.Q X hk 24) (Md5.line X hk 20 _ _ _ _ (Md5.form1 20 (by decide) _ _ _) rfl rfl rfl) ?_
    intro a21 l21
    rw [upd_a] at l21
    clear l20
    go_step
    go_step
    refine line1 429 9 (Md5.Q X hk 21) (Md5.Q X hk 24) (Md5.Q X hk 23) (Md5.Q X hk 22) (X 10) (Md5.sine 21) l21 (by decide) (by decide) (by decide) (by decide) (by decide) (by decide) (by decide) rfl rfl rfl rfl e24 rfl (by decide) (by decide) (Md5.Q X hk 25) (Md5.line X hk 21 _ _ _ _ (Md5.form1 21 (by decide) _ _ _) rfl rfl rfl) ?_
    intro a22 l22
    rw [upd_d] at l22
    clear l21
    go_step
    go_step
    refine line1 444 14 (Md5.Q X hk 22) (Md5.Q X hk 25) (Md5.Q X hk 24) (Md5.Q X hk 23) (X 15) (Md5.sine 22) l22 (by decide) (by decide) (by decide) (by decide) (by decide) (by decide) (by decide) rfl rfl rfl rfl e29 rfl (by decide) (by decide) (Md5.Q X hk 26) (Md5.line X hk 22 _ _ _ _ (Md5.form1 22 (by decide) _ _ _) rfl rfl rfl) ?_
    intro a23 l23
    rw [upd_c] at l23
    clear l22
    go_step
    go_step
    refine line1 459 20 (Md5.Q X hk 23) (Md5.Q X hk 26) (Md5.Q X hk 25) (Md5.Q X hk 24) (X 4) (Md5.sine 23) l23 (by decide) (by decide) (by decide) (by decide) (by decide) (by decide) (by decide) rfl rfl rfl rfl e18 rfl (by decide) (by decide) (Md5.Q X hk 27) (Md5.line X hk 23 _ _ _ _ (Md5.form1 23 (by decide) _ _ _) rfl rfl rfl) ?_
    intro a24 l24
    rw [upd_b] at l24
    clear l23
    go_step
    go_step
    refine line1 474 5 (Md5.Q X hk 24) (Md5.Q X hk 27) (Md5.Q X hk 26) (Md5.Q X hk 25) (X 9) (Md5.sine 24) l24 (by decide) (by decide) (by decide) (by decide) (by decide) (by decide) (by decide) rfl rfl rfl rfl e23 rfl (by decide) (by decide) (Md5.Q X hk 28) (Md5.line X hk 24 _ _ _ _ (Md5.form1 24 (by decide) _ _ _) rfl rfl rfl) ?_
    intro a25 l25
    rw [upd_a] at l25
    clear l24
    go_step
    go_step
    refine line1 489 9 (Md5.Q X hk 25) (Md5.Q X hk 28) (Md5.Q X hk 27) (Md5.Q X hk 26) (X 14) (Md5.sine 25) l25 (by decide) (by decide) (by decide) (by decide) (by decide) (by decide) (by decide) rfl rfl rfl rfl e28 rfl (by decide) (by decide) (Md5.Q X hk 29) (Md5.line X hk 25 _ _ _ _ (Md5.form1 25 (by decide) _ _ _) rfl rfl rfl) ?_
    intro a26 l26
    rw [upd_d] at l26
    clear l25
    go_step
    go_step
    refine line1 504 14 (Md5.Q X hk 26) (Md5.Q X hk 29) (Md5.Q X hk 28) (Md5.Q X hk 27) (X 3) (Md5.sine 26) l26 (by decide) (by decide) (by decide) (by decide) (by decide) (by decide) (by decide) rfl rfl rfl rfl e17 rfl (by decide) (by decide) (Md5.Q X hk 30) (Md5.line X hk 26 _ _ _ _ (Md5.form1 26 (by decide) _ _ _) rfl rfl rfl) ?_
    intro a27 l27
    rw [upd_c] at l27
    clear l26
    go_step
    go_step
    refine line1 519 20 (Md5.Q X hk 27) (Md5.Q X hk 30) (Md5.Q X hk 29) (Md5.Q X hk 28) (X 8) (Md5.sine 27) l27 (by decide) (by decide) (by decide) (by decide) (by decide) (by decide) (by decide) rfl rfl rfl rfl e22 rfl (by decide) (by decide) (Md5.Q X hk 31) (Md5.line X hk 27 _ _ _ _ (Md5.form1 27 (by decide) _ _ _) rfl rfl rfl) ?_
    intro a28 l28
    rw [upd_b] at l28
    clear l27
    go_step
    go_step
    refine line1 534 5 (Md5.Q X hk 28) (Md5.Q X hk 31) (Md5.Q X hk 30) (Md5.Q X hk 29) (X 13) (Md5.sine 28) l28 (by decide) (by decide) (by decide) (by decide) (by decide) (by decide) (by decide) rfl rfl rfl rfl e27 rfl (by decide) (by decide) (Md5.Q X hk 32) (Md5.line X hk 28 _ _ _ _ (Md5.form1 28 (by decide) _ _ _) rfl rfl rfl) ?_
    intro a29 l29
    rw [upd_a] at l29
    clear l28
    go_step
    go_step
    refine line1 549 9 (Md5.Q X hk 29) (Md5.Q X hk 32) (Md5.Q X hk 31) (Md5.Q X hk 30) (X 2) (Md5.sine 29) l29 (by decide) (by decide) (by decide) (by decide) (by decide) (by decide) (by decide) rfl rfl rfl rfl e16 rfl (by decide) (by decide) (Md5.Q X hk 33) (Md5.line X hk 29 _ _ _ _ (Md5.form1 29 (by decide) _ _ _) rfl rfl rfl) ?_
    intro a30 l30
    rw [upd_d] at l30
    clear l29
    go_step
    go_step
    refine line1 564 14 (Md5.Q X hk 30) (Md5.Q X hk 33) (Md5.Q X hk 32) (Md5.Q X hk 31) (X 7) (Md5.sine 30) l30 (by decide) (by decide) (by decide) (by decide) (by decide) (by decide) (by decide) rfl rfl rfl rfl e21 rfl (by decide) (by decide) (Md5.Q X hk 34) (Md5.line X hk 30 _ _ _ _ (Md5.form1 30 (by decide) _ _ _) rfl rfl rfl) ?_
    intro a31 l31
    rw [upd_c] at l31
    clear l30
    go_step
    go_step
    refine line1 579 20 (Md5.Q X hk 31) (Md5.Q X hk 34) (Md5.Q X hk 33) (Md5.Q X hk 32) (X 12) (Md5.sine 31) l31 (by decide) (by decide) (by decide) (by decide) (by decide) (by decide) (by decide) rfl rfl rfl rfl e26 rfl (by decide) (by decide) (Md5.Q X hk 35) (Md5.line X hk 31 _ _ _ _ (Md5.form1 31 (by decide) _ _ _) rfl rfl rfl) ?_
    intro a32 l32
    rw [upd_b] at l32
    clear l31
    go_step
    go_step
    refine line2 594 4 (Md5.Q X hk 32) (Md5.Q X hk 35) (Md5.Q X hk 34) (Md5.Q X hk 33) (X 5) (Md5.sine 32) l32 (by decide) (by decide) (by decide) (by decide) (by decide) (by decide) (by decide) rfl rfl rfl rfl e19 rfl (by decide) (by decide) (Md5.Q X hk 36) (Md5.line X hk 32 _ _ _ _ (Md5.form2 32 (by decide) _ _ _) rfl rfl rfl) ?_
    intro a33 l33
    rw [upd_a] at l33
    clear l32
    go_step
    go_step
    refine line2 607 11 (Md5.Q X hk 33) (Md5.Q X hk 36) (Md5.Q X hk 35) (Md5.Q X hk 34) (X 8) (Md5.sine 33) l33 (by decide) (by decide) (by decide) (by decide) (by decide) (by decide) (by decide) rfl rfl rfl rfl e22 rfl (by decide) (by decide) (Md5.Q X hk 37) (Md5.line X hk 33 _ _ _ _ (Md5.form2 33 (by decide) _ _ _) rfl rfl rfl) ?_
    intro a34 l34
    rw [upd_d] at l34
    clear l33
    go_step
    go_step
    refine line2 620 16 (Md5.Q X hk 34) (Md5.Q X hk 37) (Md5.Q X hk 36) (Md5.Q X hk 35) (X 11) (Md5.sine 34) l34 (by decide) (by decide) (by decide) (by decide) (by decide) (by decide) (by decide) rfl rfl rfl rfl e25 rfl (by decide) (by decide) (Md5.Q X hk 38) (Md5.line X hk 34 _ _ _ _ (Md5.form2 34 (by decide) _ _ _) rfl rfl rfl) ?_
    intro a35 l35
    rw [upd_c] at l35
    clear l34
    go_step
    go_step
    refine line2 633 23 (Md5.Q X hk 35) (Md5.Q X hk 38) (Md5.Q X hk 37) (Md5.Q X hk 36) (X 14) (Md5.sine 35) l35 (by decide) (by decide) (by decide) (by decide) (by decide) (by decide) (by decide) rfl rfl rfl rfl e28 rfl (by decide) (by decide) (Md5.Q X hk 39) (Md5.line X hk 35 _ _ _ _ (Md5.form2 35 (by decide) _ _ _) rfl rfl rfl) ?_
    intro a36 l36
    rw [upd_b] at l36
    clear l35
    go_step
    go_step
    refine line2 646 4 (Md5.Q X hk 36) (Md5.Q X hk 39) (Md5.Q X hk 38) (Md5.Q X hk 37) (X 1) (Md5.sine 36) l36 (by decide) (by decide) (by decide) (by decide) (by decide) (by decide) (by decide) rfl rfl rfl rfl e15 rfl (by decide) (by decide) (Md5.Q X hk 40) (Md5.line X hk 36 _ _ _ _ (Md5.form2 36 (by decide) _ _ _) rfl rfl rfl) ?_
    intro a37 l37
    rw [upd_a] at l37
    clear l36
    go_step
    go_step
    refine line2 659 11 (Md5.Q X hk 37) (Md5.Q X hk 40) (Md5.Q X hk 39) (Md5.Q X hk 38) (X 4) (Md5.sine 37) l37 (by decide) (by decide) (by decide) (by decide) (by decide) (by decide) (by decide) rfl rfl rfl rfl e18 rfl (by decide) (by decide) (Md5.Q X hk 41) (Md5.line X hk 37 _ _ _ _ (Md5.form2 37 (by decide) _ _ _) rfl rfl rfl) ?_
    intro a38 l38
    rw [upd_d] at l38
    clear l37
    go_step
    go_step
    refine line2 672 16 (Md5.Q X hk 38) (Md5.Q X hk 41) (Md5.Q X hk 40) (Md5.Q X hk 39) (X 7) (Md5.sine 38) l38 (by decide) (by decide) (by decide) (by decide) (by decide) (by decide) (by decide) rfl rfl rfl rfl e21 rfl (by decide) (by decide) (Md5.Q X hk 42) (Md5.line X hk 38 _ _ _ _ (Md5.form2 38 (by decide) _ _ _) rfl rfl rfl) ?_
    intro a39 l39
    rw [upd_c] at l39
    clear l38
    go_step
    go_step
    refine line2 685 23 (Md5.Q X hk 39) (Md5.Q X hk 42) (Md5.Q X hk 41) (Md5.Q X hk 40) (X 10) (Md5.sine 39) l39 (by decide) (by decide) (by decide) (by decide) (by decide) (by decide) (by decide) rfl rfl rfl rfl e24 rfl (by decide) (by decide) (Md5.Q X hk 43) (Md5.line X hk 39 _ _ _ _ (Md5.form2 39 (by decide) _ _ _) rfl rfl rfl) ?_
    intro a40 l40
    rw [upd_b] at l40
    clear l39
    go_step
    go_step
    refine line2 698 4 (Md5.Q X hk 40) (Md5.Q X hk 43) (Md5.Q X hk 42) (Md5.Q X hk 41) (X 13) (Md5.sine 40) l40 (by decide) (by decide) (by decide) (by decide) (by decide) (by decide) (by decide) rfl rfl rfl rfl e27 rfl (by decide) (by decide) (Md5.Q X hk 44) (Md5.line X hk 40 _ _ _ _ (Md5.form2 40 (by decide) _ _ _) rfl rfl rfl) ?_
    intro a41 l41
    rw [upd_a] at l41
    clear l40
    go_step
    go_step
    refine line2 711 11 (Md5.Q X hk 41) (Md5.Q X hk 44) (Md5.Q X hk 43) (Md5.Q X hk 42) (X 0) (Md5.sine 41) l41 (by decide) (by decide) (by decide) (by decide) (by decide) (by decide) (by decide) rfl rfl rfl rfl e14 rfl (by decide) (by decide) (Md5.Q X hk 45) (Md5.line X hk 41 _ _ _ _ (Md5.form2 41 (by decide) _ _ _) rfl rfl rfl) ?_
    intro a42 l42
    rw [upd_d] at l42
    clear l41
    go_step
    go_step
    refine line2 724 16 (Md5.Q X hk 42) (Md5.Q X hk 45) (Md5.Q X hk 44) (Md5.Q X hk 43) (X 3) (Md5.sine 42) l42 (by decide) (by decide) (by decide) (by decide) (by decide) (by decide) (by decide) rfl rfl rfl rfl e17 rfl (by decide) (by decide) (Md5.Q X hk 46) (Md5.line X hk 42 _ _ _ _ (Md5.form2 42 (by decide) _ _ _) rfl rfl rfl) ?_
    intro a43 l43
    rw [upd_c] at l43
    clear l42
    go_step
    go_step
    refine line2 737 23 (Md5.Q X hk 43) (Md5.Q X hk 46) (Md5.Q X hk 45) (Md5.Q X hk 44) (X 6) (Md5.sine 43) l43 (by decide) (by decide) (by decide) (by decide) (by decide) (by decide) (by decide) rfl rfl rfl rfl e20 rfl (by decide) (by decide) (Md5.Q X hk 47) (Md5.line X hk 43 _ _ _ _ (Md5.form2 43 (by decide) _ _ _) rfl rfl rfl) ?_
    intro a44 l44
    rw [upd_b] at l44
    clear l43
    go_step
    go_step
    refine line2 750 4 (Md5.Q X hk 44) (Md5.Q X hk 47) (Md5.Q X hk 46) (Md5.Q X hk 45) (X 9) (Md5.sine 44) l44 (by decide) (by decide) (by decide) (by decide) (by decide) (by decide) (by decide) rfl rfl rfl rfl e23 rfl (by decide) (by decide) (Md5.Q X hk 48) (Md5.line X hk 44 _ _ _ _ (Md5.form2 44 (by decide) _ _ _) rfl rfl rfl) ?_
    intro a45 l45
    rw [upd_a] at l45
    clear l44
    go_step
    go_step
    refine line2 763 11 (Md5.Q X hk 45) (Md5.Q X hk 48) (Md5.Q X hk 47) (Md5.Q X hk 46) (X 12) (Md5.sine 45) l45 (by decide) (by decide) (by decide) (by decide) (by decide) (by decide) (by decide) rfl rfl rfl rfl e26 rfl (by decide) (by decide) (Md5.Q X hk 49) (Md5.line X hk 45 _ _ _ _ (Md5.form2 45 (by decide) _ _ _) rfl rfl rfl) ?_
    intro a46 l46
    rw [upd_d] at l46
    clear l45
    go_step
    go_step
    refine line2 776 16 (Md5.Q X hk 46) (Md5.Q X hk 49) (Md5.Q X hk 48) (Md5.Q X hk 47) (X 15) (Md5.sine 46) l46 (by decide) (by decide) (by decide) (by decide) (by decide) (by decide) (by decide) rfl rfl rfl rfl e29 rfl (by decide) (by decide) (Md5.Q X hk 50) (Md5.line X hk 46 _ _ _ _ (Md5.form2 46 (by decide) _ _ _) rfl rfl rfl) ?_
    intro a47 l47
    rw [upd_c] at l47
    clear l46
    go_step
    go_step
    refine line2 789 23 (Md5.Q X hk 47) (Md5.Q X hk 50) (Md5.Q X hk 49) (Md5.Q X hk 48) (X 2) (Md5.sine 47) l47 (by decide) (by decide) (by decide) (by decide) (by decide) (by decide) (by decide) rfl rfl rfl rfl e16 rfl (by decide) (by decide) (Md5.Q X hk 51) (Md5.line X hk 47 _ _ _ _ (Md5.form2 47 (by decide) _ _ _) rfl rfl rfl) ?_
    intro a48 l48
    rw [upd_b] at l48
    clear l47
    go_step
    go_step
    refine line3 802 6 (Md5.Q X hk 48) (Md5.Q X hk 51) (Md5.Q X hk 50) (Md5.Q X hk 49) (X 0) (Md5.sine 48) l48 (by decide) (by decide) (by decide) (by decide) (by decide) (by decide) (by decide) rfl rfl rfl rfl e14 rfl (by decide) (by decide) (Md5.Q X hk 52) (Md5.line X hk 48 _ _ _ _ (Md5.form3 48 (by decide) _ _ _) rfl rfl rfl) ?_
    intro a49 l49
    rw [upd_a] at l49
    clear l48
    go_step
    go_step
    refine line3 816 10 (Md5.Q X hk 49) (Md5.Q X hk 52) (Md5.Q X hk 51) (Md5.Q X hk 50) (X 7) (Md5.sine 49) l49 (by decide) (by decide) (by decide) (by decide) (by decide) (by decide) (by decide) rfl rfl rfl rfl e21 rfl (by decide) (by decide) (Md5.Q X hk 53) (Md5.line X hk 49 _ _ _ _ (Md5.form3 49 (by decide) _ _ _) rfl rfl rfl) ?_
    intro a50 l50
    rw [upd_d] at l50
    clear l49
    go_step
    go_step
    refine line3 830 15 (Md5.Q X hk 50) (Md5.Q X hk 53) (Md5.Q X hk 52) (Md5.Q X hk 51) (X 14) (Md5.sine 50) l50 (by decide) (by decide) (by decide) (by decide) (by decide) (by decide) (by decide) rfl rfl rfl rfl e28 rfl (by decide) (by decide) (Md5.Q X hk 54) (Md5.line X hk 50 _ _ _ _ (Md5.form3 50 (by decide) _ _ _) rfl rfl rfl) ?_
    intro a51 l51
    rw [upd_c] at l51
    clear l50
    go_step
    go_step
    refine line3 844 21 (Md5.Q X hk 51) (Md5.Q X hk 54) (Md5.Q X hk 53) (Md5.Q X hk 52) (X 5) (Md5.sine 51) l51 (by decide) (by decide) (by decide) (by decide) (by decide) (by decide) (by decide) rfl rfl rfl rfl e19 rfl (by decide) (by decide) (Md5.Q X hk 55) (Md5.line X hk 51 _ _ _ _ (Md5.form3 51 (by decide) _ _ _) rfl rfl rfl) ?_
    intro a52 l52
    rw [upd_b] at l52
    clear l51
    go_step
    go_step
    refine line3 858 6 (Md5.Q X hk 52) (Md5.Q X hk 55) (Md5.Q X hk 54) (Md5.Q X hk 53) (X 12) (Md5.sine 52) l52 (by decide) (by decide) (by decide) (by decide) (by decide) (by decide) (by decide) rfl rfl rfl rfl e26 rfl (by decide) (by decide) (Md5.Q X hk 56) (Md5.line X hk 52 _ _ _ _ (Md5.form3 52 (by decide) _ _ _) rfl rfl rfl) ?_
    intro a53 l53
    rw [upd_a] at l53
    clear l52
    go_step
    go_step
    refine line3 872 10 (Md5.Q X hk 53) (Md5.Q X hk 56) (Md5.Q X hk 55) (Md5.Q X hk 54) (X 3) (Md5.sine 53) l53 (by decide) (by decide) (by decide) (by decide) (by decide) (by decide) (by decide) rfl rfl rfl rfl e17 rfl (by decide) (by decide) (Md5.Q X hk 57) (Md5.line X hk 53 _ _ _ _ (Md5.form3 53 (by decide) _ _ _) rfl rfl rfl) ?_
    intro a54 l54
    rw [upd_d] at l54
    clear l53
    go_step
    go_step
    refine line3 886 15 (Md5.Q X hk 54) (Md5.Q X hk 57) (Md5.Q X hk 56) (Md5.Q X hk 55) (X 10) (Md5.sine 54) l54 (by decide) (by decide) (by decide) (by decide) (by decide) (by decide) (by decide) rfl rfl rfl rfl e24 rfl (by decide) (by decide) (Md5.Q X hk 58) (Md5.line X hk 54 _ _ _ _ (Md5.form3 54 (by decide) _ _ _) rfl rfl rfl) ?_
    intro a55 l55
    rw [upd_c] at l55
    clear l54
    go_step
    go_step
    refine line3 900 21 (Md5.Q X hk 55) (Md5.Q X hk 58) (Md5.Q X hk 57) (Md5.Q X hk 56) (X 1) (Md5.sine 55) l55 (by decide) (by decide) (by decide) (by decide) (by decide) (by decide) (by decide) rfl rfl rfl rfl e15 rfl (by decide) (by decide) (Md5.Q X hk 59) (Md5.line X hk 55 _ _ _ _ (Md5.form3 55 (by decide) _ _ _) rfl rfl rfl) ?_
    intro a56 l56
    rw [upd_b] at l56
    clear l55
    go_step
    go_step
    refine line3 914 6 (Md5.Q X hk 56) (Md5.Q X hk 59) (Md5.Q X hk 58) (Md5.Q X hk 57) (X 8) (Md5.sine 56) l56 (by decide) (by decide) (by decide) (by decide) (by decide) (by decide) (by decide) rfl rfl rfl rfl e22 rfl (by decide) (by decide) (Md5.Q X hk 60) (Md5.line X hk 56 _ _ _ _ (Md5.form3 56 (by decide) _ _ _) rfl rfl rfl) ?_
    intro a57 l57
    rw [upd_a] at l57
    clear l56
    go_step
    go_step
    refine line3 928 10 (Md5.Q X hk 57) (Md5.Q X hk 60) (Md5.Q X hk 59) (Md5.Q X hk 58) (X 15) (Md5.sine 57) l57 (by decide) (by decide) (by decide) (by decide) (by decide) (by decide) (by decide) rfl rfl rfl rfl e29 rfl (by decide) (by decide) (Md5.Q X hk 61) (Md5.line X hk 57 _ _ _ _ (Md5.form3 57 (by decide) _ _ _) rfl rfl rfl) ?_
    intro a58 l58
    rw [upd_d] at l58
    clear l57
    go_step
    go_step
    refine line3 942 15 (Md5.Q X hk 58) (Md5.Q X hk 61) (Md5.Q X hk 60) (Md5.Q X hk 59) (X 6) (Md5.sine 58) l58 (by decide) (by decide) (by decide) (by decide) (by decide) (by decide) (by decide) rfl rfl rfl rfl e20 rfl (by decide) (by decide) (Md5.Q X hk 62) (Md5.line X hk 58 _ _ _ _ (Md5.form3 58 (by decide) _ _ _) rfl rfl rfl) ?_
    intro a59 l59
    rw [upd_c] at l59
    clear l58
    go_step
    go_step
    refine line3 956 21 (Md5.Q X hk 59) (Md5.Q X hk 62) (Md5.Q X hk 61) (Md5.Q X hk 60) (X 13) (Md5.sine 59) l59 (by decide) (by decide) (by decide) (by decide) (by decide) (by decide) (by decide) rfl rfl rfl rfl e27 rfl (by decide) (by decide) (Md5.Q X hk 63) (Md5.line X hk 59 _ _ _ _ (Md5.form3 59 (by decide) _ _ _) rfl rfl rfl) ?_
    intro a60 l60
    rw [upd_b] at l60
    clear l59
    go_step
    go_step
    refine line3 970 6 (Md5.Q X hk 60) (Md5.Q X hk 63) (Md5.Q X hk 62) (Md5.Q X hk 61) (X 4) (Md5.sine 60) l60 (by decide) (by decide) (by decide) (by decide) (by decide) (by decide) (by decide) rfl rfl rfl rfl e18 rfl (by decide) (by decide) (Md5.Q X hk 64) (Md5.line X hk 60 _ _ _ _ (Md5.form3 60 (by decide) _ _ _) rfl rfl rfl) ?_
    intro a61 l61
    rw [upd_a] at l61
    clear l60
    go_step
    go_step
    refine line3 984 10 (Md5.Q X hk 61) (Md5.Q X hk 64) (Md5.Q X hk 63) (Md5.Q X hk 62) (X 11) (Md5.sine 61) l61 (by decide) (by decide) (by decide) (by decide) (by decide) (by decide) (by decide) rfl rfl rfl rfl e25 rfl (by decide) (by decide) (Md5.Q X hk 65) (Md5.line X hk 61 _ _ _ _ (Md5.form3 61 (by decide) _ _ _) rfl rfl rfl) ?_
    intro a62 l62
    rw [upd_d] at l62
    clear l61
    go_step
    go_step
    refine line3 998 15 (Md5.Q X hk 62) (Md5.Q X hk 65) (Md5.Q X hk 64) (Md5.Q X hk 63) (X 2) (Md5.sine 62) l62 (by decide) (by decide) (by decide) (by decide) (by decide) (by decide) (by decide) rfl rfl rfl rfl e16 rfl (by decide) (by decide) (Md5.Q X hk 66) (Md5.line X hk 62 _ _ _ _ (Md5.form3 62 (by decide) _ _ _) rfl rfl rfl) ?_
    intro a63 l63
    rw [upd_c] at l63
    clear l62
    go_step
    go_step
    refine line3 1012 21 (Md5.Q X hk 63) (Md5.Q X hk 66) (Md5.Q X hk 65) (Md5.Q X hk 64) (X 9) (Md5.sine 63) l63 (by decide) (by decide) (by decide) (by decide) (by decide) (by decide) (by decide) rfl rfl rfl rfl e23 rfl (by decide) (by decide) (Md5.Q X hk 67) (Md5.line X hk 63 _ _ _ _ (Md5.form3 63 (by decide) _ _ _) rfl rfl rfl) ?_
    intro a64 l64
    rw [upd_b] at l64
    clear l63
    go_step
    go_step
    obtain ⟨r', ha⟩ := written l64
    simp (disch := omega) only [regs_pass, regs_a, regs_b, regs_c, regs_d] at ha
    rw [e0, e1, e8, e10, e11, e12, e13] at ha
    clear l64 e0 e1 e8 e10 e11 e12 e13 e14 e15 e16 e17 e18 e19 e20 e21 e22 e23 e24 e25 e26 e27 e28 e29
    subst ha
    go_wp2_with fail
    refine Handed.intro (g - 1) (by omega) (hJ _ _ _ ⟨k + 1, _, by omega, ⟨rfl, by kernel_rfl, fun _ _ => rfl⟩, rfl, rfl, ?_, ?_, ?_, ?_, ?_, _, rfl⟩)
    · exact val_u32 ((u_add _ _).trans (by rw [HS.out, BitVec.add_comm]; rfl))
    · exact val_u32 ((u_add _ _).trans (by rw [HS.out, BitVec.add_comm]; rfl))
    · exact val_u32 ((u_add _ _).trans (by rw [HS.out, BitVec.add_comm]; rfl))
    · exact val_u32 ((u_add _ _).trans (by rw [HS.out, BitVec.add_comm]; rfl))
    · exact val_i64 (by omega)
  · obtain rfl : k = m := by omega
    have hge : n ≤ 64 * k := by omega
    clear hnm
    generalize hhk : Md5.blocks k h L = hk
    have HK := Lib.hid hhk
    clear hhk
    go_wp2_with fail
    go_region
    go_end0
    exact ⟨rfl, q + 1, by rw [HK.out]⟩
end Go.Proofs.YtcmopgfagooboaaDoor

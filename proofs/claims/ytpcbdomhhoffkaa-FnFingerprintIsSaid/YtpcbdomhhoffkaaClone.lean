/- slices.Clone at bytes: the clone holds the same bytes, in new memory. -/
import Derived.Test.YtpcbdomhhoffkaaCrcWords
import Derived.WalkLawsBesides
import Derived.WalkSpells
import Derived.Handy
import Derived.OwnWalk
namespace Go.Proofs.Ytpcbdomhhoffkaa.Fp
open Go.RowKit

theorem info5 : (Try.prog.info? 5).map (fun i => (i.zero, i.size, i.bytes)) = some (some (.int .u8 0), 1, 1) := by kernel_rfl

/-- a slice of the call's own, of these bytes -/
def Cloned (w : World) (L : List Nat) (n : Nat) (v : Value) (w' : World) : Prop :=
  ∃ a c, v = .slice a n c ∧ n ≤ c ∧ c ≤ maxLen ∧ (0 < n → ∃ g, a = some ⟨g, 0, none⟩ ∧ w.heap.size ≤ g ∧ g < w'.heap.size ∧ Bytes w' g 0 L) ∧ Below w.heap.size w w'

theorem cloned_of_own {w w' : World} {L : List Nat} {n : Nat} {v : Value} (hn : L.length = n)
    (h : w'.ownsRow w.heap.size 5 1 v n (L.map fun x => Value.int .u8 (x : Nat))) (hb : Below w.heap.size w w') : Cloned w L n v w' := by
  rcases h.2 with ⟨rfl, rfl⟩ | ⟨g, cap, cur, rfl, hg, hh, h1, h2, h3, h4⟩
  · exact ⟨none, 0, rfl, Nat.le_refl _, by decide, fun h => absurd h (by omega), hb⟩
  · refine ⟨_, cap, rfl, h1, h2, fun _ => ⟨g, rfl, hg, (Array.getElem?_eq_some_iff.1 hh).1, fun j hj => ?_⟩, hb⟩
    have hc := cell_of_row w' g (0 + j) cur 5 (0, 0) hh
    rw [hc, Nat.zero_add]
    have ht : (cur.toList.take (n * 1))[j]? = some (Value.int .u8 (L.getD j 0 : Nat)) := by
      rw [h4]
      simp [List.getD, hj]
    rw [List.getElem?_take] at ht
    split at ht
    · simpa using ht
    · cases ht

theorem news_at {w : World} {b off : Nat} {L : List Nat} {j : Nat} {u : Value} (hb : Bytes w b off L) (hu : (L.map fun x => Value.int .u8 (x : Nat))[j]? = some u) :
    (w.alloc (.cells #[] 5)).cell? ((⟨b, off, none⟩ : Addr).add j) = some u := by
  rw [List.getElem?_map] at hu
  cases hx : L[j]? with
  | none => rw [hx] at hu; cases hu
  | some x =>
    rw [hx] at hu
    injection hu with hu
    subst hu
    have hj : j < L.length := (List.getElem?_eq_some_iff.1 hx).1
    have hc := hb j hj
    rw [show L.getD j 0 = x by simp [List.getD, hx]] at hc
    have hadd : (⟨b, off, none⟩ : Addr).add j = ⟨b, off + j, none⟩ := by unfold Addr.add; split <;> simp_all
    rw [hadd, World.cell?_alloc_lt _ _ _ (World.block_lt_of_cell? _ _ hc)]
    exact hc
theorem clone_nil (w : World) : Calls Try.prog 17 #[.slice none 0 0] w fun e w' => ∃ v, e = .returned v ∧ Cloned w [] 0 v w' := by
  have heq := Lib.run_eql_slice_nil (P := Try.prog)
  have HF : Hid (Cloned w [] 0 (.slice none 0 0) w) := ⟨none, 0, rfl, Nat.le_refl _, by decide, fun h => absurd h (by omega), Below.refl _ _⟩
  go_enter Try.func17, Try.ntmps17
  go_wp2
  go_ret
  exact ⟨_, rfl, HF.out⟩
theorem clone_at (x : Addr) (n cap : Nat) (L : List Nat) (w : World) (hn : L.length = n) (hm : n ≤ 140737488355328) (hb : ∀ (j : Nat) (u : Value), (L.map fun x => Value.int .u8 (x : Nat))[j]? = some u → (w.alloc (.cells #[] 5)).cell? (x.add j) = some u) :
    Calls Try.prog 17 #[.slice (some x) n cap] w fun e w' => ∃ v, e = .returned v ∧ Cloned w L n v w' := by
  have heq := Lib.run_eql_slice_nil (P := Try.prog)
  obtain ⟨i0, hi, hz0, hz1, hz2⟩ := info_parts info5
  have hown := World.ownsRow_made (e := 5) (base := w.heap.size) (size := 1) w #[] 0 (Nat.le_refl _) (by decide) rfl
  have HB := Lib.hid hb
  have HN := Lib.hid hn
  clear hb hn
  go_enter Try.func17, Try.ntmps17
  go_wp2_with (at_builtin; refine wpList_append_own _ rfl _ _ 28 rfl w.heap.size 5 i0 (.int .u8 0) 1 1 Try.underlying28 hi hz0 hz1 hz2 rfl (by decide) _ _ _ rfl hown x n cap (L.map fun x => Value.int .u8 (x : Nat)) rfl ?c0 ?c1 ?c2 ?c3 ?c4 ?c5 ?_)
  case c0 => rw [List.length_map, Nat.mul_one]; exact HN.out
  case c1 => exact HB.out
  case c2 =>
    intro u hu
    obtain ⟨x, _, rfl⟩ := List.mem_map.1 hu
    rfl
  case c3 => unfold maxLen; omega
  case c4 => omega
  case c5 => simp
  intro v' w' hown' hgrow _
  have HC := Lib.hid (cloned_of_own HN.out hown' (((Below.refl w.heap.size w).alloc (Nat.le_refl _) _).grown hgrow (by simp) (fun k hk => by simp [Value.ownBlock] at hk; omega)))
  clear hown' hgrow
  go_wp2
  go_ret
  exact ⟨_, rfl, HC.out⟩
theorem clone_some (b off n cap : Nat) (L : List Nat) (w : World) (hn : L.length = n) (hm : n ≤ 140737488355328) (hb : Bytes w b off L) :
    Calls Try.prog 17 #[.slice (some ⟨b, off, none⟩) n cap] w fun e w' => ∃ v, e = .returned v ∧ Cloned w L n v w' :=
  clone_at _ n cap L w hn hm fun _ _ hu => news_at hb hu
theorem clone_none (x : Addr) (cap : Nat) (w : World) : Calls Try.prog 17 #[.slice (some x) 0 cap] w fun e w' => ∃ v, e = .returned v ∧ Cloned w [] 0 v w' :=
  clone_at x 0 cap [] w rfl (by omega) fun _ _ hu => by simp at hu
end Go.Proofs.Ytpcbdomhhoffkaa.Fp

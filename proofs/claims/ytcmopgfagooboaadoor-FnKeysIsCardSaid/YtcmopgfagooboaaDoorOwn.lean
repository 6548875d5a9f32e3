/- Slices of bytes that the call itself made: appends onto them, and what the specification's spec.number, spec.back and spec.at answer. -/
import Derived.Test.YtcmopgfagooboaaDoorSum
namespace Go.Proofs.YtcmopgfagooboaaDoor
open Go.RowKit
open Md5 (W H4)

/-- the slice v owns the bytes L -/
def OwnB (w : World) (base : Nat) (v : Value) (L : List UInt8) : Prop := w.ownsRow base 5 1 v L.length (L.map B8)
section
variable {w w' : World} {base : Nat} {v : Value} {L : List UInt8}
theorem OwnB.nil (w : World) (base : Nat) : OwnB w base (.slice none 0 0) [] := World.ownsRow_nil _ _ _ _
theorem OwnB.made (w : World) (hb : base ≤ w.heap.size) : OwnB (w.alloc (.cells #[] 5)) base (.slice (some ⟨w.heap.size, 0, none⟩) 0 0) [] :=
  World.ownsRow_made (e := 5) (base := base) (size := 1) w #[] 0 hb (by decide) rfl
theorem OwnB.alloc (h : OwnB w base v L) (o : Obj) : OwnB (w.alloc o) base v L := World.ownsRow.alloc h o
theorem OwnB.below (h : OwnB w base v L) (hk : ∀ g, v.ownBlock = some g → w'.heap[g]? = w.heap[g]?) : OwnB w' base v L := by
  refine ⟨h.1, ?_⟩
  rcases h.2 with h2 | ⟨g, cap, cur, rfl, h3, h4, h5⟩
  · exact .inl h2
  · exact .inr ⟨g, cap, cur, rfl, h3, (hk g rfl).trans h4, h5⟩
theorem OwnB.kept (h : OwnB w base v L) (hb : Below w.heap.size w w') : OwnB w' base v L := by
  refine ⟨h.1, ?_⟩
  rcases h.2 with h2 | ⟨g, cap, cur, rfl, h3, h4, h5⟩
  · exact .inl h2
  · exact .inr ⟨g, cap, cur, rfl, h3, (hb.block g (Array.getElem?_eq_some_iff.1 h4).1).trans h4, h5⟩
theorem OwnB.bytes (h : OwnB w base v L) (hne : 0 < L.length) : ∃ g cap, v = .slice (some ⟨g, 0, none⟩) L.length cap ∧ base ≤ g ∧ g < w.heap.size ∧ L.length ≤ cap ∧ cap ≤ maxLen ∧ Bytes w g 0 L ∧ w.frozen? ⟨g, 0, none⟩ = false := by
  rcases h.2 with ⟨_, h0⟩ | ⟨g, cap, cur, rfl, h3, h4, h5, h6, h7, h8⟩
  · omega
  · refine ⟨g, cap, rfl, h3, (Array.getElem?_eq_some_iff.1 h4).1, h5, h6, fun j hj => ?_, by simp [World.frozen?, h4]⟩
    have e : cur.toList[j]? = (L.map B8)[j]? := by
      rw [← h8, List.getElem?_take, if_pos (by omega)]
    have c : (⟨g, 0 + j, none⟩ : Addr) = ⟨g, j, none⟩ := by rw [Nat.zero_add]
    rw [c]
    simp only [World.cell?, h4]
    rw [show cur[j]? = cur.toList[j]? by simp, e]
    simp [List.getD, hj]
end
theorem info5' : (Tryd.prog.info? 5).map (fun i => (i.zero, i.size, i.bytes)) = some (some (.int .u8 0), 1, 1) := info5

/-- append(v, s...): s lies somewhere else -/
theorem wpList_concat {ops : Array Oper} {rest : List Oper} {o : Oper} {a : Act} {Q : Exit → Act → World → Prop} (hgd : o.guard = none) (s x : Operand)
    (ho : o.op = .call { callee := .builtin .append, args := #[s, x], argTypes := #[23, 23] }) (w0 w : World) (B base : Nat) (v : Value) (L M : List UInt8) (b off n cap : Nat) (hs : a.eval s = v) (hx : a.eval x = .slice (some ⟨b, off, none⟩) n cap)
    (hown : OwnB w base v L) (hn : M.length = n) (hM : Bytes w b off M) (hL : L.length + M.length ≤ 1000000) (hbase : base ≤ w.heap.size) (hB : B ≤ base) (hbel : Below B w0 w)
    (K : ∀ v' w1, OwnB w1 base v' (L ++ M) → Below B w0 w1 → wpList Tryd.prog ops Q rest (a.put o.dst v') w1) :
    wpList Tryd.prog ops Q (o :: rest) a w := by
  obtain ⟨i0, hi, hz0, hz1, hz2⟩ := info_parts info5
  refine wpList_append_own _ hgd _ _ 23 ho base 5 i0 (.int .u8 0) 1 1 Tryd.underlying23 hi hz0 hz1 hz2 rfl (by decide) v _ _ hs hown ⟨b, off, none⟩ n cap (M.map B8) hx ?_ ?_ ?_ ?_ ?_ hbase ?_
  · simp [hn]
  · intro j u hu
    have hj : j < M.length := by simpa using (List.getElem?_eq_some_iff.1 hu).1
    rw [add_at, hM j hj]
    simpa [List.getD, hj] using hu
  · intro u hu
    obtain ⟨x, _, rfl⟩ := List.mem_map.1 hu
    rfl
  · unfold maxLen; omega
  · omega
  · intro v' w1 h1 h2 _
    refine K v' w1 ?_ ?_
    · unfold OwnB
      rw [List.map_append, List.length_append, hn]
      exact h1
    · refine hbel.grown h2 (by omega) fun k hk => ?_
      rcases hown.2 with ⟨rfl, _⟩ | ⟨g, c, cur, rfl, h3, _⟩
      · simp [Value.ownBlock] at hk
      · simp only [Value.ownBlock, Option.some.injEq] at hk
        omega
/-- append(v, y) -/
theorem wpList_push {ops : Array Oper} {rest : List Oper} {o : Oper} {a : Act} {Q : Exit → Act → World → Prop} (hgd : o.guard = none) (s x : Operand)
    (ho : o.op = .call { callee := .builtin .append, args := #[s, x], argTypes := #[23, 23] }) (w0 w : World) (B base : Nat) (v : Value) (L : List UInt8) (y : UInt8) (u : Value) (hs : a.eval s = v) (hx : a.eval x = .slice (some ⟨w.heap.size, 0, none⟩) 1 1)
    (hu : u = B8 y) (hown : OwnB w base v L) (hL : L.length + 1 ≤ 1000000) (hbase : base ≤ w.heap.size) (hB : B ≤ base) (hbel : Below B w0 w)
    (K : ∀ v' w1, OwnB w1 base v' (L ++ [y]) → Below B w0 w1 → wpList Tryd.prog ops Q rest (a.put o.dst v') w1) :
    wpList Tryd.prog ops Q (o :: rest) a (w.alloc (.cells #[u] 5)) := by
  subst hu
  refine wpList_concat hgd s x ho w0 _ B base v L [y] w.heap.size 0 1 1 hs hx (hown.alloc _) rfl ?_ hL (by simp; omega) hB (hbel.alloc (by omega) _) K
  intro j hj
  simp only [List.length_singleton] at hj
  obtain rfl : j = 0 := by omega
  rw [World.cell?_alloc_at _ _ _ _ rfl]
  rfl
end Go.Proofs.YtcmopgfagooboaaDoor

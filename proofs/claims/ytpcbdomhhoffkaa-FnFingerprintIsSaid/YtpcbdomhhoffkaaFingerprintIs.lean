/- Proved: laws.FnFingerprintIs returns true for all bytes, and leaves them as they were: for at most 65536 bytes impl.FingerprintValue is spec.Fingerprint; no other condition. -/
import Derived.Test.YtpcbdomhhoffkaaRows
import Derived.WalkKit
import Derived.ProofKit
import Derived.OpenShut
import Derived.ShutString
import Derived.ChangeOld
import Derived.Below
import Derived.Test.YtpcbdomhhoffkaaFpWalks
namespace Go.Proofs.Ytpcbdomhhoffkaa.fnFingerprintIs
open Go.ChangeShapes Go.WideShapes Go.ChangeAt Go.RowKit
open Go.ChangeMaps (open_string shut_string)
set_option linter.unusedVariables false

theorem own : ownKnob Try.prog.godebug = none := by kernel_rfl
theorem laidOut : laidOutB Try.prog = true := by kernel_rfl

/-- WHAT THE WALK IS TOLD OF A SLICE OF INTEGERS THAT CAME IN: it is nil; or it leads to a row of 'cap' cells, the numbers 'zs' (the first 'len' are its elements, the rest its spare room), each fitting its kind. -/
def IsRow (k : IntKind) (w : World) (a : Option Addr) (len cap : Nat) (zs : List Int) : Prop :=
  (a = none ∧ len = 0 ∧ cap = 0 ∧ zs = []) ∨
  ∃ x, a = some x ∧ len ≤ cap ∧ cap ≤ maxLen ∧ zs.length = cap ∧ (∀ i, i < zs.length → w.cell? (x.add i) = some (.int k (zs.getD i 0))) ∧ ∀ n ∈ zs, (Lit.int k n).wf = true

theorem len_le {w : World} {a : Option Addr} {len cap : Nat} {zs : List Int} (h : IsRow .u8 w a len cap zs) : len ≤ 9223372036854775807 := by
  rcases h with ⟨_, rfl, _⟩ | ⟨x, _, h1, h2, _⟩
  · omega
  · unfold maxLen at h2; omega
theorem add_at (b o j : Nat) : (⟨b, o, none⟩ : Addr).add j = ⟨b, o + j, none⟩ := by
  unfold Addr.add
  split <;> simp_all
/-- the bytes that came in -/
theorem opened {w : World} {a : Option Addr} {len cap : Nat} {zs : List Int} (h : IsRow .u8 w a len cap zs) (hm : len ≤ 140737488355328) :
    ∃ (L : List Nat) (b off : Nat), (∀ x ∈ L, x < 256) ∧ L.length = len ∧ (Calls Try.prog 17 #[.slice a len cap] w fun e w' => ∃ v, e = .returned v ∧ Fp.Cloned w L len v w') ∧
      (0 < len → a = some ⟨b, off, none⟩ ∧ b < w.heap.size ∧ Fp.Bytes w b off L) := by
  rcases h with ⟨rfl, rfl, rfl, rfl⟩ | ⟨x, rfl, h1, h2, h3, hcell, hwf⟩
  · exact ⟨[], 0, 0, by simp, rfl, Fp.clone_nil w, fun h => absurd h (by omega)⟩
  · by_cases h0 : len = 0
    · subst h0
      exact ⟨[], 0, 0, by simp, rfl, Fp.clone_none x cap w, fun h => absurd h (by omega)⟩
    · have hx : x = ⟨x.block, x.off, none⟩ := by
        have hc := hcell 0 (by omega)
        obtain ⟨xb, xo, xs⟩ := x
        cases xs with
        | none => rfl
        | some sp =>
          unfold World.cell? at hc
          split at hc
          · simp [Addr.add] at hc
          · cases hc
      have hval : ∀ i, i < len → 0 ≤ zs.getD i 0 ∧ zs.getD i 0 < 256 := fun i hi => by
        have hlt : i < zs.length := by omega
        have hw := hwf (zs[i]) (List.getElem_mem hlt)
        simp only [List.getD, List.getElem?_eq_getElem hlt, Option.getD_some]
        have := bounds_u8 hw
        omega
      have hL : ∀ i, i < len → ((zs.take len).map Int.toNat).getD i 0 = (zs.getD i 0).toNat := fun i hi => by
        have hlt : i < zs.length := by omega
        simp [List.getD, hi, List.getElem?_eq_getElem hlt]
      have hlen : ((zs.take len).map Int.toNat).length = len := by
        rw [List.length_map, List.length_take]; omega
      have hb : Fp.Bytes w x.block x.off ((zs.take len).map Int.toNat) := fun j hj => by
        rw [hlen] at hj
        have hc := hcell j (by omega)
        rw [hx] at hc
        rw [add_at] at hc
        rw [hL j hj, hc, Int.toNat_of_nonneg (hval j hj).1]
      refine ⟨(zs.take len).map Int.toNat, x.block, x.off, fun y hy => ?_, hlen, ?_, fun _ => ⟨by rw [← hx], ?_, hb⟩⟩
      · obtain ⟨i, hi, rfl⟩ := List.mem_iff_getElem.1 hy
        have h4 := hL i (by omega)
        rw [List.getD, List.getElem?_eq_getElem hi, Option.getD_some] at h4
        rw [h4]
        have := hval i (by omega)
        omega
      · rw [hx]
        exact Fp.clone_some _ _ len cap _ w hlen hm hb
      · exact World.block_lt_of_cell? w ⟨x.block, x.off + 0, none⟩ (hb 0 (by omega))

/-! ### STEP 1: THE WALK: the Go text returns true, AND WRITES NOTHING THAT WAS THERE: 'Below w.heap.size w w'' (Derived/Below.lean: '.refl', '.alloc', '.drew', '.setCell' at a new block, '.trans'). Open each 'IsRow' by 'rcases' AHEAD of 'go_enter'; part every test ahead of the walk. -/
theorem walk (a0 : Option Addr) (len0 cap0 : Nat) (z0 : List Int) (w : World) (w0 : IsRow .u8 w a0 len0 cap0 z0) :
    Calls Try.prog 6 #[.slice a0 len0 cap0] w fun e w' => e = .returned (.bool true) ∧ Below w.heap.size w w' := by
  by_cases hbig : 65536 < len0
  · by_cases hmost : 2147483647 < len0
    · have hle : len0 ≤ 9223372036854775807 := len_le w0
      go_enter Try.func6, Try.ntmps6
      go_wp2
      go_ret
      exact ⟨rfl, Below.refl _ _⟩
    · go_enter Try.func6, Try.ntmps6
      go_wp2
      go_ret
      exact ⟨rfl, Below.refl _ _⟩
  · obtain ⟨L, b, off, hL, hn, hc, ha⟩ := opened w0 (by omega)
    have HI := Lib.hid (Fp.impl_of a0 len0 cap0 L w hL hn (by omega) hc)
    have HS := Lib.hid (fun w1 h => Fp.spec_any a0 b off len0 cap0 L w1 hL hn (by omega) h)
    have HA := Lib.hid ha
    clear hL hn hc ha w0
    go_enter Try.func6, Try.ntmps6
    go_wp2_with fail
    refine HI.out.mono ?_
    rintro e w1 ⟨rfl, hB⟩
    have HK := Lib.hid (HS.out w1 fun h => ⟨(HA.out h).1, (HA.out h).2.2.congr (hB.block b (HA.out h).2.1)⟩)
    have HB := Lib.hid hB
    clear hB
    go_wp2_with fail
    refine HK.out.mono ?_
    rintro e w2 ⟨rfl, rfl⟩
    go_wp2
    go_ret
    exact ⟨by simp, HB.out⟩

/-! ### THE ROW's STEP: WRITTEN OUT: LEAVE IT -/
set_option maxRecDepth 100000 in
theorem lifted (os : Os) (started : os.Started) (H : Type) (enc : TypeId × Value → H) :
    ReturnsInHanded {} Try.checked os 6 .any (Rows.fnFingerprintIsSpec.pre6 enc Try.prog Try.f6 Rows.fnFingerprintIsRow.domain false) (Rows.fnFingerprintIsSpec.post enc Try.prog Try.f6 false true false false) := by
  refine returnsInHanded_of_change (C := Try.checked) own started (by kernel_rfl) Try.func6
    (ChangeSpec.witness6 (enc := enc) (C := Try.checked) false ⟨#[], #[.slice none 0 0], []⟩ 8 (by kernel_rfl) (by kernel_rfl) (by kernel_rfl) (by kernel_rfl)) ?_
  intro W base args ds gs before hval0 hW hcnd _
  have hval : ∀ (j : Nat) t v, Try.f6.params[j]? = some t → args[j]? = some v → Value.okWide Try.prog W .any base t v := hval0
  have hW' := hW
  obtain ⟨p, q, hA0, hV, rfl, hfz, hnd⟩ := hW
  have hA : DataW.TrodAll enc Try.prog W 0 (fun _ => true) true Try.f6.params.toList args.toList ds p := hA0
  rw [Try.params6] at hA hval
  obtain ⟨v0, vs0, d0, ds0, p0, q0, hargs, rfl, rfl, h0, r0⟩ := trodAll_cons hA
  obtain ⟨rfl, rfl, rfl⟩ := trodAll_nil r0
  obtain rfl : args = #[v0] := by cases args; simp_all
  obtain ⟨rfl, rfl⟩ := trodVars_none hV
  obtain ⟨a0, len0, cap0, rfl⟩ := okWide_slice Try.underlying28 (hval 0 28 v0 rfl rfl)
  have k0 := h0
  have lt0 : ∀ x ∈ p0, x.block < W.heap.size := by obtain ⟨m, hm⟩ := k0; exact DataW.trod_lt m _ _ _ hm
  obtain ⟨z0, w0⟩ : ∃ zs, IsRow .u8 W a0 len0 cap0 zs := by
    obtain ⟨fuel, hf⟩ := h0
    rcases open_ints Try.underlying28 Try.underlying5 (by kernel_rfl) hf with ⟨hcs, _⟩ | ⟨x, l, c, zs, hcs, _, hl, hm, hz, _, hcell, hwz⟩
    · simp [Value.cells] at hcs
      obtain ⟨rfl, rfl, rfl⟩ := hcs
      exact ⟨[], .inl ⟨rfl, rfl, rfl, rfl⟩⟩
    · simp [Value.cells] at hcs
      obtain ⟨rfl, rfl, rfl⟩ := hcs
      exact ⟨zs, .inr ⟨_, rfl, hl, hm, by simpa using hz, hcell, hwz⟩⟩
  clear hA0 hval0
  refine (walk a0 len0 cap0 z0 W w0).mono fun e W' ⟨he, bel⟩ => ?_
  subst he
  exact ⟨_, rfl, _, _, _, [], _, [], hW', trodAll_mk1 (shut_bool Try.underlying4 _), (trodAll_cons_mk (Below.trod laidOut (by kernel_rfl) (of_decide_eq_true (by kernel_rfl)) k0 bel lt0) trodAll_mk0), rfl, bel.frame _, fun h => by cases h⟩

theorem over : Rows.fnFingerprintIsRow.holds Try.pinned (OpenSpec.ofChange Rows.fnFingerprintIsSpec) :=
  OpenClaim.holds_of_wide 6 Try.f6 rfl rfl rfl rfl rfl rfl rfl ⟨rfl, rfl, rfl, rfl, rfl⟩ rfl rfl rfl rfl rfl (by kernel_rfl) Try.func6 (by kernel_rfl)
    (of_decide_eq_true (by kernel_rfl)) (by unfold Func.isWrapper; first | (rw [if_pos (by decide +kernel)]; kernel_rfl) | (rw [if_neg (by decide +kernel)]; exact ⟨rfl, rfl⟩))
    (fun os started H enc _ => lifted os started H enc)

/-- ████ THE STATEMENT ████ -/
theorem proved : Rows.FnFingerprintIsSaid := over
#print axioms proved
end Go.Proofs.Ytpcbdomhhoffkaa.fnFingerprintIs

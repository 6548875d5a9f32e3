/- Proved: laws.FnKeysIs returns true for all three strings, and leaves them as they were: for strings of at most 1000 bytes each impl.LongKey gives the bytes that spec.LongKey gives (the MD5 of user:realm:password), and impl.ShortKey gives the password's own bytes; condition: the package-level tables spec.sines and spec.turns hold what their initialisers lay (listed in the row, tied to the program's text by the card); no other condition. -/
import Derived.Test.YtcmopgfagooboaaDoorCards
import Derived.Test.YtcmopgfagooboaaDoorTie
import Derived.WalkKit
import Derived.ProofKit
import Derived.OpenShut
import Derived.ShutString
import Derived.OpenVars
import Derived.Deep.DeepHandedRow
import Derived.Lib.LaidTab
import Derived.Test.YtcmopgfagooboaaDoorLaw
namespace Go.Proofs.YtcmopgfagooboaaDoor.fnKeysIs
open Go.ChangeShapes Go.WideShapes Go.ChangeAt Go.RowKit
open Go.ChangeMaps (open_string shut_string)

theorem own : ownKnob Tryd.prog.godebug = none := by kernel_rfl
theorem laidOut : laidOutB Tryd.prog = true := by kernel_rfl
theorem gSines : Tryd.prog.globalNamed "loop.example/pub-g03036/spec.sines" = some 0 := by kernel_rfl
theorem gTurns : Tryd.prog.globalNamed "loop.example/pub-g03036/spec.turns" = some 1 := by kernel_rfl
theorem tSines : (Tryd.prog.globals[0]?).map (·.type) = some 40 := by kernel_rfl
theorem tTurns : (Tryd.prog.globals[1]?).map (·.type) = some 43 := by kernel_rfl
theorem cells40 : Tryd.prog.cellsOf 40 = 64 := by kernel_rfl
theorem cells43 : Tryd.prog.cellsOf 43 = 16 := by kernel_rfl
theorem cells37 : Tryd.prog.cellsOf 37 = 1 := by kernel_rfl
theorem cells3 : Tryd.prog.cellsOf 3 = 1 := by kernel_rfl

def sinesI : List Int := Md5.sines.map fun x => ((x.toNat : Nat) : Int)
def turnsI : List Int := Md5.turns.map fun x => ((x : Nat) : Int)
theorem laid_is : Rows.fnKeysIsRow.laid = [("loop.example/pub-g03036/spec.sines", Lib.tabData .u32 sinesI), ("loop.example/pub-g03036/spec.turns", Lib.tabData .i64 turnsI)] := by kernel_rfl

theorem plainly {W : World} (h : laidMetH Tryd.prog Rows.fnKeysIsRow.laid W) : laidMet Tryd.prog [("loop.example/pub-g03036/spec.sines", Lib.tabData .u32 sinesI), ("loop.example/pub-g03036/spec.turns", Lib.tabData .i64 turnsI)] W := by
  rw [laid_is] at h
  exact h
theorem tail_met {P : Program} {x : String × DataW Unit} {r : List (String × DataW Unit)} {w : World} (h : laidMet P (x :: r) w) : laidMet P r w := by
  obtain ⟨ps, hv, hnd, hrows⟩ := h
  obtain ⟨n, d⟩ := x
  obtain ⟨g, t, cs, fuel, p, q, _, _, _, _, hq, rfl⟩ := hv
  exact ⟨q, hq, (List.nodup_append.1 hnd).2.1, fun b off hb => hrows b off (List.mem_append.2 (.inr hb))⟩
theorem sinesAre {W : World} (h : laidMetH Tryd.prog Rows.fnKeysIsRow.laid W) : Lib.TabIs Tryd.prog W "loop.example/pub-g03036/spec.sines" .u32 sinesI :=
  Lib.tabIs_of_head gSines tSines Tryd.underlying40 Tryd.underlying37 cells37 cells40 (plainly h)
theorem turnsAre {W : World} (h : laidMetH Tryd.prog Rows.fnKeysIsRow.laid W) : Lib.TabIs Tryd.prog W "loop.example/pub-g03036/spec.turns" .i64 turnsI :=
  Lib.tabIs_of_head gTurns tTurns Tryd.underlying43 Tryd.underlying3 cells3 cells43 (tail_met (plainly h))
theorem sines_cells {W : World} (h : laidMetH Tryd.prog Rows.fnKeysIsRow.laid W) : W.rangeAt 0 0 (Md5.sines.map U) := fun j v hj => by
  have hlt : j < Md5.sines.length := by simpa using (List.getElem?_eq_some_iff.1 hj).1
  have c := (sinesAre h).cell gSines j (by simpa [sinesI] using hlt)
  rw [Nat.zero_add, c]
  simp only [sinesI, List.getD, List.getElem?_map, List.getElem?_eq_getElem hlt, Option.map_some, Option.getD_some] at hj ⊢
  exact hj
theorem turns_cells {W : World} (h : laidMetH Tryd.prog Rows.fnKeysIsRow.laid W) : Turns W := fun j hj => by
  have hlt : j < Md5.turns.length := hj
  have c := (turnsAre h).cell gTurns j (by simpa [turnsI] using hlt)
  rw [c]
  simp only [turnsI, List.getD, List.getElem?_map, List.getElem?_eq_getElem hlt, Option.map_some, Option.getD_some]
theorem two_le {W : World} (h : laidMetH Tryd.prog Rows.fnKeysIsRow.laid W) : 2 ≤ W.heap.size := World.block_lt_of_cell? W ⟨1, 0, none⟩ (turns_cells h 0 (by decide))

theorem contract (H : Type) (enc : TypeId × Value → H) (W : World) (base : Nat) (args : Array Value) (ds gs : List (DataW H)) (before : List MemPlace)
    (hval : ∀ (j : Nat) t v, Tryd.f3.params[j]? = some t → args[j]? = some v → Value.okWide Tryd.prog W .any base t v)
    (hW : DataW.Whole enc Tryd.prog Tryd.f3.params.toList Rows.fnKeysIsSpec.vars false W args.toList ds gs before) (hL : laidMetH Tryd.prog Rows.fnKeysIsRow.laid W) :
    Calls Tryd.prog 3 args W fun e W' => ∃ v, e = .returned v ∧ Rows.fnKeysIsSpec.post enc Tryd.prog Tryd.f3 false true false false W args v W' := by
  have hW' := hW
  obtain ⟨p, q, hA0, hV, rfl, hfz, hnd⟩ := hW
  have hA : DataW.TrodAll enc Tryd.prog W 0 (fun _ => true) true Tryd.f3.params.toList args.toList ds p := hA0
  rw [Tryd.params3] at hA hval
  obtain ⟨v0, vs0, d0, ds0, p0, q0, hargs, rfl, rfl, h0, r0⟩ := trodAll_cons hA
  obtain ⟨v1, vs1, d1, ds1, p1, q1, rfl, rfl, rfl, h1, r1⟩ := trodAll_cons r0
  obtain ⟨v2, vs2, d2, ds2, p2, q2, rfl, rfl, rfl, h2, r2⟩ := trodAll_cons r1
  obtain ⟨rfl, rfl, rfl⟩ := trodAll_nil r2
  obtain rfl : args = #[v0, v1, v2] := by cases args; simp_all
  obtain ⟨a0, rfl, rfl, rfl, w0⟩ := open_string Tryd.underlying9 (hval 0 9 v0 rfl rfl) h0
  obtain ⟨a1, rfl, rfl, rfl, w1⟩ := open_string Tryd.underlying9 (hval 1 9 v1 rfl rfl) h1
  obtain ⟨a2, rfl, rfl, rfl, w2⟩ := open_string Tryd.underlying9 (hval 2 9 v2 rfl rfl) h2
  have hV2 := hV
  obtain ⟨_, _, _, _, g0, _, _, _, _, _, g1, _, rfl, _⟩ := trodVars_two hV2
  refine (law_any a0 a1 a2 W w0 w1 w2 (two_le hL) (sines_cells hL) (turns_cells hL)).mono fun e W' ⟨he, bel⟩ => ?_
  subst he
  exact ⟨_, rfl, _, _, _, [], _, _, hW', trodAll_mk1 (shut_bool Tryd.underlying4 _), (trodAll_cons_mk (shut_string Tryd.underlying9 w0) (trodAll_cons_mk (shut_string Tryd.underlying9 w1) (trodAll_cons_mk (shut_string Tryd.underlying9 w2) trodAll_mk0))),
    Below.trodVars laidOut bel (by kernel_rfl) hV, bel.frame _, fun h => by cases h⟩

/-- A WORLD FOR THE WITNESS: the settled one, the two tables (blocks 0 and 1) holding what their initialisers lay. -/
noncomputable def laidWorld (os : Os) : World :=
  { World.holding Tryd.prog os ⟨#[], #[], []⟩ with heap := (((World.holding Tryd.prog os ⟨#[], #[], []⟩).heap.modify 0 (fun
      | .cells _ t frozen => .cells (sinesI.map (Value.int .u32)).toArray t frozen
      | o => o)).modify 1 (fun
      | .cells _ t frozen => .cells (turnsI.map (Value.int .i64)).toArray t frozen
      | o => o)) }
theorem laid_met (os : Os) : laidMet Tryd.prog Rows.fnKeysIsRow.laid ((laidWorld os).forCall (fun _ _ => 0) ⟨#[], #[.string ByteArray.empty, .string ByteArray.empty, .string ByteArray.empty], []⟩).memory :=
  laidMet_of_run' 8 (by kernel_rfl) (by kernel_rfl)
theorem reads (os : Os) {H : Type} (enc : TypeId × Value → H) : ∃ places, DataW.whole enc Tryd.prog ((laidWorld os).forCall (fun _ _ => 0) ⟨#[], #[.string ByteArray.empty, .string ByteArray.empty, .string ByteArray.empty], []⟩).memory Tryd.f3.params.toList Rows.fnKeysIsSpec.vars false #[Value.string ByteArray.empty, .string ByteArray.empty, .string ByteArray.empty].toList 8
    = some ([.lit (.string []), .lit (.string []), .lit (.string [])], [Lib.tabData .u32 sinesI, Lib.tabData .i64 turnsI], places) :=
  ⟨MemPlace.row ⟨0, 0, none⟩ 64 ++ [] ++ (MemPlace.row ⟨1, 0, none⟩ 16 ++ []), by kernel_rfl⟩

set_option maxRecDepth 100000 in
theorem lifted (os : Os) (started : os.Started) (H : Type) (enc : TypeId × Value → H) (F : Stop.Interp) :
    ReturnsInHanded {} Tryd.checked os 3 .any ((OpenSpec.ofChange Rows.fnKeysIsSpec).preRow enc Tryd.prog Tryd.f3 Rows.fnKeysIsRow.domain false Rows.fnKeysIsRow.laid) (((OpenSpec.ofChange Rows.fnKeysIsSpec).at F).post enc Tryd.prog Tryd.f3 false true false false) := by
  obtain ⟨places, hx⟩ := reads os enc
  refine returnsInHanded_of_row (C := Tryd.checked) (s := OpenSpec.ofChange Rows.fnKeysIsSpec) own started (by kernel_rfl) Tryd.func3
    (witness_row_at (enc := enc) (C := Tryd.checked) false (laidWorld os) #[.string ByteArray.empty, .string ByteArray.empty, .string ByteArray.empty] rfl (by kernel_rfl) (by kernel_rfl) (by kernel_rfl)
      (OpenSpec.preRow_of_cond 8 hx (by kernel_rfl) (fun k hk => by cases hk) (by kernel_rfl) (laid_met os))) ?_
  intro W base args ds gs before hval hW _ _ _ hL _ _
  exact contract H enc W base args ds gs before hval hW hL

theorem said : Rows.FnKeysIsSaid :=
  OpenClaim.holds_of_cond 3 Tryd.f3 rfl rfl rfl rfl rfl rfl rfl ⟨rfl, rfl, rfl, rfl, rfl⟩ rfl rfl rfl rfl rfl (by kernel_rfl) Tryd.func3 (by kernel_rfl)
    (of_decide_eq_true (by kernel_rfl)) (by unfold Func.isWrapper; first | (rw [if_pos (by decide +kernel)]; kernel_rfl) | (rw [if_neg (by decide +kernel)]; exact ⟨rfl, rfl⟩))
    (fun os started H enc _ F => by rw [OpenClaim.pre_eq_preRow]; exact lifted os started H enc F)

/-- No parameter wants a stand-in; the program's own looks are off: what the card asks. -/
theorem plain (f : FuncId) (fn : Func) (hf : Tryd.pinned.checked.prog.funcNamed "loop.example/pub-g03036/laws.FnKeysIs" = some f) (hfn : Tryd.pinned.checked.prog.funcs[f]? = some fn) :
    false = Tryd.pinned.checked.prog.looks [] ∧ ∀ (j : Nat) t, fn.params[j]? = some t → Tryd.pinned.checked.prog.wantsStandIn t = false := by
  obtain rfl : f = 3 := Option.some.inj ((show Tryd.prog.funcNamed "loop.example/pub-g03036/laws.FnKeysIs" = some 3 by kernel_rfl).symm.trans hf) |>.symm
  obtain rfl : fn = Tryd.f3 := (Option.some.inj (Tryd.func3.symm.trans hfn)).symm
  refine ⟨by kernel_rfl, fun j t ht => ?_⟩
  rw [Tryd.params3] at ht
  obtain rfl : t = 9 := by simpa using Array.mem_of_getElem? ht
  exact (show Tryd.prog.wantsStandIn 9 = false by kernel_rfl)

/-- ████ THE CARD ████ -/
theorem card : Rows.FnKeysIsCardSaid :=
  Claim7.holds_tied_plain_at .later [] _ _ _ _ said (fun _ h => by cases h) (by kernel_rfl) (fun _ h => by cases h) fnKeysIs_row_tie rfl ⟨rfl, rfl⟩ (by kernel_rfl) rfl plain (by kernel_rfl)
#print axioms card
end Go.Proofs.YtcmopgfagooboaaDoor.fnKeysIs

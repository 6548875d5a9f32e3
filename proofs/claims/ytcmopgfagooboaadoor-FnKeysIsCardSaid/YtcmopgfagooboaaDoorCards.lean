/-
  DERIVED. GIVEN WITH THE SEED: THE CARDS: each row of YtcmopgfagooboaaDoorRows.lean that lists a variable, with what it lists TIED to the program's text (the seventh form; the later family's looks); each row that meets fmt, with fmt's text TOLD by the authors' own Lean function (tested against real Go, not proved from fmt's source: count such statements apart). THE CARD IS WHAT COUNTS. Prove the row's statement (the work); the ties are given (YtcmopgfagooboaaDoorTie.lean); close each card by the builder's one call (the guide's Derived/Test/ToyasCard.lean, 'card_holds'). Laid BY PROGRAM, IN A SANDBOX (cutbox-door.mjs). By AI agents, Wed Nov 11 2026. No macro, syntax, notation, axiom, sorry.
-/
import Derived.Test.YtcmopgfagooboaaDoorRows
import GoSem.ClaimSeven
namespace Go.Proofs.YtcmopgfagooboaaDoor
namespace Rows

/-- THE TIED CARD OF 'laws.FnKeysIs'. -/
def fnKeysIsCard : Claim7 := { stood := { row := fnKeysIsRow, standIns := [], harness := (true, "9768b39bd79dd71a0d5ce91c54f301eefb23a8999672274874a0e15af9b7e846"), looks := false }, kinds := [], alts := [], laidByText := true, laidKinds := [.data, .data], laidTests := true, laidLooks := .later }
def FnKeysIsCardSaid : Prop := Claim7.holds Tryd.pinned (.plain (OpenSpec.ofChange fnKeysIsSpec)) fnKeysIsCard

/-- THE SECOND FORM's CARD OF 'laws.FnKeysIs'. -/
def fnKeysIsUptoCard : Claim7 := { stood := { row := fnKeysIsUptoRow, standIns := [], harness := (true, "9768b39bd79dd71a0d5ce91c54f301eefb23a8999672274874a0e15af9b7e846"), looks := false }, kinds := [], alts := [], laidByText := true, laidKinds := [.data, .data], laidTests := true, laidLooks := .later }
def FnKeysIsUptoCardSaid : Prop := Claim7.holds Tryd.pinned (.plain (OpenSpec.upto fnKeysIsSpec)) fnKeysIsUptoCard
end Rows
end Go.Proofs.YtcmopgfagooboaaDoor

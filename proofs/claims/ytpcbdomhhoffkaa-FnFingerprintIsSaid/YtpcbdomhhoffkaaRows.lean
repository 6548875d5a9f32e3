/-
  No cell of these rows narrows 'for every input' (looked for: loops, veiled, ifaces, maps, wideKeys, modest, calm, conditions, laid).
  DERIVED. THE GIVEN ROWS OF THIS SEAT. 4 by the template 'for every input the law returns true; each argument reads behind the call as it read before'; 0 by the template 'total and deterministic' (their statements: YtpcbdomhhoffkaaTotals.lean).
  GIVEN WITH THE SEED: the statements are not yours to turn. If you find one false, say at which input.
  Laid BY PROGRAM, IN A SANDBOX (cutbox-rows.mjs): the forced cells as the released guide's own fill.sh prints them over the translation 207bd6ed973c98a9… (all of the seat's roots in one cut). By AI agents, Wed Nov 11 2026. No macro, syntax, notation, axiom, sorry.
-/
import Derived.Test.YtpcbdomhhoffkaaChecked
import GoSem.Claim
import GoSem.ClaimJoined
import GoSem.ClaimMapViews
import Derived.JoinedTies
import Derived.KernelRfl
namespace Go.Proofs.Ytpcbdomhhoffkaa
/- THE CELL 'sum', in the pinned program and in every row, IS THE sha256 OF THE DUMP (.gsa) THAT YtpcbdomhhoffkaaProg.lean LOADS. Nothing in Lean hashes anything: it is a label: what it is worth is what the hold of that sum in a sandbox is worth. -/
noncomputable def Try.pinned : Pinned := { name := "ytpcbdomhhoffkaa", sum := "207bd6ed973c98a990768c4df8e11e52aa7c9d8fcac54aebf6530f6d322c3dd9", checked := Try.checked }
namespace Rows
def none {H : Type} : Left H := { results := [], args := [] }

/-- 'laws.FnTypeOfIs': WHATEVER THE INPUT: true; the input reads as it did. -/
def fnTypeOfIsSpec : ChangeSpec := { name := "fnTypeOfIs", fn := fun _ => fun
  | [d] => { results := [.lit (.bool true)], args := [d] }
  | _ => none }
def fnTypeOfIsRow : OpenClaim := { program := "ytpcbdomhhoffkaa", sum := "207bd6ed973c98a990768c4df8e11e52aa7c9d8fcac54aebf6530f6d322c3dd9", func := "loop.example/pub-g03036/laws.FnTypeOfIs", spec := "fnTypeOfIs", apart := false }
def FnTypeOfIsSaid : Prop := fnTypeOfIsRow.holds Try.pinned (OpenSpec.ofChange fnTypeOfIsSpec)

/-- ITS FALSE NEIGHBOUR: 'it returns false'. Refute it at one input. -/
def fnTypeOfIsWrong : ChangeSpec := { name := "fnTypeOfIs", fn := fun _ => fun
  | [d] => { results := [.lit (.bool false)], args := [d] }
  | _ => none }
def FnTypeOfIsWrongFalsely : Prop := fnTypeOfIsRow.holds Try.pinned (OpenSpec.ofChange fnTypeOfIsWrong)

/-- 'laws.FnTypeValueIs': WHATEVER THE INPUT: true; the input reads as it did. -/
def fnTypeValueIsSpec : ChangeSpec := { name := "fnTypeValueIs", fn := fun _ => fun
  | [d1, d2] => { results := [.lit (.bool true)], args := [d1, d2] }
  | _ => none }
def fnTypeValueIsRow : OpenClaim := { program := "ytpcbdomhhoffkaa", sum := "207bd6ed973c98a990768c4df8e11e52aa7c9d8fcac54aebf6530f6d322c3dd9", func := "loop.example/pub-g03036/laws.FnTypeValueIs", spec := "fnTypeValueIs", apart := false }
def FnTypeValueIsSaid : Prop := fnTypeValueIsRow.holds Try.pinned (OpenSpec.ofChange fnTypeValueIsSpec)

/-- ITS FALSE NEIGHBOUR: 'it returns false'. Refute it at one input. -/
def fnTypeValueIsWrong : ChangeSpec := { name := "fnTypeValueIs", fn := fun _ => fun
  | [d1, d2] => { results := [.lit (.bool false)], args := [d1, d2] }
  | _ => none }
def FnTypeValueIsWrongFalsely : Prop := fnTypeValueIsRow.holds Try.pinned (OpenSpec.ofChange fnTypeValueIsWrong)

/-- 'laws.FnTypeBack': WHATEVER THE INPUT: true; the input reads as it did. -/
def fnTypeBackSpec : ChangeSpec := { name := "fnTypeBack", fn := fun _ => fun
  | [d1, d2, d3] => { results := [.lit (.bool true)], args := [d1, d2, d3] }
  | _ => none }
def fnTypeBackRow : OpenClaim := { program := "ytpcbdomhhoffkaa", sum := "207bd6ed973c98a990768c4df8e11e52aa7c9d8fcac54aebf6530f6d322c3dd9", func := "loop.example/pub-g03036/laws.FnTypeBack", spec := "fnTypeBack", apart := false }
def FnTypeBackSaid : Prop := fnTypeBackRow.holds Try.pinned (OpenSpec.ofChange fnTypeBackSpec)

/-- ITS FALSE NEIGHBOUR: 'it returns false'. Refute it at one input. -/
def fnTypeBackWrong : ChangeSpec := { name := "fnTypeBack", fn := fun _ => fun
  | [d1, d2, d3] => { results := [.lit (.bool false)], args := [d1, d2, d3] }
  | _ => none }
def FnTypeBackWrongFalsely : Prop := fnTypeBackRow.holds Try.pinned (OpenSpec.ofChange fnTypeBackWrong)

/-- 'laws.FnFingerprintIs': WHATEVER THE INPUT: true; the input reads as it did. -/
def fnFingerprintIsSpec : ChangeSpec := { name := "fnFingerprintIs", fn := fun _ => fun
  | [d] => { results := [.lit (.bool true)], args := [d] }
  | _ => none }
def fnFingerprintIsRow : OpenClaim := { program := "ytpcbdomhhoffkaa", sum := "207bd6ed973c98a990768c4df8e11e52aa7c9d8fcac54aebf6530f6d322c3dd9", func := "loop.example/pub-g03036/laws.FnFingerprintIs", spec := "fnFingerprintIs", apart := false }
def FnFingerprintIsSaid : Prop := fnFingerprintIsRow.holds Try.pinned (OpenSpec.ofChange fnFingerprintIsSpec)

/-- ITS FALSE NEIGHBOUR: 'it returns false'. Refute it at one input. -/
def fnFingerprintIsWrong : ChangeSpec := { name := "fnFingerprintIs", fn := fun _ => fun
  | [d] => { results := [.lit (.bool false)], args := [d] }
  | _ => none }
def FnFingerprintIsWrongFalsely : Prop := fnFingerprintIsRow.holds Try.pinned (OpenSpec.ofChange fnFingerprintIsWrong)

/- THE SECOND FORM. 'bulk': how many values and letters a reading holds, each counted each time it is reached (what is shared counts as often as it is met; a slice's spare places count too). A statement '..UptoSaid' is the law's where the arguments, and the package variables that the reading takes, are together of bulk at most 1048576: NARROWER than '..Said'. Prove '..Said' where nothing that the law and all that it calls make is longer than what came in: it says more and counts as full. Else prove '..UptoSaid'. A law counts once. -/
mutual
def uptoBulk {H : Type} : DataW H → Nat
  | .lit (.string bytes) => bytes.length + 1
  | .lit _ => 1
  | .nil => 1
  | .ptr d => uptoBulk d + 1
  | .slice elems spare => uptoBulkAll elems + uptoBulkAll spare + 1
  | .agg parts => uptoBulkAll parts + 1
  | .iface _ d => uptoBulk d + 1
  | .map entries => uptoBulkEntries entries + 1
  | .held _ => 1
def uptoBulkAll {H : Type} : List (DataW H) → Nat
  | [] => 0
  | d :: r => uptoBulk d + uptoBulkAll r
def uptoBulkEntries {H : Type} : List (Lit × DataW H) → Nat
  | [] => 0
  | x :: r => uptoBulkEntry x + uptoBulkEntries r
def uptoBulkEntry {H : Type} : Lit × DataW H → Nat
  | (.string bytes, d) => bytes.length + uptoBulk d + 1
  | (_, d) => uptoBulk d + 1
 end
def uptoSmall : (H : Type) → List (DataW H) → Bool := fun _ ds => decide (uptoBulkAll ds ≤ 1048576)
def OpenSpec.upto (s : _root_.Go.ChangeSpec) : _root_.Go.OpenSpec := { _root_.Go.OpenSpec.ofChange s with cond := some uptoSmall }

/-- 'laws.FnTypeOfIs', WHERE WHAT IT READS IS OF BULK AT MOST 1048576: true; the input reads as it did. -/
def fnTypeOfIsUptoRow : OpenClaim := { program := "ytpcbdomhhoffkaa", sum := "207bd6ed973c98a990768c4df8e11e52aa7c9d8fcac54aebf6530f6d322c3dd9", func := "loop.example/pub-g03036/laws.FnTypeOfIs", spec := "fnTypeOfIs", apart := false, narrowed := true }
def FnTypeOfIsUptoSaid : Prop := fnTypeOfIsUptoRow.holds Try.pinned (OpenSpec.upto fnTypeOfIsSpec)

/-- 'laws.FnTypeValueIs', WHERE WHAT IT READS IS OF BULK AT MOST 1048576: true; the input reads as it did. -/
def fnTypeValueIsUptoRow : OpenClaim := { program := "ytpcbdomhhoffkaa", sum := "207bd6ed973c98a990768c4df8e11e52aa7c9d8fcac54aebf6530f6d322c3dd9", func := "loop.example/pub-g03036/laws.FnTypeValueIs", spec := "fnTypeValueIs", apart := false, narrowed := true }
def FnTypeValueIsUptoSaid : Prop := fnTypeValueIsUptoRow.holds Try.pinned (OpenSpec.upto fnTypeValueIsSpec)

/-- 'laws.FnTypeBack', WHERE WHAT IT READS IS OF BULK AT MOST 1048576: true; the input reads as it did. -/
def fnTypeBackUptoRow : OpenClaim := { program := "ytpcbdomhhoffkaa", sum := "207bd6ed973c98a990768c4df8e11e52aa7c9d8fcac54aebf6530f6d322c3dd9", func := "loop.example/pub-g03036/laws.FnTypeBack", spec := "fnTypeBack", apart := false, narrowed := true }
def FnTypeBackUptoSaid : Prop := fnTypeBackUptoRow.holds Try.pinned (OpenSpec.upto fnTypeBackSpec)

/-- 'laws.FnFingerprintIs', WHERE WHAT IT READS IS OF BULK AT MOST 1048576: true; the input reads as it did. -/
def fnFingerprintIsUptoRow : OpenClaim := { program := "ytpcbdomhhoffkaa", sum := "207bd6ed973c98a990768c4df8e11e52aa7c9d8fcac54aebf6530f6d322c3dd9", func := "loop.example/pub-g03036/laws.FnFingerprintIs", spec := "fnFingerprintIs", apart := false, narrowed := true }
def FnFingerprintIsUptoSaid : Prop := fnFingerprintIsUptoRow.holds Try.pinned (OpenSpec.upto fnFingerprintIsSpec)

end Rows
end Go.Proofs.Ytpcbdomhhoffkaa

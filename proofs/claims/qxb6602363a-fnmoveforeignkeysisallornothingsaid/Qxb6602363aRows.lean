/-
  No cell of these rows narrows 'for every input' (looked for: loops, veiled, ifaces, maps, wideKeys, modest, calm, conditions, laid).
  DERIVED. THE GIVEN ROWS OF THIS SEAT. 2 by the template 'for every input the law returns true; each argument reads behind the call as it read before'; 0 by the template 'total and deterministic' (their statements: Qxb6602363aTotals.lean).
  GIVEN WITH THE SEED: the statements are not yours to turn. If you find one false, say at which input.
  Laid BY PROGRAM, IN A SANDBOX (cutbox-rows.mjs): the forced cells as the released guide's own fill.sh prints them over the translation 9a5d6ca7ab8ba0a2… (all of the seat's roots in one cut). By AI agents, Wed Nov 11 2026. No macro, syntax, notation, axiom, sorry.
-/
import Derived.Test.Qxb6602363aChecked
import GoSem.Claim
import GoSem.ClaimJoined
import GoSem.ClaimMapViews
import Derived.JoinedTies
import Derived.KernelRfl
namespace Go.Proofs.Qxb6602363a
/- THE CELL 'sum', in the pinned program and in every row, IS THE sha256 OF THE DUMP (.gsa) THAT Qxb6602363aProg.lean LOADS. Nothing in Lean hashes anything: it is a label: what it is worth is what the hold of that sum in a sandbox is worth. -/
noncomputable def Try.pinned : Pinned := { name := "qxb6602363a", sum := "9a5d6ca7ab8ba0a27e732338c9bb846756fb0795c7176ec6eca5351030d34ebb", checked := Try.checked }
namespace Rows
def none {H : Type} : Left H := { results := [], args := [] }

/-- 'zzlaws_internal_engine_b1.FnMoveForeignKeysIsAllOrNothing': WHATEVER THE INPUT: true; the input reads as it did. -/
def fnMoveForeignKeysIsAllOrNothingSpec : ChangeSpec := { name := "fnMoveForeignKeysIsAllOrNothing", fn := fun _ => fun
  | [d1, d2, d3, d4, d5, d6, d7, d8, d9] => { results := [.lit (.bool true)], args := [d1, d2, d3, d4, d5, d6, d7, d8, d9] }
  | _ => none }
def fnMoveForeignKeysIsAllOrNothingRow : OpenClaim := { program := "qxb6602363a", sum := "9a5d6ca7ab8ba0a27e732338c9bb846756fb0795c7176ec6eca5351030d34ebb", func := "example.com/referent/referent/zzlaws_internal_engine_b1.FnMoveForeignKeysIsAllOrNothing", spec := "fnMoveForeignKeysIsAllOrNothing", apart := false }
def FnMoveForeignKeysIsAllOrNothingSaid : Prop := fnMoveForeignKeysIsAllOrNothingRow.holds Try.pinned (OpenSpec.ofChange fnMoveForeignKeysIsAllOrNothingSpec)

/-- ITS FALSE NEIGHBOUR: 'it returns false'. Refute it at one input. -/
def fnMoveForeignKeysIsAllOrNothingWrong : ChangeSpec := { name := "fnMoveForeignKeysIsAllOrNothing", fn := fun _ => fun
  | [d1, d2, d3, d4, d5, d6, d7, d8, d9] => { results := [.lit (.bool false)], args := [d1, d2, d3, d4, d5, d6, d7, d8, d9] }
  | _ => none }
def FnMoveForeignKeysIsAllOrNothingWrongFalsely : Prop := fnMoveForeignKeysIsAllOrNothingRow.holds Try.pinned (OpenSpec.ofChange fnMoveForeignKeysIsAllOrNothingWrong)

/-- 'zzlaws_internal_engine_b1.FnMoveForeignKeysThereAndBackRestores': WHATEVER THE INPUT: true; the input reads as it did. -/
def fnMoveForeignKeysThereAndBackRestoresSpec : ChangeSpec := { name := "fnMoveForeignKeysThereAndBackRestores", fn := fun _ => fun
  | [d1, d2, d3, d4, d5, d6, d7, d8] => { results := [.lit (.bool true)], args := [d1, d2, d3, d4, d5, d6, d7, d8] }
  | _ => none }
def fnMoveForeignKeysThereAndBackRestoresRow : OpenClaim := { program := "qxb6602363a", sum := "9a5d6ca7ab8ba0a27e732338c9bb846756fb0795c7176ec6eca5351030d34ebb", func := "example.com/referent/referent/zzlaws_internal_engine_b1.FnMoveForeignKeysThereAndBackRestores", spec := "fnMoveForeignKeysThereAndBackRestores", apart := false }
def FnMoveForeignKeysThereAndBackRestoresSaid : Prop := fnMoveForeignKeysThereAndBackRestoresRow.holds Try.pinned (OpenSpec.ofChange fnMoveForeignKeysThereAndBackRestoresSpec)

/-- ITS FALSE NEIGHBOUR: 'it returns false'. Refute it at one input. -/
def fnMoveForeignKeysThereAndBackRestoresWrong : ChangeSpec := { name := "fnMoveForeignKeysThereAndBackRestores", fn := fun _ => fun
  | [d1, d2, d3, d4, d5, d6, d7, d8] => { results := [.lit (.bool false)], args := [d1, d2, d3, d4, d5, d6, d7, d8] }
  | _ => none }
def FnMoveForeignKeysThereAndBackRestoresWrongFalsely : Prop := fnMoveForeignKeysThereAndBackRestoresRow.holds Try.pinned (OpenSpec.ofChange fnMoveForeignKeysThereAndBackRestoresWrong)

end Rows
end Go.Proofs.Qxb6602363a

/-
  No cell of these rows narrows 'for every input' (looked for: loops, veiled, ifaces, maps, wideKeys, modest, calm, conditions, laid).
  DERIVED. THE GIVEN ROWS OF THIS SEAT. 3 by the template 'for every input the law returns true; each argument reads behind the call as it read before'; 0 by the template 'total and deterministic' (their statements: Qxb6602127aTotals.lean).
  GIVEN WITH THE SEED: the statements are not yours to turn. If you find one false, say at which input.
  Laid BY PROGRAM, IN A SANDBOX (cutbox-rows.mjs): the forced cells as the released guide's own fill.sh prints them over the translation 590a3ed83bec5cb2… (all of the seat's roots in one cut). By AI agents, Wed Nov 11 2026. No macro, syntax, notation, axiom, sorry.
-/
import Derived.Test.Qxb6602127aChecked
import GoSem.Claim
import GoSem.ClaimJoined
import GoSem.ClaimMapViews
import Derived.JoinedTies
import Derived.KernelRfl
namespace Go.Proofs.Qxb6602127a
/- THE CELL 'sum', in the pinned program and in every row, IS THE sha256 OF THE DUMP (.gsa) THAT Qxb6602127aProg.lean LOADS. Nothing in Lean hashes anything: it is a label: what it is worth is what the hold of that sum in a sandbox is worth. -/
noncomputable def Try.pinned : Pinned := { name := "qxb6602127a", sum := "590a3ed83bec5cb20593874f9f7585ee602ca435b69138627808fe26dd8072e8", checked := Try.checked }
namespace Rows
def none {H : Type} : Left H := { results := [], args := [] }

/-- 'zzlaws_pkg_addrs_b1.FnStringKeyDecodesBack': WHATEVER THE INPUT: true; the input reads as it did. -/
def fnStringKeyDecodesBackSpec : ChangeSpec := { name := "fnStringKeyDecodesBack", fn := fun _ => fun
  | [d] => { results := [.lit (.bool true)], args := [d] }
  | _ => none }
def fnStringKeyDecodesBackRow : OpenClaim := { program := "qxb6602127a", sum := "590a3ed83bec5cb20593874f9f7585ee602ca435b69138627808fe26dd8072e8", func := "example.com/unroll/unroll/zzlaws_pkg_addrs_b1.FnStringKeyDecodesBack", spec := "fnStringKeyDecodesBack", inPlace := ["internal/abi.NoEscape", "internal/bytealg.MakeNoZero"], apart := false }
def FnStringKeyDecodesBackSaid : Prop := fnStringKeyDecodesBackRow.holds Try.pinned (OpenSpec.ofChange fnStringKeyDecodesBackSpec)

/-- ITS FALSE NEIGHBOUR: 'it returns false'. Refute it at one input. -/
def fnStringKeyDecodesBackWrong : ChangeSpec := { name := "fnStringKeyDecodesBack", fn := fun _ => fun
  | [d] => { results := [.lit (.bool false)], args := [d] }
  | _ => none }
def FnStringKeyDecodesBackWrongFalsely : Prop := fnStringKeyDecodesBackRow.holds Try.pinned (OpenSpec.ofChange fnStringKeyDecodesBackWrong)

/-- 'zzlaws_pkg_addrs_b1.FnStringKeySplitsAtSeams': WHATEVER THE INPUT: true; the input reads as it did. -/
def fnStringKeySplitsAtSeamsSpec : ChangeSpec := { name := "fnStringKeySplitsAtSeams", fn := fun _ => fun
  | [d1, d2] => { results := [.lit (.bool true)], args := [d1, d2] }
  | _ => none }
def fnStringKeySplitsAtSeamsRow : OpenClaim := { program := "qxb6602127a", sum := "590a3ed83bec5cb20593874f9f7585ee602ca435b69138627808fe26dd8072e8", func := "example.com/unroll/unroll/zzlaws_pkg_addrs_b1.FnStringKeySplitsAtSeams", spec := "fnStringKeySplitsAtSeams", inPlace := ["internal/abi.NoEscape", "internal/bytealg.MakeNoZero"], apart := false }
def FnStringKeySplitsAtSeamsSaid : Prop := fnStringKeySplitsAtSeamsRow.holds Try.pinned (OpenSpec.ofChange fnStringKeySplitsAtSeamsSpec)

/-- ITS FALSE NEIGHBOUR: 'it returns false'. Refute it at one input. -/
def fnStringKeySplitsAtSeamsWrong : ChangeSpec := { name := "fnStringKeySplitsAtSeams", fn := fun _ => fun
  | [d1, d2] => { results := [.lit (.bool false)], args := [d1, d2] }
  | _ => none }
def FnStringKeySplitsAtSeamsWrongFalsely : Prop := fnStringKeySplitsAtSeamsRow.holds Try.pinned (OpenSpec.ofChange fnStringKeySplitsAtSeamsWrong)

/-- 'zzlaws_pkg_addrs_b1.FnStringKeyLengthAndVerbatim': WHATEVER THE INPUT: true; the input reads as it did. -/
def fnStringKeyLengthAndVerbatimSpec : ChangeSpec := { name := "fnStringKeyLengthAndVerbatim", fn := fun _ => fun
  | [d] => { results := [.lit (.bool true)], args := [d] }
  | _ => none }
def fnStringKeyLengthAndVerbatimRow : OpenClaim := { program := "qxb6602127a", sum := "590a3ed83bec5cb20593874f9f7585ee602ca435b69138627808fe26dd8072e8", func := "example.com/unroll/unroll/zzlaws_pkg_addrs_b1.FnStringKeyLengthAndVerbatim", spec := "fnStringKeyLengthAndVerbatim", inPlace := ["internal/abi.NoEscape", "internal/bytealg.MakeNoZero"], apart := false }
def FnStringKeyLengthAndVerbatimSaid : Prop := fnStringKeyLengthAndVerbatimRow.holds Try.pinned (OpenSpec.ofChange fnStringKeyLengthAndVerbatimSpec)

/-- ITS FALSE NEIGHBOUR: 'it returns false'. Refute it at one input. -/
def fnStringKeyLengthAndVerbatimWrong : ChangeSpec := { name := "fnStringKeyLengthAndVerbatim", fn := fun _ => fun
  | [d] => { results := [.lit (.bool false)], args := [d] }
  | _ => none }
def FnStringKeyLengthAndVerbatimWrongFalsely : Prop := fnStringKeyLengthAndVerbatimRow.holds Try.pinned (OpenSpec.ofChange fnStringKeyLengthAndVerbatimWrong)

end Rows
end Go.Proofs.Qxb6602127a

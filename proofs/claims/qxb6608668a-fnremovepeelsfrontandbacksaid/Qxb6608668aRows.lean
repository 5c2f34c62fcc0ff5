/-
  No cell of these rows narrows 'for every input' (looked for: loops, veiled, ifaces, maps, wideKeys, modest, calm, conditions, laid).
  DERIVED. THE GIVEN ROWS OF THIS SEAT. 3 by the template 'for every input the law returns true; each argument reads behind the call as it read before'; 0 by the template 'total and deterministic' (their statements: Qxb6608668aTotals.lean).
  GIVEN WITH THE SEED: the statements are not yours to turn. If you find one false, say at which input.
  Laid BY PROGRAM, IN A SANDBOX (cutbox-rows.mjs): the forced cells as the released guide's own fill.sh prints them over the translation 63b8279d2e966061… (all of the seat's roots in one cut). By AI agents, Wed Nov 11 2026. No macro, syntax, notation, axiom, sorry.
-/
import Derived.Test.Qxb6608668aChecked
import GoSem.Claim
import GoSem.ClaimJoined
import GoSem.ClaimMapViews
import Derived.JoinedTies
import Derived.KernelRfl
namespace Go.Proofs.Qxb6608668a
/- THE CELL 'sum', in the pinned program and in every row, IS THE sha256 OF THE DUMP (.gsa) THAT Qxb6608668aProg.lean LOADS. Nothing in Lean hashes anything: it is a label: what it is worth is what the hold of that sum in a sandbox is worth. -/
noncomputable def Try.pinned : Pinned := { name := "qxb6608668a", sum := "63b8279d2e966061c5fc5d076dd1c686b75656f0a169bbb41594b231fa02fe11", checked := Try.checked }
namespace Rows
def none {H : Type} : Left H := { results := [], args := [] }

/-- 'zzlaws_fixed_b1.FnRemoveTwoIndicesCommute': WHATEVER THE INPUT: true; the input reads as it did. -/
def fnRemoveTwoIndicesCommuteSpec : ChangeSpec := { name := "fnRemoveTwoIndicesCommute", fn := fun _ => fun
  | [d1, d2, d3] => { results := [.lit (.bool true)], args := [d1, d2, d3] }
  | _ => none }
def fnRemoveTwoIndicesCommuteRow : OpenClaim := { program := "qxb6608668a", sum := "63b8279d2e966061c5fc5d076dd1c686b75656f0a169bbb41594b231fa02fe11", func := "example.com/hearken/hearken/zzlaws_fixed_b1.FnRemoveTwoIndicesCommute", spec := "fnRemoveTwoIndicesCommute", apart := false }
def FnRemoveTwoIndicesCommuteSaid : Prop := fnRemoveTwoIndicesCommuteRow.holds Try.pinned (OpenSpec.ofChange fnRemoveTwoIndicesCommuteSpec)

/-- ITS FALSE NEIGHBOUR: 'it returns false'. Refute it at one input. -/
def fnRemoveTwoIndicesCommuteWrong : ChangeSpec := { name := "fnRemoveTwoIndicesCommute", fn := fun _ => fun
  | [d1, d2, d3] => { results := [.lit (.bool false)], args := [d1, d2, d3] }
  | _ => none }
def FnRemoveTwoIndicesCommuteWrongFalsely : Prop := fnRemoveTwoIndicesCommuteRow.holds Try.pinned (OpenSpec.ofChange fnRemoveTwoIndicesCommuteWrong)

/-- 'zzlaws_fixed_b1.FnRemovePeelsFrontAndBack': WHATEVER THE INPUT: true; the input reads as it did. -/
def fnRemovePeelsFrontAndBackSpec : ChangeSpec := { name := "fnRemovePeelsFrontAndBack", fn := fun _ => fun
  | [d1, d2] => { results := [.lit (.bool true)], args := [d1, d2] }
  | _ => none }
def fnRemovePeelsFrontAndBackRow : OpenClaim := { program := "qxb6608668a", sum := "63b8279d2e966061c5fc5d076dd1c686b75656f0a169bbb41594b231fa02fe11", func := "example.com/hearken/hearken/zzlaws_fixed_b1.FnRemovePeelsFrontAndBack", spec := "fnRemovePeelsFrontAndBack", apart := false }
def FnRemovePeelsFrontAndBackSaid : Prop := fnRemovePeelsFrontAndBackRow.holds Try.pinned (OpenSpec.ofChange fnRemovePeelsFrontAndBackSpec)

/-- ITS FALSE NEIGHBOUR: 'it returns false'. Refute it at one input. -/
def fnRemovePeelsFrontAndBackWrong : ChangeSpec := { name := "fnRemovePeelsFrontAndBack", fn := fun _ => fun
  | [d1, d2] => { results := [.lit (.bool false)], args := [d1, d2] }
  | _ => none }
def FnRemovePeelsFrontAndBackWrongFalsely : Prop := fnRemovePeelsFrontAndBackRow.holds Try.pinned (OpenSpec.ofChange fnRemovePeelsFrontAndBackWrong)

/-- 'zzlaws_fixed_b1.FnNewPayloadsTellSettingsApart': WHATEVER THE INPUT: true; the input reads as it did. -/
def fnNewPayloadsTellSettingsApartSpec : ChangeSpec := { name := "fnNewPayloadsTellSettingsApart", fn := fun _ => fun
  | [d1, d2, d3, d4] => { results := [.lit (.bool true)], args := [d1, d2, d3, d4] }
  | _ => none }
def fnNewPayloadsTellSettingsApartRow : OpenClaim := { program := "qxb6608668a", sum := "63b8279d2e966061c5fc5d076dd1c686b75656f0a169bbb41594b231fa02fe11", func := "example.com/hearken/hearken/zzlaws_fixed_b1.FnNewPayloadsTellSettingsApart", spec := "fnNewPayloadsTellSettingsApart", named := ["encoding/binary.BigEndian"], apart := false }
def FnNewPayloadsTellSettingsApartSaid : Prop := fnNewPayloadsTellSettingsApartRow.holds Try.pinned (OpenSpec.ofChange fnNewPayloadsTellSettingsApartSpec)

/-- ITS FALSE NEIGHBOUR: 'it returns false'. Refute it at one input. -/
def fnNewPayloadsTellSettingsApartWrong : ChangeSpec := { name := "fnNewPayloadsTellSettingsApart", fn := fun _ => fun
  | [d1, d2, d3, d4] => { results := [.lit (.bool false)], args := [d1, d2, d3, d4] }
  | _ => none }
def FnNewPayloadsTellSettingsApartWrongFalsely : Prop := fnNewPayloadsTellSettingsApartRow.holds Try.pinned (OpenSpec.ofChange fnNewPayloadsTellSettingsApartWrong)

end Rows
end Go.Proofs.Qxb6608668a

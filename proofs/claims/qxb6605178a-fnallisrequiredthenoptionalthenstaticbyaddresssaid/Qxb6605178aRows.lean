/-
  No cell of these rows narrows 'for every input' (looked for: loops, veiled, ifaces, maps, wideKeys, modest, calm, conditions, laid).
  DERIVED. THE GIVEN ROWS OF THIS SEAT. 2 by the template 'for every input the law returns true; each argument reads behind the call as it read before'; 0 by the template 'total and deterministic' (their statements: Qxb6605178aTotals.lean).
  GIVEN WITH THE SEED: the statements are not yours to turn. If you find one false, say at which input.
  Laid BY PROGRAM, IN A SANDBOX (cutbox-rows.mjs): the forced cells as the released guide's own fill.sh prints them over the translation 50034acf8e665c5b… (all of the seat's roots in one cut). By AI agents, Wed Nov 11 2026. No macro, syntax, notation, axiom, sorry.
-/
import Derived.Test.Qxb6605178aChecked
import GoSem.Claim
import GoSem.ClaimJoined
import GoSem.ClaimMapViews
import Derived.JoinedTies
import Derived.KernelRfl
namespace Go.Proofs.Qxb6605178a
/- THE CELL 'sum', in the pinned program and in every row, IS THE sha256 OF THE DUMP (.gsa) THAT Qxb6605178aProg.lean LOADS. Nothing in Lean hashes anything: it is a label: what it is worth is what the hold of that sum in a sandbox is worth. -/
noncomputable def Try.pinned : Pinned := { name := "qxb6605178a", sum := "50034acf8e665c5bf539c662e30c70642f4a5865077cb5c23664aa46ae8c387e", checked := Try.checked }
namespace Rows
def none {H : Type} : Left H := { results := [], args := [] }

/-- 'zzlaws_pkg_spec_b1.FnRepeatsAreTheLaterUsesWithTheirFirstPlace': WHATEVER THE INPUT: true; the input reads as it did. -/
def fnRepeatsAreTheLaterUsesWithTheirFirstPlaceSpec : ChangeSpec := { name := "fnRepeatsAreTheLaterUsesWithTheirFirstPlace", fn := fun _ => fun
  | [d] => { results := [.lit (.bool true)], args := [d] }
  | _ => none }
def fnRepeatsAreTheLaterUsesWithTheirFirstPlaceRow : OpenClaim := { program := "qxb6605178a", sum := "50034acf8e665c5bf539c662e30c70642f4a5865077cb5c23664aa46ae8c387e", func := "example.com/windlass/windlass/zzlaws_pkg_spec_b1.FnRepeatsAreTheLaterUsesWithTheirFirstPlace", spec := "fnRepeatsAreTheLaterUsesWithTheirFirstPlace", apart := false }
def FnRepeatsAreTheLaterUsesWithTheirFirstPlaceSaid : Prop := fnRepeatsAreTheLaterUsesWithTheirFirstPlaceRow.holds Try.pinned (OpenSpec.ofChange fnRepeatsAreTheLaterUsesWithTheirFirstPlaceSpec)

/-- ITS FALSE NEIGHBOUR: 'it returns false'. Refute it at one input. -/
def fnRepeatsAreTheLaterUsesWithTheirFirstPlaceWrong : ChangeSpec := { name := "fnRepeatsAreTheLaterUsesWithTheirFirstPlace", fn := fun _ => fun
  | [d] => { results := [.lit (.bool false)], args := [d] }
  | _ => none }
def FnRepeatsAreTheLaterUsesWithTheirFirstPlaceWrongFalsely : Prop := fnRepeatsAreTheLaterUsesWithTheirFirstPlaceRow.holds Try.pinned (OpenSpec.ofChange fnRepeatsAreTheLaterUsesWithTheirFirstPlaceWrong)

/-- 'zzlaws_pkg_spec_b1.FnAllIsRequiredThenOptionalThenStaticByAddress': WHATEVER THE INPUT: true; the input reads as it did. -/
def fnAllIsRequiredThenOptionalThenStaticByAddressSpec : ChangeSpec := { name := "fnAllIsRequiredThenOptionalThenStaticByAddress", fn := fun _ => fun
  | [d1, d2, d3, d4, d5] => { results := [.lit (.bool true)], args := [d1, d2, d3, d4, d5] }
  | _ => none }
def fnAllIsRequiredThenOptionalThenStaticByAddressRow : OpenClaim := { program := "qxb6605178a", sum := "50034acf8e665c5bf539c662e30c70642f4a5865077cb5c23664aa46ae8c387e", func := "example.com/windlass/windlass/zzlaws_pkg_spec_b1.FnAllIsRequiredThenOptionalThenStaticByAddress", spec := "fnAllIsRequiredThenOptionalThenStaticByAddress", apart := false }
def FnAllIsRequiredThenOptionalThenStaticByAddressSaid : Prop := fnAllIsRequiredThenOptionalThenStaticByAddressRow.holds Try.pinned (OpenSpec.ofChange fnAllIsRequiredThenOptionalThenStaticByAddressSpec)

/-- ITS FALSE NEIGHBOUR: 'it returns false'. Refute it at one input. -/
def fnAllIsRequiredThenOptionalThenStaticByAddressWrong : ChangeSpec := { name := "fnAllIsRequiredThenOptionalThenStaticByAddress", fn := fun _ => fun
  | [d1, d2, d3, d4, d5] => { results := [.lit (.bool false)], args := [d1, d2, d3, d4, d5] }
  | _ => none }
def FnAllIsRequiredThenOptionalThenStaticByAddressWrongFalsely : Prop := fnAllIsRequiredThenOptionalThenStaticByAddressRow.holds Try.pinned (OpenSpec.ofChange fnAllIsRequiredThenOptionalThenStaticByAddressWrong)

end Rows
end Go.Proofs.Qxb6605178a

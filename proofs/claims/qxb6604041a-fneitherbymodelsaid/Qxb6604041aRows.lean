/-
  No cell of these rows narrows 'for every input' (looked for: loops, veiled, ifaces, maps, wideKeys, modest, calm, conditions, laid).
  DERIVED. THE GIVEN ROWS OF THIS SEAT. 2 by the template 'for every input the law returns true; each argument reads behind the call as it read before'; 0 by the template 'total and deterministic' (their statements: Qxb6604041aTotals.lean).
  GIVEN WITH THE SEED: the statements are not yours to turn. If you find one false, say at which input.
  Laid BY PROGRAM, IN A SANDBOX (cutbox-rows.mjs): the forced cells as the released guide's own fill.sh prints them over the translation af0f1bef4069e37e… (all of the seat's roots in one cut). By AI agents, Wed Nov 11 2026. No macro, syntax, notation, axiom, sorry.
-/
import Derived.Test.Qxb6604041aChecked
import GoSem.Claim
import GoSem.ClaimJoined
import GoSem.ClaimMapViews
import Derived.JoinedTies
import Derived.KernelRfl
namespace Go.Proofs.Qxb6604041a
/- THE CELL 'sum', in the pinned program and in every row, IS THE sha256 OF THE DUMP (.gsa) THAT Qxb6604041aProg.lean LOADS. Nothing in Lean hashes anything: it is a label: what it is worth is what the hold of that sum in a sandbox is worth. -/
noncomputable def Try.pinned : Pinned := { name := "qxb6604041a", sum := "af0f1bef4069e37eec08408b4a803c93fe27882707619f1235f5e6f57f9e9aea", checked := Try.checked }
namespace Rows
def none {H : Type} : Left H := { results := [], args := [] }

/-- 'zzlaws_catalog_b1.FnEitherByModel': WHATEVER THE INPUT: true; the input reads as it did. -/
def fnEitherByModelSpec : ChangeSpec := { name := "fnEitherByModel", fn := fun _ => fun
  | [d] => { results := [.lit (.bool true)], args := [d] }
  | _ => none }
def fnEitherByModelRow : OpenClaim := { program := "qxb6604041a", sum := "af0f1bef4069e37eec08408b4a803c93fe27882707619f1235f5e6f57f9e9aea", func := "example.com/perkwise/perkwise/zzlaws_catalog_b1.FnEitherByModel", spec := "fnEitherByModel", inPlace := ["internal/abi.NoEscape", "internal/bytealg.MakeNoZero"], apart := false }
def FnEitherByModelSaid : Prop := fnEitherByModelRow.holds Try.pinned (OpenSpec.ofChange fnEitherByModelSpec)

/-- ITS FALSE NEIGHBOUR: 'it returns false'. Refute it at one input. -/
def fnEitherByModelWrong : ChangeSpec := { name := "fnEitherByModel", fn := fun _ => fun
  | [d] => { results := [.lit (.bool false)], args := [d] }
  | _ => none }
def FnEitherByModelWrongFalsely : Prop := fnEitherByModelRow.holds Try.pinned (OpenSpec.ofChange fnEitherByModelWrong)

/-- 'zzlaws_catalog_b1.FnEitherPeel': WHATEVER THE INPUT: true; the input reads as it did. -/
def fnEitherPeelSpec : ChangeSpec := { name := "fnEitherPeel", fn := fun _ => fun
  | [d] => { results := [.lit (.bool true)], args := [d] }
  | _ => none }
def fnEitherPeelRow : OpenClaim := { program := "qxb6604041a", sum := "af0f1bef4069e37eec08408b4a803c93fe27882707619f1235f5e6f57f9e9aea", func := "example.com/perkwise/perkwise/zzlaws_catalog_b1.FnEitherPeel", spec := "fnEitherPeel", inPlace := ["internal/abi.NoEscape", "internal/bytealg.MakeNoZero"], apart := false }
def FnEitherPeelSaid : Prop := fnEitherPeelRow.holds Try.pinned (OpenSpec.ofChange fnEitherPeelSpec)

/-- ITS FALSE NEIGHBOUR: 'it returns false'. Refute it at one input. -/
def fnEitherPeelWrong : ChangeSpec := { name := "fnEitherPeel", fn := fun _ => fun
  | [d] => { results := [.lit (.bool false)], args := [d] }
  | _ => none }
def FnEitherPeelWrongFalsely : Prop := fnEitherPeelRow.holds Try.pinned (OpenSpec.ofChange fnEitherPeelWrong)

end Rows
end Go.Proofs.Qxb6604041a

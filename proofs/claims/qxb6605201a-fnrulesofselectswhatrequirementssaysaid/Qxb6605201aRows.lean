/-
  NARROWER THAN 'FOR EVERY INPUT', by the rows' own cells (each row's printed sentence says how): FnRulesOfSelectsWhatRequirementsSay: maps.
  DERIVED. THE GIVEN ROWS OF THIS SEAT. 3 by the template 'for every input the law returns true; each argument reads behind the call as it read before'; 0 by the template 'total and deterministic' (their statements: Qxb6605201aTotals.lean).
  GIVEN WITH THE SEED: the statements are not yours to turn. If you find one false, say at which input.
  Laid BY PROGRAM, IN A SANDBOX (cutbox-rows.mjs): the forced cells as the released guide's own fill.sh prints them over the translation 291074060b0bbdcf… (all of the seat's roots in one cut). By AI agents, Wed Nov 11 2026. No macro, syntax, notation, axiom, sorry.
-/
import Derived.Test.Qxb6605201aChecked
import GoSem.Claim
import GoSem.ClaimJoined
import GoSem.ClaimMapViews
import Derived.JoinedTies
import Derived.KernelRfl
namespace Go.Proofs.Qxb6605201a
/- THE CELL 'sum', in the pinned program and in every row, IS THE sha256 OF THE DUMP (.gsa) THAT Qxb6605201aProg.lean LOADS. Nothing in Lean hashes anything: it is a label: what it is worth is what the hold of that sum in a sandbox is worth. -/
noncomputable def Try.pinned : Pinned := { name := "qxb6605201a", sum := "291074060b0bbdcf7d3c9fb2a7207ff817ba5fcce14ca176b1be4a3ab8d18857", checked := Try.checked }
namespace Rows
def none {H : Type} : Left H := { results := [], args := [] }

/-- 'zzlaws_internal_object_b1.FnRulesOfMatchesModel': WHATEVER THE INPUT: true; the input reads as it did. -/
def fnRulesOfMatchesModelSpec : ChangeSpec := { name := "fnRulesOfMatchesModel", fn := fun _ => fun
  | [d] => { results := [.lit (.bool true)], args := [d] }
  | _ => none }
def fnRulesOfMatchesModelRow : OpenClaim := { program := "qxb6605201a", sum := "291074060b0bbdcf7d3c9fb2a7207ff817ba5fcce14ca176b1be4a3ab8d18857", func := "example.com/cairnstore/cairnstore/zzlaws_internal_object_b1.FnRulesOfMatchesModel", spec := "fnRulesOfMatchesModel", inPlace := ["internal/bytealg.abigen_runtime_cmpstring"], unfollowed := true, recurses := true, apart := false }
def FnRulesOfMatchesModelSaid : Prop := fnRulesOfMatchesModelRow.holds Try.pinned (OpenSpec.ofChange fnRulesOfMatchesModelSpec)

/-- ITS FALSE NEIGHBOUR: 'it returns false'. Refute it at one input. -/
def fnRulesOfMatchesModelWrong : ChangeSpec := { name := "fnRulesOfMatchesModel", fn := fun _ => fun
  | [d] => { results := [.lit (.bool false)], args := [d] }
  | _ => none }
def FnRulesOfMatchesModelWrongFalsely : Prop := fnRulesOfMatchesModelRow.holds Try.pinned (OpenSpec.ofChange fnRulesOfMatchesModelWrong)

/-- 'zzlaws_internal_object_b1.FnRulesOfSelectsWhatRequirementsSay': WHATEVER THE INPUT: true; the input reads as it did. -/
def fnRulesOfSelectsWhatRequirementsSaySpec : ChangeSpec := { name := "fnRulesOfSelectsWhatRequirementsSay", fn := fun _ => fun
  | [d1, d2] => { results := [.lit (.bool true)], args := [d1, d2] }
  | _ => none }
def fnRulesOfSelectsWhatRequirementsSayRow : OpenClaim := { program := "qxb6605201a", sum := "291074060b0bbdcf7d3c9fb2a7207ff817ba5fcce14ca176b1be4a3ab8d18857", func := "example.com/cairnstore/cairnstore/zzlaws_internal_object_b1.FnRulesOfSelectsWhatRequirementsSay", spec := "fnRulesOfSelectsWhatRequirementsSay", inPlace := ["internal/bytealg.abigen_runtime_cmpstring"], unfollowed := true, recurses := true, maps := true, apart := false }
def FnRulesOfSelectsWhatRequirementsSaySaid : Prop := fnRulesOfSelectsWhatRequirementsSayRow.holds Try.pinned (OpenSpec.ofChange fnRulesOfSelectsWhatRequirementsSaySpec)

/-- ITS FALSE NEIGHBOUR: 'it returns false'. Refute it at one input. -/
def fnRulesOfSelectsWhatRequirementsSayWrong : ChangeSpec := { name := "fnRulesOfSelectsWhatRequirementsSay", fn := fun _ => fun
  | [d1, d2] => { results := [.lit (.bool false)], args := [d1, d2] }
  | _ => none }
def FnRulesOfSelectsWhatRequirementsSayWrongFalsely : Prop := fnRulesOfSelectsWhatRequirementsSayRow.holds Try.pinned (OpenSpec.ofChange fnRulesOfSelectsWhatRequirementsSayWrong)

/-- 'zzlaws_internal_object_b1.FnAppendFieldBuildsObject': WHATEVER THE INPUT: true; the input reads as it did. -/
def fnAppendFieldBuildsObjectSpec : ChangeSpec := { name := "fnAppendFieldBuildsObject", fn := fun _ => fun
  | [d1, d2] => { results := [.lit (.bool true)], args := [d1, d2] }
  | _ => none }
def fnAppendFieldBuildsObjectRow : OpenClaim := { program := "qxb6605201a", sum := "291074060b0bbdcf7d3c9fb2a7207ff817ba5fcce14ca176b1be4a3ab8d18857", func := "example.com/cairnstore/cairnstore/zzlaws_internal_object_b1.FnAppendFieldBuildsObject", spec := "fnAppendFieldBuildsObject", apart := false }
def FnAppendFieldBuildsObjectSaid : Prop := fnAppendFieldBuildsObjectRow.holds Try.pinned (OpenSpec.ofChange fnAppendFieldBuildsObjectSpec)

/-- ITS FALSE NEIGHBOUR: 'it returns false'. Refute it at one input. -/
def fnAppendFieldBuildsObjectWrong : ChangeSpec := { name := "fnAppendFieldBuildsObject", fn := fun _ => fun
  | [d1, d2] => { results := [.lit (.bool false)], args := [d1, d2] }
  | _ => none }
def FnAppendFieldBuildsObjectWrongFalsely : Prop := fnAppendFieldBuildsObjectRow.holds Try.pinned (OpenSpec.ofChange fnAppendFieldBuildsObjectWrong)

end Rows
end Go.Proofs.Qxb6605201a

/-
  No cell of these rows narrows 'for every input' (looked for: loops, veiled, ifaces, maps, wideKeys, modest, calm, conditions, laid).
  DERIVED. THE GIVEN ROWS OF THIS SEAT. 1 by the template 'for every input the law returns true; each argument reads behind the call as it read before'; 0 by the template 'total and deterministic' (their statements: Qxb6604097aTotals.lean).
  GIVEN WITH THE SEED: the statements are not yours to turn. If you find one false, say at which input.
  Laid BY PROGRAM, IN A SANDBOX (cutbox-rows.mjs): the forced cells as the released guide's own fill.sh prints them over the translation ffc7d30152a3fa2d… (all of the seat's roots in one cut). By AI agents, Wed Nov 11 2026. No macro, syntax, notation, axiom, sorry.
-/
import Derived.Test.Qxb6604097aChecked
import GoSem.Claim
import GoSem.ClaimJoined
import GoSem.ClaimMapViews
import Derived.JoinedTies
import Derived.KernelRfl
namespace Go.Proofs.Qxb6604097a
/- THE CELL 'sum', in the pinned program and in every row, IS THE sha256 OF THE DUMP (.gsa) THAT Qxb6604097aProg.lean LOADS. Nothing in Lean hashes anything: it is a label: what it is worth is what the hold of that sum in a sandbox is worth. -/
noncomputable def Try.pinned : Pinned := { name := "qxb6604097a", sum := "ffc7d30152a3fa2d0631fd2b69e62907c21be219f77f8d674ef3c5f1d9002abf", checked := Try.checked }
namespace Rows
def none {H : Type} : Left H := { results := [], args := [] }

/-- 'zzlaws_internal_redact_b1.FnQuotedEndMatchesModel': WHATEVER THE INPUT: true; the input reads as it did. -/
def fnQuotedEndMatchesModelSpec : ChangeSpec := { name := "fnQuotedEndMatchesModel", fn := fun _ => fun
  | [d1, d2, d3] => { results := [.lit (.bool true)], args := [d1, d2, d3] }
  | _ => none }
def fnQuotedEndMatchesModelRow : OpenClaim := { program := "qxb6604097a", sum := "ffc7d30152a3fa2d0631fd2b69e62907c21be219f77f8d674ef3c5f1d9002abf", func := "example.com/blotline/blotline/zzlaws_internal_redact_b1.FnQuotedEndMatchesModel", spec := "fnQuotedEndMatchesModel", apart := false }
def FnQuotedEndMatchesModelSaid : Prop := fnQuotedEndMatchesModelRow.holds Try.pinned (OpenSpec.ofChange fnQuotedEndMatchesModelSpec)

/-- ITS FALSE NEIGHBOUR: 'it returns false'. Refute it at one input. -/
def fnQuotedEndMatchesModelWrong : ChangeSpec := { name := "fnQuotedEndMatchesModel", fn := fun _ => fun
  | [d1, d2, d3] => { results := [.lit (.bool false)], args := [d1, d2, d3] }
  | _ => none }
def FnQuotedEndMatchesModelWrongFalsely : Prop := fnQuotedEndMatchesModelRow.holds Try.pinned (OpenSpec.ofChange fnQuotedEndMatchesModelWrong)

end Rows
end Go.Proofs.Qxb6604097a

/-
  No cell of these rows narrows 'for every input' (looked for: loops, veiled, ifaces, maps, wideKeys, modest, calm, conditions, laid).
  DERIVED. THE GIVEN ROWS OF THIS SEAT. 3 by the template 'for every input the law returns true; each argument reads behind the call as it read before'; 0 by the template 'total and deterministic' (their statements: Qxb6003126aTotals.lean).
  GIVEN WITH THE SEED: the statements are not yours to turn. If you find one false, say at which input.
  Laid BY PROGRAM, IN A SANDBOX (cutbox-rows.mjs): the forced cells as the released guide's own fill.sh prints them over the translation be536afe84bd911e… (all of the seat's roots in one cut). By AI agents, Wed Nov 11 2026. No macro, syntax, notation, axiom, sorry.
-/
import Derived.Test.Qxb6003126aChecked
import GoSem.Claim
import GoSem.ClaimJoined
import GoSem.ClaimMapViews
import Derived.JoinedTies
import Derived.KernelRfl
namespace Go.Proofs.Qxb6003126a
/- THE CELL 'sum', in the pinned program and in every row, IS THE sha256 OF THE DUMP (.gsa) THAT Qxb6003126aProg.lean LOADS. Nothing in Lean hashes anything: it is a label: what it is worth is what the hold of that sum in a sandbox is worth. -/
noncomputable def Try.pinned : Pinned := { name := "qxb6003126a", sum := "be536afe84bd911e2c5bd9e89bd6932f04aedeb85da770458b4a5c399790b5cb", checked := Try.checked }
namespace Rows
def none {H : Type} : Left H := { results := [], args := [] }

/-- 'zzlaws_grades_b1.FnOfFindsFirstRowOfYear': WHATEVER THE INPUT: true; the input reads as it did. -/
def fnOfFindsFirstRowOfYearSpec : ChangeSpec := { name := "fnOfFindsFirstRowOfYear", fn := fun _ => fun
  | [d1, d2, d3] => { results := [.lit (.bool true)], args := [d1, d2, d3] }
  | _ => none }
def fnOfFindsFirstRowOfYearRow : OpenClaim := { program := "qxb6003126a", sum := "be536afe84bd911e2c5bd9e89bd6932f04aedeb85da770458b4a5c399790b5cb", func := "example.com/vestwright/vestwright/zzlaws_grades_b1.FnOfFindsFirstRowOfYear", spec := "fnOfFindsFirstRowOfYear", apart := false }
def FnOfFindsFirstRowOfYearSaid : Prop := fnOfFindsFirstRowOfYearRow.holds Try.pinned (OpenSpec.ofChange fnOfFindsFirstRowOfYearSpec)

/-- ITS FALSE NEIGHBOUR: 'it returns false'. Refute it at one input. -/
def fnOfFindsFirstRowOfYearWrong : ChangeSpec := { name := "fnOfFindsFirstRowOfYear", fn := fun _ => fun
  | [d1, d2, d3] => { results := [.lit (.bool false)], args := [d1, d2, d3] }
  | _ => none }
def FnOfFindsFirstRowOfYearWrongFalsely : Prop := fnOfFindsFirstRowOfYearRow.holds Try.pinned (OpenSpec.ofChange fnOfFindsFirstRowOfYearWrong)

/-- 'zzlaws_grades_b1.FnInternNumbersTextsByFirstSighting': WHATEVER THE INPUT: true; the input reads as it did. -/
def fnInternNumbersTextsByFirstSightingSpec : ChangeSpec := { name := "fnInternNumbersTextsByFirstSighting", fn := fun _ => fun
  | [d] => { results := [.lit (.bool true)], args := [d] }
  | _ => none }
def fnInternNumbersTextsByFirstSightingRow : OpenClaim := { program := "qxb6003126a", sum := "be536afe84bd911e2c5bd9e89bd6932f04aedeb85da770458b4a5c399790b5cb", func := "example.com/vestwright/vestwright/zzlaws_grades_b1.FnInternNumbersTextsByFirstSighting", spec := "fnInternNumbersTextsByFirstSighting", apart := false }
def FnInternNumbersTextsByFirstSightingSaid : Prop := fnInternNumbersTextsByFirstSightingRow.holds Try.pinned (OpenSpec.ofChange fnInternNumbersTextsByFirstSightingSpec)

/-- ITS FALSE NEIGHBOUR: 'it returns false'. Refute it at one input. -/
def fnInternNumbersTextsByFirstSightingWrong : ChangeSpec := { name := "fnInternNumbersTextsByFirstSighting", fn := fun _ => fun
  | [d] => { results := [.lit (.bool false)], args := [d] }
  | _ => none }
def FnInternNumbersTextsByFirstSightingWrongFalsely : Prop := fnInternNumbersTextsByFirstSightingRow.holds Try.pinned (OpenSpec.ofChange fnInternNumbersTextsByFirstSightingWrong)

/-- 'zzlaws_grades_b1.FnAddKeepsEveryMarkInFileOrder': WHATEVER THE INPUT: true; the input reads as it did. -/
def fnAddKeepsEveryMarkInFileOrderSpec : ChangeSpec := { name := "fnAddKeepsEveryMarkInFileOrder", fn := fun _ => fun
  | [d] => { results := [.lit (.bool true)], args := [d] }
  | _ => none }
def fnAddKeepsEveryMarkInFileOrderRow : OpenClaim := { program := "qxb6003126a", sum := "be536afe84bd911e2c5bd9e89bd6932f04aedeb85da770458b4a5c399790b5cb", func := "example.com/vestwright/vestwright/zzlaws_grades_b1.FnAddKeepsEveryMarkInFileOrder", spec := "fnAddKeepsEveryMarkInFileOrder", apart := false }
def FnAddKeepsEveryMarkInFileOrderSaid : Prop := fnAddKeepsEveryMarkInFileOrderRow.holds Try.pinned (OpenSpec.ofChange fnAddKeepsEveryMarkInFileOrderSpec)

/-- ITS FALSE NEIGHBOUR: 'it returns false'. Refute it at one input. -/
def fnAddKeepsEveryMarkInFileOrderWrong : ChangeSpec := { name := "fnAddKeepsEveryMarkInFileOrder", fn := fun _ => fun
  | [d] => { results := [.lit (.bool false)], args := [d] }
  | _ => none }
def FnAddKeepsEveryMarkInFileOrderWrongFalsely : Prop := fnAddKeepsEveryMarkInFileOrderRow.holds Try.pinned (OpenSpec.ofChange fnAddKeepsEveryMarkInFileOrderWrong)

end Rows
end Go.Proofs.Qxb6003126a

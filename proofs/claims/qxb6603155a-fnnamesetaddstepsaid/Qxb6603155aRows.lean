/-
  No cell of these rows narrows 'for every input' (looked for: loops, veiled, ifaces, maps, wideKeys, modest, calm, conditions, laid).
  DERIVED. THE GIVEN ROWS OF THIS SEAT. 2 by the template 'for every input the law returns true; each argument reads behind the call as it read before'; 0 by the template 'total and deterministic' (their statements: Qxb6603155aTotals.lean).
  GIVEN WITH THE SEED: the statements are not yours to turn. If you find one false, say at which input.
  Laid BY PROGRAM, IN A SANDBOX (cutbox-rows.mjs): the forced cells as the released guide's own fill.sh prints them over the translation 44c07555bfb23dcc… (all of the seat's roots in one cut). By AI agents, Wed Nov 11 2026. No macro, syntax, notation, axiom, sorry.
-/
import Derived.Test.Qxb6603155aChecked
import GoSem.Claim
import GoSem.ClaimJoined
import GoSem.ClaimMapViews
import Derived.JoinedTies
import Derived.KernelRfl
namespace Go.Proofs.Qxb6603155a
/- THE CELL 'sum', in the pinned program and in every row, IS THE sha256 OF THE DUMP (.gsa) THAT Qxb6603155aProg.lean LOADS. Nothing in Lean hashes anything: it is a label: what it is worth is what the hold of that sum in a sandbox is worth. -/
noncomputable def Try.pinned : Pinned := { name := "qxb6603155a", sum := "44c07555bfb23dcc96187776545818571b956787e05318775886d9d72ec52515", checked := Try.checked }
namespace Rows
def none {H : Type} : Left H := { results := [], args := [] }

/-- 'zzlaws_internal_strictjson_b1.FnNameSetAddReportsRepeats': WHATEVER THE INPUT: true; the input reads as it did. -/
def fnNameSetAddReportsRepeatsSpec : ChangeSpec := { name := "fnNameSetAddReportsRepeats", fn := fun _ => fun
  | [d] => { results := [.lit (.bool true)], args := [d] }
  | _ => none }
def fnNameSetAddReportsRepeatsRow : OpenClaim := { program := "qxb6603155a", sum := "44c07555bfb23dcc96187776545818571b956787e05318775886d9d72ec52515", func := "example.com/urkunde/urkunde/zzlaws_internal_strictjson_b1.FnNameSetAddReportsRepeats", spec := "fnNameSetAddReportsRepeats", apart := false }
def FnNameSetAddReportsRepeatsSaid : Prop := fnNameSetAddReportsRepeatsRow.holds Try.pinned (OpenSpec.ofChange fnNameSetAddReportsRepeatsSpec)

/-- ITS FALSE NEIGHBOUR: 'it returns false'. Refute it at one input. -/
def fnNameSetAddReportsRepeatsWrong : ChangeSpec := { name := "fnNameSetAddReportsRepeats", fn := fun _ => fun
  | [d] => { results := [.lit (.bool false)], args := [d] }
  | _ => none }
def FnNameSetAddReportsRepeatsWrongFalsely : Prop := fnNameSetAddReportsRepeatsRow.holds Try.pinned (OpenSpec.ofChange fnNameSetAddReportsRepeatsWrong)

/-- 'zzlaws_internal_strictjson_b1.FnNameSetAddStep': WHATEVER THE INPUT: true; the input reads as it did. -/
def fnNameSetAddStepSpec : ChangeSpec := { name := "fnNameSetAddStep", fn := fun _ => fun
  | [d1, d2, d3, d4, d5] => { results := [.lit (.bool true)], args := [d1, d2, d3, d4, d5] }
  | _ => none }
def fnNameSetAddStepRow : OpenClaim := { program := "qxb6603155a", sum := "44c07555bfb23dcc96187776545818571b956787e05318775886d9d72ec52515", func := "example.com/urkunde/urkunde/zzlaws_internal_strictjson_b1.FnNameSetAddStep", spec := "fnNameSetAddStep", apart := false }
def FnNameSetAddStepSaid : Prop := fnNameSetAddStepRow.holds Try.pinned (OpenSpec.ofChange fnNameSetAddStepSpec)

/-- ITS FALSE NEIGHBOUR: 'it returns false'. Refute it at one input. -/
def fnNameSetAddStepWrong : ChangeSpec := { name := "fnNameSetAddStep", fn := fun _ => fun
  | [d1, d2, d3, d4, d5] => { results := [.lit (.bool false)], args := [d1, d2, d3, d4, d5] }
  | _ => none }
def FnNameSetAddStepWrongFalsely : Prop := fnNameSetAddStepRow.holds Try.pinned (OpenSpec.ofChange fnNameSetAddStepWrong)

end Rows
end Go.Proofs.Qxb6603155a

/-
  No cell of these rows narrows 'for every input' (looked for: loops, veiled, ifaces, maps, wideKeys, modest, calm, conditions, laid).
  DERIVED. THE GIVEN ROWS OF THIS SEAT. 2 by the template 'for every input the law returns true; each argument reads behind the call as it read before'; 0 by the template 'total and deterministic' (their statements: Qxb6603949aTotals.lean).
  GIVEN WITH THE SEED: the statements are not yours to turn. If you find one false, say at which input.
  Laid BY PROGRAM, IN A SANDBOX (cutbox-rows.mjs): the forced cells as the released guide's own fill.sh prints them over the translation 540df736eaeab045… (all of the seat's roots in one cut). By AI agents, Wed Nov 11 2026. No macro, syntax, notation, axiom, sorry.
-/
import Derived.Test.Qxb6603949aChecked
import GoSem.Claim
import GoSem.ClaimJoined
import GoSem.ClaimMapViews
import Derived.JoinedTies
import Derived.KernelRfl
namespace Go.Proofs.Qxb6603949a
/- THE CELL 'sum', in the pinned program and in every row, IS THE sha256 OF THE DUMP (.gsa) THAT Qxb6603949aProg.lean LOADS. Nothing in Lean hashes anything: it is a label: what it is worth is what the hold of that sum in a sandbox is worth. -/
noncomputable def Try.pinned : Pinned := { name := "qxb6603949a", sum := "540df736eaeab045c504e698e02bcc52358bd254424f915b62e2b698b78ed660", checked := Try.checked }
namespace Rows
def none {H : Type} : Left H := { results := [], args := [] }

/-- 'zzlaws_policy_b1.FnSkipSpaceAndCommentsModel': WHATEVER THE INPUT: true; the input reads as it did. -/
def fnSkipSpaceAndCommentsModelSpec : ChangeSpec := { name := "fnSkipSpaceAndCommentsModel", fn := fun _ => fun
  | [d1, d2, d3, d4] => { results := [.lit (.bool true)], args := [d1, d2, d3, d4] }
  | _ => none }
def fnSkipSpaceAndCommentsModelRow : OpenClaim := { program := "qxb6603949a", sum := "540df736eaeab045c504e698e02bcc52358bd254424f915b62e2b698b78ed660", func := "example.com/licet/licet/zzlaws_policy_b1.FnSkipSpaceAndCommentsModel", spec := "fnSkipSpaceAndCommentsModel", apart := false }
def FnSkipSpaceAndCommentsModelSaid : Prop := fnSkipSpaceAndCommentsModelRow.holds Try.pinned (OpenSpec.ofChange fnSkipSpaceAndCommentsModelSpec)

/-- ITS FALSE NEIGHBOUR: 'it returns false'. Refute it at one input. -/
def fnSkipSpaceAndCommentsModelWrong : ChangeSpec := { name := "fnSkipSpaceAndCommentsModel", fn := fun _ => fun
  | [d1, d2, d3, d4] => { results := [.lit (.bool false)], args := [d1, d2, d3, d4] }
  | _ => none }
def FnSkipSpaceAndCommentsModelWrongFalsely : Prop := fnSkipSpaceAndCommentsModelRow.holds Try.pinned (OpenSpec.ofChange fnSkipSpaceAndCommentsModelWrong)

/-- 'zzlaws_policy_b1.FnSkipSpaceAndCommentsStopsAtToken': WHATEVER THE INPUT: true; the input reads as it did. -/
def fnSkipSpaceAndCommentsStopsAtTokenSpec : ChangeSpec := { name := "fnSkipSpaceAndCommentsStopsAtToken", fn := fun _ => fun
  | [d1, d2, d3, d4] => { results := [.lit (.bool true)], args := [d1, d2, d3, d4] }
  | _ => none }
def fnSkipSpaceAndCommentsStopsAtTokenRow : OpenClaim := { program := "qxb6603949a", sum := "540df736eaeab045c504e698e02bcc52358bd254424f915b62e2b698b78ed660", func := "example.com/licet/licet/zzlaws_policy_b1.FnSkipSpaceAndCommentsStopsAtToken", spec := "fnSkipSpaceAndCommentsStopsAtToken", apart := false }
def FnSkipSpaceAndCommentsStopsAtTokenSaid : Prop := fnSkipSpaceAndCommentsStopsAtTokenRow.holds Try.pinned (OpenSpec.ofChange fnSkipSpaceAndCommentsStopsAtTokenSpec)

/-- ITS FALSE NEIGHBOUR: 'it returns false'. Refute it at one input. -/
def fnSkipSpaceAndCommentsStopsAtTokenWrong : ChangeSpec := { name := "fnSkipSpaceAndCommentsStopsAtToken", fn := fun _ => fun
  | [d1, d2, d3, d4] => { results := [.lit (.bool false)], args := [d1, d2, d3, d4] }
  | _ => none }
def FnSkipSpaceAndCommentsStopsAtTokenWrongFalsely : Prop := fnSkipSpaceAndCommentsStopsAtTokenRow.holds Try.pinned (OpenSpec.ofChange fnSkipSpaceAndCommentsStopsAtTokenWrong)

end Rows
end Go.Proofs.Qxb6603949a

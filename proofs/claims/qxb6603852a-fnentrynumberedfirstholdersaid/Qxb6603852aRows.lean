/-
  No cell of these rows narrows 'for every input' (looked for: loops, veiled, ifaces, maps, wideKeys, modest, calm, conditions, laid).
  DERIVED. THE GIVEN ROWS OF THIS SEAT. 3 by the template 'for every input the law returns true; each argument reads behind the call as it read before'; 0 by the template 'total and deterministic' (their statements: Qxb6603852aTotals.lean).
  GIVEN WITH THE SEED: the statements are not yours to turn. If you find one false, say at which input.
  Laid BY PROGRAM, IN A SANDBOX (cutbox-rows.mjs): the forced cells as the released guide's own fill.sh prints them over the translation 55ca340a206b8293… (all of the seat's roots in one cut). By AI agents, Wed Nov 11 2026. No macro, syntax, notation, axiom, sorry.
-/
import Derived.Test.Qxb6603852aChecked
import GoSem.Claim
import GoSem.ClaimJoined
import GoSem.ClaimMapViews
import Derived.JoinedTies
import Derived.KernelRfl
namespace Go.Proofs.Qxb6603852a
/- THE CELL 'sum', in the pinned program and in every row, IS THE sha256 OF THE DUMP (.gsa) THAT Qxb6603852aProg.lean LOADS. Nothing in Lean hashes anything: it is a label: what it is worth is what the hold of that sum in a sandbox is worth. -/
noncomputable def Try.pinned : Pinned := { name := "qxb6603852a", sum := "55ca340a206b8293114f69d4ef608be9195bea05c19b75bdb9c0e5971cf12357", checked := Try.checked }
namespace Rows
def none {H : Type} : Left H := { results := [], args := [] }

/-- 'zzlaws_internal_registry_b1.FnEntryNumberedFirstHolder': WHATEVER THE INPUT: true; the input reads as it did. -/
def fnEntryNumberedFirstHolderSpec : ChangeSpec := { name := "fnEntryNumberedFirstHolder", fn := fun _ => fun
  | [d1, d2] => { results := [.lit (.bool true)], args := [d1, d2] }
  | _ => none }
def fnEntryNumberedFirstHolderRow : OpenClaim := { program := "qxb6603852a", sum := "55ca340a206b8293114f69d4ef608be9195bea05c19b75bdb9c0e5971cf12357", func := "example.com/antechamber/antechamber/zzlaws_internal_registry_b1.FnEntryNumberedFirstHolder", spec := "fnEntryNumberedFirstHolder", apart := false }
def FnEntryNumberedFirstHolderSaid : Prop := fnEntryNumberedFirstHolderRow.holds Try.pinned (OpenSpec.ofChange fnEntryNumberedFirstHolderSpec)

/-- ITS FALSE NEIGHBOUR: 'it returns false'. Refute it at one input. -/
def fnEntryNumberedFirstHolderWrong : ChangeSpec := { name := "fnEntryNumberedFirstHolder", fn := fun _ => fun
  | [d1, d2] => { results := [.lit (.bool false)], args := [d1, d2] }
  | _ => none }
def FnEntryNumberedFirstHolderWrongFalsely : Prop := fnEntryNumberedFirstHolderRow.holds Try.pinned (OpenSpec.ofChange fnEntryNumberedFirstHolderWrong)

/-- 'zzlaws_internal_registry_b1.FnKeyIndexAddExact': WHATEVER THE INPUT: true; the input reads as it did. -/
def fnKeyIndexAddExactSpec : ChangeSpec := { name := "fnKeyIndexAddExact", fn := fun _ => fun
  | [d1, d2, d3, d4, d5] => { results := [.lit (.bool true)], args := [d1, d2, d3, d4, d5] }
  | _ => none }
def fnKeyIndexAddExactRow : OpenClaim := { program := "qxb6603852a", sum := "55ca340a206b8293114f69d4ef608be9195bea05c19b75bdb9c0e5971cf12357", func := "example.com/antechamber/antechamber/zzlaws_internal_registry_b1.FnKeyIndexAddExact", spec := "fnKeyIndexAddExact", apart := false }
def FnKeyIndexAddExactSaid : Prop := fnKeyIndexAddExactRow.holds Try.pinned (OpenSpec.ofChange fnKeyIndexAddExactSpec)

/-- ITS FALSE NEIGHBOUR: 'it returns false'. Refute it at one input. -/
def fnKeyIndexAddExactWrong : ChangeSpec := { name := "fnKeyIndexAddExact", fn := fun _ => fun
  | [d1, d2, d3, d4, d5] => { results := [.lit (.bool false)], args := [d1, d2, d3, d4, d5] }
  | _ => none }
def FnKeyIndexAddExactWrongFalsely : Prop := fnKeyIndexAddExactRow.holds Try.pinned (OpenSpec.ofChange fnKeyIndexAddExactWrong)

/-- 'zzlaws_internal_registry_b1.FnKeyIndexAddScript': WHATEVER THE INPUT: true; the input reads as it did. -/
def fnKeyIndexAddScriptSpec : ChangeSpec := { name := "fnKeyIndexAddScript", fn := fun _ => fun
  | [d] => { results := [.lit (.bool true)], args := [d] }
  | _ => none }
def fnKeyIndexAddScriptRow : OpenClaim := { program := "qxb6603852a", sum := "55ca340a206b8293114f69d4ef608be9195bea05c19b75bdb9c0e5971cf12357", func := "example.com/antechamber/antechamber/zzlaws_internal_registry_b1.FnKeyIndexAddScript", spec := "fnKeyIndexAddScript", apart := false }
def FnKeyIndexAddScriptSaid : Prop := fnKeyIndexAddScriptRow.holds Try.pinned (OpenSpec.ofChange fnKeyIndexAddScriptSpec)

/-- ITS FALSE NEIGHBOUR: 'it returns false'. Refute it at one input. -/
def fnKeyIndexAddScriptWrong : ChangeSpec := { name := "fnKeyIndexAddScript", fn := fun _ => fun
  | [d] => { results := [.lit (.bool false)], args := [d] }
  | _ => none }
def FnKeyIndexAddScriptWrongFalsely : Prop := fnKeyIndexAddScriptRow.holds Try.pinned (OpenSpec.ofChange fnKeyIndexAddScriptWrong)

end Rows
end Go.Proofs.Qxb6603852a

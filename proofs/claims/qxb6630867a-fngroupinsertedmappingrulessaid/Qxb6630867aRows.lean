/-
  No cell of these rows narrows 'for every input' (looked for: loops, veiled, ifaces, maps, wideKeys, modest, calm, conditions, laid).
  DERIVED. THE GIVEN ROWS OF THIS SEAT. 2 by the template 'for every input the law returns true; each argument reads behind the call as it read before'; 0 by the template 'total and deterministic' (their statements: Qxb6630867aTotals.lean).
  GIVEN WITH THE SEED: the statements are not yours to turn. If you find one false, say at which input.
  Laid BY PROGRAM, IN A SANDBOX (cutbox-rows.mjs): the forced cells as the released guide's own fill.sh prints them over the translation 1b0b59cd2ed4a9bb… (all of the seat's roots in one cut). By AI agents, Wed Nov 11 2026. No macro, syntax, notation, axiom, sorry.
-/
import Derived.Test.Qxb6630867aChecked
import GoSem.Claim
import GoSem.ClaimJoined
import GoSem.ClaimMapViews
import Derived.JoinedTies
import Derived.KernelRfl
namespace Go.Proofs.Qxb6630867a
/- THE CELL 'sum', in the pinned program and in every row, IS THE sha256 OF THE DUMP (.gsa) THAT Qxb6630867aProg.lean LOADS. Nothing in Lean hashes anything: it is a label: what it is worth is what the hold of that sum in a sandbox is worth. -/
noncomputable def Try.pinned : Pinned := { name := "qxb6630867a", sum := "1b0b59cd2ed4a9bb1c3adc406bafddbf2cd205e3a5263180d32e63dd38d59a30", checked := Try.checked }
namespace Rows
def none {H : Type} : Left H := { results := [], args := [] }

/-- 'zzlaws_internal_apigroup_b1.FnGroupRenamesAndIsUndone': WHATEVER THE INPUT: true; the input reads as it did. -/
def fnGroupRenamesAndIsUndoneSpec : ChangeSpec := { name := "fnGroupRenamesAndIsUndone", fn := fun _ => fun
  | [d1, d2, d3] => { results := [.lit (.bool true)], args := [d1, d2, d3] }
  | _ => none }
def fnGroupRenamesAndIsUndoneRow : OpenClaim := { program := "qxb6630867a", sum := "1b0b59cd2ed4a9bb1c3adc406bafddbf2cd205e3a5263180d32e63dd38d59a30", func := "example.com/cohort/cohort/zzlaws_internal_apigroup_b1.FnGroupRenamesAndIsUndone", spec := "fnGroupRenamesAndIsUndone", apart := false }
def FnGroupRenamesAndIsUndoneSaid : Prop := fnGroupRenamesAndIsUndoneRow.holds Try.pinned (OpenSpec.ofChange fnGroupRenamesAndIsUndoneSpec)

/-- ITS FALSE NEIGHBOUR: 'it returns false'. Refute it at one input. -/
def fnGroupRenamesAndIsUndoneWrong : ChangeSpec := { name := "fnGroupRenamesAndIsUndone", fn := fun _ => fun
  | [d1, d2, d3] => { results := [.lit (.bool false)], args := [d1, d2, d3] }
  | _ => none }
def FnGroupRenamesAndIsUndoneWrongFalsely : Prop := fnGroupRenamesAndIsUndoneRow.holds Try.pinned (OpenSpec.ofChange fnGroupRenamesAndIsUndoneWrong)

/-- 'zzlaws_internal_apigroup_b1.FnGroupInsertedMappingRules': WHATEVER THE INPUT: true; the input reads as it did. -/
def fnGroupInsertedMappingRulesSpec : ChangeSpec := { name := "fnGroupInsertedMappingRules", fn := fun _ => fun
  | [d1, d2, d3, d4, d5, d6, d7] => { results := [.lit (.bool true)], args := [d1, d2, d3, d4, d5, d6, d7] }
  | _ => none }
def fnGroupInsertedMappingRulesRow : OpenClaim := { program := "qxb6630867a", sum := "1b0b59cd2ed4a9bb1c3adc406bafddbf2cd205e3a5263180d32e63dd38d59a30", func := "example.com/cohort/cohort/zzlaws_internal_apigroup_b1.FnGroupInsertedMappingRules", spec := "fnGroupInsertedMappingRules", apart := false }
def FnGroupInsertedMappingRulesSaid : Prop := fnGroupInsertedMappingRulesRow.holds Try.pinned (OpenSpec.ofChange fnGroupInsertedMappingRulesSpec)

/-- ITS FALSE NEIGHBOUR: 'it returns false'. Refute it at one input. -/
def fnGroupInsertedMappingRulesWrong : ChangeSpec := { name := "fnGroupInsertedMappingRules", fn := fun _ => fun
  | [d1, d2, d3, d4, d5, d6, d7] => { results := [.lit (.bool false)], args := [d1, d2, d3, d4, d5, d6, d7] }
  | _ => none }
def FnGroupInsertedMappingRulesWrongFalsely : Prop := fnGroupInsertedMappingRulesRow.holds Try.pinned (OpenSpec.ofChange fnGroupInsertedMappingRulesWrong)

end Rows
end Go.Proofs.Qxb6630867a

/-
  No cell of these rows narrows 'for every input' (looked for: loops, veiled, ifaces, maps, wideKeys, modest, calm, conditions, laid).
  DERIVED. THE GIVEN ROWS OF THIS SEAT. 2 by the template 'for every input the law returns true; each argument reads behind the call as it read before'; 0 by the template 'total and deterministic' (their statements: Qxb6630801aTotals.lean).
  GIVEN WITH THE SEED: the statements are not yours to turn. If you find one false, say at which input.
  Laid BY PROGRAM, IN A SANDBOX (cutbox-rows.mjs): the forced cells as the released guide's own fill.sh prints them over the translation 31da6baf1be68e59… (all of the seat's roots in one cut). By AI agents, Wed Nov 11 2026. No macro, syntax, notation, axiom, sorry.
-/
import Derived.Test.Qxb6630801aChecked
import GoSem.Claim
import GoSem.ClaimJoined
import GoSem.ClaimMapViews
import Derived.JoinedTies
import Derived.KernelRfl
namespace Go.Proofs.Qxb6630801a
/- THE CELL 'sum', in the pinned program and in every row, IS THE sha256 OF THE DUMP (.gsa) THAT Qxb6630801aProg.lean LOADS. Nothing in Lean hashes anything: it is a label: what it is worth is what the hold of that sum in a sandbox is worth. -/
noncomputable def Try.pinned : Pinned := { name := "qxb6630801a", sum := "31da6baf1be68e591d232fac091629a64249f8f79477edcb9f237c2edf63d89b", checked := Try.checked }
namespace Rows
def none {H : Type} : Left H := { results := [], args := [] }

/-- 'zzlaws_store_b1.FnShelfRemoveScriptLeavesExactlyTheRest': WHATEVER THE INPUT: true; the input reads as it did. -/
def fnShelfRemoveScriptLeavesExactlyTheRestSpec : ChangeSpec := { name := "fnShelfRemoveScriptLeavesExactlyTheRest", fn := fun _ => fun
  | [d1, d2, d3, d4] => { results := [.lit (.bool true)], args := [d1, d2, d3, d4] }
  | _ => none }
def fnShelfRemoveScriptLeavesExactlyTheRestRow : OpenClaim := { program := "qxb6630801a", sum := "31da6baf1be68e591d232fac091629a64249f8f79477edcb9f237c2edf63d89b", func := "example.com/swarmreel/swarmreel/zzlaws_store_b1.FnShelfRemoveScriptLeavesExactlyTheRest", spec := "fnShelfRemoveScriptLeavesExactlyTheRest", apart := false }
def FnShelfRemoveScriptLeavesExactlyTheRestSaid : Prop := fnShelfRemoveScriptLeavesExactlyTheRestRow.holds Try.pinned (OpenSpec.ofChange fnShelfRemoveScriptLeavesExactlyTheRestSpec)

/-- ITS FALSE NEIGHBOUR: 'it returns false'. Refute it at one input. -/
def fnShelfRemoveScriptLeavesExactlyTheRestWrong : ChangeSpec := { name := "fnShelfRemoveScriptLeavesExactlyTheRest", fn := fun _ => fun
  | [d1, d2, d3, d4] => { results := [.lit (.bool false)], args := [d1, d2, d3, d4] }
  | _ => none }
def FnShelfRemoveScriptLeavesExactlyTheRestWrongFalsely : Prop := fnShelfRemoveScriptLeavesExactlyTheRestRow.holds Try.pinned (OpenSpec.ofChange fnShelfRemoveScriptLeavesExactlyTheRestWrong)

/-- 'zzlaws_store_b1.FnShelfRemoveTwoOrderFree': WHATEVER THE INPUT: true; the input reads as it did. -/
def fnShelfRemoveTwoOrderFreeSpec : ChangeSpec := { name := "fnShelfRemoveTwoOrderFree", fn := fun _ => fun
  | [d1, d2, d3, d4, d5] => { results := [.lit (.bool true)], args := [d1, d2, d3, d4, d5] }
  | _ => none }
def fnShelfRemoveTwoOrderFreeRow : OpenClaim := { program := "qxb6630801a", sum := "31da6baf1be68e591d232fac091629a64249f8f79477edcb9f237c2edf63d89b", func := "example.com/swarmreel/swarmreel/zzlaws_store_b1.FnShelfRemoveTwoOrderFree", spec := "fnShelfRemoveTwoOrderFree", apart := false }
def FnShelfRemoveTwoOrderFreeSaid : Prop := fnShelfRemoveTwoOrderFreeRow.holds Try.pinned (OpenSpec.ofChange fnShelfRemoveTwoOrderFreeSpec)

/-- ITS FALSE NEIGHBOUR: 'it returns false'. Refute it at one input. -/
def fnShelfRemoveTwoOrderFreeWrong : ChangeSpec := { name := "fnShelfRemoveTwoOrderFree", fn := fun _ => fun
  | [d1, d2, d3, d4, d5] => { results := [.lit (.bool false)], args := [d1, d2, d3, d4, d5] }
  | _ => none }
def FnShelfRemoveTwoOrderFreeWrongFalsely : Prop := fnShelfRemoveTwoOrderFreeRow.holds Try.pinned (OpenSpec.ofChange fnShelfRemoveTwoOrderFreeWrong)

end Rows
end Go.Proofs.Qxb6630801a

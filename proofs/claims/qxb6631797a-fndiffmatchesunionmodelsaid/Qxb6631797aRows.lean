/-
  No cell of these rows narrows 'for every input' (looked for: loops, veiled, ifaces, maps, wideKeys, modest, calm, conditions, laid).
  DERIVED. THE GIVEN ROWS OF THIS SEAT. 2 by the template 'for every input the law returns true; each argument reads behind the call as it read before'; 0 by the template 'total and deterministic' (their statements: Qxb6631797aTotals.lean).
  GIVEN WITH THE SEED: the statements are not yours to turn. If you find one false, say at which input.
  Laid BY PROGRAM, IN A SANDBOX (cutbox-rows.mjs): the forced cells as the released guide's own fill.sh prints them over the translation 2a3c61f3f1f1cded… (all of the seat's roots in one cut). By AI agents, Wed Nov 11 2026. No macro, syntax, notation, axiom, sorry.
-/
import Derived.Test.Qxb6631797aChecked
import GoSem.Claim
import GoSem.ClaimJoined
import GoSem.ClaimMapViews
import Derived.JoinedTies
import Derived.KernelRfl
namespace Go.Proofs.Qxb6631797a
/- THE CELL 'sum', in the pinned program and in every row, IS THE sha256 OF THE DUMP (.gsa) THAT Qxb6631797aProg.lean LOADS. Nothing in Lean hashes anything: it is a label: what it is worth is what the hold of that sum in a sandbox is worth. -/
noncomputable def Try.pinned : Pinned := { name := "qxb6631797a", sum := "2a3c61f3f1f1cdedb946199dd86e925cc0aac47ac7101ef6cc9f6e061b8f97be", checked := Try.checked }
namespace Rows
def none {H : Type} : Left H := { results := [], args := [] }

/-- 'zzlaws_pkg_schema_b1.FnDiffMatchesUnionModel': WHATEVER THE INPUT: true; the input reads as it did. -/
def fnDiffMatchesUnionModelSpec : ChangeSpec := { name := "fnDiffMatchesUnionModel", fn := fun _ => fun
  | [d1, d2] => { results := [.lit (.bool true)], args := [d1, d2] }
  | _ => none }
def fnDiffMatchesUnionModelRow : OpenClaim := { program := "qxb6631797a", sum := "2a3c61f3f1f1cdedb946199dd86e925cc0aac47ac7101ef6cc9f6e061b8f97be", func := "example.com/lockstep/lockstep/zzlaws_pkg_schema_b1.FnDiffMatchesUnionModel", spec := "fnDiffMatchesUnionModel", recurses := true, apart := false }
def FnDiffMatchesUnionModelSaid : Prop := fnDiffMatchesUnionModelRow.holds Try.pinned (OpenSpec.ofChange fnDiffMatchesUnionModelSpec)

/-- ITS FALSE NEIGHBOUR: 'it returns false'. Refute it at one input. -/
def fnDiffMatchesUnionModelWrong : ChangeSpec := { name := "fnDiffMatchesUnionModel", fn := fun _ => fun
  | [d1, d2] => { results := [.lit (.bool false)], args := [d1, d2] }
  | _ => none }
def FnDiffMatchesUnionModelWrongFalsely : Prop := fnDiffMatchesUnionModelRow.holds Try.pinned (OpenSpec.ofChange fnDiffMatchesUnionModelWrong)

/-- 'zzlaws_pkg_schema_b1.FnDiffOneChange': WHATEVER THE INPUT: true; the input reads as it did. -/
def fnDiffOneChangeSpec : ChangeSpec := { name := "fnDiffOneChange", fn := fun _ => fun
  | [d1, d2, d3] => { results := [.lit (.bool true)], args := [d1, d2, d3] }
  | _ => none }
def fnDiffOneChangeRow : OpenClaim := { program := "qxb6631797a", sum := "2a3c61f3f1f1cdedb946199dd86e925cc0aac47ac7101ef6cc9f6e061b8f97be", func := "example.com/lockstep/lockstep/zzlaws_pkg_schema_b1.FnDiffOneChange", spec := "fnDiffOneChange", recurses := true, apart := false }
def FnDiffOneChangeSaid : Prop := fnDiffOneChangeRow.holds Try.pinned (OpenSpec.ofChange fnDiffOneChangeSpec)

/-- ITS FALSE NEIGHBOUR: 'it returns false'. Refute it at one input. -/
def fnDiffOneChangeWrong : ChangeSpec := { name := "fnDiffOneChange", fn := fun _ => fun
  | [d1, d2, d3] => { results := [.lit (.bool false)], args := [d1, d2, d3] }
  | _ => none }
def FnDiffOneChangeWrongFalsely : Prop := fnDiffOneChangeRow.holds Try.pinned (OpenSpec.ofChange fnDiffOneChangeWrong)

end Rows
end Go.Proofs.Qxb6631797a

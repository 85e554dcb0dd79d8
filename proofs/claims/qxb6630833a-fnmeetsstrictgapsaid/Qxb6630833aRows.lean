/-
  No cell of these rows narrows 'for every input' (looked for: loops, veiled, ifaces, maps, wideKeys, modest, calm, conditions, laid).
  DERIVED. THE GIVEN ROWS OF THIS SEAT. 2 by the template 'for every input the law returns true; each argument reads behind the call as it read before'; 0 by the template 'total and deterministic' (their statements: Qxb6630833aTotals.lean).
  GIVEN WITH THE SEED: the statements are not yours to turn. If you find one false, say at which input.
  Laid BY PROGRAM, IN A SANDBOX (cutbox-rows.mjs): the forced cells as the released guide's own fill.sh prints them over the translation 121e87852c493777… (all of the seat's roots in one cut). By AI agents, Wed Nov 11 2026. No macro, syntax, notation, axiom, sorry.
-/
import Derived.Test.Qxb6630833aChecked
import GoSem.Claim
import GoSem.ClaimJoined
import GoSem.ClaimMapViews
import Derived.JoinedTies
import Derived.KernelRfl
namespace Go.Proofs.Qxb6630833a
/- THE CELL 'sum', in the pinned program and in every row, IS THE sha256 OF THE DUMP (.gsa) THAT Qxb6630833aProg.lean LOADS. Nothing in Lean hashes anything: it is a label: what it is worth is what the hold of that sum in a sandbox is worth. -/
noncomputable def Try.pinned : Pinned := { name := "qxb6630833a", sum := "121e87852c4937779fa9829c662db154d64245d3820ab529819eec566309d9ae", checked := Try.checked }
namespace Rows
def none {H : Type} : Left H := { results := [], args := [] }

/-- 'zzlaws_internal_speed_b1.FnMeetsSwapDual': WHATEVER THE INPUT: true; the input reads as it did. -/
def fnMeetsSwapDualSpec : ChangeSpec := { name := "fnMeetsSwapDual", fn := fun _ => fun
  | [d1, d2, d3] => { results := [.lit (.bool true)], args := [d1, d2, d3] }
  | _ => none }
def fnMeetsSwapDualRow : OpenClaim := { program := "qxb6630833a", sum := "121e87852c4937779fa9829c662db154d64245d3820ab529819eec566309d9ae", func := "example.com/bucket-grants/bucket-grants/zzlaws_internal_speed_b1.FnMeetsSwapDual", spec := "fnMeetsSwapDual", apart := false }
def FnMeetsSwapDualSaid : Prop := fnMeetsSwapDualRow.holds Try.pinned (OpenSpec.ofChange fnMeetsSwapDualSpec)

/-- ITS FALSE NEIGHBOUR: 'it returns false'. Refute it at one input. -/
def fnMeetsSwapDualWrong : ChangeSpec := { name := "fnMeetsSwapDual", fn := fun _ => fun
  | [d1, d2, d3] => { results := [.lit (.bool false)], args := [d1, d2, d3] }
  | _ => none }
def FnMeetsSwapDualWrongFalsely : Prop := fnMeetsSwapDualRow.holds Try.pinned (OpenSpec.ofChange fnMeetsSwapDualWrong)

/-- 'zzlaws_internal_speed_b1.FnMeetsStrictGap': WHATEVER THE INPUT: true; the input reads as it did. -/
def fnMeetsStrictGapSpec : ChangeSpec := { name := "fnMeetsStrictGap", fn := fun _ => fun
  | [d1, d2] => { results := [.lit (.bool true)], args := [d1, d2] }
  | _ => none }
def fnMeetsStrictGapRow : OpenClaim := { program := "qxb6630833a", sum := "121e87852c4937779fa9829c662db154d64245d3820ab529819eec566309d9ae", func := "example.com/bucket-grants/bucket-grants/zzlaws_internal_speed_b1.FnMeetsStrictGap", spec := "fnMeetsStrictGap", apart := false }
def FnMeetsStrictGapSaid : Prop := fnMeetsStrictGapRow.holds Try.pinned (OpenSpec.ofChange fnMeetsStrictGapSpec)

/-- ITS FALSE NEIGHBOUR: 'it returns false'. Refute it at one input. -/
def fnMeetsStrictGapWrong : ChangeSpec := { name := "fnMeetsStrictGap", fn := fun _ => fun
  | [d1, d2] => { results := [.lit (.bool false)], args := [d1, d2] }
  | _ => none }
def FnMeetsStrictGapWrongFalsely : Prop := fnMeetsStrictGapRow.holds Try.pinned (OpenSpec.ofChange fnMeetsStrictGapWrong)

end Rows
end Go.Proofs.Qxb6630833a

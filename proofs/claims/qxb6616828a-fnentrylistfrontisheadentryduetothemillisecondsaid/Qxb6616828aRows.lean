/-
  No cell of these rows narrows 'for every input' (looked for: loops, veiled, ifaces, maps, wideKeys, modest, calm, conditions, laid).
  DERIVED. THE GIVEN ROWS OF THIS SEAT. 2 by the template 'for every input the law returns true; each argument reads behind the call as it read before'; 0 by the template 'total and deterministic' (their statements: Qxb6616828aTotals.lean).
  GIVEN WITH THE SEED: the statements are not yours to turn. If you find one false, say at which input.
  Laid BY PROGRAM, IN A SANDBOX (cutbox-rows.mjs): the forced cells as the released guide's own fill.sh prints them over the translation ff032ec1f39106ff… (all of the seat's roots in one cut). By AI agents, Wed Nov 11 2026. No macro, syntax, notation, axiom, sorry.
-/
import Derived.Test.Qxb6616828aChecked
import GoSem.Claim
import GoSem.ClaimJoined
import GoSem.ClaimMapViews
import Derived.JoinedTies
import Derived.KernelRfl
namespace Go.Proofs.Qxb6616828a
/- THE CELL 'sum', in the pinned program and in every row, IS THE sha256 OF THE DUMP (.gsa) THAT Qxb6616828aProg.lean LOADS. Nothing in Lean hashes anything: it is a label: what it is worth is what the hold of that sum in a sandbox is worth. -/
noncomputable def Try.pinned : Pinned := { name := "qxb6616828a", sum := "ff032ec1f39106ff1f46295ce08df5f6a67a86c70c00a12a033967c6123cca0a", checked := Try.checked }
namespace Rows
def none {H : Type} : Left H := { results := [], args := [] }

/-- 'zzlaws_internal_broker_b1.FnEntryListFrontIsHeadEntryDueToTheMillisecond': WHATEVER THE INPUT: true; the input reads as it did. -/
def fnEntryListFrontIsHeadEntryDueToTheMillisecondSpec : ChangeSpec := { name := "fnEntryListFrontIsHeadEntryDueToTheMillisecond", fn := fun _ => fun
  | [d1, d2, d3, d4, d5, d6, d7] => { results := [.lit (.bool true)], args := [d1, d2, d3, d4, d5, d6, d7] }
  | _ => none }
def fnEntryListFrontIsHeadEntryDueToTheMillisecondRow : OpenClaim := { program := "qxb6616828a", sum := "ff032ec1f39106ff1f46295ce08df5f6a67a86c70c00a12a033967c6123cca0a", func := "example.com/requeue/requeue/zzlaws_internal_broker_b1.FnEntryListFrontIsHeadEntryDueToTheMillisecond", spec := "fnEntryListFrontIsHeadEntryDueToTheMillisecond", apart := false }
def FnEntryListFrontIsHeadEntryDueToTheMillisecondSaid : Prop := fnEntryListFrontIsHeadEntryDueToTheMillisecondRow.holds Try.pinned (OpenSpec.ofChange fnEntryListFrontIsHeadEntryDueToTheMillisecondSpec)

/-- ITS FALSE NEIGHBOUR: 'it returns false'. Refute it at one input. -/
def fnEntryListFrontIsHeadEntryDueToTheMillisecondWrong : ChangeSpec := { name := "fnEntryListFrontIsHeadEntryDueToTheMillisecond", fn := fun _ => fun
  | [d1, d2, d3, d4, d5, d6, d7] => { results := [.lit (.bool false)], args := [d1, d2, d3, d4, d5, d6, d7] }
  | _ => none }
def FnEntryListFrontIsHeadEntryDueToTheMillisecondWrongFalsely : Prop := fnEntryListFrontIsHeadEntryDueToTheMillisecondRow.holds Try.pinned (OpenSpec.ofChange fnEntryListFrontIsHeadEntryDueToTheMillisecondWrong)

/-- 'zzlaws_internal_broker_b1.FnEntryListFrontKeepsTheOrderOfDueTimes': WHATEVER THE INPUT: true; the input reads as it did. -/
def fnEntryListFrontKeepsTheOrderOfDueTimesSpec : ChangeSpec := { name := "fnEntryListFrontKeepsTheOrderOfDueTimes", fn := fun _ => fun
  | [d1, d2, d3, d4, d5, d6, d7] => { results := [.lit (.bool true)], args := [d1, d2, d3, d4, d5, d6, d7] }
  | _ => none }
def fnEntryListFrontKeepsTheOrderOfDueTimesRow : OpenClaim := { program := "qxb6616828a", sum := "ff032ec1f39106ff1f46295ce08df5f6a67a86c70c00a12a033967c6123cca0a", func := "example.com/requeue/requeue/zzlaws_internal_broker_b1.FnEntryListFrontKeepsTheOrderOfDueTimes", spec := "fnEntryListFrontKeepsTheOrderOfDueTimes", apart := false }
def FnEntryListFrontKeepsTheOrderOfDueTimesSaid : Prop := fnEntryListFrontKeepsTheOrderOfDueTimesRow.holds Try.pinned (OpenSpec.ofChange fnEntryListFrontKeepsTheOrderOfDueTimesSpec)

/-- ITS FALSE NEIGHBOUR: 'it returns false'. Refute it at one input. -/
def fnEntryListFrontKeepsTheOrderOfDueTimesWrong : ChangeSpec := { name := "fnEntryListFrontKeepsTheOrderOfDueTimes", fn := fun _ => fun
  | [d1, d2, d3, d4, d5, d6, d7] => { results := [.lit (.bool false)], args := [d1, d2, d3, d4, d5, d6, d7] }
  | _ => none }
def FnEntryListFrontKeepsTheOrderOfDueTimesWrongFalsely : Prop := fnEntryListFrontKeepsTheOrderOfDueTimesRow.holds Try.pinned (OpenSpec.ofChange fnEntryListFrontKeepsTheOrderOfDueTimesWrong)

end Rows
end Go.Proofs.Qxb6616828a

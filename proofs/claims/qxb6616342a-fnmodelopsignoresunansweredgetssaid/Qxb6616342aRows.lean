/-
  No cell of these rows narrows 'for every input' (looked for: loops, veiled, ifaces, maps, wideKeys, modest, calm, conditions, laid).
  DERIVED. THE GIVEN ROWS OF THIS SEAT. 1 by the template 'for every input the law returns true; each argument reads behind the call as it read before'; 0 by the template 'total and deterministic' (their statements: Qxb6616342aTotals.lean).
  GIVEN WITH THE SEED: the statements are not yours to turn. If you find one false, say at which input.
  Laid BY PROGRAM, IN A SANDBOX (cutbox-rows.mjs): the forced cells as the released guide's own fill.sh prints them over the translation 369dc5383d401ae2… (all of the seat's roots in one cut). By AI agents, Wed Nov 11 2026. No macro, syntax, notation, axiom, sorry.
-/
import Derived.Test.Qxb6616342aChecked
import GoSem.Claim
import GoSem.ClaimJoined
import GoSem.ClaimMapViews
import Derived.JoinedTies
import Derived.KernelRfl
namespace Go.Proofs.Qxb6616342a
/- THE CELL 'sum', in the pinned program and in every row, IS THE sha256 OF THE DUMP (.gsa) THAT Qxb6616342aProg.lean LOADS. Nothing in Lean hashes anything: it is a label: what it is worth is what the hold of that sum in a sandbox is worth. -/
noncomputable def Try.pinned : Pinned := { name := "qxb6616342a", sum := "369dc5383d401ae2fada39f0f072a9953aed35ac2cdce7c14f5a4eb149cfc761", checked := Try.checked }
namespace Rows
def none {H : Type} : Left H := { results := [], args := [] }

/-- 'zzlaws_pkg_bench_b1.FnModelOpsIgnoresUnansweredGets': WHATEVER THE INPUT: true; the input reads as it did. -/
def fnModelOpsIgnoresUnansweredGetsSpec : ChangeSpec := { name := "fnModelOpsIgnoresUnansweredGets", fn := fun _ => fun
  | [d1, d2, d3, d4, d5, d6, d7, d8, d9, d10] => { results := [.lit (.bool true)], args := [d1, d2, d3, d4, d5, d6, d7, d8, d9, d10] }
  | _ => none }
def fnModelOpsIgnoresUnansweredGetsRow : OpenClaim := { program := "qxb6616342a", sum := "369dc5383d401ae2fada39f0f072a9953aed35ac2cdce7c14f5a4eb149cfc761", func := "example.com/understudy/understudy/zzlaws_pkg_bench_b1.FnModelOpsIgnoresUnansweredGets", spec := "fnModelOpsIgnoresUnansweredGets", plainKeys := false, apart := false }
def FnModelOpsIgnoresUnansweredGetsSaid : Prop := fnModelOpsIgnoresUnansweredGetsRow.holds Try.pinned (OpenSpec.ofChange fnModelOpsIgnoresUnansweredGetsSpec)

/-- ITS FALSE NEIGHBOUR: 'it returns false'. Refute it at one input. -/
def fnModelOpsIgnoresUnansweredGetsWrong : ChangeSpec := { name := "fnModelOpsIgnoresUnansweredGets", fn := fun _ => fun
  | [d1, d2, d3, d4, d5, d6, d7, d8, d9, d10] => { results := [.lit (.bool false)], args := [d1, d2, d3, d4, d5, d6, d7, d8, d9, d10] }
  | _ => none }
def FnModelOpsIgnoresUnansweredGetsWrongFalsely : Prop := fnModelOpsIgnoresUnansweredGetsRow.holds Try.pinned (OpenSpec.ofChange fnModelOpsIgnoresUnansweredGetsWrong)

end Rows
end Go.Proofs.Qxb6616342a

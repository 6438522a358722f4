/-
  No cell of these rows narrows 'for every input' (looked for: loops, veiled, ifaces, maps, wideKeys, modest, calm, conditions, laid).
  DERIVED. THE GIVEN ROWS OF THIS SEAT. 1 by the template 'for every input the law returns true; each argument reads behind the call as it read before'; 0 by the template 'total and deterministic' (their statements: Qxb6616971aTotals.lean).
  GIVEN WITH THE SEED: the statements are not yours to turn. If you find one false, say at which input.
  Laid BY PROGRAM, IN A SANDBOX (cutbox-rows.mjs): the forced cells as the released guide's own fill.sh prints them over the translation 30aac90b0c7abfa8… (all of the seat's roots in one cut). By AI agents, Wed Nov 11 2026. No macro, syntax, notation, axiom, sorry.
-/
import Derived.Test.Qxb6616971aChecked
import GoSem.Claim
import GoSem.ClaimJoined
import GoSem.ClaimMapViews
import Derived.JoinedTies
import Derived.KernelRfl
namespace Go.Proofs.Qxb6616971a
/- THE CELL 'sum', in the pinned program and in every row, IS THE sha256 OF THE DUMP (.gsa) THAT Qxb6616971aProg.lean LOADS. Nothing in Lean hashes anything: it is a label: what it is worth is what the hold of that sum in a sandbox is worth. -/
noncomputable def Try.pinned : Pinned := { name := "qxb6616971a", sum := "30aac90b0c7abfa81dad9ca107eb080753a578e6eb480b9fdc179c4055abe2d8", checked := Try.checked }
namespace Rows
def none {H : Type} : Left H := { results := [], args := [] }

/-- 'zzlaws_root_b1.FnMeepoAfterWritesInnermostGroup': WHATEVER THE INPUT: true; the input reads as it did. -/
def fnMeepoAfterWritesInnermostGroupSpec : ChangeSpec := { name := "fnMeepoAfterWritesInnermostGroup", fn := fun _ => fun
  | [d1, d2, d3, d4, d5] => { results := [.lit (.bool true)], args := [d1, d2, d3, d4, d5] }
  | _ => none }
def fnMeepoAfterWritesInnermostGroupRow : OpenClaim := { program := "qxb6616971a", sum := "30aac90b0c7abfa81dad9ca107eb080753a578e6eb480b9fdc179c4055abe2d8", func := "example.com/text-to-tree/text-to-tree/zzlaws_root_b1.FnMeepoAfterWritesInnermostGroup", spec := "fnMeepoAfterWritesInnermostGroup", inPlace := ["internal/abi.NoEscape"], apart := false }
def FnMeepoAfterWritesInnermostGroupSaid : Prop := fnMeepoAfterWritesInnermostGroupRow.holds Try.pinned (OpenSpec.ofChange fnMeepoAfterWritesInnermostGroupSpec)

/-- ITS FALSE NEIGHBOUR: 'it returns false'. Refute it at one input. -/
def fnMeepoAfterWritesInnermostGroupWrong : ChangeSpec := { name := "fnMeepoAfterWritesInnermostGroup", fn := fun _ => fun
  | [d1, d2, d3, d4, d5] => { results := [.lit (.bool false)], args := [d1, d2, d3, d4, d5] }
  | _ => none }
def FnMeepoAfterWritesInnermostGroupWrongFalsely : Prop := fnMeepoAfterWritesInnermostGroupRow.holds Try.pinned (OpenSpec.ofChange fnMeepoAfterWritesInnermostGroupWrong)

end Rows
end Go.Proofs.Qxb6616971a

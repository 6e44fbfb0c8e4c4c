/-
  No cell of these rows narrows 'for every input' (looked for: loops, veiled, ifaces, maps, wideKeys, modest, calm, conditions, laid).
  DERIVED. THE GIVEN ROWS OF THIS SEAT. 2 by the template 'for every input the law returns true; each argument reads behind the call as it read before'; 0 by the template 'total and deterministic' (their statements: Qxb6630530aTotals.lean).
  GIVEN WITH THE SEED: the statements are not yours to turn. If you find one false, say at which input.
  Laid BY PROGRAM, IN A SANDBOX (cutbox-rows.mjs): the forced cells as the released guide's own fill.sh prints them over the translation 7637af206d58bfec… (all of the seat's roots in one cut). By AI agents, Wed Nov 11 2026. No macro, syntax, notation, axiom, sorry.
-/
import Derived.Test.Qxb6630530aChecked
import GoSem.Claim
import GoSem.ClaimJoined
import GoSem.ClaimMapViews
import Derived.JoinedTies
import Derived.KernelRfl
namespace Go.Proofs.Qxb6630530a
/- THE CELL 'sum', in the pinned program and in every row, IS THE sha256 OF THE DUMP (.gsa) THAT Qxb6630530aProg.lean LOADS. Nothing in Lean hashes anything: it is a label: what it is worth is what the hold of that sum in a sandbox is worth. -/
noncomputable def Try.pinned : Pinned := { name := "qxb6630530a", sum := "7637af206d58bfecb9f01a8170b59ba85fa65dd5c0233e45ede3d0c369835b00", checked := Try.checked }
namespace Rows
def none {H : Type} : Left H := { results := [], args := [] }

/-- 'zzlaws_internal_yamlenc_b1.FnWriteSingleQuotedMatchesLineModel': WHATEVER THE INPUT: true; the input reads as it did. -/
def fnWriteSingleQuotedMatchesLineModelSpec : ChangeSpec := { name := "fnWriteSingleQuotedMatchesLineModel", fn := fun _ => fun
  | [d1, d2, d3, d4, d5, d6, d7] => { results := [.lit (.bool true)], args := [d1, d2, d3, d4, d5, d6, d7] }
  | _ => none }
def fnWriteSingleQuotedMatchesLineModelRow : OpenClaim := { program := "qxb6630530a", sum := "7637af206d58bfecb9f01a8170b59ba85fa65dd5c0233e45ede3d0c369835b00", func := "example.com/moorage/moorage/zzlaws_internal_yamlenc_b1.FnWriteSingleQuotedMatchesLineModel", spec := "fnWriteSingleQuotedMatchesLineModel", apart := false }
def FnWriteSingleQuotedMatchesLineModelSaid : Prop := fnWriteSingleQuotedMatchesLineModelRow.holds Try.pinned (OpenSpec.ofChange fnWriteSingleQuotedMatchesLineModelSpec)

/-- ITS FALSE NEIGHBOUR: 'it returns false'. Refute it at one input. -/
def fnWriteSingleQuotedMatchesLineModelWrong : ChangeSpec := { name := "fnWriteSingleQuotedMatchesLineModel", fn := fun _ => fun
  | [d1, d2, d3, d4, d5, d6, d7] => { results := [.lit (.bool false)], args := [d1, d2, d3, d4, d5, d6, d7] }
  | _ => none }
def FnWriteSingleQuotedMatchesLineModelWrongFalsely : Prop := fnWriteSingleQuotedMatchesLineModelRow.holds Try.pinned (OpenSpec.ofChange fnWriteSingleQuotedMatchesLineModelWrong)

/-- 'zzlaws_internal_yamlenc_b1.FnWriteSingleQuotedFoldingOnlyBreaksLines': WHATEVER THE INPUT: true; the input reads as it did. -/
def fnWriteSingleQuotedFoldingOnlyBreaksLinesSpec : ChangeSpec := { name := "fnWriteSingleQuotedFoldingOnlyBreaksLines", fn := fun _ => fun
  | [d1, d2, d3, d4, d5, d6] => { results := [.lit (.bool true)], args := [d1, d2, d3, d4, d5, d6] }
  | _ => none }
def fnWriteSingleQuotedFoldingOnlyBreaksLinesRow : OpenClaim := { program := "qxb6630530a", sum := "7637af206d58bfecb9f01a8170b59ba85fa65dd5c0233e45ede3d0c369835b00", func := "example.com/moorage/moorage/zzlaws_internal_yamlenc_b1.FnWriteSingleQuotedFoldingOnlyBreaksLines", spec := "fnWriteSingleQuotedFoldingOnlyBreaksLines", apart := false }
def FnWriteSingleQuotedFoldingOnlyBreaksLinesSaid : Prop := fnWriteSingleQuotedFoldingOnlyBreaksLinesRow.holds Try.pinned (OpenSpec.ofChange fnWriteSingleQuotedFoldingOnlyBreaksLinesSpec)

/-- ITS FALSE NEIGHBOUR: 'it returns false'. Refute it at one input. -/
def fnWriteSingleQuotedFoldingOnlyBreaksLinesWrong : ChangeSpec := { name := "fnWriteSingleQuotedFoldingOnlyBreaksLines", fn := fun _ => fun
  | [d1, d2, d3, d4, d5, d6] => { results := [.lit (.bool false)], args := [d1, d2, d3, d4, d5, d6] }
  | _ => none }
def FnWriteSingleQuotedFoldingOnlyBreaksLinesWrongFalsely : Prop := fnWriteSingleQuotedFoldingOnlyBreaksLinesRow.holds Try.pinned (OpenSpec.ofChange fnWriteSingleQuotedFoldingOnlyBreaksLinesWrong)

end Rows
end Go.Proofs.Qxb6630530a

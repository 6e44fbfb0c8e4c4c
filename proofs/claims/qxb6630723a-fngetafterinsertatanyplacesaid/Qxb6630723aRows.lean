/-
  No cell of these rows narrows 'for every input' (looked for: loops, veiled, ifaces, maps, wideKeys, modest, calm, conditions, laid).
  DERIVED. THE GIVEN ROWS OF THIS SEAT. 2 by the template 'for every input the law returns true; each argument reads behind the call as it read before'; 0 by the template 'total and deterministic' (their statements: Qxb6630723aTotals.lean).
  GIVEN WITH THE SEED: the statements are not yours to turn. If you find one false, say at which input.
  Laid BY PROGRAM, IN A SANDBOX (cutbox-rows.mjs): the forced cells as the released guide's own fill.sh prints them over the translation b8f1467676dd64f1… (all of the seat's roots in one cut). By AI agents, Wed Nov 11 2026. No macro, syntax, notation, axiom, sorry.
-/
import Derived.Test.Qxb6630723aChecked
import GoSem.Claim
import GoSem.ClaimJoined
import GoSem.ClaimMapViews
import Derived.JoinedTies
import Derived.KernelRfl
namespace Go.Proofs.Qxb6630723a
/- THE CELL 'sum', in the pinned program and in every row, IS THE sha256 OF THE DUMP (.gsa) THAT Qxb6630723aProg.lean LOADS. Nothing in Lean hashes anything: it is a label: what it is worth is what the hold of that sum in a sandbox is worth. -/
noncomputable def Try.pinned : Pinned := { name := "qxb6630723a", sum := "b8f1467676dd64f1ded078251866ffbfd9c5274785801003666fe36e6ca94697", checked := Try.checked }
namespace Rows
def none {H : Type} : Left H := { results := [], args := [] }

/-- 'zzlaws_internal_document_b1.FnGetSplitAtAnyCut': WHATEVER THE INPUT: true; the input reads as it did. -/
def fnGetSplitAtAnyCutSpec : ChangeSpec := { name := "fnGetSplitAtAnyCut", fn := fun _ => fun
  | [d1, d2, d3, d4] => { results := [.lit (.bool true)], args := [d1, d2, d3, d4] }
  | _ => none }
def fnGetSplitAtAnyCutRow : OpenClaim := { program := "qxb6630723a", sum := "b8f1467676dd64f1ded078251866ffbfd9c5274785801003666fe36e6ca94697", func := "example.com/canonform/canonform/zzlaws_internal_document_b1.FnGetSplitAtAnyCut", spec := "fnGetSplitAtAnyCut", apart := false }
def FnGetSplitAtAnyCutSaid : Prop := fnGetSplitAtAnyCutRow.holds Try.pinned (OpenSpec.ofChange fnGetSplitAtAnyCutSpec)

/-- ITS FALSE NEIGHBOUR: 'it returns false'. Refute it at one input. -/
def fnGetSplitAtAnyCutWrong : ChangeSpec := { name := "fnGetSplitAtAnyCut", fn := fun _ => fun
  | [d1, d2, d3, d4] => { results := [.lit (.bool false)], args := [d1, d2, d3, d4] }
  | _ => none }
def FnGetSplitAtAnyCutWrongFalsely : Prop := fnGetSplitAtAnyCutRow.holds Try.pinned (OpenSpec.ofChange fnGetSplitAtAnyCutWrong)

/-- 'zzlaws_internal_document_b1.FnGetAfterInsertAtAnyPlace': WHATEVER THE INPUT: true; the input reads as it did. -/
def fnGetAfterInsertAtAnyPlaceSpec : ChangeSpec := { name := "fnGetAfterInsertAtAnyPlace", fn := fun _ => fun
  | [d1, d2, d3, d4, d5] => { results := [.lit (.bool true)], args := [d1, d2, d3, d4, d5] }
  | _ => none }
def fnGetAfterInsertAtAnyPlaceRow : OpenClaim := { program := "qxb6630723a", sum := "b8f1467676dd64f1ded078251866ffbfd9c5274785801003666fe36e6ca94697", func := "example.com/canonform/canonform/zzlaws_internal_document_b1.FnGetAfterInsertAtAnyPlace", spec := "fnGetAfterInsertAtAnyPlace", apart := false }
def FnGetAfterInsertAtAnyPlaceSaid : Prop := fnGetAfterInsertAtAnyPlaceRow.holds Try.pinned (OpenSpec.ofChange fnGetAfterInsertAtAnyPlaceSpec)

/-- ITS FALSE NEIGHBOUR: 'it returns false'. Refute it at one input. -/
def fnGetAfterInsertAtAnyPlaceWrong : ChangeSpec := { name := "fnGetAfterInsertAtAnyPlace", fn := fun _ => fun
  | [d1, d2, d3, d4, d5] => { results := [.lit (.bool false)], args := [d1, d2, d3, d4, d5] }
  | _ => none }
def FnGetAfterInsertAtAnyPlaceWrongFalsely : Prop := fnGetAfterInsertAtAnyPlaceRow.holds Try.pinned (OpenSpec.ofChange fnGetAfterInsertAtAnyPlaceWrong)

end Rows
end Go.Proofs.Qxb6630723a

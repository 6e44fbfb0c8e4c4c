/-
  No cell of these rows narrows 'for every input' (looked for: loops, veiled, ifaces, maps, wideKeys, modest, calm, conditions, laid).
  DERIVED. THE GIVEN ROWS OF THIS SEAT. 2 by the template 'for every input the law returns true; each argument reads behind the call as it read before'; 0 by the template 'total and deterministic' (their statements: Qxb6629319aTotals.lean).
  GIVEN WITH THE SEED: the statements are not yours to turn. If you find one false, say at which input.
  Laid BY PROGRAM, IN A SANDBOX (cutbox-rows.mjs): the forced cells as the released guide's own fill.sh prints them over the translation 58de79c355ec373f… (all of the seat's roots in one cut). By AI agents, Wed Nov 11 2026. No macro, syntax, notation, axiom, sorry.
-/
import Derived.Test.Qxb6629319aChecked
import GoSem.Claim
import GoSem.ClaimJoined
import GoSem.ClaimMapViews
import Derived.JoinedTies
import Derived.KernelRfl
namespace Go.Proofs.Qxb6629319a
/- THE CELL 'sum', in the pinned program and in every row, IS THE sha256 OF THE DUMP (.gsa) THAT Qxb6629319aProg.lean LOADS. Nothing in Lean hashes anything: it is a label: what it is worth is what the hold of that sum in a sandbox is worth. -/
noncomputable def Try.pinned : Pinned := { name := "qxb6629319a", sum := "58de79c355ec373f635aeceba6735a69b601919eb709814b775605689d9b804a", checked := Try.checked }
namespace Rows
def none {H : Type} : Left H := { results := [], args := [] }

/-- 'zzlaws_pkg_irc_b1.FnEqualFoldCutJoinAndBitFlip': WHATEVER THE INPUT: true; the input reads as it did. -/
def fnEqualFoldCutJoinAndBitFlipSpec : ChangeSpec := { name := "fnEqualFoldCutJoinAndBitFlip", fn := fun _ => fun
  | [d1, d2, d3] => { results := [.lit (.bool true)], args := [d1, d2, d3] }
  | _ => none }
def fnEqualFoldCutJoinAndBitFlipRow : OpenClaim := { program := "qxb6629319a", sum := "58de79c355ec373f635aeceba6735a69b601919eb709814b775605689d9b804a", func := "example.com/relayhouse/relayhouse/zzlaws_pkg_irc_b1.FnEqualFoldCutJoinAndBitFlip", spec := "fnEqualFoldCutJoinAndBitFlip", apart := false }
def FnEqualFoldCutJoinAndBitFlipSaid : Prop := fnEqualFoldCutJoinAndBitFlipRow.holds Try.pinned (OpenSpec.ofChange fnEqualFoldCutJoinAndBitFlipSpec)

/-- ITS FALSE NEIGHBOUR: 'it returns false'. Refute it at one input. -/
def fnEqualFoldCutJoinAndBitFlipWrong : ChangeSpec := { name := "fnEqualFoldCutJoinAndBitFlip", fn := fun _ => fun
  | [d1, d2, d3] => { results := [.lit (.bool false)], args := [d1, d2, d3] }
  | _ => none }
def FnEqualFoldCutJoinAndBitFlipWrongFalsely : Prop := fnEqualFoldCutJoinAndBitFlipRow.holds Try.pinned (OpenSpec.ofChange fnEqualFoldCutJoinAndBitFlipWrong)

/-- 'zzlaws_pkg_irc_b1.FnEqualFoldUpperFormAndEquivalence': WHATEVER THE INPUT: true; the input reads as it did. -/
def fnEqualFoldUpperFormAndEquivalenceSpec : ChangeSpec := { name := "fnEqualFoldUpperFormAndEquivalence", fn := fun _ => fun
  | [d1, d2, d3] => { results := [.lit (.bool true)], args := [d1, d2, d3] }
  | _ => none }
def fnEqualFoldUpperFormAndEquivalenceRow : OpenClaim := { program := "qxb6629319a", sum := "58de79c355ec373f635aeceba6735a69b601919eb709814b775605689d9b804a", func := "example.com/relayhouse/relayhouse/zzlaws_pkg_irc_b1.FnEqualFoldUpperFormAndEquivalence", spec := "fnEqualFoldUpperFormAndEquivalence", apart := false }
def FnEqualFoldUpperFormAndEquivalenceSaid : Prop := fnEqualFoldUpperFormAndEquivalenceRow.holds Try.pinned (OpenSpec.ofChange fnEqualFoldUpperFormAndEquivalenceSpec)

/-- ITS FALSE NEIGHBOUR: 'it returns false'. Refute it at one input. -/
def fnEqualFoldUpperFormAndEquivalenceWrong : ChangeSpec := { name := "fnEqualFoldUpperFormAndEquivalence", fn := fun _ => fun
  | [d1, d2, d3] => { results := [.lit (.bool false)], args := [d1, d2, d3] }
  | _ => none }
def FnEqualFoldUpperFormAndEquivalenceWrongFalsely : Prop := fnEqualFoldUpperFormAndEquivalenceRow.holds Try.pinned (OpenSpec.ofChange fnEqualFoldUpperFormAndEquivalenceWrong)

end Rows
end Go.Proofs.Qxb6629319a

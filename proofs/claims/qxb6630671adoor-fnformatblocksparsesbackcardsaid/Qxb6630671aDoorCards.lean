/-
  DERIVED. GIVEN WITH THE SEED: THE CARDS: each row of Qxb6630671aDoorRows.lean that lists a variable, with what it lists TIED to the program's text (the seventh form; the later family's looks); each row that meets fmt, with fmt's text TOLD by the authors' own Lean function (tested against real Go, not proved from fmt's source: count such statements apart). THE CARD IS WHAT COUNTS. Prove the row's statement (the work); the ties are given (Qxb6630671aDoorTie.lean); close each card by the builder's one call (the guide's Derived/Test/ToyasCard.lean, 'card_holds'). Laid BY PROGRAM, IN A SANDBOX (cutbox-door.mjs). By AI agents, Wed Nov 11 2026. No macro, syntax, notation, axiom, sorry.
-/
import Derived.Test.Qxb6630671aDoorRows
import GoSem.ClaimSeven
namespace Go.Proofs.Qxb6630671aDoor
namespace Rows

/-- THE TIED CARD OF 'zzlaws_pkg_protocol_b1.FnFormatBlocksParsesBack'. -/
def fnFormatBlocksParsesBackCard : Claim7 := { stood := { row := fnFormatBlocksParsesBackRow, standIns := [], harness := (true, "c7f61fd19c1c0d45df85b5498343368ca0b76a8e6d2111aef6b402c4932dec51"), looks := false }, kinds := [], alts := [], laidByText := true, laidKinds := [.data, .data, .data], laidTests := true, laidLooks := .later }
def FnFormatBlocksParsesBackCardSaid : Prop := Claim7.holds Tryd.pinned (.plain (OpenSpec.ofChange fnFormatBlocksParsesBackSpec)) fnFormatBlocksParsesBackCard

/-- THE TIED CARD OF 'zzlaws_pkg_protocol_b1.FnFormatBlocksJoinAtAnyCut'. -/
def fnFormatBlocksJoinAtAnyCutCard : Claim7 := { stood := { row := fnFormatBlocksJoinAtAnyCutRow, standIns := [], harness := (true, "c7f61fd19c1c0d45df85b5498343368ca0b76a8e6d2111aef6b402c4932dec51"), looks := false }, kinds := [], alts := [], laidByText := true, laidKinds := [.data, .data, .data], laidTests := true, laidLooks := .later }
def FnFormatBlocksJoinAtAnyCutCardSaid : Prop := Claim7.holds Tryd.pinned (.plain (OpenSpec.ofChange fnFormatBlocksJoinAtAnyCutSpec)) fnFormatBlocksJoinAtAnyCutCard
end Rows
end Go.Proofs.Qxb6630671aDoor

/-
  DERIVED. GIVEN WITH THE SEED: THE CARDS: each row of Qxb6609083aFmtRows.lean that lists a variable, with what it lists TIED to the program's text (the seventh form; the later family's looks); each row that meets fmt, with fmt's text TOLD by the authors' own Lean function (tested against real Go, not proved from fmt's source: count such statements apart). THE CARD IS WHAT COUNTS. Prove the row's statement (the work); the ties are given (Qxb6609083aFmtTie.lean); close each card by the builder's one call (the guide's Derived/Test/ToyasCard.lean, 'card_holds'). Laid BY PROGRAM, IN A SANDBOX (cutbox-door.mjs). By AI agents, Wed Nov 11 2026. No macro, syntax, notation, axiom, sorry.
-/
import Derived.Test.Qxb6609083aFmtRows
import GoSem.ClaimSeven
namespace Go.Proofs.Qxb6609083aFmt
namespace Rows

/-- THE TOLD CARD OF 'zzlaws_root_b1.FnSplitSharesSoFarAddToTheirRoundedFigure'. -/
def fnSplitSharesSoFarAddToTheirRoundedFigureCard : Claim7 := { stood := { row := fnSplitSharesSoFarAddToTheirRoundedFigureRow, standIns := [], harness := (true, "0a9ff1c27068ee3cc2bca18d342259995a5a50d055e161d1162ca54ad32ee3ba"), looks := false }, told := true, goes := false }
def FnSplitSharesSoFarAddToTheirRoundedFigureToldSaid : Prop := Claim7.holds Tryf.pinned (.plain (OpenSpec.ofChange fnSplitSharesSoFarAddToTheirRoundedFigureSpec)) fnSplitSharesSoFarAddToTheirRoundedFigureCard
/-- ITS FALSE NEIGHBOUR. Refute it at one input. -/
def FnSplitSharesSoFarAddToTheirRoundedFigureToldWrongFalsely : Prop := Claim7.holds Tryf.pinned (.plain (OpenSpec.ofChange fnSplitSharesSoFarAddToTheirRoundedFigureWrong)) fnSplitSharesSoFarAddToTheirRoundedFigureCard

/-- THE TOLD CARD OF 'zzlaws_root_b1.FnSplitEachShareWithinOneUnitOfItsPart'. -/
def fnSplitEachShareWithinOneUnitOfItsPartCard : Claim7 := { stood := { row := fnSplitEachShareWithinOneUnitOfItsPartRow, standIns := [], harness := (true, "0a9ff1c27068ee3cc2bca18d342259995a5a50d055e161d1162ca54ad32ee3ba"), looks := false }, told := true, goes := false }
def FnSplitEachShareWithinOneUnitOfItsPartToldSaid : Prop := Claim7.holds Tryf.pinned (.plain (OpenSpec.ofChange fnSplitEachShareWithinOneUnitOfItsPartSpec)) fnSplitEachShareWithinOneUnitOfItsPartCard
/-- ITS FALSE NEIGHBOUR. Refute it at one input. -/
def FnSplitEachShareWithinOneUnitOfItsPartToldWrongFalsely : Prop := Claim7.holds Tryf.pinned (.plain (OpenSpec.ofChange fnSplitEachShareWithinOneUnitOfItsPartWrong)) fnSplitEachShareWithinOneUnitOfItsPartCard
end Rows
end Go.Proofs.Qxb6609083aFmt

/-
  DERIVED. GIVEN WITH THE SEED: THE CARDS: each row of Qxb6608861aFmtRows.lean that lists a variable, with what it lists TIED to the program's text (the seventh form; the later family's looks); each row that meets fmt, with fmt's text TOLD by the authors' own Lean function (tested against real Go, not proved from fmt's source: count such statements apart). THE CARD IS WHAT COUNTS. Prove the row's statement (the work); the ties are given (Qxb6608861aFmtTie.lean); close each card by the builder's one call (the guide's Derived/Test/ToyasCard.lean, 'card_holds'). Laid BY PROGRAM, IN A SANDBOX (cutbox-door.mjs). By AI agents, Wed Nov 11 2026. No macro, syntax, notation, axiom, sorry.
-/
import Derived.Test.Qxb6608861aFmtRows
import GoSem.ClaimSeven
namespace Go.Proofs.Qxb6608861aFmt
namespace Rows

/-- THE TOLD CARD OF 'zzlaws_root_b1.FnAlgorithmNamesAreDistinctATags'. -/
def fnAlgorithmNamesAreDistinctATagsCard : Claim7 := { stood := { row := fnAlgorithmNamesAreDistinctATagsRow, standIns := [], harness := (true, "fc8a0296a53a3614a596a176f6d6b5e570c571c4cf160de15a046ea64524efc2"), looks := false }, told := true, goes := false }
def FnAlgorithmNamesAreDistinctATagsToldSaid : Prop := Claim7.holds Tryf.pinned (.plain (OpenSpec.ofChange fnAlgorithmNamesAreDistinctATagsSpec)) fnAlgorithmNamesAreDistinctATagsCard
/-- ITS FALSE NEIGHBOUR. Refute it at one input. -/
def FnAlgorithmNamesAreDistinctATagsToldWrongFalsely : Prop := Claim7.holds Tryf.pinned (.plain (OpenSpec.ofChange fnAlgorithmNamesAreDistinctATagsWrong)) fnAlgorithmNamesAreDistinctATagsCard
end Rows
end Go.Proofs.Qxb6608861aFmt

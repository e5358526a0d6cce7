/-
  No cell of these rows narrows 'for every input' (looked for: loops, veiled, ifaces, maps, wideKeys, modest, calm, conditions, laid).
  DERIVED. THE GIVEN ROWS OF THIS SEAT. 2 by the template 'for every input the law returns true; each argument reads behind the call as it read before'; 0 by the template 'total and deterministic' (their statements: Qxb6609083aFmtTotals.lean).
  GIVEN WITH THE SEED: the statements are not yours to turn. If you find one false, say at which input.
  Laid BY PROGRAM, IN A SANDBOX (cutbox-rows.mjs): the forced cells as the released guide's own fill.sh prints them over the translation c8d7bdbed918f9cd… (all of the seat's roots in one cut). By AI agents, Wed Nov 11 2026. No macro, syntax, notation, axiom, sorry.
-/
import Derived.Test.Qxb6609083aFmtChecked
import GoSem.Claim
import GoSem.ClaimJoined
import GoSem.ClaimMapViews
import Derived.JoinedTies
import Derived.KernelRfl
namespace Go.Proofs.Qxb6609083aFmt
/- THE CELL 'sum', in the pinned program and in every row, IS THE sha256 OF THE DUMP (.gsa) THAT Qxb6609083aFmtProg.lean LOADS. Nothing in Lean hashes anything: it is a label: what it is worth is what the hold of that sum in a sandbox is worth. -/
noncomputable def Tryf.pinned : Pinned := { name := "qxb6609083afmt", sum := "c8d7bdbed918f9cda3fb8f493e875ce896791f6df81855ae0ebc33cb153492d6", checked := Tryf.checked }
namespace Rows
def none {H : Type} : Left H := { results := [], args := [] }

/-- 'zzlaws_root_b1.FnSplitSharesSoFarAddToTheirRoundedFigure': WHATEVER THE INPUT: true; the input reads as it did. -/
def fnSplitSharesSoFarAddToTheirRoundedFigureSpec : ChangeSpec := { name := "fnSplitSharesSoFarAddToTheirRoundedFigure", fn := fun _ => fun
  | [d1, d2, d3, d4] => { results := [.lit (.bool true)], args := [d1, d2, d3, d4] }
  | _ => none }
def fnSplitSharesSoFarAddToTheirRoundedFigureRow : OpenClaim := { program := "qxb6609083afmt", sum := "c8d7bdbed918f9cda3fb8f493e875ce896791f6df81855ae0ebc33cb153492d6", func := "example.com/zhaomu/zhaomu/zzlaws_root_b1.FnSplitSharesSoFarAddToTheirRoundedFigure", spec := "fnSplitSharesSoFarAddToTheirRoundedFigure", stops := ["fmt.Sprintf"], inPlace := ["fmt.Sprintf"], named := ["math/bits.divideError", "math/bits.overflowError"], apart := false }
/-- NO THEOREM (fmt's text is open here; it may be false): for the released tool's asking of the row's closed facts alone. THE STATEMENT IS 'FnSplitSharesSoFarAddToTheirRoundedFigureToldSaid' (Qxb6609083aFmtCards.lean). -/
def FnSplitSharesSoFarAddToTheirRoundedFigureFormAsk : Prop := fnSplitSharesSoFarAddToTheirRoundedFigureRow.holds Tryf.pinned (OpenSpec.ofChange fnSplitSharesSoFarAddToTheirRoundedFigureSpec)

/-- ITS FALSE NEIGHBOUR: 'it returns false'. Refute it at one input. -/
def fnSplitSharesSoFarAddToTheirRoundedFigureWrong : ChangeSpec := { name := "fnSplitSharesSoFarAddToTheirRoundedFigure", fn := fun _ => fun
  | [d1, d2, d3, d4] => { results := [.lit (.bool false)], args := [d1, d2, d3, d4] }
  | _ => none }
def FnSplitSharesSoFarAddToTheirRoundedFigureWrongFormAsk : Prop := fnSplitSharesSoFarAddToTheirRoundedFigureRow.holds Tryf.pinned (OpenSpec.ofChange fnSplitSharesSoFarAddToTheirRoundedFigureWrong)

/-- 'zzlaws_root_b1.FnSplitEachShareWithinOneUnitOfItsPart': WHATEVER THE INPUT: true; the input reads as it did. -/
def fnSplitEachShareWithinOneUnitOfItsPartSpec : ChangeSpec := { name := "fnSplitEachShareWithinOneUnitOfItsPart", fn := fun _ => fun
  | [d1, d2, d3, d4] => { results := [.lit (.bool true)], args := [d1, d2, d3, d4] }
  | _ => none }
def fnSplitEachShareWithinOneUnitOfItsPartRow : OpenClaim := { program := "qxb6609083afmt", sum := "c8d7bdbed918f9cda3fb8f493e875ce896791f6df81855ae0ebc33cb153492d6", func := "example.com/zhaomu/zhaomu/zzlaws_root_b1.FnSplitEachShareWithinOneUnitOfItsPart", spec := "fnSplitEachShareWithinOneUnitOfItsPart", stops := ["fmt.Sprintf"], inPlace := ["fmt.Sprintf"], named := ["math/bits.divideError", "math/bits.overflowError"], apart := false }
/-- NO THEOREM (fmt's text is open here; it may be false): for the released tool's asking of the row's closed facts alone. THE STATEMENT IS 'FnSplitEachShareWithinOneUnitOfItsPartToldSaid' (Qxb6609083aFmtCards.lean). -/
def FnSplitEachShareWithinOneUnitOfItsPartFormAsk : Prop := fnSplitEachShareWithinOneUnitOfItsPartRow.holds Tryf.pinned (OpenSpec.ofChange fnSplitEachShareWithinOneUnitOfItsPartSpec)

/-- ITS FALSE NEIGHBOUR: 'it returns false'. Refute it at one input. -/
def fnSplitEachShareWithinOneUnitOfItsPartWrong : ChangeSpec := { name := "fnSplitEachShareWithinOneUnitOfItsPart", fn := fun _ => fun
  | [d1, d2, d3, d4] => { results := [.lit (.bool false)], args := [d1, d2, d3, d4] }
  | _ => none }
def FnSplitEachShareWithinOneUnitOfItsPartWrongFormAsk : Prop := fnSplitEachShareWithinOneUnitOfItsPartRow.holds Tryf.pinned (OpenSpec.ofChange fnSplitEachShareWithinOneUnitOfItsPartWrong)

end Rows
end Go.Proofs.Qxb6609083aFmt

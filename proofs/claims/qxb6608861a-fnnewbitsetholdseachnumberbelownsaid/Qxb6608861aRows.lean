/-
  No cell of these rows narrows 'for every input' (looked for: loops, veiled, ifaces, maps, wideKeys, modest, calm, conditions, laid).
  DERIVED. THE GIVEN ROWS OF THIS SEAT. 4 by the template 'for every input the law returns true; each argument reads behind the call as it read before'; 0 by the template 'total and deterministic' (their statements: Qxb6608861aTotals.lean).
  GIVEN WITH THE SEED: the statements are not yours to turn. If you find one false, say at which input.
  Laid BY PROGRAM, IN A SANDBOX (cutbox-rows.mjs): the forced cells as the released guide's own fill.sh prints them over the translation 1e441955da525654… (all of the seat's roots in one cut). By AI agents, Wed Nov 11 2026. No macro, syntax, notation, axiom, sorry.
-/
import Derived.Test.Qxb6608861aChecked
import GoSem.Claim
import GoSem.ClaimJoined
import GoSem.ClaimMapViews
import Derived.JoinedTies
import Derived.KernelRfl
namespace Go.Proofs.Qxb6608861a
/- THE CELL 'sum', in the pinned program and in every row, IS THE sha256 OF THE DUMP (.gsa) THAT Qxb6608861aProg.lean LOADS. Nothing in Lean hashes anything: it is a label: what it is worth is what the hold of that sum in a sandbox is worth. -/
noncomputable def Try.pinned : Pinned := { name := "qxb6608861a", sum := "1e441955da525654d4b1758147c7df7a33bec6afc9834bc93a2f7ff804b55721", checked := Try.checked }
namespace Rows
def none {H : Type} : Left H := { results := [], args := [] }

/-- 'zzlaws_root_b1.FnNewBitSetSplitAt64': WHATEVER THE INPUT: true; the input reads as it did. -/
def fnNewBitSetSplitAt64Spec : ChangeSpec := { name := "fnNewBitSetSplitAt64", fn := fun _ => fun
  | [d1, d2] => { results := [.lit (.bool true)], args := [d1, d2] }
  | _ => none }
def fnNewBitSetSplitAt64Row : OpenClaim := { program := "qxb6608861a", sum := "1e441955da525654d4b1758147c7df7a33bec6afc9834bc93a2f7ff804b55721", func := "example.com/hopseal/hopseal/zzlaws_root_b1.FnNewBitSetSplitAt64", spec := "fnNewBitSetSplitAt64", plainKeys := false, apart := false }
def FnNewBitSetSplitAt64Said : Prop := fnNewBitSetSplitAt64Row.holds Try.pinned (OpenSpec.ofChange fnNewBitSetSplitAt64Spec)

/-- ITS FALSE NEIGHBOUR: 'it returns false'. Refute it at one input. -/
def fnNewBitSetSplitAt64Wrong : ChangeSpec := { name := "fnNewBitSetSplitAt64", fn := fun _ => fun
  | [d1, d2] => { results := [.lit (.bool false)], args := [d1, d2] }
  | _ => none }
def FnNewBitSetSplitAt64WrongFalsely : Prop := fnNewBitSetSplitAt64Row.holds Try.pinned (OpenSpec.ofChange fnNewBitSetSplitAt64Wrong)

/-- 'zzlaws_root_b1.FnNewBitSetHoldsEachNumberBelowN': WHATEVER THE INPUT: true; the input reads as it did. -/
def fnNewBitSetHoldsEachNumberBelowNSpec : ChangeSpec := { name := "fnNewBitSetHoldsEachNumberBelowN", fn := fun _ => fun
  | [d1, d2] => { results := [.lit (.bool true)], args := [d1, d2] }
  | _ => none }
def fnNewBitSetHoldsEachNumberBelowNRow : OpenClaim := { program := "qxb6608861a", sum := "1e441955da525654d4b1758147c7df7a33bec6afc9834bc93a2f7ff804b55721", func := "example.com/hopseal/hopseal/zzlaws_root_b1.FnNewBitSetHoldsEachNumberBelowN", spec := "fnNewBitSetHoldsEachNumberBelowN", plainKeys := false, apart := false }
def FnNewBitSetHoldsEachNumberBelowNSaid : Prop := fnNewBitSetHoldsEachNumberBelowNRow.holds Try.pinned (OpenSpec.ofChange fnNewBitSetHoldsEachNumberBelowNSpec)

/-- ITS FALSE NEIGHBOUR: 'it returns false'. Refute it at one input. -/
def fnNewBitSetHoldsEachNumberBelowNWrong : ChangeSpec := { name := "fnNewBitSetHoldsEachNumberBelowN", fn := fun _ => fun
  | [d1, d2] => { results := [.lit (.bool false)], args := [d1, d2] }
  | _ => none }
def FnNewBitSetHoldsEachNumberBelowNWrongFalsely : Prop := fnNewBitSetHoldsEachNumberBelowNRow.holds Try.pinned (OpenSpec.ofChange fnNewBitSetHoldsEachNumberBelowNWrong)

/-- 'zzlaws_root_b1.FnFieldIndexFieldIsTheKeptField': WHATEVER THE INPUT: true; the input reads as it did. -/
def fnFieldIndexFieldIsTheKeptFieldSpec : ChangeSpec := { name := "fnFieldIndexFieldIsTheKeptField", fn := fun _ => fun
  | [d1, d2, d3, d4] => { results := [.lit (.bool true)], args := [d1, d2, d3, d4] }
  | _ => none }
def fnFieldIndexFieldIsTheKeptFieldRow : OpenClaim := { program := "qxb6608861a", sum := "1e441955da525654d4b1758147c7df7a33bec6afc9834bc93a2f7ff804b55721", func := "example.com/hopseal/hopseal/zzlaws_root_b1.FnFieldIndexFieldIsTheKeptField", spec := "fnFieldIndexFieldIsTheKeptField", inPlace := ["internal/bytealg.IndexByte"], plainKeys := false, apart := false }
def FnFieldIndexFieldIsTheKeptFieldSaid : Prop := fnFieldIndexFieldIsTheKeptFieldRow.holds Try.pinned (OpenSpec.ofChange fnFieldIndexFieldIsTheKeptFieldSpec)

/-- ITS FALSE NEIGHBOUR: 'it returns false'. Refute it at one input. -/
def fnFieldIndexFieldIsTheKeptFieldWrong : ChangeSpec := { name := "fnFieldIndexFieldIsTheKeptField", fn := fun _ => fun
  | [d1, d2, d3, d4] => { results := [.lit (.bool false)], args := [d1, d2, d3, d4] }
  | _ => none }
def FnFieldIndexFieldIsTheKeptFieldWrongFalsely : Prop := fnFieldIndexFieldIsTheKeptFieldRow.holds Try.pinned (OpenSpec.ofChange fnFieldIndexFieldIsTheKeptFieldWrong)

/-- 'zzlaws_root_b1.FnFieldIndexRecordsChangeOnlyTheirOwnField': WHATEVER THE INPUT: true; the input reads as it did. -/
def fnFieldIndexRecordsChangeOnlyTheirOwnFieldSpec : ChangeSpec := { name := "fnFieldIndexRecordsChangeOnlyTheirOwnField", fn := fun _ => fun
  | [d1, d2, d3] => { results := [.lit (.bool true)], args := [d1, d2, d3] }
  | _ => none }
def fnFieldIndexRecordsChangeOnlyTheirOwnFieldRow : OpenClaim := { program := "qxb6608861a", sum := "1e441955da525654d4b1758147c7df7a33bec6afc9834bc93a2f7ff804b55721", func := "example.com/hopseal/hopseal/zzlaws_root_b1.FnFieldIndexRecordsChangeOnlyTheirOwnField", spec := "fnFieldIndexRecordsChangeOnlyTheirOwnField", inPlace := ["internal/bytealg.IndexByte"], plainKeys := false, apart := false }
def FnFieldIndexRecordsChangeOnlyTheirOwnFieldSaid : Prop := fnFieldIndexRecordsChangeOnlyTheirOwnFieldRow.holds Try.pinned (OpenSpec.ofChange fnFieldIndexRecordsChangeOnlyTheirOwnFieldSpec)

/-- ITS FALSE NEIGHBOUR: 'it returns false'. Refute it at one input. -/
def fnFieldIndexRecordsChangeOnlyTheirOwnFieldWrong : ChangeSpec := { name := "fnFieldIndexRecordsChangeOnlyTheirOwnField", fn := fun _ => fun
  | [d1, d2, d3] => { results := [.lit (.bool false)], args := [d1, d2, d3] }
  | _ => none }
def FnFieldIndexRecordsChangeOnlyTheirOwnFieldWrongFalsely : Prop := fnFieldIndexRecordsChangeOnlyTheirOwnFieldRow.holds Try.pinned (OpenSpec.ofChange fnFieldIndexRecordsChangeOnlyTheirOwnFieldWrong)

end Rows
end Go.Proofs.Qxb6608861a

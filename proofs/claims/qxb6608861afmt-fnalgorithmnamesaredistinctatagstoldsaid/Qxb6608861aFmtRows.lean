/-
  No cell of these rows narrows 'for every input' (looked for: loops, veiled, ifaces, maps, wideKeys, modest, calm, conditions, laid).
  DERIVED. THE GIVEN ROWS OF THIS SEAT. 1 by the template 'for every input the law returns true; each argument reads behind the call as it read before'; 0 by the template 'total and deterministic' (their statements: Qxb6608861aFmtTotals.lean).
  GIVEN WITH THE SEED: the statements are not yours to turn. If you find one false, say at which input.
  Laid BY PROGRAM, IN A SANDBOX (cutbox-rows.mjs): the forced cells as the released guide's own fill.sh prints them over the translation 8a153f32227afdb3… (all of the seat's roots in one cut). By AI agents, Wed Nov 11 2026. No macro, syntax, notation, axiom, sorry.
-/
import Derived.Test.Qxb6608861aFmtChecked
import GoSem.Claim
import GoSem.ClaimJoined
import GoSem.ClaimMapViews
import Derived.JoinedTies
import Derived.KernelRfl
namespace Go.Proofs.Qxb6608861aFmt
/- THE CELL 'sum', in the pinned program and in every row, IS THE sha256 OF THE DUMP (.gsa) THAT Qxb6608861aFmtProg.lean LOADS. Nothing in Lean hashes anything: it is a label: what it is worth is what the hold of that sum in a sandbox is worth. -/
noncomputable def Tryf.pinned : Pinned := { name := "qxb6608861afmt", sum := "8a153f32227afdb3d06f1f1c7317bb3d6c9feddeb4b0ac77f9f1fd09522921da", checked := Tryf.checked }
namespace Rows
def none {H : Type} : Left H := { results := [], args := [] }

/-- 'zzlaws_root_b1.FnAlgorithmNamesAreDistinctATags': WHATEVER THE INPUT: true; the input reads as it did. -/
def fnAlgorithmNamesAreDistinctATagsSpec : ChangeSpec := { name := "fnAlgorithmNamesAreDistinctATags", fn := fun _ => fun
  | [d1, d2] => { results := [.lit (.bool true)], args := [d1, d2] }
  | _ => none }
def fnAlgorithmNamesAreDistinctATagsRow : OpenClaim := { program := "qxb6608861afmt", sum := "8a153f32227afdb3d06f1f1c7317bb3d6c9feddeb4b0ac77f9f1fd09522921da", func := "example.com/hopseal/hopseal/zzlaws_root_b1.FnAlgorithmNamesAreDistinctATags", spec := "fnAlgorithmNamesAreDistinctATags", stops := ["fmt.Sprintf"], inPlace := ["fmt.Sprintf"], apart := false }
/-- NO THEOREM (fmt's text is open here; it may be false): for the released tool's asking of the row's closed facts alone. THE STATEMENT IS 'FnAlgorithmNamesAreDistinctATagsToldSaid' (Qxb6608861aFmtCards.lean). -/
def FnAlgorithmNamesAreDistinctATagsFormAsk : Prop := fnAlgorithmNamesAreDistinctATagsRow.holds Tryf.pinned (OpenSpec.ofChange fnAlgorithmNamesAreDistinctATagsSpec)

/-- ITS FALSE NEIGHBOUR: 'it returns false'. Refute it at one input. -/
def fnAlgorithmNamesAreDistinctATagsWrong : ChangeSpec := { name := "fnAlgorithmNamesAreDistinctATags", fn := fun _ => fun
  | [d1, d2] => { results := [.lit (.bool false)], args := [d1, d2] }
  | _ => none }
def FnAlgorithmNamesAreDistinctATagsWrongFormAsk : Prop := fnAlgorithmNamesAreDistinctATagsRow.holds Tryf.pinned (OpenSpec.ofChange fnAlgorithmNamesAreDistinctATagsWrong)

end Rows
end Go.Proofs.Qxb6608861aFmt

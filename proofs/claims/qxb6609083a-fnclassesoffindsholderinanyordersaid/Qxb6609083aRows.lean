/-
  No cell of these rows narrows 'for every input' (looked for: loops, veiled, ifaces, maps, wideKeys, modest, calm, conditions, laid).
  DERIVED. THE GIVEN ROWS OF THIS SEAT. 1 by the template 'for every input the law returns true; each argument reads behind the call as it read before'; 0 by the template 'total and deterministic' (their statements: Qxb6609083aTotals.lean).
  GIVEN WITH THE SEED: the statements are not yours to turn. If you find one false, say at which input.
  Laid BY PROGRAM, IN A SANDBOX (cutbox-rows.mjs): the forced cells as the released guide's own fill.sh prints them over the translation e92fed5eafb76bfd… (all of the seat's roots in one cut). By AI agents, Wed Nov 11 2026. No macro, syntax, notation, axiom, sorry.
-/
import Derived.Test.Qxb6609083aChecked
import GoSem.Claim
import GoSem.ClaimJoined
import GoSem.ClaimMapViews
import Derived.JoinedTies
import Derived.KernelRfl
namespace Go.Proofs.Qxb6609083a
/- THE CELL 'sum', in the pinned program and in every row, IS THE sha256 OF THE DUMP (.gsa) THAT Qxb6609083aProg.lean LOADS. Nothing in Lean hashes anything: it is a label: what it is worth is what the hold of that sum in a sandbox is worth. -/
noncomputable def Try.pinned : Pinned := { name := "qxb6609083a", sum := "e92fed5eafb76bfda1c23bae0b25089664d9d38ee1d19edac4836ac04ab41f5d", checked := Try.checked }
namespace Rows
def none {H : Type} : Left H := { results := [], args := [] }

/-- 'zzlaws_root_b1.FnClassesOfFindsHolderInAnyOrder': WHATEVER THE INPUT: true; the input reads as it did. -/
def fnClassesOfFindsHolderInAnyOrderSpec : ChangeSpec := { name := "fnClassesOfFindsHolderInAnyOrder", fn := fun _ => fun
  | [d1, d2, d3] => { results := [.lit (.bool true)], args := [d1, d2, d3] }
  | _ => none }
def fnClassesOfFindsHolderInAnyOrderRow : OpenClaim := { program := "qxb6609083a", sum := "e92fed5eafb76bfda1c23bae0b25089664d9d38ee1d19edac4836ac04ab41f5d", func := "example.com/zhaomu/zhaomu/zzlaws_root_b1.FnClassesOfFindsHolderInAnyOrder", spec := "fnClassesOfFindsHolderInAnyOrder", plainKeys := false, apart := false }
def FnClassesOfFindsHolderInAnyOrderSaid : Prop := fnClassesOfFindsHolderInAnyOrderRow.holds Try.pinned (OpenSpec.ofChange fnClassesOfFindsHolderInAnyOrderSpec)

/-- ITS FALSE NEIGHBOUR: 'it returns false'. Refute it at one input. -/
def fnClassesOfFindsHolderInAnyOrderWrong : ChangeSpec := { name := "fnClassesOfFindsHolderInAnyOrder", fn := fun _ => fun
  | [d1, d2, d3] => { results := [.lit (.bool false)], args := [d1, d2, d3] }
  | _ => none }
def FnClassesOfFindsHolderInAnyOrderWrongFalsely : Prop := fnClassesOfFindsHolderInAnyOrderRow.holds Try.pinned (OpenSpec.ofChange fnClassesOfFindsHolderInAnyOrderWrong)

end Rows
end Go.Proofs.Qxb6609083a

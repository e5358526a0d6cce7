/-
  WHAT THE LISTED VARIABLE GIVES THE WALKS of seat b6608719aD: encoding/hex.ErrLength's cell holds an interface value that is not nil.
-/
import Derived.Test.Qxb6608719aDoorRows
import Derived.ProofKit
import Derived.MakeChecks
import Derived.Lay
import Derived.SevenTiedAt
import Derived.Stop.LaidErr
import Derived.Stop.Joined
namespace Go.Proofs.Qxb6608719aDoor
open Go.ChangeShapes Go.WideShapes Go.ChangeAt Go.RowKit

theorem own : ownKnob Tryd.prog.godebug = none := by kernel_rfl
theorem gErr : Tryd.prog.globalNamed "encoding/hex.ErrLength" = some 7 := by kernel_rfl
theorem tErr : (Tryd.prog.globals[7]?).map (·.type) = some 28 := by kernel_rfl
def laidOne : List (String × DataW Unit) := [("encoding/hex.ErrLength", Rows.laid_encoding_hex_ErrLength)]
theorem of_laid {W : World} (h : laidMetH Tryd.prog laidOne W) : ∃ (t : TypeId) (x : Value), W.cell? ⟨7, 0, none⟩ = some (.iface t x) := by
  rw [MakeChecks.laidMetH_plain _ _ _ (by kernel_rfl)] at h
  obtain ⟨ps, ⟨g0, t0, cs0, f0, p0, q0, hg0, ht0, hv0, hd0, _, _⟩, _, _⟩ := h
  obtain rfl := Option.some.inj (gErr.symm.trans hg0)
  obtain rfl := Option.some.inj (tErr.symm.trans ht0)
  obtain ⟨f1, u, v, hcs, _, _⟩ := iface_of_trod Tryd.underlying28 hd0
  refine ⟨u, v, ?_⟩
  have := World.var?_cell hg0 hv0 0
  rw [Array.eq_one_of_toList hcs] at this
  simpa using this
end Go.Proofs.Qxb6608719aDoor

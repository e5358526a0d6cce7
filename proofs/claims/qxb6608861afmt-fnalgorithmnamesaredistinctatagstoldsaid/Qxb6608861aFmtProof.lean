/-
  'Rows.FnAlgorithmNamesAreDistinctATagsToldSaid', PROVED: the told card (the walk comes to fmt at no input: fmt's text is never asked for).
-/
import Derived.Test.Qxb6608861aFmtCards
import Derived.Test.Qxb6608861aFmtWalks
import Derived.ProofKit
import Derived.JoinedOf
import Derived.Carry
import Derived.Stop.JoinedAt
import Derived.Stop.JoinedTold
import Derived.SevenToldRow
namespace Go.Proofs.Qxb6608861aFmt
open Go.ChangeShapes Go.WideShapes Go.ChangeAt Go.RowKit
open Go.Extern.Stop Go.Stop Go.Extern

theorem own : ownKnob Tryf.prog.godebug = none := by kernel_rfl
theorem laidOut : laidOutB Tryf.pinned.checked.prog = true := by kernel_rfl
theorem stopsAre : Tryf.pinned.checked.prog.stops = ["fmt.Sprintf"] := by kernel_rfl
theorem stopKnobsAre : Tryf.pinned.checked.prog.stopKnobs = [] := by kernel_rfl
theorem quiet (os : Os) : Stop.quiet Tryf.pinned.checked.prog os := by
  intro k hk
  rw [stopKnobsAre] at hk
  cases hk

set_option maxRecDepth 100000 in
theorem lifted (os : Os) (started : os.Started) (H : Type) (enc : TypeId × Value → H) :
    ReturnsInTold none {} Tryf.checked os 3 .any Input.okWide ((OpenSpec.ofChange Rows.fnAlgorithmNamesAreDistinctATagsSpec).preRow enc Tryf.prog Tryf.f3 [] false []) (fun F => ((OpenSpec.ofChange Rows.fnAlgorithmNamesAreDistinctATagsSpec).at F).post enc Tryf.prog Tryf.f3 false true false false) (aloneAtReturn Tryf.prog) nothingAlways := by
  refine returnsInTold_of_row (C := Tryf.checked) (s := OpenSpec.ofChange Rows.fnAlgorithmNamesAreDistinctATagsSpec) (by kernel_rfl) own started (by kernel_rfl) Tryf.func3
    (OpenSpec.witness_stopped (enc := enc) (C := Tryf.checked) false ⟨#[], #[.int .i64 0, .int .i64 0], []⟩ 8 (by kernel_rfl) (by kernel_rfl) (by kernel_rfl) (by kernel_rfl)) ?_
  intro F W base args ds gs before _ _ hval0 hW _ _ _ _ _
  have hval : ∀ (j : Nat) t v, Tryf.f3.params[j]? = some t → args[j]? = some v → Value.okWide Tryf.prog W .any base t v := hval0
  have hW' := hW
  obtain ⟨p, q, hA0, hV, rfl, _, _⟩ := hW
  have hA : DataW.TrodAll enc Tryf.prog W 0 (fun _ => true) true Tryf.f3.params.toList args.toList ds p := hA0
  rw [Tryf.params3] at hA hval
  obtain ⟨v0, v1, d0, d1, p0, p1, rfl, rfl, rfl, h0, h1⟩ := trodAll_two hA
  obtain ⟨rfl, rfl⟩ := trodVars_none hV
  obtain ⟨a, rfl, rfl, rfl, wa⟩ := open_int Tryf.underlying3 (hval 0 3 v0 rfl rfl) h0
  obtain ⟨b, rfl, rfl, rfl, wb⟩ := open_int Tryf.underlying3 (hval 1 3 v1 rfl rfl) h1
  simp only [List.append_nil] at hW'
  refine (law_any a b W).mono fun e W' ⟨he, hw⟩ => ?_
  subst he; subst hw
  exact ⟨_, rfl, _, _, _, [], [], [], hW', trodAll_mk1 (shut_bool Tryf.underlying4 _), trodAll_mk2 (shut_int Tryf.underlying3 wa) (shut_int Tryf.underlying3 wb), rfl, World.keptBut_refl _ _, fun h => by cases h⟩

/-- ████ THE STATEMENT: THE TOLD CARD ████ -/
theorem proved : Rows.FnAlgorithmNamesAreDistinctATagsToldSaid :=
  Claim7.holds_of_told_any 3 Tryf.f3 "fmt.Sprintf" [] [] _ _ _ (by kernel_rfl) rfl rfl rfl laidOut (by kernel_rfl) rfl ⟨rfl, rfl, rfl, rfl, rfl, rfl, rfl⟩ rfl rfl (by kernel_rfl) (by kernel_rfl) Tryf.func3 (by kernel_rfl)
    (of_decide_eq_true (by kernel_rfl)) (by unfold Func.isWrapper; first | (rw [if_pos (by decide +kernel)]; kernel_rfl) | (rw [if_neg (by decide +kernel)]; exact ⟨rfl, rfl⟩)) stopsAre.symm rfl stopKnobsAre.symm (by kernel_rfl)
    (by kernel_rfl) (by kernel_rfl) (by kernel_rfl) (by kernel_rfl) (by kernel_rfl) (by kernel_rfl) (by kernel_rfl) (by kernel_rfl) (by kernel_rfl) rfl (by kernel_rfl) rfl rfl
    rfl rfl
    rfl (by kernel_rfl) (by kernel_rfl) (by kernel_rfl) (by decide) (by kernel_rfl)
    (OpenClaim.moreEntering_of (by kernel_rfl) (by kernel_rfl) (by kernel_rfl) (by kernel_rfl) (by kernel_rfl) (by kernel_rfl) (by kernel_rfl) (by kernel_rfl) (by kernel_rfl) (by kernel_rfl))
    ⟨_, WideRow.started_initial, quiet _⟩
    (fun os started _ H enc _ => lifted os started H enc)
#print axioms proved
end Go.Proofs.Qxb6608861aFmt

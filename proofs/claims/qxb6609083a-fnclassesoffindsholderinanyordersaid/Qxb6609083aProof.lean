/-
  'Rows.FnClassesOfFindsHolderInAnyOrderSaid', PROVED.
-/
import Derived.Test.Qxb6609083aLaw
import Derived.ProofKit
import Derived.OpenShut
import Derived.SliceStrings
import Derived.Deep.Slices
import Derived.Carry
import Derived.ChangeMaps5
namespace Go.Proofs.Qxb6609083a
open Go.ChangeShapes Go.WideShapes Go.ChangeAt Go.RowKit

theorem own : ownKnob Try.prog.godebug = none := by kernel_rfl
theorem laidOut : laidOutB Try.prog = true := by kernel_rfl
theorem cells9 : Try.prog.cellsOf 9 = 1 := by kernel_rfl
theorem cells22 : Try.prog.cellsOf 22 = 1 := by kernel_rfl

section
variable {H : Type} {enc : TypeId × Value → H} {w : World} {base : Nat} {spare : Nat → Bool} {held : Bool}

/-- A slice of strings, opened. -/
theorem strs_open {fuel : Nat} {v : Value} {x : DataW H × List MemPlace} (h : DataW.trod enc Try.prog w base spare held fuel 22 [v] = some x) :
    ∃ a n cap S, v = .slice a n cap ∧ Strs w a n S := by
  rcases open_strings Try.underlying22 Try.underlying9 cells9 h with ⟨hcs, _⟩ | ⟨a, len, cap, ss, hcs, _, hl, _, hz, _, hcell, hsz⟩
  · simp at hcs
    exact ⟨none, 0, 0, fun _ => ByteArray.empty, hcs, fun i hi => by omega, fun i hi => by omega⟩
  · simp at hcs
    have hlen : len ≤ ss.length := by rw [hz]; split <;> omega
    refine ⟨some a, len, cap, fun i => ss.getD i ByteArray.empty, hcs, fun i hi => ?_, fun i hi => ?_⟩
    · obtain ⟨b, off, spot⟩ := a
      have hspot : spot = none := by simpa [Addr.add] using World.cell?_spot (hcell 0 (by omega))
      subst hspot
      exact ⟨b, off, rfl, by rw [← Go.WideShapes.add_plain]; exact hcell i (by omega)⟩
    · have hi' : i < ss.length := by omega
      rw [List.getD_eq_getElem?_getD, List.getElem?_eq_getElem hi']
      exact hsz _ (List.getElem_mem hi')

/-- A slice of slices of strings, opened. -/
theorem lists_open {fuel : Nat} {v : Value} {x : DataW H × List MemPlace} (h : DataW.trod enc Try.prog w base spare held fuel 23 [v] = some x) :
    ∃ a m cap A N K C, v = .slice a m cap ∧ Lists w a m A N K C := by
  rcases Deep.open_slice1 Try.underlying23 cells22 h with ⟨hcs, _⟩ | ⟨a, len, cap, m, n, V, D, Pl, hcs, _, hl, _, hz, _, hx⟩
  · simp at hcs
    exact ⟨none, 0, 0, fun _ => none, fun _ => 0, fun _ => 0, fun _ _ => ByteArray.empty, hcs, fun i hi => by omega, fun i hi => by omega⟩
  · simp at hcs
    have hlen : len ≤ m := by rw [hz]; split <;> omega
    have each : ∀ i, i < len → ∃ q : Option Addr × Nat × Nat × (Nat → ByteArray), V i = .slice q.1 q.2.1 q.2.2.1 ∧ Strs w q.1 q.2.1 q.2.2.2 := fun i hi => by
      obtain ⟨a, n, cap, S, h1, h2⟩ := strs_open (hx i (by omega)).2
      exact ⟨(a, n, cap, S), h1, h2⟩
    have : Inhabited (Option Addr × Nat × Nat × (Nat → ByteArray)) := ⟨(none, 0, 0, fun _ => ByteArray.empty)⟩
    obtain ⟨q, hq⟩ := Deep.choose_lt each
    refine ⟨some a, len, cap, fun i => (q i).1, fun i => (q i).2.1, fun i => (q i).2.2.1, fun i => (q i).2.2.2, hcs, fun i hi => ?_, fun i hi => (hq i hi).2⟩
    obtain ⟨b, off, spot⟩ := a
    have hspot : spot = none := by simpa [Addr.add] using World.cell?_spot (hx 0 (by omega)).1
    subst hspot
    exact ⟨b, off, rfl, by rw [← Go.WideShapes.add_plain, (hx i (by omega)).1, (hq i hi).1]⟩
end

set_option maxRecDepth 100000 in
theorem lifted (os : Os) (started : os.Started) (H : Type) (enc : TypeId × Value → H) :
    ReturnsInHanded {} Try.checked os 3 .any (Rows.fnClassesOfFindsHolderInAnyOrderSpec.pre6 enc Try.prog Try.f3 Rows.fnClassesOfFindsHolderInAnyOrderRow.domain false) (Rows.fnClassesOfFindsHolderInAnyOrderSpec.post enc Try.prog Try.f3 false true false false) := by
  refine returnsInHanded_of_change (C := Try.checked) own started (by kernel_rfl) Try.func3
    (ChangeSpec.witness6 (enc := enc) (C := Try.checked) false ⟨#[], #[.slice none 0 0, .slice none 0 0, .string ByteArray.empty], []⟩ 8 (by kernel_rfl) (by kernel_rfl) (by kernel_rfl) (by kernel_rfl)) ?_
  intro W base args ds gs before hval0 hW _ _
  have hval : ∀ (j : Nat) t v, Try.f3.params[j]? = some t → args[j]? = some v → Value.okWide Try.prog W .any base t v := hval0
  have hW' := hW
  obtain ⟨p, q, hA0, hV, rfl, _, _⟩ := hW
  have hA : DataW.TrodAll enc Try.prog W 0 (fun _ => true) true Try.f3.params.toList args.toList ds p := hA0
  rw [Try.params3] at hA hval
  obtain ⟨v0, v1, v2, d0, d1, d2, p0, p1, p2, rfl, rfl, rfl, h0, h1, h2⟩ := trodAll_three hA
  obtain ⟨rfl, rfl⟩ := trodVars_none hV
  obtain ⟨a0, n0, c0, rfl⟩ := okWide_slice Try.underlying22 (hval 0 22 v0 rfl rfl)
  obtain ⟨a1, n1, c1, rfl⟩ := okWide_slice Try.underlying23 (hval 1 23 v1 rfl rfl)
  obtain ⟨s, rfl, rfl, rfl, hs⟩ := ChangeMaps.open_string Try.underlying9 (hval 2 9 v2 rfl rfl) h2
  have h0k := h0
  have h1k := h1
  obtain ⟨f0, h0⟩ := h0
  obtain ⟨f1, h1⟩ := h1
  clear hA0 hval0
  simp only [List.append_nil] at hW'
  have hlt0 : ∀ x ∈ p0, x.block < W.heap.size := fun x hx => hW'.lt x (by simp [hx])
  have hlt1 : ∀ x ∈ p1, x.block < W.heap.size := fun x hx => hW'.lt x (by simp [hx])
  obtain ⟨_, _, _, S, e0, hS⟩ := strs_open (v := .slice a0 n0 c0) (by simpa [Value.cells] using h0)
  obtain ⟨_, _, _, A, N, K, C, e1, hL⟩ := lists_open (v := .slice a1 n1 c1) (by simpa [Value.cells] using h1)
  cases e0
  cases e1
  refine (law_any a0 a1 n0 n1 c0 c1 S A N K C s hs W hS hL).mono fun e W' ⟨he, hn⟩ => ?_
  subst he
  exact ⟨_, rfl, _, _, _, [], p0 ++ (p1 ++ []), [], hW', trodAll_mk1 (shut_bool Try.underlying4 _),
    trodAll_mk3 (Below.trod laidOut (by kernel_rfl) (of_decide_eq_true (by kernel_rfl)) h0k hn.out hlt0) (Below.trod laidOut (by kernel_rfl) (of_decide_eq_true (by kernel_rfl)) h1k hn.out hlt1)
      (Below.trod laidOut (by kernel_rfl) (of_decide_eq_true (by kernel_rfl)) h2 hn.out (fun _ hx => by cases hx)), rfl, hn.out.frame _, fun h => by cases h⟩

/-- ████ THE STATEMENT ████ -/
theorem classes_proved : Rows.FnClassesOfFindsHolderInAnyOrderSaid :=
  OpenClaim.holds_of_wide 3 Try.f3 rfl rfl rfl rfl rfl rfl rfl ⟨rfl, rfl, rfl, rfl, rfl⟩ rfl rfl rfl rfl rfl (by kernel_rfl) Try.func3 (by kernel_rfl)
    (of_decide_eq_true (by kernel_rfl)) (by unfold Func.isWrapper; first | (rw [if_pos (by decide +kernel)]; kernel_rfl) | (rw [if_neg (by decide +kernel)]; exact ⟨rfl, rfl⟩))
    (fun os started H enc _ => lifted os started H enc)
#print axioms classes_proved
end Go.Proofs.Qxb6609083a

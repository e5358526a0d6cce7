/-
  Seat b6609083a: THE TWO OWN MAPS (map[string]bool, map[string]int), as functions of the key.
-/
import Derived.Test.Qxb6609083aBytes
import Derived.Maps.OwnSet
import Derived.Maps.Views
namespace Go.Proofs.Qxb6609083a
open Go.RowKit

theorem zero4 (w : World) : (zeroValue 4).run Try.prog w = .ok (.bool false) w := by kernel_rfl
theorem zero3 (w : World) : (zeroValue 3).run Try.prog w = .ok (.int .i64 0) w := by kernel_rfl
theorem law9 : Maps.Keyed Try.prog 9 := Maps.string_keyed Try.underlying9

theorem run_make {t k e : TypeId} (ht : Try.prog.underlying t = some (.map k e)) (n : Int) (w : World) : (Instr.makeMap t (some (.int .i64 n))).run Try.prog w = .ok (.map (some w.heap.size)) (w.alloc (.map #[] 0)) := by
  simp [Instr.makeMap, run_underlying ht, asInt, asIntOf, Result.andThen]

theorem key_ne {a b : ByteArray} (h : a ≠ b) : (Lit.string a.data.toList) ≠ Lit.string b.data.toList := by
  intro e
  apply h
  cases a; cases b
  simp at e
  simp [e]

/-- Block b is a map[string]bool of at most n keys; a key's answer is F of it. -/
def Seen (w : World) (b n : Nat) (F : ByteArray → Bool) : Prop :=
  ∃ D : DataW Unit, w.ownsMap Try.prog 9 (plainElem Try.prog 4) b n D ∧ ∀ key : ByteArray, D.atKey (.string key.data.toList) (.lit (.bool false)) = .lit (.bool (F key))

theorem Seen.made (w : World) : Seen (w.alloc (.map #[] 0)) w.heap.size 0 (fun _ => false) :=
  ⟨.map [], World.ownsMap_made w _ _ _, fun key => WideAt.atKey_none _ (by simp)⟩

theorem Seen.look {w : World} {b n : Nat} {F : ByteArray → Bool} (h : Seen w b n F) (key : ByteArray) (hs : key.size ≤ maxLen) :
    (Instr.lookup 50 (.map (some b)) (.string key) false).run Try.prog w = .ok (.bool (F key)) w := by
  obtain ⟨D, ho, hF⟩ := h
  obtain ⟨v, ps, hrun, hv⟩ := ho.lookup law9 Try.underlying50 (zero4 w) (plainElem_bool Try.underlying4 false) (WideMaps.keyOf_string_mk Try.underlying9 hs)
  rw [hF key] at hv
  have : v = .bool (F key) := by
    unfold plainElem at hv
    rw [Try.underlying4] at hv
    cases v <;> simp at hv
    rw [hv.1]
  rw [hrun, this]

theorem Seen.store {w : World} {b n : Nat} {F : ByteArray → Bool} (h : Seen w b n F) (key : ByteArray) (hs : key.size ≤ maxLen) (hn : n < maxLen) :
    ∃ w', (Instr.mapUpdate 50 (.map (some b)) (.string key) (.bool true)).run Try.prog w = .ok () w' ∧ Seen w' b (n + 1) (fun k => if k = key then true else F k) ∧ w.grownBy w' (some b) := by
  obtain ⟨D, ho, hF⟩ := h
  obtain ⟨w', hrun, ho', hg⟩ := ho.update law9 Try.underlying50 hn (WideMaps.keyOf_string_mk Try.underlying9 hs) (plainElem_bool Try.underlying4 true)
  refine ⟨w', hrun, ⟨_, ho', fun k => ?_⟩, hg⟩
  by_cases e : k = key
  · subst e
    rw [Maps.atKey_put_same ho.isMap (by trivial)]
    simp
  · rw [Maps.atKey_put_other (key_ne e), hF]
    simp [e]

/-- Block b is a map[string]int of at most n keys; a key's answer is F of it. -/
def Idx (w : World) (b n : Nat) (F : ByteArray → Option Nat) : Prop :=
  ∃ D : DataW Unit, w.ownsMap Try.prog 9 (plainElem Try.prog 3) b n D ∧ ∀ key : ByteArray, D.atKey (.string key.data.toList) (.lit (.int .i64 0)) = .lit (.int .i64 (((F key).getD 0 : Nat) : Int)) ∧ Maps.has D (.string key.data.toList) = (F key).isSome

theorem Idx.made (w : World) : Idx (w.alloc (.map #[] 0)) w.heap.size 0 (fun _ => none) :=
  ⟨.map [], World.ownsMap_made w _ _ _, fun key => ⟨WideAt.atKey_none _ (by simp), rfl⟩⟩

theorem Idx.look {w : World} {b n : Nat} {F : ByteArray → Option Nat} (h : Idx w b n F) (key : ByteArray) (hs : key.size ≤ maxLen) :
    (Instr.lookup 39 (.map (some b)) (.string key) true).run Try.prog w = .ok (.tuple #[.int .i64 (((F key).getD 0 : Nat) : Int), .bool (F key).isSome]) w := by
  obtain ⟨D, ho, hF⟩ := h
  obtain ⟨v, ps, hrun, hv⟩ := ho.look_ok law9 Try.underlying39 (zero3 w) (plainElem_int Try.underlying3 (by decide)) (WideMaps.keyOf_string_mk Try.underlying9 hs)
  obtain ⟨c, rfl, hc, _⟩ := plainElem_int_inv Try.underlying3 hv
  have h1 := congrArg Prod.fst hc
  simp only [(hF key).1] at h1
  rw [hrun, (hF key).2]
  injection h1 with h1
  injection h1 with _ h1
  rw [h1]

theorem Idx.store {w : World} {b n : Nat} {F : ByteArray → Option Nat} (h : Idx w b n F) (key : ByteArray) (v : Nat) (hv : v ≤ 1000000) (hs : key.size ≤ maxLen) (hn : n < maxLen) :
    ∃ w', (Instr.mapUpdate 39 (.map (some b)) (.string key) (.int .i64 v)).run Try.prog w = .ok () w' ∧ Idx w' b (n + 1) (fun k => if k = key then some v else F k) ∧ w.grownBy w' (some b) := by
  obtain ⟨D, ho, hF⟩ := h
  have hwf : (Lit.int .i64 (v : Int)).wf = true := by
    simp [Lit.wf, IntKind.min, IntKind.max, IntKind.signed, IntKind.bits]
    omega
  obtain ⟨w', hrun, ho', hg⟩ := ho.update law9 Try.underlying39 hn (WideMaps.keyOf_string_mk Try.underlying9 hs) (plainElem_int Try.underlying3 hwf)
  refine ⟨w', hrun, ⟨_, ho', fun k => ?_⟩, hg⟩
  by_cases e : k = key
  · subst e
    rw [Maps.atKey_put_same ho.isMap (by trivial), Maps.has_put_same ho.isMap (by trivial)]
    simp
  · rw [Maps.atKey_put_other (key_ne e), Maps.has_put_other (key_ne e), (hF k).1, (hF k).2]
    simp [e]
theorem Idx.kept {w w' : World} {b n : Nat} {F : ByteArray → Option Nat} {row : Option Nat} (h : Idx w b n F) (hg : w.grownBy w' row) (hne : some b ≠ row) : Idx w' b n F := by
  obtain ⟨D, ho, hF⟩ := h
  exact ⟨D, ho.kept hg hne, hF⟩
end Go.Proofs.Qxb6609083a

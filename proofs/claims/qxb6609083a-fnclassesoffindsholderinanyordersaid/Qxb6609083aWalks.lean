/-
  THE WALKS of seat b6609083a, first part: the size guards (addLen, stringsBytes, nestedBytes, zzBytes_..) and ascending, allAscending, placeOf.
-/
import Derived.Test.Qxb6609083aRows
import Derived.WalkKit
import Derived.WalkSpells
import Derived.WalkLawsBesides
import Derived.Deep.OwnRows
import Derived.Deep.QuietTactic
import Derived.BigQuiet
namespace Go.Proofs.Qxb6609083a
open Go.RowKit

/-- A slice of n strings as the program reads it (nil or empty where n = 0). -/
structure Strs (w : World) (a : Option Addr) (n : Nat) (S : Nat → ByteArray) : Prop where
  get : ∀ i, i < n → ∃ b off, a = some ⟨b, off, none⟩ ∧ w.cell? ⟨b, off + i, none⟩ = some (.string (S i))
  size : ∀ i, i < n → (S i).size ≤ maxLen
/-- A slice of m slices of strings. -/
structure Lists (w : World) (a : Option Addr) (m : Nat) (A : Nat → Option Addr) (N K : Nat → Nat) (C : Nat → Nat → ByteArray) : Prop where
  get : ∀ i, i < m → ∃ b off, a = some ⟨b, off, none⟩ ∧ w.cell? ⟨b, off + i, none⟩ = some (.slice (A i) (N i) (K i))
  row : ∀ i, i < m → Strs w (A i) (N i) (C i)
theorem Strs.later {w w' : World} {a n S} (h : Strs w a n S) (hb : Below w.heap.size w w') : Strs w' a n S :=
  ⟨fun i hi => by obtain ⟨b, off, e, hc⟩ := h.get i hi; exact ⟨b, off, e, cell_later hb hc⟩, h.size⟩
theorem Lists.later {w w' : World} {a m A N K C} (h : Lists w a m A N K C) (hb : Below w.heap.size w w') : Lists w' a m A N K C :=
  ⟨fun i hi => by obtain ⟨b, off, e, hc⟩ := h.get i hi; exact ⟨b, off, e, cell_later hb hc⟩, fun i hi => (h.row i hi).later hb⟩
theorem Strs.cell {w : World} {b off n S} (h : Strs w (some ⟨b, off, none⟩) n S) {i : Nat} (hi : i < n) : w.cell? ⟨b, off + i, none⟩ = some (.string (S i)) := by
  obtain ⟨b', off', e, hc⟩ := h.get i hi
  cases e
  exact hc

/-- A pair of a number and a bool. -/
def Two (e : Ending) : Prop := (∃ t : Int, e = .returned (.tuple #[.int .i64 t, .bool false])) ∨ (∃ t : Int, e = .returned (.tuple #[.int .i64 t, .bool true]))

set_option maxHeartbeats 400000 in
theorem addLen_any (t n : Int) (w : World) : Calls Try.prog 7 #[.int .i64 t, .int .i64 n] w fun e w' => Hid (Two e) ∧ w' = w := by
  by_cases h1 : n < 0
  · go_enter Try.func7, Try.ntmps7
    go_wp2
    go_ret2
    exact ⟨.inl ⟨_, rfl⟩, rfl⟩
  by_cases h2 : t < 0
  · go_enter Try.func7, Try.ntmps7
    go_wp2
    go_ret2
    exact ⟨.inl ⟨_, rfl⟩, rfl⟩
  by_cases h3 : 1048576 < t
  · go_enter Try.func7, Try.ntmps7
    go_wp2
    go_ret2
    exact ⟨.inl ⟨_, rfl⟩, rfl⟩
  by_cases h4 : 1048576 - t < n
  · go_enter Try.func7, Try.ntmps7
    go_wp2
    go_ret2
    exact ⟨.inl ⟨_, rfl⟩, rfl⟩
  · go_enter Try.func7, Try.ntmps7
    go_wp2
    go_ret2
    exact ⟨.inr ⟨_, rfl⟩, rfl⟩

def TwoIf (p : Prop) (e : Ending) : Prop := (∃ t : Int, e = .returned (.tuple #[.int .i64 t, .bool false])) ∨ (p ∧ ∃ t : Int, e = .returned (.tuple #[.int .i64 t, .bool true]))

set_option maxHeartbeats 1000000 in
theorem strBytes_any (t : Int) (ao : Option Addr) (n cap : Nat) (S : Nat → ByteArray) (w : World) (h : Hid (Strs w ao n S)) :
    Calls Try.prog 5 #[.int .i64 t, .slice ao n cap] w fun e w' => Hid (TwoIf (n ≤ 65536) e) ∧ w' = w := by
  by_cases hn : n ≤ 65536
  · have hni : (n : Int) ≤ 65536 := by omega
    go_enter Try.func5, Try.ntmps5
    go_wp2_with fail
    refine (addLen_any _ _ _).mono ?_
    rintro e w' ⟨he, rfl⟩
    rcases he.out with ⟨x, rfl⟩ | ⟨x, rfl⟩
    · clear he
      go_wp2
      go_ret2
      exact ⟨.inl ⟨_, rfl⟩, rfl⟩
    · clear he
      go_wp2
      go_loop [6, 7, 8] (fun y o i => ∃ (k : Nat) (x : Int), k ≤ n ∧ i = .int .i64 k ∧ y = .int .i64 x ∧ o = .bool true) (fun _ _ i => n - (intOf i).toNat)
      case atStart => exact ⟨0, x, Nat.zero_le _, rfl, rfl, rfl⟩
      case round =>
        obtain ⟨k, x, hk, rfl, rfl, rfl⟩ := hrel
        by_cases hlt : k < n
        · obtain ⟨b, off, rfl, hc⟩ := h.out.get k hlt
          go_wp2_with fail
          refine (addLen_any _ _ _).mono ?_
          rintro e w2 ⟨he, rfl⟩
          rcases he.out with ⟨x, rfl⟩ | ⟨x, rfl⟩
          · clear he
            go_wp2
            go_ret2
            exact ⟨.inl ⟨_, rfl⟩, rfl⟩
          · clear he
            go_wp2
            go_round
            case rel => exact ⟨k + 1, x, by omega, by go_num, rfl, rfl⟩
            case measure => simp [intOf]; omega
        · go_wp2
          go_ret2
          exact ⟨.inr ⟨trivial, _, rfl⟩, rfl⟩
  · have hni : 65536 < (n : Int) := by omega
    go_enter Try.func5, Try.ntmps5
    go_wp2
    go_ret2
    exact ⟨.inl ⟨_, rfl⟩, rfl⟩

set_option maxHeartbeats 1000000 in
theorem nestBytes_any (t : Int) (ao : Option Addr) (m cap : Nat) (A : Nat → Option Addr) (N K : Nat → Nat) (C : Nat → Nat → ByteArray) (w : World) (h : Hid (Lists w ao m A N K C)) :
    Calls Try.prog 6 #[.int .i64 t, .slice ao m cap] w fun e w' => Hid (TwoIf (m ≤ 43690 ∧ ∀ i, i < m → N i ≤ 65536) e) ∧ w' = w := by
  by_cases hn : m ≤ 43690
  · have hni : (m : Int) ≤ 43690 := by omega
    go_enter Try.func6, Try.ntmps6
    go_wp2_with fail
    refine (addLen_any _ _ _).mono ?_
    rintro e w' ⟨he, rfl⟩
    rcases he.out with ⟨x, rfl⟩ | ⟨x, rfl⟩
    · clear he
      go_wp2
      go_ret2
      exact ⟨.inl ⟨_, rfl⟩, rfl⟩
    · clear he
      go_wp2
      go_loop [6, 7, 8] (fun y o i => ∃ (k : Nat) (x : Int), k ≤ m ∧ i = .int .i64 k ∧ y = .int .i64 x ∧ o = .bool true ∧ Hid (∀ i, i < k → N i ≤ 65536)) (fun _ _ i => m - (intOf i).toNat)
      case atStart => exact ⟨0, x, Nat.zero_le _, rfl, rfl, rfl, fun i hi => by omega⟩
      case round =>
        obtain ⟨k, x, hk, rfl, rfl, rfl, hN⟩ := hrel
        by_cases hlt : k < m
        · have hrow : Hid (Strs w' (A k) (N k) (C k)) := h.out.row k hlt
          obtain ⟨b, off, rfl, hc⟩ := h.out.get k hlt
          go_wp2_with fail
          refine (strBytes_any _ _ _ _ _ _ hrow).mono ?_
          rintro e w2 ⟨he, rfl⟩
          rcases he.out with ⟨x, rfl⟩ | ⟨hx, x, rfl⟩
          · clear he
            go_wp2
            go_ret2
            exact ⟨.inl ⟨_, rfl⟩, rfl⟩
          · clear he
            have hN' : Hid (∀ i, i < k + 1 → N i ≤ 65536) := fun i hi => by
              by_cases e : i = k
              · subst e; exact hx
              · exact hN.out i (by omega)
            clear hx hN
            go_wp2
            go_round
            case rel => exact ⟨k + 1, x, by omega, by go_num, rfl, rfl, hN'⟩
            case measure => simp [intOf]; omega
        · have e : k = m := by omega
          subst e
          go_wp2
          go_ret2
          exact ⟨.inr ⟨hN.out, _, rfl⟩, rfl⟩
  · have hni : 43690 < (m : Int) := by omega
    go_enter Try.func6, Try.ntmps6
    go_wp2
    go_ret2
    exact ⟨.inl ⟨_, rfl⟩, rfl⟩
end Go.Proofs.Qxb6609083a

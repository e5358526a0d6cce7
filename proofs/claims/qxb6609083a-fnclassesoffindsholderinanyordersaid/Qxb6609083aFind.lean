/-
  THE WALKS of seat b6609083a: (*Book).classesOf, ZZclassesOf.
-/
import Derived.Test.Qxb6609083aBook
namespace Go.Proofs.Qxb6609083a
open Go.RowKit

set_option maxHeartbeats 1000000 in
theorem find_some (p n : Nat) (S : Nat → ByteArray) (N : Nat → Nat) (C : Nat → Nat → ByteArray) (i : Nat) (hin : i < n) (hs : (S i).size ≤ maxLen) (w : World) (h : Hid (IsBook w p n S N C)) :
    Calls Try.prog 19 #[.pointer (some ⟨p, 0, none⟩), .string (S i)] w fun e w' => (∃ lb, e = .returned (.slice (some ⟨lb, 0, none⟩) (N i) (N i)) ∧ Hid (Lots w lb (N i) (N i) (C i))) ∧ w' = w := by
  obtain ⟨hb, mb, F, c1, c2, hi, _, hr⟩ := h.out.ex
  obtain ⟨q, lb, hq, hF, hc, hl0⟩ := hr i hin
  have hl : Hid (Lots w lb (N i) (N i) (C i)) := hl0
  have hrun := hi.look (S i) hs
  rw [hF] at hrun
  have hrun' : (Instr.lookup 39 (.map (some mb)) (.string (S i)) true).run Try.prog w = .ok (.tuple #[.int .i64 (q : Int), .bool true]) w := hrun
  have hqi : (q : Int) < (n : Int) := by omega
  clear hrun hr hF hi h hl0
  go_enter Try.func19, Try.ntmps19
  go_wp2
  go_ret
  exact ⟨⟨lb, rfl, hl⟩, rfl⟩
set_option maxHeartbeats 1000000 in
theorem find_none (p n : Nat) (S : Nat → ByteArray) (N : Nat → Nat) (C : Nat → Nat → ByteArray) (s : ByteArray) (hno : Hid (∀ i, i < n → S i ≠ s)) (hs : s.size ≤ maxLen) (w : World) (h : Hid (IsBook w p n S N C)) :
    Calls Try.prog 19 #[.pointer (some ⟨p, 0, none⟩), .string s] w fun e w' => e = .returned (.slice none 0 0) ∧ w' = w := by
  obtain ⟨hb, mb, F, c1, c2, hi, hF, _⟩ := h.out.ex
  have hrun := hi.look s hs
  rw [hF s hno.out] at hrun
  have hrun' : (Instr.lookup 39 (.map (some mb)) (.string s) true).run Try.prog w = .ok (.tuple #[.int .i64 0, .bool false]) w := hrun
  clear hrun hF hi h
  go_enter Try.func19, Try.ntmps19
  go_wp2
  go_ret
  exact ⟨rfl, rfl⟩
set_option maxHeartbeats 1000000 in
theorem zzfind_some (p n : Nat) (S : Nat → ByteArray) (N : Nat → Nat) (C : Nat → Nat → ByteArray) (i : Nat) (hin : i < n) (hs : (S i).size ≤ maxLen) (w : World) (h : Hid (IsBook w p n S N C)) :
    Calls Try.prog 11 #[.pointer (some ⟨p, 0, none⟩), .string (S i)] w fun e w' => (∃ lb, e = .returned (.slice (some ⟨lb, 0, none⟩) (N i) (N i)) ∧ Hid (Lots w lb (N i) (N i) (C i))) ∧ w' = w := by
  go_enter Try.func11, Try.ntmps11
  go_wp2_with fail
  refine (find_some p n S N C i hin hs _ h).mono ?_
  rintro e w' ⟨⟨lb, rfl, hl⟩, rfl⟩
  go_wp2
  go_ret
  exact ⟨⟨lb, rfl, hl⟩, rfl⟩
set_option maxHeartbeats 1000000 in
theorem zzfind_none (p n : Nat) (S : Nat → ByteArray) (N : Nat → Nat) (C : Nat → Nat → ByteArray) (s : ByteArray) (hno : Hid (∀ i, i < n → S i ≠ s)) (hs : s.size ≤ maxLen) (w : World) (h : Hid (IsBook w p n S N C)) :
    Calls Try.prog 11 #[.pointer (some ⟨p, 0, none⟩), .string s] w fun e w' => e = .returned (.slice none 0 0) ∧ w' = w := by
  go_enter Try.func11, Try.ntmps11
  go_wp2_with fail
  refine (find_none p n S N C s hno hs _ h).mono ?_
  rintro e w' ⟨rfl, rfl⟩
  go_wp2
  go_ret
  exact ⟨rfl, rfl⟩
end Go.Proofs.Qxb6609083a

/-
  THE WALKS of seat b6609083a: namesMatch, placeOf.
-/
import Derived.Test.Qxb6609083aLots
import Derived.Deep.RegionHeld3
import Derived.Deep.DrawnRows
namespace Go.Proofs.Qxb6609083a
open Go.RowKit

set_option maxHeartbeats 2000000 in
theorem match_any (b : Nat) (a : Option Addr) (n cap : Nat) (S : Nat → ByteArray) (hn : n ≤ 65536) (w : World) (hl : Hid (Lots w b n n S)) (h : Hid (Strs w a n S)) :
    Calls Try.prog 10 #[.slice (some ⟨b, 0, none⟩) n n, .slice a n cap] w fun e w' => e = .returned (.bool true) ∧ Hid (Below w.heap.size w w') := by
  have B0 : Hid (Below w.heap.size w w) := Below.refl _ _
  go_enter Try.func10, Try.ntmps10
  go_wp2
  go_loopw [5] (fun i wr => ∃ k : Nat, i = .int .i64 k ∧ k ≤ n ∧ Hid (Below w.heap.size w wr)) (fun i _ => n - (intOf i).toNat)
  case atStart => exact ⟨0, rfl, Nat.zero_le _, B0⟩
  case round =>
    obtain ⟨k, rfl, hk, hb⟩ := hrel
    by_cases hlt : k < n
    · have hst := h.out.later hb.out
      obtain ⟨b1, off, rfl, hc⟩ := hst.get k hlt
      obtain ⟨f, hrow, hf⟩ := (hl.out.later hb.out).ex
      obtain ⟨hf1, c, hf2⟩ := hf k hlt
      have c1 := hrow.cell (i := k * 2) (by omega)
      have c2 := hrow.cell (i := k * 2 + 1) (by omega)
      rw [hf1] at c1
      rw [hf2] at c2
      obtain ⟨s, hs⟩ : ∃ s, S k = s := ⟨_, rfl⟩
      rw [hs] at c1 hc
      clear hst hf1 hf2 hf hrow f hs
      go_wp2
      go_region_held3 (fun w' => w'.cell? ⟨b, k * 2, none⟩ = some (.string s) ∧ w'.cell? ⟨b, k * 2 + 1, none⟩ = some (.slice (some ⟨c, 0, none⟩) 1 1) ∧ w'.cell? ⟨b1, off + k, none⟩ = some (.string s)) (go_keep) (first | (go_at_call 18; refine (classOf_any _ _ _).mono ?_; rintro e w' ⟨rfl, rfl⟩))
      all_goals
        go_wp2
        go_roundw
        case rel => exact ⟨k + 1, by go_num, by omega, (hb.out.drew.alloc hb.out.size _)⟩
        case measure => simp [intOf]; omega
    · go_wp2
      go_ret
      exact ⟨rfl, hb⟩

theorem toList_inj {a b : ByteArray} (h : a.toList = b.toList) : a = b := by
  rw [ByteArray.toList_eq, ByteArray.toList_eq] at h
  cases a; cases b
  simp at h
  simp [h]
/-- What placeOf answers. -/
def PlaceAt (S : Nat → ByteArray) (s : ByteArray) (n : Nat) (e : Ending) : Prop := (e = .returned (.int .i64 (-1)) ∧ ∀ i, i < n → S i ≠ s) ∨ (∃ k : Nat, e = .returned (.int .i64 k) ∧ k < n ∧ S k = s)
set_option maxHeartbeats 1000000 in
theorem placeOf_any (a : Option Addr) (n cap : Nat) (S : Nat → ByteArray) (s : ByteArray) (hn : n ≤ 65536) (w : World) (h : Hid (Strs w a n S)) :
    Calls Try.prog 12 #[.slice a n cap, .string s] w fun e w' => Hid (PlaceAt S s n e) ∧ w' = w := by
  go_enter Try.func12, Try.ntmps12
  go_wp2
  go_loop [5] (fun i => ∃ k : Nat, i = .int .i64 k ∧ k ≤ n ∧ Hid (∀ i, i < k → S i ≠ s)) (fun i => n - (intOf i).toNat)
  case atStart => exact ⟨0, rfl, Nat.zero_le _, fun i hi => by omega⟩
  case round =>
    obtain ⟨k, rfl, hk, hd⟩ := hrel
    by_cases hlt : k < n
    · obtain ⟨b, off, rfl, hc⟩ := h.out.get k hlt
      cases e2 : ((S k).toList == s.toList) with
      | true =>
        have he : Hid (S k = s) := toList_inj (by simpa using e2)
        go_wp2
        go_ret
        exact ⟨.inr ⟨k, rfl, hlt, he⟩, rfl⟩
      | false =>
        have e : S k ≠ s := fun e => by rw [e] at e2; simp at e2
        have hd' : Hid (∀ i, i < k + 1 → S i ≠ s) := fun i hi => by
          by_cases e' : i = k
          · subst e'; exact e
          · exact hd.out i (by omega)
        clear e
        go_wp2
        go_round
        case rel => exact ⟨k + 1, by go_num, by omega, hd'⟩
        case measure => simp [intOf]; omega
    · have e : k = n := by omega
      subst e
      go_wp2
      go_ret
      exact ⟨.inl ⟨rfl, hd⟩, rfl⟩
end Go.Proofs.Qxb6609083a

/-
  THE WALKS of seat b6609083a: ascending, allAscending, distinct, bookPremise.
-/
import Derived.Test.Qxb6609083aMaps
namespace Go.Proofs.Qxb6609083a
open Go.RowKit

set_option maxHeartbeats 1000000 in
theorem ascending_any (a : Option Addr) (n cap : Nat) (S : Nat → ByteArray) (hn : n ≤ 65536) (w : World) (h : Hid (Strs w a n S)) :
    Calls Try.prog 20 #[.slice a n cap] w fun e w' => Hid (AnyBool e) ∧ ∃ d, w' = w.drewN d := by
  go_enter Try.func20, Try.ntmps20
  go_wp2
  go_loopw [3] (fun i wr => ∃ k d : Nat, i = .int .i64 ((k : Int) + 1) ∧ k ≤ n ∧ wr = w.drewN d) (fun i _ => n - (intOf i).toNat)
  case atStart => exact ⟨0, 0, rfl, Nat.zero_le _, rfl⟩
  case round =>
    obtain ⟨k, d, rfl, hk, rfl⟩ := hrel
    by_cases hlt : k + 1 < n
    · have hli : (k : Int) + 1 < (n : Int) := by omega
      obtain ⟨b, off, rfl, hc⟩ := h.out.get k (by omega)
      have hc2 := h.out.cell hlt
      have e1 : (w.drewN d).cell? ⟨b, off + k, none⟩ = some (.string (S k)) := hc
      have e2 : (w.drewN d).cell? ⟨b, off + (k + 1), none⟩ = some (.string (S (k + 1))) := hc2
      go_wp2
      go_quiet (fail)
      go_wp2
      · go_ret
        exact ⟨.inl rfl, _, by rw [World.drewN_drewN]⟩
      · go_roundw
        case rel => exact ⟨k + 1, d + _, by go_num, by omega, rfl⟩
        case measure => simp [intOf]; omega
    · have hli : ¬ (k : Int) + 1 < (n : Int) := by omega
      go_wp2
      go_ret
      exact ⟨.inr rfl, _, rfl⟩

set_option maxHeartbeats 1000000 in
theorem distinct_any (a : Option Addr) (n cap : Nat) (S : Nat → ByteArray) (hn : n ≤ 65536) (w : World) (h : Hid (Strs w a n S)) :
    Calls Try.prog 13 #[.slice a n cap] w fun e w' => (e = .returned (.bool false) ∨ (e = .returned (.bool true) ∧ Hid (∀ i j, i < j → j < n → S i ≠ S j))) ∧ Hid (Below w.heap.size w w') := by
  have hmk : ∀ w : World, (Instr.makeMap 50 (some (.int .i64 (n : Int)))).run Try.prog w = .ok (.map (some w.heap.size)) (w.alloc (.map #[] 0)) := fun w => run_make Try.underlying50 _ w
  have M0 : Hid (Seen (w.alloc (.map #[] 0)) w.heap.size 0 (fun _ => false)) := Seen.made w
  have B0 : Hid (Below w.heap.size w (w.alloc (.map #[] 0))) := (Below.refl _ _).alloc (Nat.le_refl _) _
  go_enter Try.func13, Try.ntmps13
  go_wp2
  go_loopw [4] (fun i wr => ∃ k : Nat, i = .int .i64 k ∧ k ≤ n ∧ Hid (Below w.heap.size w wr) ∧ Hid (∀ i j, i < j → j < k → S i ≠ S j) ∧ Hid (∃ F, Seen wr w.heap.size k F ∧ ∀ i, i < k → F (S i) = true)) (fun i _ => n - (intOf i).toNat)
  case atStart => exact ⟨0, rfl, Nat.zero_le _, B0, fun i j _ hj => by omega, _, M0.out, fun i hi => by omega⟩
  case round =>
    obtain ⟨k, rfl, hk, hb, hd, hs⟩ := hrel
    by_cases hlt : k < n
    · have hst := h.out.later hb.out
      have hsz := hst.size k hlt
      obtain ⟨b, off, rfl, hc⟩ := hst.get k hlt
      obtain ⟨F, hF, hall⟩ := hs.out
      have hrun := hF.look (S k) hsz
      obtain ⟨w2, hst2, hF2, hg⟩ := hF.store (S k) hsz (Nat.lt_of_le_of_lt hk (by unfold maxLen; omega))
      by_cases hf : F (S k) = true
      · rw [hf] at hrun
        clear hall hF hs hF2 hg hst hst2
        go_wp2
        go_ret
        exact ⟨.inl rfl, hb⟩
      · have hf' : F (S k) = false := by simpa using hf
        have hd' : Hid (∀ i j, i < j → j < k + 1 → S i ≠ S j) := fun i j hij hj e => by
          by_cases hj' : j = k
          · subst hj'
            rw [← e, hall i hij] at hf'
            cases hf'
          · exact hd.out i j hij (by omega) e
        have hs' : Hid (∃ F, Seen w2 w.heap.size (k + 1) F ∧ ∀ i, i < k + 1 → F (S i) = true) := ⟨_, hF2, fun i hi => by
          by_cases e : S i = S k
          · simp [e]
          · have : i ≠ k := fun e' => e (by rw [e'])
            simp [e]
            exact hall i (by omega)⟩
        have hb' : Hid (Below w.heap.size w w2) := hb.out.grown hg hb.out.size (fun k e => by cases e; exact Nat.le_refl _)
        rw [hf'] at hrun
        clear hall hF hs hF2 hg hst hf hf'
        go_wp2
        go_roundw
        case rel => exact ⟨k + 1, by go_num, by omega, hb', hd', hs'⟩
        case measure => simp [intOf]; omega
    · have e : k = n := by omega
      subst e
      go_wp2
      go_ret
      exact ⟨.inr ⟨rfl, hd⟩, hb⟩

set_option maxHeartbeats 1000000 in
theorem allAscending_any (ao : Option Addr) (m cap : Nat) (A : Nat → Option Addr) (N K : Nat → Nat) (C : Nat → Nat → ByteArray) (hm : m ≤ 43690) (hN : Hid (∀ i, i < m → N i ≤ 65536)) (w : World) (h : Hid (Lists w ao m A N K C)) :
    Calls Try.prog 14 #[.slice ao m cap] w fun e w' => Hid (AnyBool e) ∧ ∃ d, w' = w.drewN d := by
  go_enter Try.func14, Try.ntmps14
  go_wp2
  go_loopw [3] (fun i wr => ∃ k d : Nat, i = .int .i64 (k : Int) ∧ k ≤ m ∧ wr = w.drewN d) (fun i _ => m - (intOf i).toNat)
  case atStart => exact ⟨0, 0, rfl, Nat.zero_le _, rfl⟩
  case round =>
    obtain ⟨k, d, rfl, hk, rfl⟩ := hrel
    by_cases hlt : k < m
    · have hrow : Hid (Strs (w.drewN d) (A k) (N k) (C k)) := (h.out.row k hlt).later (below_drewN (Below.refl _ _) _)
      obtain ⟨b, off, rfl, hc⟩ := h.out.get k hlt
      have e1 : (w.drewN d).cell? ⟨b, off + k, none⟩ = some (.slice (A k) (N k) (K k)) := hc
      go_wp2_with fail
      refine (ascending_any _ _ _ (C k) (hN.out k hlt) _ hrow).mono ?_
      rintro e w2 ⟨he, d2, rfl⟩
      rcases he.out with rfl | rfl
      · clear he
        go_wp2
        go_ret
        exact ⟨.inl rfl, d + d2, by simp⟩
      · clear he
        go_wp2
        go_roundw
        case rel => exact ⟨k + 1, d + d2, by go_num, by omega, by simp⟩
        case measure => simp [intOf]; omega
    · go_wp2
      go_ret
      exact ⟨.inr rfl, _, rfl⟩

set_option maxHeartbeats 1000000 in
theorem premise_any (ai ac : Option Addr) (n m cap cap2 : Nat) (S : Nat → ByteArray) (A : Nat → Option Addr) (N K : Nat → Nat) (C : Nat → Nat → ByteArray) (hn : n ≤ 65536) (hm : m ≤ 43690) (hN : Hid (∀ i, i < m → N i ≤ 65536)) (w : World)
    (hi : Hid (Strs w ai n S)) (hl : Hid (Lists w ac m A N K C)) :
    Calls Try.prog 8 #[.slice ai n cap, .slice ac m cap2] w fun e w' => (e = .returned (.bool false) ∨ (e = .returned (.bool true) ∧ n = m ∧ Hid (∀ i j, i < j → j < n → S i ≠ S j))) ∧ Hid (Below w.heap.size w w') := by
  by_cases hnm : n = m
  · subst hnm
    go_enter Try.func8, Try.ntmps8
    go_wp2_with fail
    refine (distinct_any _ _ _ S hn _ hi).mono ?_
    rintro e w2 ⟨he, hb⟩
    rcases he with rfl | ⟨rfl, hd⟩
    · go_wp2
      go_ret
      exact ⟨.inl rfl, hb⟩
    · have hl2 : Hid (Lists w2 ac n A N K C) := hl.out.later hb.out
      go_wp2_with fail
      refine (allAscending_any _ _ _ A N K C hm hN _ hl2).mono ?_
      rintro e w3 ⟨he, d, rfl⟩
      have hb3 : Hid (Below w.heap.size w (w2.drewN d)) := below_drewN hb.out d
      rcases he.out with rfl | rfl
      · clear he
        go_wp2
        go_ret
        exact ⟨.inl rfl, hb3⟩
      · clear he
        go_wp2
        go_ret
        exact ⟨.inr ⟨rfl, trivial, hd⟩, hb3⟩
  · have hne : ((n : Int) == (m : Int)) = false := by simp; omega
    go_enter Try.func8, Try.ntmps8
    go_wp2
    go_ret
    exact ⟨.inl rfl, Below.refl _ _⟩
end Go.Proofs.Qxb6609083a

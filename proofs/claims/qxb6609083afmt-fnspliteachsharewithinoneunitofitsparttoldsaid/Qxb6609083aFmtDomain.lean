/-
  THE WALKS of seat b6609083aF: zzBytes_.., splitDomain.
-/
import Derived.Test.Qxb6609083aFmtNext
namespace Go.Proofs.Qxb6609083aFmt
open Go.RowKit Pl

/-- The first k parts added up (each below zero counts as zero: none is, where it matters). -/
def sumN (zs : List Int) : Nat → Nat
  | 0 => 0
  | k + 1 => sumN zs k + (zs.getD k 0).toNat
theorem sumN_mono (zs : List Int) : ∀ {i j : Nat}, i ≤ j → sumN zs i ≤ sumN zs j := by
  intro i j h
  induction j with
  | zero => obtain rfl : i = 0 := by omega
            exact Nat.le_refl _
  | succ j ih =>
    by_cases e : i = j + 1
    · subst e; exact Nat.le_refl _
    · have := ih (by omega)
      show _ ≤ sumN zs j + _
      omega
/-- The law's own premise. -/
structure Dom (r : Int) (b c : Nat) (zs : List Int) (n : Nat) : Prop where
  mode : r = 1 ∨ r = 2 ∨ r = 3
  cpos : 0 < c
  parts : ∀ i, i < n → 0 ≤ zs.getD i 0
  total : sumN zs n < 9223372036854775808
  fits : sumN zs n * b / c < 9223372036854775807

set_option maxHeartbeats 400000 in
theorem zz5_yes (r b c : Int) (ao : Option Addr) (n cap : Nat) (hn : n ≤ 1048576) (w : World) :
    Calls Tryf.prog 5 #[.int .i64 r, .int .i64 b, .int .i64 c, .slice ao n cap] w fun e w' => e = .returned (.bool true) ∧ w' = w := by
  have h1 : (n : Int) ≤ 1048576 := by omega
  go_enter Tryf.func5, Tryf.ntmps5
  go_wp2
  go_ret
  exact ⟨rfl, rfl⟩
set_option maxHeartbeats 400000 in
theorem zz5_no (r b c : Int) (ao : Option Addr) (n cap : Nat) (hn : 1048576 < n) (w : World) :
    Calls Tryf.prog 5 #[.int .i64 r, .int .i64 b, .int .i64 c, .slice ao n cap] w fun e w' => e = .returned (.bool false) ∧ w' = w := by
  have h1 : 1048576 < (n : Int) := by omega
  go_enter Tryf.func5, Tryf.ntmps5
  go_wp2
  go_ret
  exact ⟨rfl, rfl⟩
set_option maxHeartbeats 400000 in
theorem zz10_yes (r b c : Int) (ao : Option Addr) (n cap : Nat) (hn : n ≤ 1048576) (w : World) :
    Calls Tryf.prog 10 #[.int .i64 r, .int .i64 b, .int .i64 c, .slice ao n cap] w fun e w' => e = .returned (.bool true) ∧ w' = w := by
  have h1 : (n : Int) ≤ 1048576 := by omega
  go_enter Tryf.func10, Tryf.ntmps10
  go_wp2
  go_ret
  exact ⟨rfl, rfl⟩
set_option maxHeartbeats 400000 in
theorem zz10_no (r b c : Int) (ao : Option Addr) (n cap : Nat) (hn : 1048576 < n) (w : World) :
    Calls Tryf.prog 10 #[.int .i64 r, .int .i64 b, .int .i64 c, .slice ao n cap] w fun e w' => e = .returned (.bool false) ∧ w' = w := by
  have h1 : 1048576 < (n : Int) := by omega
  go_enter Tryf.func10, Tryf.ntmps10
  go_wp2
  go_ret
  exact ⟨rfl, rfl⟩

/-- splitDomain, out of the numbers' ranges. -/
def Off (r b c : Int) : Prop := r < 1 ∨ 3 < r ∨ b < 0 ∨ c ≤ 0
set_option maxHeartbeats 1000000 in
theorem dom_off (r b c : Int) (ao : Option Addr) (n cap : Nat) (h : Off r b c) (w : World) :
    Calls Tryf.prog 6 #[.int .i64 r, .int .i64 b, .int .i64 c, .slice ao n cap] w fun e w' => e = .returned (.bool false) ∧ w' = w := by
  unfold Off at h
  by_cases h1 : r < 1
  · clear h
    go_enter Tryf.func6, Tryf.ntmps6
    go_wp2
    go_ret
    exact ⟨rfl, rfl⟩
  · by_cases h2 : 3 < r
    · clear h
      go_enter Tryf.func6, Tryf.ntmps6
      go_wp2
      go_ret
      exact ⟨rfl, rfl⟩
    · by_cases h3 : b < 0
      · clear h
        go_enter Tryf.func6, Tryf.ntmps6
        go_wp2
        go_ret
        exact ⟨rfl, rfl⟩
      · have h4 : c ≤ 0 := by omega
        clear h
        go_enter Tryf.func6, Tryf.ntmps6
        go_wp2
        go_ret
        exact ⟨rfl, rfl⟩

set_option maxHeartbeats 4000000 in
set_option maxRecDepth 100000 in
theorem dom_in (r : Int) (b c : Nat) (bk off n cap : Nat) (zs : List Int) (h1 : 1 ≤ r) (h3 : r ≤ 3) (hb : b < 9223372036854775808) (hc0 : 0 < c) (hc : c < 9223372036854775808) (hn : n ≤ 1048576)
    (w : World) (hcell : Hid (∀ i, i < n → w.cell? ⟨bk, off + i, none⟩ = some (.int .i64 (zs.getD i 0)))) (hwf : Hid (∀ i, i < n → zs.getD i 0 ≤ 9223372036854775807)) :
    Calls Tryf.prog 6 #[.int .i64 r, .int .i64 b, .int .i64 c, .slice (some ⟨bk, off, none⟩) n cap] w fun e w' => ((e = .returned (.bool true) ∧ Dom r b c zs n) ∨ e = .returned (.bool false)) ∧ w' = w := by
  have hbi : 0 ≤ (b : Int) := by omega
  have hci : 0 < (c : Int) := by omega
  go_enter Tryf.func6, Tryf.ntmps6
  go_wp2
  go_loop [9, 10] (fun t i => ∃ k : Nat, k ≤ n ∧ i = .int .i64 k ∧ t = .int .i64 (sumN zs k : Nat) ∧ Hid (sumN zs k < 9223372036854775808 ∧ ∀ i, i < k → 0 ≤ zs.getD i 0)) (fun _ i => n - (intOf i).toNat)
  case atStart => exact ⟨0, Nat.zero_le _, rfl, rfl, ⟨by show 0 < _; omega, fun i hi => absurd hi (by omega)⟩⟩
  case round =>
    obtain ⟨k, hk, rfl, rfl, hS⟩ := hrel
    obtain ⟨T, hT⟩ : ∃ T, T = sumN zs k := ⟨_, rfl⟩
    have HT : Hid (T = sumN zs k) := hT
    rw [← hT] at hS ⊢
    clear hT
    by_cases hlt : k < n
    · obtain ⟨x, hx⟩ : ∃ x, x = zs.getD k 0 := ⟨_, rfl⟩
      have hcx : w.cell? ⟨bk, off + k, none⟩ = some (.int .i64 x) := by rw [hx]; exact hcell.out k hlt
      have hxm : x ≤ 9223372036854775807 := by rw [hx]; exact hwf.out k hlt
      have HX : Hid (x = zs.getD k 0) := hx
      have hTi : (T : Int) ≤ 9223372036854775807 := by have := hS.out.1; omega
      clear hx
      by_cases hneg : x < 0
      · go_wp2
        go_ret
        exact ⟨Or.inr rfl, rfl⟩
      · by_cases hov : 9223372036854775807 - (T : Int) < x
        · go_wp2
          go_ret
          exact ⟨Or.inr rfl, rfl⟩
        · have HN : Hid (T + x.toNat = sumN zs (k + 1)) := by unfold Hid; show _ = sumN zs k + _; rw [← HX.out, ← HT.out]
          have HR : Hid (sumN zs (k + 1) < 9223372036854775808 ∧ ∀ i, i < k + 1 → 0 ≤ zs.getD i 0) := by
            refine ⟨by rw [← HN.out]; omega, fun i hi => ?_⟩
            by_cases e : i = k
            · subst e; rw [← HX.out]; omega
            · exact hS.out.2 i (by omega)
          go_wp2
          go_round
          case rel => exact ⟨k + 1, by omega, by go_num, by rw [← HN.out]; congr 1; omega, HR.out⟩
          case measure => simp [intOf]; omega
    · have hr3 : r = 1 ∨ r = 2 ∨ r = 3 := by omega
      have HK : Hid (k = n) := by unfold Hid; omega
      have hTb := hS.out.1
      have HR3 : Hid (r = 1 ∨ r = 2 ∨ r = 3) := hr3
      clear hr3
      by_cases hfit : T * b / c < 9223372036854775807
      · have HFI : Hid (T * b / c < 9223372036854775807) := hfit
        have HD : Hid (Dom r b c zs n) := ⟨HR3.out, hc0, by have h := hS.out.2; rw [HK.out] at h; exact h, by have h := hTb; rw [HT.out, HK.out] at h; exact h, by have h := HFI.out; rw [HT.out, HK.out] at h; exact h⟩
        clear hfit
        go_wp2_with fail
        refine (figure_yes r T b c HR3.out hTb hb hc0 hc HFI.out _).mono ?_
        rintro e w' ⟨rfl, rfl⟩
        go_wp2
        go_ret
        exact ⟨Or.inl ⟨rfl, HD.out⟩, rfl⟩
      · have HFI : Hid (9223372036854775807 ≤ T * b / c) := by unfold Hid; omega
        clear hfit
        go_wp2_with fail
        refine (figure_no r T b c hTb hb hc0 hc HFI.out _).mono ?_
        rintro e w' ⟨rfl, rfl⟩
        go_wp2
        go_ret
        exact ⟨Or.inr rfl, rfl⟩
end Go.Proofs.Qxb6609083aFmt

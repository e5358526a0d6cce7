/-
  THE WALK of seat b6609083aF's FnSplitSharesSoFarAddToTheirRoundedFigure.
-/
import Derived.Test.Qxb6609083aFmtRound
namespace Go.Proofs.Qxb6609083aFmt
open Go.RowKit Pl

set_option maxHeartbeats 4000000 in
set_option maxRecDepth 100000 in
/-- Under the premise. -/
theorem sofar_dom (r : Int) (b c : Nat) (bk off n cap : Nat) (zs : List Int) (h1 : 1 ≤ r) (h3 : r ≤ 3) (hb : b < 9223372036854775808) (hc0 : 0 < c) (hc : c < 9223372036854775808) (hn : n ≤ 131072)
    (w : World) (hcell : Hid (∀ i, i < n → w.cell? ⟨bk, off + i, none⟩ = some (.int .i64 (zs.getD i 0)))) (hwf : Hid (∀ i, i < n → zs.getD i 0 ≤ 9223372036854775807)) (hbk : bk < w.heap.size) :
    Calls Tryf.prog 3 #[.int .i64 r, .int .i64 b, .int .i64 c, .slice (some ⟨bk, off, none⟩) n cap] w fun e w' => e = .returned (.bool true) ∧ Below w.heap.size w w' := by
  have hbi : 0 ≤ (b : Int) := by omega
  have hci : 0 < (c : Int) := by omega
  have hni : (n : Int) ≤ 131072 := by omega
  go_enter Tryf.func3, Tryf.ntmps3
  go_wp2_with fail
  refine (zz5_yes _ _ _ _ _ _ (by omega) _).mono ?_
  rintro e w' ⟨rfl, rfl⟩
  go_wp2_with fail
  refine (dom_in r b c bk off n cap zs h1 h3 hb hc0 hc (by omega) _ hcell hwf).mono ?_
  rintro e w' ⟨he, rfl⟩
  rcases he with ⟨rfl, hD⟩ | rfl
  · have HD : Hid (Dom r b c zs n) := hD
    clear hD
    go_wp2_with fail
    refine (new_any _ _ _ _).mono ?_
    rintro e w2 ⟨rfl, rfl⟩
    have R0 : Hid ((w'.alloc (.cells #[.int .i64 r, .int .i64 b, .int .i64 c, .int .i64 0, .int .i64 0] 36)).rowIs w'.heap.size 36 5 (sp r b c 0 0)) := sp_new w' r b c
    have B0 : Hid (Below w'.heap.size w' (w'.alloc (.cells #[.int .i64 r, .int .i64 b, .int .i64 c, .int .i64 0, .int .i64 0] 36))) := (Below.refl _ _).alloc (Nat.le_refl _) _
    go_wp2
    go_loopw [10, 11, 12, 13, 14] (fun s t i _ _ wr => ∃ k : Nat, k ≤ n ∧ i = .int .i64 k ∧ s = .int .i64 (fig r (sumN zs k * b) c : Nat) ∧ t = .int .i64 (sumN zs k : Nat) ∧ Hid (wr.rowIs w'.heap.size 36 5 (sp r b c (sumN zs k : Nat) (fig r (sumN zs k * b) c : Nat))) ∧ Hid (Below w'.heap.size w' wr)) (fun _ _ i _ _ _ => n - (intOf i).toNat)
    case atStart => exact ⟨0, Nat.zero_le _, rfl, by rw [show sumN zs 0 = 0 from rfl, fig_zero r b c hc0]; rfl, rfl, by unfold Hid; rw [show sumN zs 0 = 0 from rfl, fig_zero r b c hc0]; exact R0.out, B0.out⟩
    case round =>
      obtain ⟨k, hk, rfl, rfl, rfl, hrow, hbel⟩ := hrel
      by_cases hlt : k < n
      · have hp0 := HD.out.parts k hlt
        have hS := HD.out.at (k := k) hk
        have hS1 := HD.out.at (k := k + 1) hlt
        have hcx0 := (hbel.out.cell (p := ⟨bk, off + k, none⟩) hbk).trans (hcell.out k hlt)
        obtain ⟨p, hp⟩ : ∃ p : Nat, zs.getD k 0 = (p : Int) := ⟨(zs.getD k 0).toNat, by omega⟩
        have hsucc : sumN zs (k + 1) = sumN zs k + p := by show sumN zs k + (zs.getD k 0).toNat = _; rw [hp]; rfl
        rw [hsucc] at hS1
        rw [hp] at hcx0
        obtain ⟨T, hT⟩ : ∃ T, T = sumN zs k := ⟨_, rfl⟩
        rw [← hT] at hS hS1 hsucc hrow ⊢
        obtain ⟨G, hG⟩ : ∃ G, G = fig r (T * b) c := ⟨_, rfl⟩
        rw [← hG] at hS hrow ⊢
        obtain ⟨G', hG'⟩ : ∃ G', G' = fig r ((T + p) * b) c := ⟨_, rfl⟩
        rw [← hG'] at hS1
        have hGG : G ≤ G' := by rw [hG, hG']; exact fig_mono r c (Nat.mul_le_mul_right b (by omega))
        have HE : Hid (sumN zs (k + 1) = T + p ∧ fig r (sumN zs (k + 1) * b) c = G') := ⟨hsucc, by rw [hsucc, hG']⟩
        have HFI : Hid ((T + p) * b / c < 9223372036854775807) := hS1.2.1
        have HF : Hid (G' = fig r ((T + p) * b) c) := hG'
        have hTb : (T : Int) + (p : Int) ≤ 9223372036854775807 := by omega
        have hTn : T + p < 9223372036854775808 := hS1.1
        have hGn : G' < 9223372036854775808 := hS1.2.2
        have hGb : (G' : Int) ≤ 9223372036854775807 := by omega
        have hGGi : (G : Int) ≤ (G' : Int) := by omega
        have hsum : (G : Int) + ((G' : Int) - (G : Int)) = (G' : Int) := by omega
        have hcx : wr.cell? ⟨bk, off + k, none⟩ = some (.int .i64 (p : Int)) := hcx0
        have hm3 : Hid (r = 1 ∨ r = 2 ∨ r = 3) := HD.out.mode
        clear hcx0 hp hp0 hS hS1 hsucc hT hG hG'
        go_wp2_with fail
        refine (zznext r b c T G p G' _ hm3.out hTn hb hc0 hc HFI.out HF.out hGn hGG _ hrow.out).mono ?_
        rintro e w3 ⟨rfl, hrow3, hbel3⟩
        have HR3 : Hid _ := hrow3
        have HB3 : Hid (Below w'.heap.size w' w3) := hbel3 _ _ (Nat.le_refl _) hbel.out
        have hcx3 : w3.cell? ⟨bk, off + k, none⟩ = some (.int .i64 (p : Int)) := ((HB3.out.cell (p := ⟨bk, off + k, none⟩) hbk).trans ((hbel.out.cell (p := ⟨bk, off + k, none⟩) hbk).symm.trans hcx))
        clear hrow3 hbel3 hrow hcx hbel
        have C2 : Hid (∀ W, Calls Tryf.prog 9 #[.int .i64 r, .int .i64 ((T : Int) + (p : Int)), .int .i64 b, .int .i64 c] W fun e w' => e = .returned (.tuple #[.int .i64 G', .bool true]) ∧ w' = W) := fun W => by
          have h := figure_yes r (T + p) b c hm3.out hTn hb hc0 hc HFI.out W
          rw [← HF.out, Int.natCast_add] at h
          exact h
        go_wp2_with fail
        refine (C2.out _).mono ?_
        rintro e w4 ⟨rfl, rfl⟩
        go_wp2
        go_roundw
        case rel => exact ⟨k + 1, by omega, by go_num, by rw [HE.out.2], by rw [HE.out.1]; go_num, by unfold Hid; rw [HE.out.2, HE.out.1]; exact HR3.out, HB3.out⟩
        case measure => simp [intOf]; omega
      · go_wp2
        go_ret
        exact ⟨rfl, hbel.out⟩
  · go_wp2
    go_ret
    exact ⟨rfl, Below.refl _ _⟩

set_option maxHeartbeats 1000000 in
set_option maxRecDepth 100000 in
/-- splitDomain at no parts. -/
theorem dom_none (r : Int) (b c : Nat) (ao : Option Addr) (cap : Nat) (h1 : 1 ≤ r) (h3 : r ≤ 3) (hb : b < 9223372036854775808) (hc0 : 0 < c) (hc : c < 9223372036854775808) (w : World) :
    Calls Tryf.prog 6 #[.int .i64 r, .int .i64 b, .int .i64 c, .slice ao 0 cap] w fun e w' => e = .returned (.bool true) ∧ w' = w := by
  have hbi : 0 ≤ (b : Int) := by omega
  have hci : 0 < (c : Int) := by omega
  have HFI : Hid (0 * b / c < 9223372036854775807) := by unfold Hid; rw [Nat.zero_mul, Nat.zero_div]; omega
  have HR3 : Hid (r = 1 ∨ r = 2 ∨ r = 3) := by unfold Hid; omega
  go_enter Tryf.func6, Tryf.ntmps6
  go_wp2
  go_loop [9, 10] (fun t i => i = .int .i64 0 ∧ t = .int .i64 0) (fun _ _ => 0)
  case atStart => exact ⟨rfl, rfl⟩
  case round =>
    obtain ⟨rfl, rfl⟩ := hrel
    go_wp2_with fail
    refine (figure_yes r 0 b c HR3.out (by omega) hb hc0 hc HFI.out _).mono ?_
    rintro e w' ⟨rfl, rfl⟩
    go_wp2
    go_ret
    exact ⟨rfl, rfl⟩

set_option maxHeartbeats 1000000 in
theorem sofar_none (r : Int) (b c : Nat) (ao : Option Addr) (cap : Nat) (h1 : 1 ≤ r) (h3 : r ≤ 3) (hb : b < 9223372036854775808) (hc0 : 0 < c) (hc : c < 9223372036854775808) (w : World) :
    Calls Tryf.prog 3 #[.int .i64 r, .int .i64 b, .int .i64 c, .slice ao 0 cap] w fun e w' => e = .returned (.bool true) ∧ Below w.heap.size w w' := by
  go_enter Tryf.func3, Tryf.ntmps3
  go_wp2_with fail
  refine (zz5_yes _ _ _ _ _ _ (by omega) _).mono ?_
  rintro e w' ⟨rfl, rfl⟩
  go_wp2_with fail
  refine (dom_none r b c ao cap h1 h3 hb hc0 hc _).mono ?_
  rintro e w' ⟨rfl, rfl⟩
  go_wp2_with fail
  refine (new_any _ _ _ _).mono ?_
  rintro e w2 ⟨rfl, rfl⟩
  go_wp2
  go_loop [10, 11, 12, 13, 14] (fun _ _ i _ _ => i = .int .i64 0) (fun _ _ _ _ _ => 0)
  case atStart => rfl
  case round =>
    obtain rfl := hrel
    go_wp2
    go_ret
    exact ⟨rfl, (Below.refl _ _).alloc (Nat.le_refl _) _⟩

set_option maxHeartbeats 1000000 in
theorem sofar_off (r b c : Int) (ao : Option Addr) (n cap : Nat) (h : Off r b c) (hn : n ≤ 131072) (w : World) :
    Calls Tryf.prog 3 #[.int .i64 r, .int .i64 b, .int .i64 c, .slice ao n cap] w fun e w' => e = .returned (.bool true) ∧ Below w.heap.size w w' := by
  have hni : (n : Int) ≤ 131072 := by omega
  go_enter Tryf.func3, Tryf.ntmps3
  go_wp2_with fail
  refine (zz5_yes _ _ _ _ _ _ (by omega) _).mono ?_
  rintro e w' ⟨rfl, rfl⟩
  go_wp2_with fail
  refine (dom_off r b c ao n cap h _).mono ?_
  rintro e w' ⟨rfl, rfl⟩
  go_wp2
  go_ret
  exact ⟨rfl, Below.refl _ _⟩
set_option maxHeartbeats 1000000 in
theorem sofar_long (r b c : Int) (ao : Option Addr) (n cap : Nat) (hn : 131072 < n) (w : World) :
    Calls Tryf.prog 3 #[.int .i64 r, .int .i64 b, .int .i64 c, .slice ao n cap] w fun e w' => e = .returned (.bool true) ∧ Below w.heap.size w w' := by
  have hni : 131072 < (n : Int) := by omega
  by_cases h2 : n ≤ 1048576
  · go_enter Tryf.func3, Tryf.ntmps3
    go_wp2_with fail
    refine (zz5_yes _ _ _ _ _ _ h2 _).mono ?_
    rintro e w' ⟨rfl, rfl⟩
    go_wp2
    go_ret
    exact ⟨rfl, Below.refl _ _⟩
  · go_enter Tryf.func3, Tryf.ntmps3
    go_wp2_with fail
    refine (zz5_no _ _ _ _ _ _ (by omega) _).mono ?_
    rintro e w' ⟨rfl, rfl⟩
    go_wp2
    go_ret
    exact ⟨rfl, Below.refl _ _⟩

/-- ████ FnSplitSharesSoFarAddToTheirRoundedFigure: true, at every input: no element ████ -/
theorem sofar_empty (r b c : Int) (ao : Option Addr) (cap : Nat) (hb : b ≤ 9223372036854775807) (hc : c ≤ 9223372036854775807) (w : World) :
    Calls Tryf.prog 3 #[.int .i64 r, .int .i64 b, .int .i64 c, .slice ao 0 cap] w fun e w' => e = .returned (.bool true) ∧ Below w.heap.size w w' := by
  by_cases h : Off r b c
  · exact sofar_off r b c ao 0 cap h (by omega) w
  · unfold Off at h
    obtain ⟨bn, rfl⟩ : ∃ bn : Nat, b = (bn : Int) := ⟨b.toNat, by omega⟩
    obtain ⟨cn, rfl⟩ : ∃ cn : Nat, c = (cn : Int) := ⟨c.toNat, by omega⟩
    exact sofar_none r bn cn ao cap (by omega) (by omega) (by omega) (by omega) (by omega) w
/-- ████ .. and at least one ████ -/
theorem sofar_some (r b c : Int) (bk off n cap : Nat) (zs : List Int) (hb : b ≤ 9223372036854775807) (hc : c ≤ 9223372036854775807) (w : World)
    (hcell : ∀ i, i < n → w.cell? ⟨bk, off + i, none⟩ = some (.int .i64 (zs.getD i 0))) (hwf : ∀ i, i < n → zs.getD i 0 ≤ 9223372036854775807) (hbk : bk < w.heap.size) :
    Calls Tryf.prog 3 #[.int .i64 r, .int .i64 b, .int .i64 c, .slice (some ⟨bk, off, none⟩) n cap] w fun e w' => e = .returned (.bool true) ∧ Below w.heap.size w w' := by
  by_cases hn : n ≤ 131072
  · by_cases h : Off r b c
    · exact sofar_off r b c _ n cap h hn w
    · unfold Off at h
      obtain ⟨bn, rfl⟩ : ∃ bn : Nat, b = (bn : Int) := ⟨b.toNat, by omega⟩
      obtain ⟨cn, rfl⟩ : ∃ cn : Nat, c = (cn : Int) := ⟨c.toNat, by omega⟩
      exact sofar_dom r bn cn bk off n cap zs (by omega) (by omega) (by omega) (by omega) (by omega) hn w hcell hwf hbk
  · exact sofar_long r b c _ n cap (by omega) w
end Go.Proofs.Qxb6609083aFmt

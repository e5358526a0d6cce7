/-
  THE WALK of seat b6609083aF's FnSplitEachShareWithinOneUnitOfItsPart.
-/
import Derived.Test.Qxb6609083aFmtSoFar
namespace Go.Proofs.Qxb6609083aFmt
open Go.RowKit Pl

/-- The law's comparison of two 128-bit numbers, where the first is the less. -/
theorem less_true (ah al bh bl : Nat) (hal : al < 18446744073709551616) (hbl : bl < 18446744073709551616) (h : ah * 18446744073709551616 + al < bh * 18446744073709551616 + bl) (w : World) :
    Calls Tryf.prog 13 #[.int .u64 ah, .int .u64 al, .int .u64 bh, .int .u64 bl] w fun e w' => e = .returned (.bool true) ∧ w' = w := by
  have hd : decide ((ah : Int) < (bh : Int) ∨ ((ah : Int) = (bh : Int) ∧ (al : Int) < (bl : Int))) = true := decide_eq_true (by omega)
  have h := less128_any ah al bh bl w
  rw [hd] at h
  exact h

set_option maxHeartbeats 8000000 in
set_option maxRecDepth 100000 in
/-- Under the premise. -/
theorem each_dom (r : Int) (b c : Nat) (bk off n cap : Nat) (zs : List Int) (h1 : 1 ≤ r) (h3 : r ≤ 3) (hb : b < 9223372036854775808) (hc0 : 0 < c) (hc : c < 9223372036854775808) (hn : n ≤ 131072)
    (w : World) (hcell : Hid (∀ i, i < n → w.cell? ⟨bk, off + i, none⟩ = some (.int .i64 (zs.getD i 0)))) (hwf : Hid (∀ i, i < n → zs.getD i 0 ≤ 9223372036854775807)) (hbk : bk < w.heap.size) :
    Calls Tryf.prog 4 #[.int .i64 r, .int .i64 b, .int .i64 c, .slice (some ⟨bk, off, none⟩) n cap] w fun e w' => e = .returned (.bool true) ∧ Below w.heap.size w w' := by
  have hbi : (b : Int) ≤ 9223372036854775807 := by omega
  have hci : (c : Int) ≤ 9223372036854775807 := by omega
  have hni : (n : Int) ≤ 131072 := by omega
  go_enter Tryf.func4, Tryf.ntmps4
  go_wp2_with fail
  refine (zz10_yes _ _ _ _ _ _ (by omega) _).mono ?_
  rintro e w' ⟨rfl, rfl⟩
  go_wp2_with fail
  refine (dom_in r b c bk off n cap zs h1 h3 hb hc0 hc (by omega) _ hcell hwf).mono ?_
  rintro e w' ⟨he, rfl⟩
  rcases he with ⟨rfl, hD⟩ | rfl
  · have HD : Hid (Dom r b c zs n) := hD
    clear hD
    go_wp2_with fail
    refine (new_any _ _ _ _).mono ?_
    rintro e w2 ⟨rfl, rfl⟩
    have R0 : Hid ((w'.alloc (.cells #[.int .i64 r, .int .i64 b, .int .i64 c, .int .i64 0, .int .i64 0] 36)).rowIs w'.heap.size 36 5 (sp r b c 0 0)) := sp_new w' r b c
    have B0 : Hid (Below w'.heap.size w' (w'.alloc (.cells #[.int .i64 r, .int .i64 b, .int .i64 c, .int .i64 0, .int .i64 0] 36))) := (Below.refl _ _).alloc (Nat.le_refl _) _
    go_wp2
    go_loopw [10, 11, 12, 13, 14, 15, 16, 17, 18, 19, 20] (fun i _ _ _ _ _ _ _ _ _ _ wr => ∃ k : Nat, k ≤ n ∧ i = .int .i64 k ∧ Hid (wr.rowIs w'.heap.size 36 5 (sp r b c (sumN zs k : Nat) (fig r (sumN zs k * b) c : Nat))) ∧ Hid (Below w'.heap.size w' wr)) (fun i _ _ _ _ _ _ _ _ _ _ _ => n - (intOf i).toNat)
    case atStart => exact ⟨0, Nat.zero_le _, rfl, by unfold Hid; rw [show sumN zs 0 = 0 from rfl, fig_zero r b c hc0]; exact R0.out, B0.out⟩
    case round =>
      obtain ⟨k, hk, rfl, hrow, hbel⟩ := hrel
      by_cases hlt : k < n
      · have hp0 := HD.out.parts k hlt
        have hS := HD.out.at (k := k) hk
        have hS1 := HD.out.at (k := k + 1) hlt
        have hcx0 := (hbel.out.cell (p := ⟨bk, off + k, none⟩) hbk).trans (hcell.out k hlt)
        obtain ⟨p, hp⟩ : ∃ p : Nat, zs.getD k 0 = (p : Int) := ⟨(zs.getD k 0).toNat, by omega⟩
        have hsucc : sumN zs (k + 1) = sumN zs k + p := by show sumN zs k + (zs.getD k 0).toNat = _; rw [hp]; rfl
        rw [hsucc] at hS1
        rw [hp] at hcx0
        obtain ⟨T, hT⟩ : ∃ T, T = sumN zs k := ⟨_, rfl⟩
        rw [← hT] at hS hS1 hsucc hrow
        obtain ⟨G, hG⟩ : ∃ G, G = fig r (T * b) c := ⟨_, rfl⟩
        rw [← hG] at hS hrow
        obtain ⟨G', hG'⟩ : ∃ G', G' = fig r ((T + p) * b) c := ⟨_, rfl⟩
        rw [← hG'] at hS1
        have hGG : G ≤ G' := by rw [hG, hG']; exact fig_mono r c (Nat.mul_le_mul_right b (by omega))
        have HE : Hid (sumN zs (k + 1) = T + p ∧ fig r (sumN zs (k + 1) * b) c = G') := ⟨hsucc, by rw [hsucc, hG']⟩
        have HFI : Hid ((T + p) * b / c < 9223372036854775807) := hS1.2.1
        have HF : Hid (G' = fig r ((T + p) * b) c) := hG'
        have hTn : T + p < 9223372036854775808 := hS1.1
        have hGn : G' < 9223372036854775808 := hS1.2.2
        have hm3 : Hid (r = 1 ∨ r = 2 ∨ r = 3) := HD.out.mode
        obtain ⟨S, hSd⟩ : ∃ S, S = G' - G := ⟨_, rfl⟩
        have hSe : (G' : Int) - (G : Int) = (S : Int) := by omega
        have hSb : (S : Int) ≤ 9223372036854775807 := by omega
        have hpb : (p : Int) ≤ 9223372036854775807 := by omega
        have hSn : S < 9223372036854775808 := by omega
        have hpn : p < 9223372036854775808 := by omega
        have HNEAR : Hid (S * c < p * b + c ∧ p * b < S * c + c) := by
          unfold Hid
          have h := share_near r (T * b) (p * b) c hm3.out hc0
          rw [← Nat.add_mul, ← hG', ← hG, ← hSd] at h
          exact h
        have hcx : wr.cell? ⟨bk, off + k, none⟩ = some (.int .i64 (p : Int)) := hcx0
        clear hcx0 hp hp0 hS hS1 hsucc hT hG hG' hSd
        go_wp2_with fail
        refine (zznext r b c T G p G' _ hm3.out hTn hb hc0 hc HFI.out HF.out hGn hGG _ hrow.out).mono ?_
        rw [hSe]
        rintro e w3 ⟨rfl, hrow3, hbel3⟩
        have HR3 : Hid _ := hrow3
        have HB3 : Hid (Below w'.heap.size w' w3) := hbel3 _ _ (Nat.le_refl _) hbel.out
        clear hrow3 hbel3 hrow hcx hbel hSe hGG
        go_wp2_with fail
        refine (mul128_any S c (by omega) (by omega) _).mono ?_
        rintro e w4 ⟨rfl, rfl⟩
        have ql1 : S * c % 18446744073709551616 < 18446744073709551616 := Nat.mod_lt _ (by omega)
        have qm1 : S * c ≤ 9223372036854775807 * 9223372036854775807 := Nat.mul_le_mul (by omega) (by omega)
        have qh1 : S * c / 18446744073709551616 < 9223372036854775808 := by omega
        have qe1 : Hid (S * c / 18446744073709551616 * 18446744073709551616 + S * c % 18446744073709551616 = S * c) := Nat.div_add_mod' _ _
        generalize S * c / 18446744073709551616 = Ah at qh1 qe1 ⊢
        generalize S * c % 18446744073709551616 = Al at ql1 qe1 ⊢
        have HA : Hid (Ah < 9223372036854775808 ∧ Al < 18446744073709551616) := ⟨qh1, ql1⟩
        clear ql1 qm1 qh1
        go_wp2_with fail
        refine (mul128_any p b (by omega) (by omega) _).mono ?_
        rintro e w5 ⟨rfl, rfl⟩
        have ql2 : p * b % 18446744073709551616 < 18446744073709551616 := Nat.mod_lt _ (by omega)
        have qm2 : p * b ≤ 9223372036854775807 * 9223372036854775807 := Nat.mul_le_mul (by omega) (by omega)
        have qh2 : p * b / 18446744073709551616 < 9223372036854775808 := by omega
        have qe2 : Hid (p * b / 18446744073709551616 * 18446744073709551616 + p * b % 18446744073709551616 = p * b) := Nat.div_add_mod' _ _
        generalize p * b / 18446744073709551616 = Bh at qh2 qe2 ⊢
        generalize p * b % 18446744073709551616 = Bl at ql2 qe2 ⊢
        have HBB : Hid (Bh < 9223372036854775808 ∧ Bl < 18446744073709551616) := ⟨qh2, ql2⟩
        clear ql2 qm2 qh2
        go_wp2_with fail
        refine (add128_any Bh Bl c HBB.out.1 HBB.out.2 (by omega) _).mono ?_
        rintro e w6 ⟨rfl, rfl⟩
        have ql3 : (Bh * 18446744073709551616 + Bl + c) % 18446744073709551616 < 18446744073709551616 := Nat.mod_lt _ (by omega)
        have qe3 : Hid ((Bh * 18446744073709551616 + Bl + c) / 18446744073709551616 * 18446744073709551616 + (Bh * 18446744073709551616 + Bl + c) % 18446744073709551616 = Bh * 18446744073709551616 + Bl + c) := Nat.div_add_mod' _ _
        generalize (Bh * 18446744073709551616 + Bl + c) / 18446744073709551616 = Ch at qe3 ⊢
        generalize (Bh * 18446744073709551616 + Bl + c) % 18446744073709551616 = Cl at ql3 qe3 ⊢
        have HCC : Hid (Cl < 18446744073709551616) := ql3
        clear ql3
        go_wp2_with fail
        refine (add128_any Ah Al c HA.out.1 HA.out.2 (by omega) _).mono ?_
        rintro e w7 ⟨rfl, rfl⟩
        have ql4 : (Ah * 18446744073709551616 + Al + c) % 18446744073709551616 < 18446744073709551616 := Nat.mod_lt _ (by omega)
        have qe4 : Hid ((Ah * 18446744073709551616 + Al + c) / 18446744073709551616 * 18446744073709551616 + (Ah * 18446744073709551616 + Al + c) % 18446744073709551616 = Ah * 18446744073709551616 + Al + c) := Nat.div_add_mod' _ _
        generalize (Ah * 18446744073709551616 + Al + c) / 18446744073709551616 = Dh at qe4 ⊢
        generalize (Ah * 18446744073709551616 + Al + c) % 18446744073709551616 = Dl at ql4 qe4 ⊢
        have HDD : Hid (Dl < 18446744073709551616) := ql4
        clear ql4
        go_wp2_with fail
        refine (less_true Ah Al Ch Cl HA.out.2 HCC.out (by have h1 := qe1.out; have h2 := qe2.out; have h3 := qe3.out; have h4 := HNEAR.out; omega) _).mono ?_
        rintro e w8 ⟨rfl, rfl⟩
        go_wp2_with fail
        refine (less_true Bh Bl Dh Dl HBB.out.2 HDD.out (by have h1 := qe1.out; have h2 := qe2.out; have h3 := qe4.out; have h4 := HNEAR.out; omega) _).mono ?_
        rintro e w9 ⟨rfl, rfl⟩
        go_wp2
        go_roundw
        case rel => exact ⟨k + 1, by omega, by go_num, by unfold Hid; rw [HE.out.2, HE.out.1]; exact HR3.out, HB3.out⟩
        case measure => simp [intOf]; omega
      · go_wp2
        go_ret
        exact ⟨rfl, hbel.out⟩
  · go_wp2
    go_ret
    exact ⟨rfl, Below.refl _ _⟩

set_option maxHeartbeats 1000000 in
theorem each_none (r : Int) (b c : Nat) (ao : Option Addr) (cap : Nat) (h1 : 1 ≤ r) (h3 : r ≤ 3) (hb : b < 9223372036854775808) (hc0 : 0 < c) (hc : c < 9223372036854775808) (w : World) :
    Calls Tryf.prog 4 #[.int .i64 r, .int .i64 b, .int .i64 c, .slice ao 0 cap] w fun e w' => e = .returned (.bool true) ∧ Below w.heap.size w w' := by
  go_enter Tryf.func4, Tryf.ntmps4
  go_wp2_with fail
  refine (zz10_yes _ _ _ _ _ _ (by omega) _).mono ?_
  rintro e w' ⟨rfl, rfl⟩
  go_wp2_with fail
  refine (dom_none r b c ao cap h1 h3 hb hc0 hc _).mono ?_
  rintro e w' ⟨rfl, rfl⟩
  go_wp2_with fail
  refine (new_any _ _ _ _).mono ?_
  rintro e w2 ⟨rfl, rfl⟩
  go_wp2
  go_loop [10, 11, 12, 13, 14, 15, 16, 17, 18, 19, 20] (fun i _ _ _ _ _ _ _ _ _ _ => i = .int .i64 0) (fun _ _ _ _ _ _ _ _ _ _ _ => 0)
  case atStart => rfl
  case round =>
    obtain rfl := hrel
    go_wp2
    go_ret
    exact ⟨rfl, (Below.refl _ _).alloc (Nat.le_refl _) _⟩

set_option maxHeartbeats 1000000 in
theorem each_off (r b c : Int) (ao : Option Addr) (n cap : Nat) (h : Off r b c) (hn : n ≤ 131072) (w : World) :
    Calls Tryf.prog 4 #[.int .i64 r, .int .i64 b, .int .i64 c, .slice ao n cap] w fun e w' => e = .returned (.bool true) ∧ Below w.heap.size w w' := by
  have hni : (n : Int) ≤ 131072 := by omega
  go_enter Tryf.func4, Tryf.ntmps4
  go_wp2_with fail
  refine (zz10_yes _ _ _ _ _ _ (by omega) _).mono ?_
  rintro e w' ⟨rfl, rfl⟩
  go_wp2_with fail
  refine (dom_off r b c ao n cap h _).mono ?_
  rintro e w' ⟨rfl, rfl⟩
  go_wp2
  go_ret
  exact ⟨rfl, Below.refl _ _⟩
set_option maxHeartbeats 1000000 in
theorem each_long (r b c : Int) (ao : Option Addr) (n cap : Nat) (hn : 131072 < n) (w : World) :
    Calls Tryf.prog 4 #[.int .i64 r, .int .i64 b, .int .i64 c, .slice ao n cap] w fun e w' => e = .returned (.bool true) ∧ Below w.heap.size w w' := by
  have hni : 131072 < (n : Int) := by omega
  by_cases h2 : n ≤ 1048576
  · go_enter Tryf.func4, Tryf.ntmps4
    go_wp2_with fail
    refine (zz10_yes _ _ _ _ _ _ h2 _).mono ?_
    rintro e w' ⟨rfl, rfl⟩
    go_wp2
    go_ret
    exact ⟨rfl, Below.refl _ _⟩
  · go_enter Tryf.func4, Tryf.ntmps4
    go_wp2_with fail
    refine (zz10_no _ _ _ _ _ _ (by omega) _).mono ?_
    rintro e w' ⟨rfl, rfl⟩
    go_wp2
    go_ret
    exact ⟨rfl, Below.refl _ _⟩

/-- ████ FnSplitEachShareWithinOneUnitOfItsPart: true, at every input: no element ████ -/
theorem each_empty (r b c : Int) (ao : Option Addr) (cap : Nat) (hb : b ≤ 9223372036854775807) (hc : c ≤ 9223372036854775807) (w : World) :
    Calls Tryf.prog 4 #[.int .i64 r, .int .i64 b, .int .i64 c, .slice ao 0 cap] w fun e w' => e = .returned (.bool true) ∧ Below w.heap.size w w' := by
  by_cases h : Off r b c
  · exact each_off r b c ao 0 cap h (by omega) w
  · unfold Off at h
    obtain ⟨bn, rfl⟩ : ∃ bn : Nat, b = (bn : Int) := ⟨b.toNat, by omega⟩
    obtain ⟨cn, rfl⟩ : ∃ cn : Nat, c = (cn : Int) := ⟨c.toNat, by omega⟩
    exact each_none r bn cn ao cap (by omega) (by omega) (by omega) (by omega) (by omega) w
/-- ████ .. and at least one ████ -/
theorem each_some (r b c : Int) (bk off n cap : Nat) (zs : List Int) (hb : b ≤ 9223372036854775807) (hc : c ≤ 9223372036854775807) (w : World)
    (hcell : ∀ i, i < n → w.cell? ⟨bk, off + i, none⟩ = some (.int .i64 (zs.getD i 0))) (hwf : ∀ i, i < n → zs.getD i 0 ≤ 9223372036854775807) (hbk : bk < w.heap.size) :
    Calls Tryf.prog 4 #[.int .i64 r, .int .i64 b, .int .i64 c, .slice (some ⟨bk, off, none⟩) n cap] w fun e w' => e = .returned (.bool true) ∧ Below w.heap.size w w' := by
  by_cases hn : n ≤ 131072
  · by_cases h : Off r b c
    · exact each_off r b c _ n cap h hn w
    · unfold Off at h
      obtain ⟨bn, rfl⟩ : ∃ bn : Nat, b = (bn : Int) := ⟨b.toNat, by omega⟩
      obtain ⟨cn, rfl⟩ : ∃ cn : Nat, c = (cn : Int) := ⟨c.toNat, by omega⟩
      exact each_dom r bn cn bk off n cap zs (by omega) (by omega) (by omega) (by omega) (by omega) hn w hcell hwf hbk
  · exact each_long r b c _ n cap (by omega) w
end Go.Proofs.Qxb6609083aFmt

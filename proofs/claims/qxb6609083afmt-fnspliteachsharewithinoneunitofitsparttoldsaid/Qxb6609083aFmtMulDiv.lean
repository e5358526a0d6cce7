/-
  THE WALKS of seat b6609083aF: the program's own mulDiv, and next.
-/
import Derived.Test.Qxb6609083aFmtFigure
namespace Go.Proofs.Qxb6609083aFmt
open Go.RowKit Pl

set_option maxHeartbeats 2000000 in
set_option maxRecDepth 100000 in
/-- mulDiv, the figure fits. -/
theorem muldiv_yes (r : Int) (x b c : Nat) (hr : r = 1 ∨ r = 2 ∨ r = 3) (hx : x < 9223372036854775808) (hb : b < 9223372036854775808) (hc0 : 0 < c) (hc : c < 9223372036854775808) (hfit : Hid (x * b / c < 9223372036854775807)) (w : World) :
    Calls Tryf.prog 16 #[.int .i64 r, .int .i64 x, .int .i64 b, .int .i64 c] w fun e w' => e = .returned (.tuple #[.int .i64 (fig r (x * b) c : Nat), .bool true]) ∧ ∃ n, w' = w.drewN n := by
  have hxi : (x : Int) ≤ 9223372036854775807 := by omega
  have hbi : (b : Int) ≤ 9223372036854775807 := by omega
  have hci : (c : Int) ≤ 9223372036854775807 := by omega
  obtain ⟨F, hF⟩ : ∃ F, F = fig r (x * b) c := ⟨_, rfl⟩
  have HF : Hid (F = fig r (x * b) c) := hF
  rw [← hF]
  clear hF
  go_enter Tryf.func16, Tryf.ntmps16
  go_wp2_with fail
  refine (Tryf.bits_Mul64 x b (by omega) (by omega) _).mono ?_
  rintro e w' ⟨rfl, rfl⟩
  have hl : x * b % 18446744073709551616 < 18446744073709551616 := Nat.mod_lt _ (by omega)
  have hXe : Hid (x * b / 18446744073709551616 * 18446744073709551616 + x * b % 18446744073709551616 = x * b) := Nat.div_add_mod' _ _
  have hX := (Nat.div_lt_iff_lt_mul hc0).1 hfit.out
  have hh : x * b / 18446744073709551616 < c := by
    rw [Nat.div_lt_iff_lt_mul (by omega)]
    have := Nat.mul_le_mul_right c (show 9223372036854775807 ≤ 18446744073709551616 by omega)
    rw [Nat.mul_comm c]
    omega
  generalize x * b / 18446744073709551616 = H at hh hXe ⊢
  generalize x * b % 18446744073709551616 = L at hl hXe ⊢
  have HXb : Hid (L < 18446744073709551616) := hl
  clear hl hX
  go_wp2_with fail
  refine (div_any H L c hh HXb.out (by omega) _).mono ?_
  rintro e w2 ⟨rfl, n, rfl⟩
  rw [hXe.out]
  have hrc : x * b % c < c := Nat.mod_lt _ hc0
  have hff := hfit.out
  obtain ⟨ql, hqe⟩ : ∃ ql, ql = x * b / c := ⟨_, rfl⟩
  obtain ⟨rm, hrm⟩ : ∃ rm, rm = x * b % c := ⟨_, rfl⟩
  rw [← hqe] at hff ⊢
  rw [← hrm] at hrc ⊢
  have hge : decide ((9223372036854775807 : Int) ≤ (ql : Int)) = false := decide_eq_false (by omega)
  have hqi : (ql : Int) ≤ 9223372036854775806 := by omega
  obtain ⟨d, hd⟩ : ∃ d, d = c - rm := ⟨_, rfl⟩
  obtain ⟨q1, hq1⟩ : ∃ q1, q1 = ql + 1 := ⟨_, rfl⟩
  have ed : IntKind.u64.wrap ((c : Int) - (rm : Int)) = (d : Int) := by rw [IntKind.wrap_u64]; omega
  have eq1 : IntKind.u64.wrap ((ql : Int) + 1) = (q1 : Int) := by rw [IntKind.wrap_u64]; omega
  have hq1i : (q1 : Int) ≤ 9223372036854775807 := by omega
  have HQ : Hid (ql = x * b / c ∧ rm = x * b % c ∧ d = c - rm ∧ q1 = ql + 1) := ⟨hqe, hrm, hd, hq1⟩
  have HRC : Hid (rm < c) := hrc
  clear hrc hff hqe hd hq1 hrm
  have fin0 : Hid (ups r (x * b) c = false → F = ql) := fun h => by rw [HF.out, HQ.out.1]; unfold fig; rw [h]; rfl
  have fin1 : Hid (ups r (x * b) c = true → F = q1) := fun h => by rw [HF.out, HQ.out.2.2.2, HQ.out.1]; unfold fig; rw [h]; rfl
  rcases hr with rfl | rfl | rfl
  · by_cases hle : d ≤ rm
    · have HE : Hid (F = q1) := fin1.out (by unfold ups; rw [if_pos rfl]; apply decide_eq_true; rw [← HQ.out.2.1]; have h := HQ.out; have h2 := HRC.out; omega)
      clear fin0 fin1
      go_wp2
      go_ret2
      exact ⟨ret2_ib (by rw [HE.out]), _, rfl⟩
    · have HE : Hid (F = ql) := fin0.out (by unfold ups; rw [if_pos rfl]; apply decide_eq_false; rw [← HQ.out.2.1]; have h := HQ.out; have h2 := HRC.out; omega)
      clear fin0 fin1
      go_wp2
      go_ret2
      exact ⟨ret2_ib (by rw [HE.out]), _, rfl⟩
  · have HE : Hid (F = ql) := fin0.out (by unfold ups; rw [if_neg (by omega), if_neg (by omega)])
    clear fin0 fin1
    go_wp2
    go_ret2
    exact ⟨ret2_ib (by rw [HE.out]), _, rfl⟩
  · by_cases hle : 0 < rm
    · have HE : Hid (F = q1) := fin1.out (by unfold ups; rw [if_neg (by omega), if_pos rfl]; apply decide_eq_true; rw [← HQ.out.2.1]; exact hle)
      clear fin0 fin1
      go_wp2
      go_ret2
      exact ⟨ret2_ib (by rw [HE.out]), _, rfl⟩
    · have HE : Hid (F = ql) := fin0.out (by unfold ups; rw [if_neg (by omega), if_pos rfl]; apply decide_eq_false; rw [← HQ.out.2.1]; exact hle)
      clear fin0 fin1
      go_wp2
      go_ret2
      exact ⟨ret2_ib (by rw [HE.out]), _, rfl⟩
end Go.Proofs.Qxb6609083aFmt

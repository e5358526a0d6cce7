/-
  THE WALKS of seat b6609083aF: figureOf and mulDiv: a figure rounded by a mode.
-/
import Derived.Test.Qxb6609083aFmtLong
namespace Go.Proofs.Qxb6609083aFmt
open Go.RowKit Pl

/-- Whether mode r takes one more. -/
def ups (r : Int) (X c : Nat) : Bool := if r = 1 then decide (c ≤ 2 * (X % c)) else if r = 3 then decide (0 < X % c) else false
/-- X / c rounded by mode r: 1 half up, 2 truncates, 3 up. -/
def fig (r : Int) (X c : Nat) : Nat := X / c + (if ups r X c then 1 else 0)

theorem ret2_ib {k : IntKind} {a b : Int} {u : Bool} (h1 : a = b) : Ending.returned (.tuple #[.int k a, .bool u]) = .returned (.tuple #[.int k b, .bool u]) := by rw [h1]

set_option maxHeartbeats 2000000 in
set_option maxRecDepth 100000 in
/-- figureOf, the figure does not fit. -/
theorem figure_no (r : Int) (x b c : Nat) (hx : x < 9223372036854775808) (hb : b < 9223372036854775808) (hc0 : 0 < c) (hc : c < 9223372036854775808) (hbig : Hid (9223372036854775807 ≤ x * b / c)) (w : World) :
    Calls Tryf.prog 9 #[.int .i64 r, .int .i64 x, .int .i64 b, .int .i64 c] w fun e w' => e = .returned (.tuple #[.int .i64 0, .bool false]) ∧ w' = w := by
  have hxi : (x : Int) ≤ 9223372036854775807 := by omega
  have hbi : (b : Int) ≤ 9223372036854775807 := by omega
  have hci : (c : Int) ≤ 9223372036854775807 := by omega
  go_enter Tryf.func9, Tryf.ntmps9
  go_wp2_with fail
  refine (mul128_any x b (by omega) (by omega) _).mono ?_
  rintro e w' ⟨rfl, rfl⟩
  have hl : x * b % 18446744073709551616 < 18446744073709551616 := Nat.mod_lt _ (by omega)
  have hm : x * b ≤ 9223372036854775807 * 9223372036854775807 := Nat.mul_le_mul (by omega) (by omega)
  have hh : x * b / 18446744073709551616 < 18446744073709551616 := by omega
  have hXe : Hid (x * b / 18446744073709551616 * 18446744073709551616 + x * b % 18446744073709551616 = x * b) := Nat.div_add_mod' _ _
  generalize x * b / 18446744073709551616 = H at hh hXe ⊢
  generalize x * b % 18446744073709551616 = L at hl hXe ⊢
  have HXb : Hid (H < 18446744073709551616 ∧ L < 18446744073709551616) := ⟨hh, hl⟩
  clear hl hm hh
  go_wp2_with fail
  refine (long_any H L c HXb.out.1 HXb.out.2 hc0 hc _).mono ?_
  rintro e w2 ⟨qh, ql, rm, rfl, hL, rfl⟩
  have hq : qh * 18446744073709551616 + ql = x * b / c := by
    have h := hL.quo
    rw [hXe.out] at h
    simpa using h
  by_cases hz : qh = 0
  · have hz0 : ((qh : Int) != 0) = false := by simp [hz]
    have hge : decide ((9223372036854775807 : Int) ≤ (ql : Int)) = true := decide_eq_true (by have := hbig.out; omega)
    clear hq hz hL
    go_wp2
    go_ret2
    exact ⟨rfl, rfl⟩
  · have hz1 : ((qh : Int) != 0) = true := by simp [hz]
    clear hq hz hL
    go_wp2
    go_ret2
    exact ⟨rfl, rfl⟩

set_option maxHeartbeats 2000000 in
set_option maxRecDepth 100000 in
/-- figureOf, the figure fits. -/
theorem figure_yes (r : Int) (x b c : Nat) (hr : r = 1 ∨ r = 2 ∨ r = 3) (hx : x < 9223372036854775808) (hb : b < 9223372036854775808) (hc0 : 0 < c) (hc : c < 9223372036854775808) (hfit : Hid (x * b / c < 9223372036854775807)) (w : World) :
    Calls Tryf.prog 9 #[.int .i64 r, .int .i64 x, .int .i64 b, .int .i64 c] w fun e w' => e = .returned (.tuple #[.int .i64 (fig r (x * b) c : Nat), .bool true]) ∧ w' = w := by
  have hxi : (x : Int) ≤ 9223372036854775807 := by omega
  have hbi : (b : Int) ≤ 9223372036854775807 := by omega
  have hci : (c : Int) ≤ 9223372036854775807 := by omega
  obtain ⟨F, hF⟩ : ∃ F, F = fig r (x * b) c := ⟨_, rfl⟩
  have HF : Hid (F = fig r (x * b) c) := hF
  rw [← hF]
  clear hF
  go_enter Tryf.func9, Tryf.ntmps9
  go_wp2_with fail
  refine (mul128_any x b (by omega) (by omega) _).mono ?_
  rintro e w' ⟨rfl, rfl⟩
  have hl : x * b % 18446744073709551616 < 18446744073709551616 := Nat.mod_lt _ (by omega)
  have hm : x * b ≤ 9223372036854775807 * 9223372036854775807 := Nat.mul_le_mul (by omega) (by omega)
  have hh : x * b / 18446744073709551616 < 18446744073709551616 := by omega
  have hXe : Hid (x * b / 18446744073709551616 * 18446744073709551616 + x * b % 18446744073709551616 = x * b) := Nat.div_add_mod' _ _
  generalize x * b / 18446744073709551616 = H at hh hXe ⊢
  generalize x * b % 18446744073709551616 = L at hl hXe ⊢
  have HXb : Hid (H < 18446744073709551616 ∧ L < 18446744073709551616) := ⟨hh, hl⟩
  clear hl hm hh
  go_wp2_with fail
  refine (long_any H L c HXb.out.1 HXb.out.2 hc0 hc _).mono ?_
  rintro e w2 ⟨qh, ql, rm, rfl, hL, rfl⟩
  have hq : qh * 18446744073709551616 + ql = x * b / c := by
    have h := hL.quo
    rw [hXe.out] at h
    simpa using h
  have hrm : rm = x * b % c := by
    have h := hL.rem
    rw [hXe.out] at h
    simpa using h
  have hrc : rm < c := by rw [hrm]; exact Nat.mod_lt _ hc0
  have hff := hfit.out
  have hz : qh = 0 := by omega
  subst hz
  have hqe : ql = x * b / c := by omega
  have hge : decide ((9223372036854775807 : Int) ≤ (ql : Int)) = false := decide_eq_false (by omega)
  have hqi : (ql : Int) ≤ 9223372036854775806 := by omega
  obtain ⟨d, hd⟩ : ∃ d, d = 2 * rm := ⟨_, rfl⟩
  obtain ⟨q1, hq1⟩ : ∃ q1, q1 = ql + 1 := ⟨_, rfl⟩
  have ed : IntKind.u64.wrap (2 * (rm : Int)) = (d : Int) := by rw [IntKind.wrap_u64]; omega
  have eq1 : IntKind.u64.wrap ((ql : Int) + 1) = (q1 : Int) := by rw [IntKind.wrap_u64]; omega
  have hq1i : (q1 : Int) ≤ 9223372036854775807 := by omega
  have HQ : Hid (ql = x * b / c ∧ rm = x * b % c ∧ d = 2 * rm ∧ q1 = ql + 1) := ⟨hqe, hrm, hd, hq1⟩
  clear hq hrm hrc hff hqe hd hq1 hL
  have fin0 : Hid (ups r (x * b) c = false → F = ql) := fun h => by rw [HF.out, HQ.out.1]; unfold fig; rw [h]; rfl
  have fin1 : Hid (ups r (x * b) c = true → F = q1) := fun h => by rw [HF.out, HQ.out.2.2.2, HQ.out.1]; unfold fig; rw [h]; rfl
  rcases hr with rfl | rfl | rfl
  · by_cases hle : c ≤ d
    · have HE : Hid (F = q1) := fin1.out (by unfold ups; rw [if_pos rfl]; apply decide_eq_true; rw [← HQ.out.2.1, ← HQ.out.2.2.1]; exact hle)
      clear fin0 fin1
      go_wp2
      go_ret2
      exact ⟨ret2_ib (by rw [HE.out]), rfl⟩
    · have HE : Hid (F = ql) := fin0.out (by unfold ups; rw [if_pos rfl]; apply decide_eq_false; rw [← HQ.out.2.1, ← HQ.out.2.2.1]; exact hle)
      clear fin0 fin1
      go_wp2
      go_ret2
      exact ⟨ret2_ib (by rw [HE.out]), rfl⟩
  · have HE : Hid (F = ql) := fin0.out (by unfold ups; rw [if_neg (by omega), if_neg (by omega)])
    clear fin0 fin1
    go_wp2
    go_ret2
    exact ⟨ret2_ib (by rw [HE.out]), rfl⟩
  · by_cases hle : 0 < rm
    · have HE : Hid (F = q1) := fin1.out (by unfold ups; rw [if_neg (by omega), if_pos rfl]; apply decide_eq_true; rw [← HQ.out.2.1]; exact hle)
      clear fin0 fin1
      go_wp2
      go_ret2
      exact ⟨ret2_ib (by rw [HE.out]), rfl⟩
    · have HE : Hid (F = ql) := fin0.out (by unfold ups; rw [if_neg (by omega), if_pos rfl]; apply decide_eq_false; rw [← HQ.out.2.1]; exact hle)
      clear fin0 fin1
      go_wp2
      go_ret2
      exact ⟨ret2_ib (by rw [HE.out]), rfl⟩
end Go.Proofs.Qxb6609083aFmt

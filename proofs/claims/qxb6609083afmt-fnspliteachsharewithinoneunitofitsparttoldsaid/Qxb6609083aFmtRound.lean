/-
  THE PLAIN LAWS of seat b6609083aF on a rounded figure: it is nought at nought, it never goes down, and the share of a part lies within one unit of the part's own figure.
-/
import Derived.Test.Qxb6609083aFmtDomain
namespace Go.Proofs.Qxb6609083aFmt
open Go.RowKit Pl

theorem fig_zero (r : Int) (b c : Nat) (hc : 0 < c) : fig r (0 * b) c = 0 := by
  unfold fig ups
  rw [Nat.zero_mul, Nat.zero_div, Nat.zero_mod]
  by_cases h1 : r = 1
  · rw [if_pos h1, decide_eq_false (by omega)]; rfl
  · rw [if_neg h1]
    by_cases h3 : r = 3
    · rw [if_pos h3]; rfl
    · rw [if_neg h3]; rfl
theorem fig_le (r : Int) (X c : Nat) : X / c ≤ fig r X c ∧ fig r X c ≤ X / c + 1 := by
  unfold fig
  split <;> omega
theorem fig_mono (r : Int) {X Y : Nat} (c : Nat) (h : X ≤ Y) : fig r X c ≤ fig r Y c := by
  have h1 := fig_le r X c
  have h2 := fig_le r Y c
  have hq := Nat.div_le_div_right (c := c) h
  by_cases e : X / c = Y / c
  · have m1 := Nat.div_add_mod' X c
    have m2 := Nat.div_add_mod' Y c
    rw [e] at m1
    have hm : X % c ≤ Y % c := by omega
    unfold fig
    rw [e]
    have hu : ups r X c = true → ups r Y c = true := by
      unfold ups
      by_cases r1 : r = 1
      · rw [if_pos r1, if_pos r1]; intro h'; have := of_decide_eq_true h'; exact decide_eq_true (by omega)
      · rw [if_neg r1, if_neg r1]
        by_cases r3 : r = 3
        · rw [if_pos r3, if_pos r3]; intro h'; have := of_decide_eq_true h'; exact decide_eq_true (by omega)
        · rw [if_neg r3, if_neg r3]; intro h'; cases h'
    cases hx : ups r X c with
    | false => simp
    | true => rw [hu hx]; exact Nat.le_refl _
  · omega
theorem ups1 (X c : Nat) : ups 1 X c = decide (c ≤ 2 * (X % c)) := rfl
theorem ups2 (X c : Nat) : ups 2 X c = false := rfl
theorem ups3 (X c : Nat) : ups 3 X c = decide (0 < X % c) := rfl
/-- How far a figure may lie from the exact one, by the mode. -/
theorem fig_err (r : Int) (X c : Nat) (hc : 0 < c) :
    (r = 1 → 2 * X < 2 * (fig r X c * c) + c ∧ 2 * (fig r X c * c) ≤ 2 * X + c) ∧ (r = 2 → fig r X c * c ≤ X ∧ X < fig r X c * c + c) ∧ (r = 3 → X ≤ fig r X c * c ∧ fig r X c * c < X + c) := by
  have m := Nat.div_add_mod' X c
  have hm := Nat.mod_lt X hc
  have hf : fig r X c * c = X / c * c + (if ups r X c then c else 0) := by
    unfold fig
    cases ups r X c with
    | false => simp
    | true => simp [Nat.add_mul]
  rw [hf]
  generalize X / c * c = Z at m
  refine ⟨fun e => ?_, fun e => ?_, fun e => ?_⟩
  · subst e
    rw [ups1]
    by_cases h : c ≤ 2 * (X % c)
    · rw [decide_eq_true h, if_pos rfl]; omega
    · rw [decide_eq_false h, if_neg (by simp)]; omega
  · subst e
    rw [ups2, if_neg (by simp)]
    omega
  · subst e
    rw [ups3]
    by_cases h : 0 < X % c
    · rw [decide_eq_true h, if_pos rfl]; omega
    · rw [decide_eq_false h, if_neg (by simp)]; omega
/-- ████ The share of a part P behind X: within one unit. ████ -/
theorem share_near (r : Int) (X P c : Nat) (hr : r = 1 ∨ r = 2 ∨ r = 3) (hc : 0 < c) :
    (fig r (X + P) c - fig r X c) * c < P + c ∧ P < (fig r (X + P) c - fig r X c) * c + c := by
  obtain ⟨a1, a2, a3⟩ := fig_err r X c hc
  obtain ⟨b1, b2, b3⟩ := fig_err r (X + P) c hc
  have hm := Nat.mul_le_mul_right c (fig_mono r c (show X ≤ X + P by omega))
  rw [Nat.sub_mul]
  rcases hr with e | e | e
  · have := a1 e; have := b1 e; omega
  · have := a2 e; have := b2 e; omega
  · have := a3 e; have := b3 e; omega

theorem Dom.at {r : Int} {b c n : Nat} {zs : List Int} (h : Dom r b c zs n) {k : Nat} (hk : k ≤ n) : sumN zs k < 9223372036854775808 ∧ sumN zs k * b / c < 9223372036854775807 ∧ fig r (sumN zs k * b) c < 9223372036854775808 := by
  have hm := sumN_mono zs hk
  have h1 := h.total
  have h2 := h.fits
  have h3 : sumN zs k * b / c ≤ sumN zs n * b / c := Nat.div_le_div_right (Nat.mul_le_mul_right b hm)
  have h4 := (fig_le r (sumN zs k * b) c).2
  exact ⟨by omega, by omega, by omega⟩
end Go.Proofs.Qxb6609083aFmt

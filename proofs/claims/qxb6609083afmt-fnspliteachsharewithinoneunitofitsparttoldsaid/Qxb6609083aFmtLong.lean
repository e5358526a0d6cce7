/-
  THE WALK of seat b6609083aF: divmod128, a division one bit at a time.
-/
import Derived.Test.Qxb6609083aFmtDiv2
namespace Go.Proofs.Qxb6609083aFmt
open Go.RowKit Pl

/-- Behind the rounds down to place k: the remainder of what has been read, and the quotient's two words. -/
structure Long (X c k qh ql rm : Nat) : Prop where
  rem : rm = X / 2 ^ k % c
  quo : qh * 18446744073709551616 + ql = X / 2 ^ k / c * 2 ^ k
  lo : ql < 18446744073709551616
  hi : qh < 18446744073709551616

/-- The digit at place j, out of the two words. -/
theorem bit_hi (hi lo j : Nat) (hlo : lo < 18446744073709551616) (h : 64 ≤ j) : hi / 2 ^ (j - 64) % 2 = (hi * 18446744073709551616 + lo) / 2 ^ j % 2 := by
  have e : 2 ^ j = 18446744073709551616 * 2 ^ (j - 64) := by
    have := Nat.pow_add 2 64 (j - 64)
    rw [show 64 + (j - 64) = j by omega] at this
    exact this
  rw [e, ← Nat.div_div_eq_div_mul]
  congr 2
  omega
theorem bit_lo (hi lo j : Nat) (h : j < 64) : lo / 2 ^ j % 2 = (hi * 18446744073709551616 + lo) / 2 ^ j % 2 := by
  have e : 18446744073709551616 = 2 ^ (63 - j) * 2 * 2 ^ j := by
    have h1 := Nat.pow_add 2 (63 - j + 1) j
    rw [show 63 - j + 1 + j = 64 by omega, Nat.pow_succ] at h1
    exact h1
  have e2 : hi * 18446744073709551616 + lo = lo + (hi * 2 ^ (63 - j) * 2) * 2 ^ j := by
    rw [Nat.add_comm]
    congr 1
    conv => lhs; rw [e]
    rw [← Nat.mul_assoc, ← Nat.mul_assoc]
  rw [e2, Nat.add_mul_div_right _ _ (Nat.two_pow_pos j)]
  omega
theorem two_steps (X c j rm : Nat) (hr : rm = X / 2 ^ (j + 1) % c) :
    X / 2 ^ j = (2 * (X / 2 ^ (j + 1) / c)) * c + (2 * rm + X / 2 ^ j % 2) := by
  have e1 : X / 2 ^ (j + 1) = X / 2 ^ j / 2 := by rw [Nat.pow_succ, Nat.div_div_eq_div_mul]
  have e2 := Nat.div_add_mod' (X / 2 ^ (j + 1)) c
  rw [← hr] at e2
  have e3 := Nat.div_add_mod' (X / 2 ^ j) 2
  rw [← e1] at e3
  rw [Nat.mul_assoc]
  omega
/-- A round: the digit is brought down; it fits once more, or not. -/
theorem Long.yes {X c j qh ql rm t : Nat} (h : Long X c (j + 1) qh ql rm) (hc : 0 < c) (ht : t = 2 * rm + X / 2 ^ j % 2) (hle : c ≤ t) :
    t - c = X / 2 ^ j % c ∧ X / 2 ^ j / c * 2 ^ j = qh * 18446744073709551616 + ql + 2 ^ j := by
  have e := two_steps X c j rm h.rem
  rw [← ht] at e
  have hb : rm < c := by rw [h.rem]; exact Nat.mod_lt _ hc
  have e2 : X / 2 ^ j = (t - c) + (2 * (X / 2 ^ (j + 1) / c) + 1) * c := by rw [Nat.add_mul]; omega
  constructor
  · rw [e2, Nat.add_mul_mod_self_right, Nat.mod_eq_of_lt (by omega)]
  · have e3 : X / 2 ^ j / c = 2 * (X / 2 ^ (j + 1) / c) + 1 := by
      rw [e2, Nat.add_mul_div_right _ _ hc, Nat.div_eq_of_lt (by omega)]; omega
    rw [e3, h.quo, Nat.add_mul, Nat.one_mul, Nat.pow_succ, Nat.mul_comm 2, Nat.mul_assoc, Nat.mul_comm 2]
theorem Long.no {X c j qh ql rm t : Nat} (h : Long X c (j + 1) qh ql rm) (hc : 0 < c) (ht : t = 2 * rm + X / 2 ^ j % 2) (hlt : t < c) :
    t = X / 2 ^ j % c ∧ X / 2 ^ j / c * 2 ^ j = qh * 18446744073709551616 + ql := by
  have e := two_steps X c j rm h.rem
  rw [← ht] at e
  have e2 : X / 2 ^ j = t + 2 * (X / 2 ^ (j + 1) / c) * c := by omega
  constructor
  · rw [e2, Nat.add_mul_mod_self_right, Nat.mod_eq_of_lt hlt]
  · have e3 : X / 2 ^ j / c = 2 * (X / 2 ^ (j + 1) / c) := by
      rw [e2, Nat.add_mul_div_right _ _ hc, Nat.div_eq_of_lt hlt]; omega
    rw [e3, h.quo, Nat.pow_succ, Nat.mul_comm 2, Nat.mul_assoc, Nat.mul_comm 2]
theorem Long.next_no {X c j qh ql rm t : Nat} (h : Long X c (j + 1) qh ql rm) (hc : 0 < c) (ht : t = 2 * rm + X / 2 ^ j % 2) (hlt : t < c) : Long X c j qh ql t :=
  ⟨(h.no hc ht hlt).1, (h.no hc ht hlt).2.symm, h.lo, h.hi⟩
/-- The bit set in the high word. -/
theorem Long.hi_bit {X c j qh ql rm : Nat} (h : Long X c (j + 1) qh ql rm) (hj : 64 ≤ j) : qh ||| 2 ^ (j - 64) = qh + 2 ^ (j - 64) ∧ ql = 0 := by
  have e : 2 ^ (j + 1) = 2 ^ (j - 64 + 1) * 18446744073709551616 := by
    have h1 := Nat.pow_add 2 (j - 64 + 1) 64
    rw [show j - 64 + 1 + 64 = j + 1 by omega] at h1
    exact h1
  have hq := h.quo
  have hl := h.lo
  rw [e, ← Nat.mul_assoc] at hq
  have hz : ql = 0 := by omega
  have hqh : qh = X / 2 ^ (j + 1) / c * 2 ^ (j - 64 + 1) := by rw [e]; omega
  refine ⟨?_, hz⟩
  rw [hqh]
  exact or_add _ _ _ (by rw [Nat.pow_succ]; have := Nat.two_pow_pos (j - 64); omega)
/-- The bit set in the low word. -/
theorem Long.lo_bit {X c j qh ql rm : Nat} (h : Long X c (j + 1) qh ql rm) (hj : j < 64) : ql ||| 2 ^ j = ql + 2 ^ j ∧ ql + 2 ^ j < 18446744073709551616 := by
  have e : 18446744073709551616 = 2 ^ (63 - j) * 2 ^ (j + 1) := by
    have h1 := Nat.pow_add 2 (63 - j) (j + 1)
    rw [show 63 - j + (j + 1) = 64 by omega] at h1
    exact h1
  have e1 : qh * 18446744073709551616 = 2 ^ (j + 1) * (qh * 2 ^ (63 - j)) := by
    conv => lhs; rw [e]
    rw [← Nat.mul_assoc, Nat.mul_comm]
  have d1 : 2 ^ (j + 1) ∣ qh * 18446744073709551616 := ⟨_, e1⟩
  have d2 : 2 ^ (j + 1) ∣ qh * 18446744073709551616 + ql := ⟨X / 2 ^ (j + 1) / c, by rw [h.quo, Nat.mul_comm]⟩
  have d3 : 2 ^ (j + 1) ∣ ql := (Nat.dvd_add_right d1).1 d2
  have hm := Nat.div_mul_cancel d3
  have hl := h.lo
  have hp : 2 ^ j < 2 ^ (j + 1) := by rw [Nat.pow_succ]; have := Nat.two_pow_pos j; omega
  constructor
  · rw [← hm]; exact or_add _ _ _ hp
  · have hlt : ql / 2 ^ (j + 1) < 2 ^ (63 - j) := by
      apply Nat.div_lt_of_lt_mul
      rw [Nat.mul_comm, ← e]; exact hl
    have : (ql / 2 ^ (j + 1) + 1) * 2 ^ (j + 1) ≤ 2 ^ (63 - j) * 2 ^ (j + 1) := Nat.mul_le_mul_right _ hlt
    rw [← e, Nat.add_mul, hm] at this
    omega
theorem Long.next_hi {X c j qh ql rm t : Nat} (h : Long X c (j + 1) qh ql rm) (hX : X < 340282366920938463463374607431768211456) (hc : 0 < c) (ht : t = 2 * rm + X / 2 ^ j % 2) (hle : c ≤ t) (hj : 64 ≤ j) : Long X c j (qh + 2 ^ (j - 64)) ql (t - c) := by
  obtain ⟨y1, y2⟩ := h.yes hc ht hle
  have e : 2 ^ j = 2 ^ (j - 64) * 18446744073709551616 := by
    have h1 := Nat.pow_add 2 (j - 64) 64
    rw [show j - 64 + 64 = j by omega] at h1
    exact h1
  have hz := (h.hi_bit hj).2
  have hle2 : X / 2 ^ j / c * 2 ^ j ≤ X := Nat.le_trans (Nat.mul_le_mul_right _ (Nat.div_le_self _ _)) (Nat.div_mul_le_self _ _)
  refine ⟨y1, ?_, h.lo, ?_⟩
  · rw [y2, Nat.add_mul, ← e]; omega
  · rw [y2, e] at hle2
    omega
theorem Long.next_lo {X c j qh ql rm t : Nat} (h : Long X c (j + 1) qh ql rm) (hc : 0 < c) (ht : t = 2 * rm + X / 2 ^ j % 2) (hle : c ≤ t) (hj : j < 64) : Long X c j qh (ql + 2 ^ j) (t - c) := by
  obtain ⟨y1, y2⟩ := h.yes hc ht hle
  exact ⟨y1, by rw [y2]; omega, (h.lo_bit hj).2, h.hi⟩
theorem Long.start (X c : Nat) (hX : X < 340282366920938463463374607431768211456) : Long X c 128 0 0 0 := by
  have e : X / 2 ^ 128 = 0 := Nat.div_eq_of_lt hX
  refine ⟨by rw [e, Nat.zero_mod], by rw [e, Nat.zero_div, Nat.zero_mul], by omega, by omega⟩

theorem and_one (a : Nat) (ha : a < 18446744073709551616) : bits .and .u64 (a : Int) 1 = ((a % 2 : Nat) : Int) := by
  have h := bits_and_u64_nat a 1 ha (by omega)
  rw [Nat.and_one_is_mod] at h
  exact h
theorem pow_wrap (j : Nat) (h : j < 64) : IntKind.u64.wrap ((2 : Int) ^ j) = ((2 ^ j : Nat) : Int) := by
  have : 2 ^ j < 2 ^ 64 := Nat.pow_lt_pow_right (by omega) h
  have e : (2 : Int) ^ j = ((2 ^ j : Nat) : Int) := by rw [Int.natCast_pow]; rfl
  rw [e]
  exact Mul64.wrapN _ (by omega)
/-- 'rem<<1 | bit'. -/
theorem shift_bit (rm b : Nat) (hr : rm < 9223372036854775808) (hb : b < 2) : bits .or .u64 (IntKind.u64.wrap ((rm : Int) * 2)) (b : Int) = ((2 * rm + b : Nat) : Int) := by
  have e : IntKind.u64.wrap ((rm : Int) * 2) = ((rm * 2 : Nat) : Int) := by rw [IntKind.wrap_u64]; omega
  rw [e, bits_or_u64_nat _ _ (by omega) (by omega)]
  have := or_add rm b 1 (by omega)
  rw [show 2 ^ 1 = 2 from rfl] at this
  rw [this, Nat.mul_comm]

set_option maxHeartbeats 4000000 in
/-- ████ divmod128 ████ -/
theorem long_any (hi lo c : Nat) (hhi : hi < 18446744073709551616) (hlo : lo < 18446744073709551616) (hc0 : 0 < c) (hc : c < 9223372036854775808) (w : World) :
    Calls Tryf.prog 15 #[.int .u64 hi, .int .u64 lo, .int .u64 c] w fun e w' => ∃ qh ql rm : Nat, e = .returned (.tuple #[.int .u64 qh, .int .u64 ql, .int .u64 rm]) ∧ Long (hi * 18446744073709551616 + lo) c 0 qh ql rm ∧ w' = w := by
  obtain ⟨X, hX⟩ : ∃ X, X = hi * 18446744073709551616 + lo := ⟨_, rfl⟩
  have HX : Hid (X = hi * 18446744073709551616 + lo) := hX
  have HXb : Hid (X < 340282366920938463463374607431768211456) := by unfold Hid; omega
  have HC : Hid (c < 9223372036854775808) := hc
  have HH : Hid (hi < 18446744073709551616 ∧ lo < 18446744073709551616) := ⟨hhi, hlo⟩
  rw [← hX]
  clear hX hc hhi hlo
  go_enter Tryf.func15, Tryf.ntmps15
  go_wp2
  go_loop [6, 7, 8, 9] (fun a b r i => ∃ qh ql rm k : Nat, k ≤ 128 ∧ a = .int .u64 qh ∧ b = .int .u64 ql ∧ r = .int .u64 rm ∧ i = .int .i64 ((k : Int) - 1) ∧ Hid (Long X c k qh ql rm)) (fun _ _ _ i => (intOf i + 1).toNat)
  case atStart => exact ⟨0, 0, 0, 128, by omega, rfl, rfl, rfl, rfl, Long.start X c HXb.out⟩
  case round =>
    obtain ⟨qh, ql, rm, k, hk, rfl, rfl, rfl, rfl, hL⟩ := hrel
    by_cases hk0 : k = 0
    · subst hk0
      go_wp2
      go_ret3
      exact ⟨qh, ql, rm, rfl, hL.out, rfl⟩
    · obtain ⟨j, rfl⟩ : ∃ j, k = j + 1 := ⟨k - 1, by omega⟩
      rw [show ((j + 1 : Nat) : Int) - 1 = (j : Int) by omega]
      have hrm : rm < 9223372036854775808 := by
        have h := hL.out.rem
        have := Nat.mod_lt (X / 2 ^ (j + 1)) hc0
        have := HC.out
        omega
      obtain ⟨bt, hbt⟩ : ∃ bt, bt = X / 2 ^ j % 2 := ⟨_, rfl⟩
      have hbt2 : bt < 2 := by omega
      obtain ⟨t, ht⟩ : ∃ t, t = 2 * rm + bt := ⟨_, rfl⟩
      have et : bits BinOp.or IntKind.u64 (IntKind.u64.wrap ((rm : Int) * 2)) (bt : Int) = (t : Int) := by rw [shift_bit rm bt hrm hbt2, ht]
      have HT : Hid (t = 2 * rm + X / 2 ^ j % 2) := by unfold Hid; rw [← hbt]; exact ht
      have HTb : Hid (t < 18446744073709551616) := by unfold Hid; omega
      clear hk0 hrm hbt2 ht
      by_cases h64 : 64 ≤ j
      · have h64i : (64 : Int) ≤ (j : Int) := by omega
        have eb : bits BinOp.and IntKind.u64 ((hi : Int) / 2 ^ (j - 64)) 1 = (bt : Int) := by
          have h := HH.out
          rw [cast_div_pow, and_one _ (Nat.lt_of_le_of_lt (Nat.div_le_self _ _) h.1), bit_hi hi lo j h.2 h64, ← HX.out, ← hbt]
        clear hbt
        by_cases hle : c ≤ t
        · obtain ⟨qh', hqh⟩ : ∃ qh', qh' = qh + 2 ^ (j - 64) := ⟨_, rfl⟩
          obtain ⟨rm', hrm⟩ : ∃ rm', rm' = t - c := ⟨_, rfl⟩
          have hpl : 2 ^ (j - 64) < 2 ^ 64 := Nat.pow_lt_pow_right (by omega) (by omega)
          have eq : bits BinOp.or IntKind.u64 (qh : Int) (IntKind.u64.wrap (2 ^ (j - 64))) = (qh' : Int) := by
            rw [pow_wrap _ (by omega), bits_or_u64_nat _ _ hL.out.hi (by omega), (hL.out.hi_bit h64).1, hqh]
          have er : IntKind.u64.wrap ((t : Int) - (c : Int)) = (rm' : Int) := by have := HTb.out; rw [IntKind.wrap_u64]; omega
          have HR : Hid (Long X c j qh' ql rm') := by unfold Hid; rw [hqh, hrm]; exact hL.out.next_hi HXb.out hc0 HT.out hle h64
          clear hqh hrm hpl
          go_wp2
          go_round
          case rel => exact ⟨qh', ql, rm', j, by omega, rfl, rfl, rfl, rfl, HR.out⟩
          case measure => simp [intOf]
        · have HR : Hid (Long X c j qh ql t) := hL.out.next_no hc0 HT.out (by omega)
          go_wp2
          go_round
          case rel => exact ⟨qh, ql, t, j, by omega, rfl, rfl, rfl, rfl, HR.out⟩
          case measure => simp [intOf]
      · have h64i : (j : Int) < 64 := by omega
        have eb : bits BinOp.and IntKind.u64 ((lo : Int) / 2 ^ j) 1 = (bt : Int) := by
          have h := HH.out
          rw [cast_div_pow, and_one _ (Nat.lt_of_le_of_lt (Nat.div_le_self _ _) h.2), bit_lo hi lo j (by omega), ← HX.out, ← hbt]
        clear hbt
        by_cases hle : c ≤ t
        · obtain ⟨ql', hql⟩ : ∃ ql', ql' = ql + 2 ^ j := ⟨_, rfl⟩
          obtain ⟨rm', hrm⟩ : ∃ rm', rm' = t - c := ⟨_, rfl⟩
          have hpl : 2 ^ j < 2 ^ 64 := Nat.pow_lt_pow_right (by omega) (by omega)
          have eq : bits BinOp.or IntKind.u64 (ql : Int) (IntKind.u64.wrap (2 ^ j)) = (ql' : Int) := by
            rw [pow_wrap _ (by omega), bits_or_u64_nat _ _ hL.out.lo (by omega), (hL.out.lo_bit (by omega)).1, hql]
          have er : IntKind.u64.wrap ((t : Int) - (c : Int)) = (rm' : Int) := by have := HTb.out; rw [IntKind.wrap_u64]; omega
          have HR : Hid (Long X c j qh ql' rm') := by unfold Hid; rw [hql, hrm]; exact hL.out.next_lo hc0 HT.out hle (by omega)
          clear hql hrm hpl
          go_wp2
          go_round
          case rel => exact ⟨qh, ql', rm', j, by omega, rfl, rfl, rfl, rfl, HR.out⟩
          case measure => simp [intOf]
        · have HR : Hid (Long X c j qh ql t) := hL.out.next_no hc0 HT.out (by omega)
          go_wp2
          go_round
          case rel => exact ⟨qh, ql, t, j, by omega, rfl, rfl, rfl, rfl, HR.out⟩
          case measure => simp [intOf]
end Go.Proofs.Qxb6609083aFmt

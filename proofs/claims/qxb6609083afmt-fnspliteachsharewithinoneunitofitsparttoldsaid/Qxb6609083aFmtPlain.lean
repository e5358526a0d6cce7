/-
  THE PLAIN MATHEMATICS of seat b6609083aF: (1) the school division under math/bits.Div64 · (2) a division one bit at a time · (3) a figure rounded by a mode. No Go in sight.
-/
import Derived.Lib.ItoaNum
import Derived.Lib.BitFns
namespace Go.Proofs.Qxb6609083aFmt.Pl

/-! ### (1) One digit of the school division: base 2^32, a divisor Y = y1 * 2^32 + y0 of two digits, y1 at least half the base -/
/-- What holds at the head of the loop: the guess q is never too small. -/
structure Guess (y1 y0 n d q r : Nat) : Prop where
  eq : n = q * y1 + r
  low : (n * 4294967296 + d) / (y1 * 4294967296 + y0) ≤ q
  high : q ≤ 4294967297
  small : r < 4294967296

theorem prod_Y (q y1 y0 : Nat) : q * (y1 * 4294967296 + y0) = q * y1 * 4294967296 + q * y0 := by rw [Nat.mul_add, Nat.mul_assoc]

theorem star_lt {y1 y0 n d : Nat} (hd : d < 4294967296) (hn : n < y1 * 4294967296 + y0) : (n * 4294967296 + d) / (y1 * 4294967296 + y0) < 4294967296 := by
  apply Nat.div_lt_of_lt_mul
  have : (n + 1) * 4294967296 ≤ (y1 * 4294967296 + y0) * 4294967296 := Nat.mul_le_mul_right _ hn
  rw [Nat.mul_comm] at this
  omega

theorem Guess.init {y1 y0 n d : Nat} (h1 : 2147483648 ≤ y1) (hy1 : y1 < 4294967296) (hy0 : y0 < 4294967296) (hd : d < 4294967296) (hn : n < y1 * 4294967296 + y0) : Guess y1 y0 n d (n / y1) (n % y1) := by
  have hr : n % y1 < y1 := Nat.mod_lt _ (by omega)
  have he : n / y1 * y1 + n % y1 = n := Nat.div_add_mod' n y1
  refine ⟨he.symm, ?_, ?_, by omega⟩
  · rw [Nat.le_div_iff_mul_le (by omega)]
    have := Nat.div_mul_le_self (n * 4294967296 + d) (y1 * 4294967296 + y0)
    rw [prod_Y] at this
    omega
  · have h2 : n / y1 * y1 < 4294967298 * y1 := by omega
    have := Nat.lt_of_mul_lt_mul_right h2
    omega

/-- The test says yes: the guess is too great. -/
theorem Guess.over {y1 y0 n d q r : Nat} (h : Guess y1 y0 n d q r) (hd : d < 4294967296) (hn : n < y1 * 4294967296 + y0) (ht : 4294967296 ≤ q ∨ 4294967296 * r + d < q * y0) :
    (n * 4294967296 + d) / (y1 * 4294967296 + y0) < q := by
  rcases ht with ht | ht
  · exact Nat.lt_of_lt_of_le (star_lt hd hn) ht
  · rw [Nat.div_lt_iff_lt_mul (by omega), prod_Y]
    have := h.eq
    have e : n * 4294967296 = q * y1 * 4294967296 + r * 4294967296 := by rw [this, Nat.add_mul]
    omega

theorem sub_one_mul {q y1 : Nat} (h : 1 ≤ q) : (q - 1) * y1 + y1 = q * y1 := by
  rw [← Nat.succ_mul]; congr 1; omega

/-- One round more. -/
theorem Guess.next {y1 y0 n d q r : Nat} (h : Guess y1 y0 n d q r) (hd : d < 4294967296) (hn : n < y1 * 4294967296 + y0) (ht : 4294967296 ≤ q ∨ 4294967296 * r + d < q * y0) (hs : r + y1 < 4294967296) :
    Guess y1 y0 n d (q - 1) (r + y1) := by
  have ho := h.over hd hn ht
  have hq1 : 1 ≤ q := Nat.lt_of_le_of_lt (Nat.zero_le _) ho
  have e := sub_one_mul (y1 := y1) hq1
  have := h.eq
  have hh := h.high
  exact ⟨by omega, by omega, by omega, hs⟩

/-- The guess is right: the test says no. -/
theorem Guess.done {y1 y0 n d q r : Nat} (h : Guess y1 y0 n d q r) (hY : 2147483648 ≤ y1) (ht : q * y0 ≤ 4294967296 * r + d) :
    q = (n * 4294967296 + d) / (y1 * 4294967296 + y0) := by
  apply Nat.le_antisymm _ h.low
  rw [Nat.le_div_iff_mul_le (by omega), prod_Y]
  have := h.eq
  have e : n * 4294967296 = q * y1 * 4294967296 + r * 4294967296 := by rw [this, Nat.add_mul]
  omega

/-- The guess is right: the loop is left by its break. -/
theorem Guess.out {y1 y0 n d q r : Nat} (h : Guess y1 y0 n d q r) (hy0 : y0 < 4294967296) (hd : d < 4294967296) (hn : n < y1 * 4294967296 + y0) (ht : 4294967296 ≤ q ∨ 4294967296 * r + d < q * y0) (hs : 4294967296 ≤ r + y1) :
    q - 1 = (n * 4294967296 + d) / (y1 * 4294967296 + y0) := by
  have ho := h.over hd hn ht
  have hq1 : 1 ≤ q := Nat.lt_of_le_of_lt (Nat.zero_le _) ho
  have e := sub_one_mul (y1 := y1) hq1
  have := h.eq
  have hh := h.high
  apply Nat.le_antisymm _ (by omega)
  rw [Nat.le_div_iff_mul_le (by omega), prod_Y]
  have hm : (q - 1) * y0 ≤ 4294967296 * 4294967295 := Nat.mul_le_mul (by omega) (by omega)
  have e2 : n * 4294967296 = (q - 1) * y1 * 4294967296 + (r + y1) * 4294967296 := by
    rw [← Nat.add_mul]; congr 1; omega
  omega

/-- The remainder of a digit, as uint64's own arithmetic reckons it. -/
theorem digit_rem (n d Y q : Nat) (hY0 : 0 < Y) (hY : Y < 18446744073709551616) (hq : q = (n * 4294967296 + d) / Y) :
    ((((n * 4294967296 : Nat) : Int) % 18446744073709551616 + d) % 18446744073709551616 - ((q * Y : Nat) : Int) % 18446744073709551616) % 18446744073709551616 = (((n * 4294967296 + d) % Y : Nat) : Int) := by
  have h1 := Nat.div_add_mod' (n * 4294967296 + d) Y
  have h2 := Nat.mod_lt (n * 4294967296 + d) hY0
  rw [← hq] at h1
  omega

/-- Two digits make the quotient, whatever the base. -/
theorem two_digits (B X u0 Y : Nat) (hY0 : 0 < Y) :
    (X / Y * B + (X % Y * B + u0) / Y = (X * B + u0) / Y) ∧ ((X % Y * B + u0) % Y = (X * B + u0) % Y) := by
  have h1 := Nat.div_add_mod' X Y
  have e : X * B + u0 = X % Y * B + u0 + (X / Y * B) * Y := by
    have e1 : X * B = (X / Y * Y + X % Y) * B := by rw [h1]
    rw [e1, Nat.add_mul, Nat.mul_right_comm (X / Y) Y B]
    omega
  constructor
  · rw [e, Nat.add_mul_div_right _ _ hY0, Nat.add_comm]
  · rw [e, Nat.add_mul_mod_self_right]

/-- The divisor brought to its full length. -/
theorem norm_y (y : Nat) (h0 : y ≠ 0) (h1 : y < 18446744073709551616) : Lib.bitLen y ≤ 64 ∧ 1 ≤ Lib.bitLen y ∧ 9223372036854775808 ≤ y * 2 ^ (64 - Lib.bitLen y) ∧ y * 2 ^ (64 - Lib.bitLen y) < 18446744073709551616 := by
  obtain ⟨a, b, c⟩ := Lib.bitLenAux_bounds 64 y (by omega) h0
  have hle : Lib.bitLen y ≤ 64 := Lib.bitLen_le y 64 (Nat.le_refl _) (by omega)
  have ha : 1 ≤ Lib.bitLen y := a
  have hb : 2 ^ (Lib.bitLen y - 1) ≤ y := b
  have hc : y < 2 ^ Lib.bitLen y := c
  refine ⟨hle, ha, ?_, ?_⟩
  · have := Nat.mul_le_mul_right (2 ^ (64 - Lib.bitLen y)) hb
    rw [← Nat.pow_add, show Lib.bitLen y - 1 + (64 - Lib.bitLen y) = 63 by omega] at this
    exact this
  · have := (Nat.mul_lt_mul_right (Nat.two_pow_pos (64 - Lib.bitLen y))).2 hc
    rw [← Nat.pow_add, show Lib.bitLen y + (64 - Lib.bitLen y) = 64 by omega] at this
    exact this

/-- Back from the full length. -/
theorem denorm (U y p : Nat) (hp : 0 < p) : U * p / (y * p) = U / y ∧ U * p % (y * p) / p = U % y := by
  constructor
  · exact Nat.mul_div_mul_right U y hp
  · rw [Nat.mul_mod_mul_right, Nat.mul_div_cancel _ hp]
end Go.Proofs.Qxb6609083aFmt.Pl

/-
  math/bits.Div64 at every divisor greater than the high word: the quotient and the remainder of the 128-bit number. The walk is Qxb6609083aFmtDiv.lean's; here its numbers are paid.
-/
import Derived.Test.Qxb6609083aFmtDiv
namespace Go.Proofs.Qxb6609083aFmt
open Go.RowKit Pl

theorem cast_mul_pow (a s : Nat) : (a : Int) * 2 ^ s = ((a * 2 ^ s : Nat) : Int) := by rw [Int.natCast_mul, Int.natCast_pow]; rfl
theorem cast_div_pow (a s : Nat) : (a : Int) / 2 ^ s = ((a / 2 ^ s : Nat) : Int) := by rw [Int.natCast_ediv, Int.natCast_pow]; rfl

/-- The high part of a number shifted, in two words. -/
theorem shift_parts (lo s : Nat) (hs : s ≤ 64) (hlo : lo < 18446744073709551616) : lo / 2 ^ (64 - s) < 2 ^ s ∧ lo * 2 ^ s = lo / 2 ^ (64 - s) * 18446744073709551616 + lo * 2 ^ s % 18446744073709551616 := by
  have e : 2 ^ (64 - s) * 2 ^ s = 18446744073709551616 := by rw [← Nat.pow_add, show 64 - s + s = 64 by omega]
  constructor
  · apply Nat.div_lt_of_lt_mul
    rw [e]; exact hlo
  · have h1 : lo * 2 ^ s / 18446744073709551616 = lo / 2 ^ (64 - s) := by
      rw [← e, Nat.mul_div_mul_right _ _ (Nat.two_pow_pos s)]
    have h2 := Nat.div_add_mod' (lo * 2 ^ s) 18446744073709551616
    rw [h1] at h2
    exact h2.symm

theorem or_add (a b s : Nat) (h : b < 2 ^ s) : a * 2 ^ s ||| b = a * 2 ^ s + b := by
  have := Nat.shiftLeft_add_eq_or_of_lt h a
  rw [Nat.shiftLeft_eq] at this
  exact this.symm

theorem maskB (a : Nat) (ha : a < 18446744073709551616) : bits .and .u64 (a : Int) 4294967295 = ((a % 4294967296 : Nat) : Int) := Mul64.maskN a ha

theorem quo_wrap (a b : Nat) (ha : a < 18446744073709551616) : IntKind.u64.wrap ((a : Int) / (b : Int)) = ((a / b : Nat) : Int) := by
  rw [← Int.natCast_ediv]
  exact Mul64.wrapN _ (Nat.lt_of_le_of_lt (Nat.div_le_self a b) ha)
theorem rem_wrap (a b : Nat) (ha : a < 18446744073709551616) : IntKind.u64.wrap ((a : Int) - IntKind.u64.wrap (((a / b : Nat) : Int) * (b : Int))) = ((a % b : Nat) : Int) := by
  have h := Nat.div_add_mod' a b
  rw [← Int.natCast_mul, IntKind.wrap_u64, IntKind.wrap_u64]
  omega

/-- ████ math/bits.Div64 ████ -/
theorem div_any (hi lo y : Nat) (hhy : hi < y) (hlo : lo < 18446744073709551616) (hy : y < 18446744073709551616) (w : World) :
    Calls Tryf.prog 18 #[.int .u64 hi, .int .u64 lo, .int .u64 y] w fun e w' => e = .returned (.tuple #[.int .u64 (((hi * 18446744073709551616 + lo) / y : Nat) : Int), .int .u64 (((hi * 18446744073709551616 + lo) % y : Nat) : Int)]) ∧ ∃ n, w' = w.drewN n := by
  by_cases hz : hi = 0
  · subst hz
    rw [Nat.zero_mul, Nat.zero_add]
    exact div_small lo y (lo / y) (lo % y) (by omega) (quo_wrap lo y hlo) (by rw [Int.natCast_emod]) w
  obtain ⟨hb1, hb2, hY1, hY2⟩ := norm_y y (by omega) hy
  obtain ⟨s, hs⟩ : ∃ s, 64 - Lib.bitLen y = s := ⟨_, rfl⟩
  rw [hs] at hY1 hY2
  have hs63 : s ≤ 63 := by omega
  have hp : 0 < 2 ^ s := Nat.two_pow_pos s
  obtain ⟨hl1, hl2⟩ := shift_parts lo s (by omega) hlo
  have hhp : hi * 2 ^ s < y * 2 ^ s := (Nat.mul_lt_mul_right hp).2 hhy
  obtain ⟨Y, hY⟩ : ∃ Y, Y = y * 2 ^ s := ⟨_, rfl⟩
  obtain ⟨N, hN⟩ : ∃ N, N = hi * 2 ^ s + lo / 2 ^ (64 - s) := ⟨_, rfl⟩
  obtain ⟨M, hM⟩ : ∃ M, M = lo * 2 ^ s % 18446744073709551616 := ⟨_, rfl⟩
  have hUp : (hi * 18446744073709551616 + lo) * 2 ^ s = N * 18446744073709551616 + M := by
    rw [Nat.add_mul, hl2, hN, Nat.add_mul, ← hM, Nat.mul_right_comm]
    omega
  have hMlt : M < 18446744073709551616 := by rw [hM]; exact Nat.mod_lt _ (by omega)
  have hNY : N < Y := by
    have h1 : (hi + 1) * 2 ^ s ≤ y * 2 ^ s := Nat.mul_le_mul_right _ hhy
    rw [Nat.add_mul] at h1
    omega
  rw [← hY] at hY1 hY2 hhp
  have hN64 : N < 18446744073709551616 := by omega
  have hy1 : 2147483648 ≤ Y / 4294967296 := by omega
  have hYe : Y = Y / 4294967296 * 4294967296 + Y % 4294967296 := by omega
  obtain ⟨X, hX⟩ : ∃ X, X = N * 4294967296 + M / 4294967296 := ⟨_, rfl⟩
  have hXU : X * 4294967296 + M % 4294967296 = (hi * 18446744073709551616 + lo) * 2 ^ s := by rw [hUp, hX]; omega
  have hY0 : 0 < Y := by omega
  obtain ⟨t1, t2⟩ := two_digits 4294967296 X (M % 4294967296) Y hY0
  obtain ⟨z1, z2⟩ := denorm (hi * 18446744073709551616 + lo) y (2 ^ s) hp
  have hR1 : X % Y < Y := Nat.mod_lt _ hY0
  refine div_great hi lo y s Y N M (Y / 4294967296) (Y % 4294967296) (M / 4294967296) (M % 4294967296) (N / (Y / 4294967296)) (N % (Y / 4294967296)) _ _ (X % Y) (X % Y / (Y / 4294967296)) (X % Y % (Y / 4294967296)) _ _ ((X % Y * 4294967296 + M % 4294967296) % Y) _ _
    hs63 (by omega) hhy hy hs ?_ ?_ ?_ (by omega) (maskB Y hY2) (by omega) (maskB M hMlt) (quo_wrap _ _ hN64) (rem_wrap _ _ hN64) (by omega) (by omega) (by omega) (by omega) (by omega) hY2 hY0
    ?_ ?_ hYe ?_ ?_ ⟨rfl, rfl, ?_⟩ ?_ ?_ (quo_wrap _ _ (by omega)) (rem_wrap _ _ (by omega)) ⟨rfl, rfl, rfl⟩ ?_ ?_ ?_ ?_ w
  · rw [cast_mul_pow, ← hY, IntKind.wrap_u64]; omega
  · rw [cast_mul_pow, cast_div_pow, Mul64.wrapN _ (by omega), bits_or_u64_nat _ _ (by omega) (by have := Nat.div_le_self lo (2 ^ (64 - s)); omega), or_add _ _ _ hl1, ← hN]
  · rw [cast_mul_pow, IntKind.wrap_u64, hM]; omega
  · show N < _; rw [← hYe]; exact hNY
  · show X % Y < _; rw [← hYe]; exact hR1
  · exact Guess.init hy1 (by omega) (by omega) (by omega) (by rw [← hYe]; exact hNY)
  · exact Guess.init hy1 (by omega) (by omega) (by omega) (by rw [← hYe]; exact hR1)
  · rw [hX]
  · rw [IntKind.wrap_u64]; omega
  · rw [IntKind.wrap_u64]; omega
  · rw [IntKind.wrap_u64]; omega
  · rw [IntKind.wrap_u64]; omega
  · rw [cast_div_pow, t2, hXU, hY, z2]
  · show _ = _
    rw [← hX, t1, hXU, hY, z1]
end Go.Proofs.Qxb6609083aFmt

/-
  THE WALKS of seat b6609083aF: mul128, add128, less128 (the law's own 128-bit arithmetic).
-/
import Derived.Test.Qxb6609083aFmtRows
import Derived.Test.Qxb6609083aFmtShelf
import Derived.Test.Qxb6609083aFmtPlain
import Derived.WalkKit
import Derived.WalkSpells
import Derived.WalkLawsBesides
import Derived.Lib.Mul64
import Derived.Laws.Bits64b
import Derived.Deep.QuietTactic
import Derived.BigQuiet
namespace Go.Proofs.Qxb6609083aFmt
open Go.RowKit Pl

set_option maxHeartbeats 1000000 in
/-- mul128: the whole product, in two words. -/
theorem mul128_any (x y : Nat) (hx : x < 18446744073709551616) (hy : y < 18446744073709551616) (w : World) :
    Calls Tryf.prog 11 #[.int .u64 x, .int .u64 y] w fun e w' => e = .returned (.tuple #[.int .u64 ((x * y / 18446744073709551616 : Nat) : Int), .int .u64 ((x * y % 18446744073709551616 : Nat) : Int)]) ∧ w' = w := by
  obtain ⟨bd, bt, bw, hhi⟩ := Lib.mul64_hi x y hx hy
  have ba := Lib.half_mul_le (a := x / 4294967296) (b := y / 4294967296) (by omega) (by omega)
  have bb := Lib.half_mul_le (a := x / 4294967296) (b := y % 4294967296) (by omega) (by omega)
  have bc := Lib.half_mul_le (a := x % 4294967296) (b := y / 4294967296) (by omega) (by omega)
  have ba' : x / 4294967296 * (y / 4294967296) < 18446744073709551616 := by omega
  have bb' : x / 4294967296 * (y % 4294967296) < 18446744073709551616 := by omega
  have bc' : x % 4294967296 * (y / 4294967296) < 18446744073709551616 := by omega
  have bh1 : x / 4294967296 * (y / 4294967296) + (x / 4294967296 * (y % 4294967296) + x % 4294967296 * (y % 4294967296) / 4294967296) / 4294967296 < 18446744073709551616 := by omega
  have bh : x / 4294967296 * (y / 4294967296) + (x / 4294967296 * (y % 4294967296) + x % 4294967296 * (y % 4294967296) / 4294967296) / 4294967296 + ((x / 4294967296 * (y % 4294967296) + x % 4294967296 * (y % 4294967296) / 4294967296) % 4294967296 + x % 4294967296 * (y / 4294967296)) / 4294967296 < 18446744073709551616 := by omega
  go_enter Tryf.func11, Tryf.ntmps11
  go_wp2
  simp only [Mul64.maskN x hx, Mul64.maskN y hy, Mul64.divN, Mul64.mulN, Mul64.addN, Mul64.wrapN _ bd, Mul64.wrapN _ bb', Mul64.wrapN _ bt, Mul64.maskN _ bt, Mul64.wrapN _ bc', Mul64.wrapN _ bw, Mul64.wrapN _ ba', Mul64.wrapN _ bh1, Mul64.wrapN _ bh, Mul64.wrapM (x * y)]
  rw [hhi]
  go_ret2
  exact ⟨rfl, rfl⟩

set_option maxHeartbeats 1000000 in
/-- less128. -/
theorem less128_any (a b c d : Int) (w : World) :
    Calls Tryf.prog 13 #[.int .u64 a, .int .u64 b, .int .u64 c, .int .u64 d] w fun e w' => e = .returned (.bool (decide (a < c ∨ (a = c ∧ b < d)))) ∧ w' = w := by
  by_cases h1 : a < c
  · go_enter Tryf.func13, Tryf.ntmps13
    go_wp2
    go_ret
    exact ⟨by simp [h1], rfl⟩
  · by_cases h2 : a = c
    · subst h2
      by_cases h3 : b < d
      · go_enter Tryf.func13, Tryf.ntmps13
        go_wp2
        go_ret
        exact ⟨by simp, rfl⟩
      · go_enter Tryf.func13, Tryf.ntmps13
        go_wp2
        go_ret
        exact ⟨by simp [h3], rfl⟩
    · have h2' : (a == c) = false := by simpa using h2
      go_enter Tryf.func13, Tryf.ntmps13
      go_wp2
      go_ret
      exact ⟨by simp [h1], rfl⟩

theorem ret2_int {k : IntKind} {a b c d : Int} (h1 : a = b) (h2 : c = d) : Ending.returned (.tuple #[.int k a, .int k c]) = .returned (.tuple #[.int k b, .int k d]) := by rw [h1, h2]
set_option maxHeartbeats 1000000 in
/-- add128: a 128-bit number in two words, and a word. -/
theorem add128_any (hi lo x : Nat) (hhi : hi < 9223372036854775808) (hlo : lo < 18446744073709551616) (hx : x < 18446744073709551616) (w : World) :
    Calls Tryf.prog 12 #[.int .u64 hi, .int .u64 lo, .int .u64 x] w fun e w' => e = .returned (.tuple #[.int .u64 (((hi * 18446744073709551616 + lo + x) / 18446744073709551616 : Nat) : Int), .int .u64 (((hi * 18446744073709551616 + lo + x) % 18446744073709551616 : Nat) : Int)]) ∧ w' = w := by
  by_cases hc : lo + x < 18446744073709551616
  · have e1 : IntKind.u64.wrap ((lo : Int) + (x : Int)) = (lo : Int) + (x : Int) := by rw [IntKind.wrap_u64]; omega
    have h1 : (lo : Int) ≤ (lo : Int) + (x : Int) := by omega
    go_enter Tryf.func12, Tryf.ntmps12
    go_wp2
    go_ret2
    exact ⟨ret2_int (by omega) (by omega), rfl⟩
  · obtain ⟨z, hz⟩ : ∃ z : Nat, lo + x = z + 18446744073709551616 := ⟨lo + x - 18446744073709551616, by omega⟩
    have e1 : IntKind.u64.wrap ((lo : Int) + (x : Int)) = (z : Int) := by rw [IntKind.wrap_u64]; omega
    have e2 : IntKind.u64.wrap ((hi : Int) + 1) = (hi : Int) + 1 := by rw [IntKind.wrap_u64]; omega
    have h1 : (z : Int) < (lo : Int) := by omega
    have HZ : Hid (lo + x = z + 18446744073709551616) := hz
    clear hz hc
    go_enter Tryf.func12, Tryf.ntmps12
    go_wp2
    go_ret2
    have hz := HZ.out
    exact ⟨ret2_int (by omega) (by omega), rfl⟩
end Go.Proofs.Qxb6609083aFmt

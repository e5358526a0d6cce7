/-
  THE WALKS of seat b6608861aF: zzIsATagB1 at a text of one dash; String at the two names; the law.
-/
import Derived.Test.Qxb6608861aFmtRows
import Derived.WalkKit
import Derived.WalkSpells
import Derived.WalkLawsBesides
import Derived.Deep.QuietTactic
import Derived.BigQuiet
namespace Go.Proofs.Qxb6608861aFmt
open Go.RowKit

/-- A text with one dash, at place d: letters of lower case and digits elsewhere. -/
structure OneDash (s : ByteArray) (d : Nat) : Prop where
  lo : 1 ≤ d
  hi : d + 2 ≤ s.size
  top : s.size ≤ 1000
  dash : ∀ k (h : k < s.size), k = d → (s[k].toNat : Int) = 45
  other : ∀ k (h : k < s.size), k ≠ d → (97 ≤ (s[k].toNat : Int) ∧ (s[k].toNat : Int) ≤ 122) ∨ (48 ≤ (s[k].toNat : Int) ∧ (s[k].toNat : Int) ≤ 57)
  head : ∀ h : 0 < s.size, 97 ≤ (s[0].toNat : Int) ∧ (s[0].toNat : Int) ≤ 122
  second : ∀ h : d + 1 < s.size, 97 ≤ (s[d + 1].toNat : Int) ∧ (s[d + 1].toNat : Int) ≤ 122
  tail : ((s.extract (d + 1) s.size).toList == [115, 104, 97, 50, 53, 54]) = true

set_option maxHeartbeats 1000000 in
theorem tag_any (s : ByteArray) (d : Nat) (hd : Hid (OneDash s d)) (w : World) :
    Calls Tryf.prog 5 #[.string s] w fun e w' => e = .returned (.bool true) ∧ w' = w := by
  have h1 := hd.out.lo
  have h2 := hd.out.hi
  have h3 := hd.out.top
  go_enter Tryf.func5, Tryf.ntmps5
  go_wp2
  go_loop [3, 4] (fun x i => ∃ k : Nat, k ≤ s.size ∧ i = .int .i64 k ∧ x = .int .i64 (if k ≤ d then -1 else (d : Int))) (fun _ i => s.size - (intOf i).toNat)
  case atStart => exact ⟨0, Nat.zero_le _, rfl, by rw [if_pos (by omega)]⟩
  case round =>
    obtain ⟨k, hk, rfl, rfl⟩ := hrel
    by_cases hlt : k < s.size
    · have hlt' : (k : Int) < (s.size : Int) := by omega
      by_cases hkd : k = d
      · have e1 := hd.out.dash k hlt hkd
        have e2 : (s[k].toNat : Int) ≤ 45 := by omega
        have e3 : 45 ≤ (s[k].toNat : Int) := by omega
        rw [if_pos (by omega)]
        clear e1
        subst hkd
        go_wp2
        go_round
        case rel => exact ⟨k + 1, by omega, by go_num, by rw [if_neg (by omega)]⟩
        case measure => simp [intOf]; omega
      · have hne : Hid ((if k ≤ d then -1 else (d : Int)) = if k + 1 ≤ d then -1 else (d : Int)) := by
          unfold Hid
          by_cases h : k ≤ d
          · rw [if_pos h, if_pos (by omega)]
          · rw [if_neg h, if_neg (by omega)]
        generalize (if k ≤ d then -1 else (d : Int)) = y at hne ⊢
        rcases hd.out.other k hlt hkd with ⟨e2, e3⟩ | ⟨e2, e3⟩
        all_goals
          go_wp2
          go_round
          case rel => exact ⟨k + 1, by omega, by go_num, by rw [hne.out]⟩
          case measure => simp [intOf]; omega
    · have hge : (s.size : Int) ≤ (k : Int) := by omega
      rw [if_neg (by omega)]
      obtain ⟨a1, a2⟩ := hd.out.head (by omega)
      obtain ⟨a3, a4⟩ := hd.out.second (by omega)
      have a5 := hd.out.tail
      have b1 : (d : Int) < (s.size : Int) - 1 := by omega
      have b2 : 0 < (d : Int) := by omega
      have b3 : (d : Int) + 1 < (s.size : Int) := by omega
      go_wp2
      go_ret
      exact ⟨rfl, rfl⟩

theorem rsa_dash : OneDash ⟨#[114, 115, 97, 45, 115, 104, 97, 50, 53, 54]⟩ 3 where
  lo := by decide
  hi := by decide
  top := by decide
  dash := fun k h e => by subst e; rfl
  other := fun k h ne => by
    have hall : ∀ i : Fin 10, i.val ≠ 3 → (97 ≤ (((⟨#[114, 115, 97, 45, 115, 104, 97, 50, 53, 54]⟩ : ByteArray)[i.val]'i.isLt).toNat : Int) ∧ (((⟨#[114, 115, 97, 45, 115, 104, 97, 50, 53, 54]⟩ : ByteArray)[i.val]'i.isLt).toNat : Int) ≤ 122) ∨ (48 ≤ (((⟨#[114, 115, 97, 45, 115, 104, 97, 50, 53, 54]⟩ : ByteArray)[i.val]'i.isLt).toNat : Int) ∧ (((⟨#[114, 115, 97, 45, 115, 104, 97, 50, 53, 54]⟩ : ByteArray)[i.val]'i.isLt).toNat : Int) ≤ 57) := by decide
    exact hall ⟨k, h⟩ ne
  head := by decide
  second := by decide
  tail := by decide +kernel
theorem ed_dash : OneDash ⟨#[101, 100, 50, 53, 53, 49, 57, 45, 115, 104, 97, 50, 53, 54]⟩ 7 where
  lo := by decide
  hi := by decide
  top := by decide
  dash := fun k h e => by subst e; rfl
  other := fun k h ne => by
    have hall : ∀ i : Fin 14, i.val ≠ 7 → (97 ≤ (((⟨#[101, 100, 50, 53, 53, 49, 57, 45, 115, 104, 97, 50, 53, 54]⟩ : ByteArray)[i.val]'i.isLt).toNat : Int) ∧ (((⟨#[101, 100, 50, 53, 53, 49, 57, 45, 115, 104, 97, 50, 53, 54]⟩ : ByteArray)[i.val]'i.isLt).toNat : Int) ≤ 122) ∨ (48 ≤ (((⟨#[101, 100, 50, 53, 53, 49, 57, 45, 115, 104, 97, 50, 53, 54]⟩ : ByteArray)[i.val]'i.isLt).toNat : Int) ∧ (((⟨#[101, 100, 50, 53, 53, 49, 57, 45, 115, 104, 97, 50, 53, 54]⟩ : ByteArray)[i.val]'i.isLt).toNat : Int) ≤ 57) := by decide
    exact hall ⟨k, h⟩ ne
  head := by decide
  second := by decide
  tail := by decide +kernel

/-- The name of algorithm i (0 or 1). -/
def nameOf (i : Bool) : ByteArray := if i then ⟨#[101, 100, 50, 53, 53, 49, 57, 45, 115, 104, 97, 50, 53, 54]⟩ else ⟨#[114, 115, 97, 45, 115, 104, 97, 50, 53, 54]⟩
theorem tag_name (i : Bool) (w : World) : Calls Tryf.prog 5 #[.string (nameOf i)] w fun e w' => e = .returned (.bool true) ∧ w' = w := by
  cases i
  · exact tag_any _ 3 rsa_dash w
  · exact tag_any _ 7 ed_dash w
theorem names_eq (i j : Bool) : ((nameOf i).toList == (nameOf j).toList) = (i == j) := by cases i <;> cases j <;> decide +kernel

set_option maxHeartbeats 400000 in
theorem string_any (i : Bool) (w : World) : Calls Tryf.prog 4 #[.int .i64 (if i then 1 else 0)] w fun e w' => e = .returned (.string (nameOf i)) ∧ w' = w := by
  cases i
  · rw [if_neg (by simp)]
    go_enter Tryf.func4, Tryf.ntmps4
    go_wp2
    go_ret
    exact ⟨rfl, rfl⟩
  · rw [if_pos rfl]
    go_enter Tryf.func4, Tryf.ntmps4
    go_wp2
    go_ret
    exact ⟨rfl, rfl⟩
theorem string0 (w : World) : Calls Tryf.prog 4 #[.int .i64 0] w fun e w' => e = .returned (.string (nameOf false)) ∧ w' = w := string_any false w
theorem string1 (w : World) : Calls Tryf.prog 4 #[.int .i64 1] w fun e w' => e = .returned (.string (nameOf true)) ∧ w' = w := string_any true w

set_option maxHeartbeats 1000000 in
theorem law_in (i j : Bool) (w : World) : Calls Tryf.prog 3 #[.int .i64 (if i then 1 else 0), .int .i64 (if j then 1 else 0)] w fun e w' => e = .returned (.bool true) ∧ w' = w := by
  have hq := names_eq i j
  cases i <;> cases j
  · simp only [Bool.false_eq_true, if_false] at hq ⊢
    go_enter Tryf.func3, Tryf.ntmps3
    go_wp2_with (first | (go_at_call 4; refine (string0 _).mono ?_; rintro e w' ⟨rfl, rfl⟩) | (go_at_call 5; refine (tag_name false _).mono ?_; rintro e w' ⟨rfl, rfl⟩))
    go_ret
    exact ⟨rfl, rfl⟩
  · simp only [Bool.false_eq_true, if_false, if_true] at hq ⊢
    go_enter Tryf.func3, Tryf.ntmps3
    go_wp2_with fail
    refine (string0 _).mono ?_
    rintro e w' ⟨rfl, rfl⟩
    go_wp2_with fail
    refine (string1 _).mono ?_
    rintro e w' ⟨rfl, rfl⟩
    go_wp2_with fail
    refine (tag_name false _).mono ?_
    rintro e w' ⟨rfl, rfl⟩
    go_wp2_with fail
    refine (tag_name true _).mono ?_
    rintro e w' ⟨rfl, rfl⟩
    go_wp2
    go_ret
    exact ⟨rfl, rfl⟩
  · simp only [Bool.false_eq_true, if_false, if_true] at hq ⊢
    go_enter Tryf.func3, Tryf.ntmps3
    go_wp2_with fail
    refine (string1 _).mono ?_
    rintro e w' ⟨rfl, rfl⟩
    go_wp2_with fail
    refine (string0 _).mono ?_
    rintro e w' ⟨rfl, rfl⟩
    go_wp2_with fail
    refine (tag_name true _).mono ?_
    rintro e w' ⟨rfl, rfl⟩
    go_wp2_with fail
    refine (tag_name false _).mono ?_
    rintro e w' ⟨rfl, rfl⟩
    go_wp2
    go_ret
    exact ⟨rfl, rfl⟩
  · simp only [if_true] at hq ⊢
    go_enter Tryf.func3, Tryf.ntmps3
    go_wp2_with (first | (go_at_call 4; refine (string1 _).mono ?_; rintro e w' ⟨rfl, rfl⟩) | (go_at_call 5; refine (tag_name true _).mono ?_; rintro e w' ⟨rfl, rfl⟩))
    go_ret
    exact ⟨rfl, rfl⟩

set_option maxHeartbeats 1000000 in
theorem law_out (a b : Int) (h : a < 0 ∨ 1 < a ∨ b < 0 ∨ 1 < b) (w : World) : Calls Tryf.prog 3 #[.int .i64 a, .int .i64 b] w fun e w' => e = .returned (.bool true) ∧ w' = w := by
  by_cases h1 : a < 0
  · go_enter Tryf.func3, Tryf.ntmps3
    go_wp2
    go_ret
    exact ⟨rfl, rfl⟩
  · by_cases h2 : 1 < a
    · go_enter Tryf.func3, Tryf.ntmps3
      go_wp2
      go_ret
      exact ⟨rfl, rfl⟩
    · by_cases h3 : b < 0
      · clear h
        go_enter Tryf.func3, Tryf.ntmps3
        go_wp2
        go_ret
        exact ⟨rfl, rfl⟩
      · have h4 : 1 < b := by omega
        clear h
        go_enter Tryf.func3, Tryf.ntmps3
        go_wp2
        go_ret
        exact ⟨rfl, rfl⟩

/-- ████ FnAlgorithmNamesAreDistinctATags: true, at every input ████ -/
theorem law_any (a b : Int) (w : World) : Calls Tryf.prog 3 #[.int .i64 a, .int .i64 b] w fun e w' => e = .returned (.bool true) ∧ w' = w := by
  by_cases h : a < 0 ∨ 1 < a ∨ b < 0 ∨ 1 < b
  · exact law_out a b h w
  · obtain ⟨i, rfl⟩ : ∃ i : Bool, a = if i then 1 else 0 := by
      by_cases e : a = 0
      · exact ⟨false, by simpa using e⟩
      · exact ⟨true, by simp; omega⟩
    obtain ⟨j, rfl⟩ : ∃ i : Bool, b = if i then 1 else 0 := by
      by_cases e : b = 0
      · exact ⟨false, by simpa using e⟩
      · exact ⟨true, by simp; omega⟩
    exact law_in i j w
end Go.Proofs.Qxb6608861aFmt

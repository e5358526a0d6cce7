/-
  THE WALKS of seat b6608861a: newBitSet, has, zzAllZeroB1, zzLeastWordsB1.
-/
import Derived.Test.Qxb6608861aRows
import Derived.WalkKit
import Derived.WalkSpells
import Derived.WalkLawsBesides
import Derived.Deep.OwnRows
import Derived.Deep.QuietTactic
import Derived.BigQuiet
namespace Go.Proofs.Qxb6608861a
open Go.RowKit

theorem info27 : (Try.prog.info? 27).map (fun i => (i.zero, i.size, i.bytes)) = some (some (.int .u64 0), 1, 8) := by kernel_rfl

/-- The world with a new set of m words. -/
def made (m : Nat) : Obj := .cells (madeCells #[.int .u64 0] m) 27
theorem made_row (w : World) (m : Nat) : (w.alloc (made m)).rowIs w.heap.size 27 m (fun _ => .int .u64 0) := World.rowIs_made w _ _ _

set_option maxHeartbeats 400000 in
theorem nbs (n : Int) (m : Nat) (h0 : 0 ≤ n) (h1 : n ≤ 200000) (hm1 : n ≤ 64 * (m : Int)) (hm2 : 64 * (m : Int) ≤ n + 63) (w : World) :
    Calls Try.prog 25 #[.int .i64 n] w fun e w' => e = .returned (.slice (some ⟨w.heap.size, 0, none⟩) m m) ∧ w' = w.alloc (made m) := by
  have hmk : ∀ w : World, (Instr.makeSlice 44 (.int .i64 ((n + 63) / 64)) (.int .i64 ((n + 63) / 64))).run Try.prog w = .ok (.slice (some ⟨w.heap.size, 0, none⟩) m m) (w.alloc (made m)) := fun w => by
    have h := run_make_row' (P := Try.prog) 44 27 (.int .u64 0) 8 Try.underlying44 info27 rfl .i64 .i64 m (by omega) (by omega) w
    rwa [show ((m : Nat) : Int) = (n + 63) / 64 by omega] at h
  go_enter Try.func25, Try.ntmps25
  go_wp2
  go_ret
  exact ⟨rfl, rfl⟩
set_option maxHeartbeats 400000 in
theorem zznbs (n : Int) (m : Nat) (h0 : 0 ≤ n) (h1 : n ≤ 200000) (hm1 : n ≤ 64 * (m : Int)) (hm2 : 64 * (m : Int) ≤ n + 63) (w : World) :
    Calls Try.prog 7 #[.int .i64 n] w fun e w' => e = .returned (.slice (some ⟨w.heap.size, 0, none⟩) m m) ∧ w' = w.alloc (made m) := by
  go_enter Try.func7, Try.ntmps7
  go_wp2_with fail
  refine (nbs n m h0 h1 hm1 hm2 _).mono ?_
  rintro e w' ⟨rfl, rfl⟩
  go_wp2
  go_ret
  exact ⟨rfl, rfl⟩

set_option maxHeartbeats 400000 in
theorem allZero (b m : Nat) (w : World) (hr : Hid (w.rowIs b 27 m (fun _ => .int .u64 0))) (hm : m ≤ 200000) :
    Calls Try.prog 9 #[.slice (some ⟨b, 0, none⟩) m m] w fun e w' => e = .returned (.bool true) ∧ w' = w := by
  go_enter Try.func9, Try.ntmps9
  go_wp2
  go_loop [3] (fun i => ∃ k : Nat, k ≤ m ∧ i = .int .i64 k) (fun i => m - (intOf i).toNat)
  case atStart => exact ⟨0, Nat.zero_le _, rfl⟩
  case round =>
    obtain ⟨k, hk, rfl⟩ := hrel
    by_cases hlt : k < m
    · have hc : w.cell? ⟨b, k, none⟩ = some (.int .u64 0) := hr.out.cell hlt
      go_wp2
      go_round
      case rel => exact ⟨k + 1, by omega, by go_num⟩
      case measure => simp [intOf]; omega
    · go_wp2
      go_ret
      exact ⟨rfl, rfl⟩

set_option maxHeartbeats 400000 in
theorem least (l n : Int) (h0 : 0 ≤ l) (h1 : l ≤ 200000) (hl1 : n ≤ 64 * l) (hl2 : 64 * l ≤ n + 63) (w : World) :
    Calls Try.prog 8 #[.int .i64 l, .int .i64 n] w fun e w' => e = .returned (.bool true) ∧ w' = w := by
  by_cases hz : l = 0
  · subst hz
    go_enter Try.func8, Try.ntmps8
    go_wp2
    go_ret
    exact ⟨rfl, rfl⟩
  · have hp : 1 ≤ l := by omega
    have hlt : 64 * (l - 1) < n := by omega
    have hz' : (l == 0) = false := by simpa using hz
    go_enter Try.func8, Try.ntmps8
    go_wp2
    go_ret
    exact ⟨rfl, rfl⟩

set_option maxHeartbeats 400000 in
/-- has, beyond the words. -/
theorem has_off (b m : Nat) (i : Nat) (w : World) (hi : 64 * m ≤ i) (hi2 : i ≤ 20000000) :
    Calls Try.prog 26 #[.slice (some ⟨b, 0, none⟩) m m, .int .i64 i] w fun e w' => e = .returned (.bool false) ∧ ∃ n, w' = w.drewN n := by
  have hd : decide ((i : Int) / 64 < (m : Int)) = false := decide_eq_false (by omega)
  go_enter Try.func26, Try.ntmps26
  go_wp2
  go_quiet (fail)
  go_wp2
  go_ret
  exact ⟨rfl, _, rfl⟩

set_option maxHeartbeats 400000 in
/-- has, within. -/
theorem has_in (b m : Nat) (i : Nat) (x : Int) (v : Bool) (w : World) (hm : m ≤ 200000) (hi : i < 64 * m) (hc : w.cell? ⟨b, i / 64, none⟩ = some (.int .u64 x)) (hv : Hid ((bits BinOp.and IntKind.u64 x (IntKind.u64.wrap (2 ^ (i % 64))) != 0) = v)) :
    Calls Try.prog 26 #[.slice (some ⟨b, 0, none⟩) m m, .int .i64 i] w fun e w' => e = .returned (.bool v) ∧ ∃ n, w' = w.drewN n := by
  have hd : (i : Int) / 64 < (m : Int) := by omega
  have hd0 : 0 ≤ (i : Int) / 64 := by omega
  go_enter Try.func26, Try.ntmps26
  go_wp2
  go_quiet (fail)
  rw [hv.out]
  go_wp2
  go_ret
  exact ⟨rfl, _, rfl⟩

set_option maxHeartbeats 400000 in
theorem zzhas_off (b m : Nat) (i : Nat) (w : World) (hi : 64 * m ≤ i) (hi2 : i ≤ 20000000) :
    Calls Try.prog 10 #[.slice (some ⟨b, 0, none⟩) m m, .int .i64 i] w fun e w' => e = .returned (.bool false) ∧ ∃ n, w' = w.drewN n := by
  go_enter Try.func10, Try.ntmps10
  go_wp2_with fail
  refine (has_off b m i _ hi hi2).mono ?_
  rintro e w' ⟨rfl, n, rfl⟩
  go_wp2
  go_ret
  exact ⟨rfl, _, rfl⟩
set_option maxHeartbeats 400000 in
theorem zzhas_in (b m : Nat) (i : Nat) (x : Int) (v : Bool) (w : World) (hm : m ≤ 200000) (hi : i < 64 * m) (hc : w.cell? ⟨b, i / 64, none⟩ = some (.int .u64 x)) (hv : Hid ((bits BinOp.and IntKind.u64 x (IntKind.u64.wrap (2 ^ (i % 64))) != 0) = v)) :
    Calls Try.prog 10 #[.slice (some ⟨b, 0, none⟩) m m, .int .i64 i] w fun e w' => e = .returned (.bool v) ∧ ∃ n, w' = w.drewN n := by
  go_enter Try.func10, Try.ntmps10
  go_wp2_with fail
  refine (has_in b m i x v _ hm hi hc hv).mono ?_
  rintro e w' ⟨rfl, n, rfl⟩
  go_wp2
  go_ret
  exact ⟨rfl, _, rfl⟩

set_option maxRecDepth 100000 in
theorem zero_fin : ∀ b : Fin 64, (bits BinOp.and IntKind.u64 0 (IntKind.u64.wrap (2 ^ b.val)) != 0) = false := by decide +kernel
set_option maxRecDepth 100000 in
theorem pow_fin : ∀ a b : Fin 64, (bits BinOp.and IntKind.u64 (2 ^ a.val) (IntKind.u64.wrap (2 ^ b.val)) != 0) = decide (a = b) := by decide +kernel
set_option maxRecDepth 100000 in
theorem or_fin : ∀ a : Fin 64, bits BinOp.or IntKind.u64 0 (IntKind.u64.wrap (2 ^ a.val)) = 2 ^ a.val := by decide +kernel

set_option maxHeartbeats 1000000 in
theorem split_in (k r : Int) (m : Nat) (h0 : 0 ≤ k) (h1 : k ≤ 1024) (h2 : 0 ≤ r) (h3 : r ≤ 65536) (hm1 : r ≤ 64 * (m : Int)) (hm2 : 64 * (m : Int) ≤ r + 63) (w : World) :
    Calls Try.prog 3 #[.int .i64 k, .int .i64 r] w fun e w' => e = .returned (.bool true) ∧ Below w.heap.size w w' := by
  obtain ⟨q, rfl⟩ : ∃ q : Nat, k = (q : Int) := ⟨k.toNat, by omega⟩
  have R1 : Hid (((w.alloc (made (q + m))).alloc (made m)).rowIs w.heap.size 27 (q + m) (fun _ => .int .u64 0)) := (made_row w _).alloc _
  have R2 : Hid (((w.alloc (made (q + m))).alloc (made m)).rowIs (w.heap.size + 1) 27 m (fun _ => .int .u64 0)) := by
    have := made_row (w.alloc (made (q + m))) m
    rwa [World.size_alloc] at this
  go_enter Try.func3, Try.ntmps3
  go_wp2_with fail
  refine (zznbs _ (q + m) (by omega) (by omega) (by omega) (by omega) _).mono ?_
  rintro e w' ⟨rfl, rfl⟩
  go_wp2_with fail
  refine (zznbs _ m (by omega) (by omega) (by omega) (by omega) _).mono ?_
  rintro e w' ⟨rfl, rfl⟩
  go_wp2_with fail
  refine (least _ _ (by omega) (by omega) (by omega) (by omega) _).mono ?_
  rintro e w' ⟨rfl, rfl⟩
  go_wp2_with fail
  refine (least _ _ (by omega) (by omega) (by omega) (by omega) _).mono ?_
  rintro e w' ⟨rfl, rfl⟩
  go_wp2_with fail
  refine (allZero _ _ _ R1.out (by omega)).mono ?_
  rintro e w' ⟨rfl, rfl⟩
  go_wp2_with fail
  refine (allZero _ _ _ R2.out (by omega)).mono ?_
  rintro e w' ⟨rfl, rfl⟩
  go_wp2
  go_ret
  exact ⟨rfl, ((Below.refl _ _).alloc (Nat.le_refl _) _).alloc (by simp) _⟩
set_option maxHeartbeats 1000000 in
theorem split_out (k r : Int) (h : k < 0 ∨ 1024 < k ∨ r < 0 ∨ 65536 < r) (w : World) :
    Calls Try.prog 3 #[.int .i64 k, .int .i64 r] w fun e w' => e = .returned (.bool true) ∧ Below w.heap.size w w' := by
  by_cases h1 : k < 0
  · go_enter Try.func3, Try.ntmps3
    go_wp2
    go_ret
    exact ⟨rfl, Below.refl _ _⟩
  · by_cases h2 : 1024 < k
    · go_enter Try.func3, Try.ntmps3
      go_wp2
      go_ret
      exact ⟨rfl, Below.refl _ _⟩
    · by_cases h3 : r < 0
      · clear h
        go_enter Try.func3, Try.ntmps3
        go_wp2
        go_ret
        exact ⟨rfl, Below.refl _ _⟩
      · have h4 : 65536 < r := by omega
        clear h
        go_enter Try.func3, Try.ntmps3
        go_wp2
        go_ret
        exact ⟨rfl, Below.refl _ _⟩
/-- ████ FnNewBitSetSplitAt64: true, at every input ████ -/
theorem split_any (k r : Int) (w : World) :
    Calls Try.prog 3 #[.int .i64 k, .int .i64 r] w fun e w' => e = .returned (.bool true) ∧ Below w.heap.size w w' := by
  by_cases h : k < 0 ∨ 1024 < k ∨ r < 0 ∨ 65536 < r
  · exact split_out k r h w
  · exact split_in k r ((r + 63) / 64).toNat (by omega) (by omega) (by omega) (by omega) (by omega) (by omega) w
end Go.Proofs.Qxb6608861a

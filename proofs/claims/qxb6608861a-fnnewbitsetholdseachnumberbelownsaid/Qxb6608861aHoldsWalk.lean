/-
  THE WALK of seat b6608861a's FnNewBitSetHoldsEachNumberBelowN.
-/
import Derived.Test.Qxb6608861aWalks
namespace Go.Proofs.Qxb6608861a
open Go.RowKit

theorem row_drewN {w : World} {b : Nat} {t : TypeId} {n : Nat} {f : Nat → Value} (h : w.rowIs b t n f) (k : Nat) : (w.drewN k).rowIs b t n f := h.of_block rfl
/-- The word that is set. -/
def word (q a : Nat) : Nat → Value := fun t => if t = q then .int .u64 (2 ^ a) else .int .u64 0

/-- What has asks of the word at i / 64, the bit of j set. -/
theorem bit_at (i j : Nat) : ∃ x : Int, word (j / 64) (j % 64) (i / 64) = .int .u64 x ∧ (bits BinOp.and IntKind.u64 x (IntKind.u64.wrap (2 ^ (i % 64))) != 0) = decide (i = j) := by
  unfold word
  by_cases h : i / 64 = j / 64
  · refine ⟨2 ^ (j % 64), by rw [if_pos h], ?_⟩
    have := pow_fin ⟨j % 64, by omega⟩ ⟨i % 64, by omega⟩
    rw [this]
    rw [decide_eq_decide, Fin.mk.injEq]
    omega
  · refine ⟨0, by rw [if_neg h], ?_⟩
    have := zero_fin ⟨i % 64, by omega⟩
    rw [this]
    exact (decide_eq_false (by omega)).symm

/-- The word stored. -/
theorem word_set {wr : World} {b m j : Nat} (hr : wr.rowIs b 27 m (fun _ => .int .u64 0)) :
    (wr.setCell ⟨b, j / 64, none⟩ (.int .u64 (bits BinOp.or IntKind.u64 0 (IntKind.u64.wrap (2 ^ (j % 64)))))).rowIs b 27 m (word (j / 64) (j % 64)) := by
  rw [or_fin ⟨j % 64, by omega⟩]
  exact hr.set _ _

set_option maxHeartbeats 2000000 in
theorem holds_in (n : Int) (j m : Nat) (h0 : 1 ≤ n) (h1 : n ≤ 65536) (h2 : (j : Int) < n) (hm1 : n ≤ 64 * (m : Int)) (hm2 : 64 * (m : Int) ≤ n + 63) (w : World) :
    Calls Try.prog 4 #[.int .i64 n, .int .i64 j] w fun e w' => e = .returned (.bool true) ∧ Below w.heap.size w w' := by
  have hj0 : 0 ≤ (j : Int) := by omega
  have hjm : (j : Int) / 64 < (m : Int) := by omega
  have hjm0 : 0 ≤ (j : Int) / 64 := by omega
  have hmb : m ≤ 2000 := by omega
  have hb0 := (Below.refl w.heap.size w).alloc (Nat.le_refl _) (made m)
  have R0 : Hid ((w.alloc (made m)).rowIs w.heap.size 27 m (fun _ => .int .u64 0)) := made_row w m
  have B0 : Hid (Below w.heap.size w (w.alloc (made m))) := hb0
  clear hb0
  go_enter Try.func4, Try.ntmps4
  go_wp2_with fail
  refine (zznbs _ m (by omega) (by omega) (by omega) (by omega) _).mono ?_
  rintro e w' ⟨rfl, rfl⟩
  go_wp2
  go_loopw [6] (fun i wr => ∃ k : Nat, k ≤ 64 * m + 64 ∧ i = .int .i64 k ∧ Hid (wr.rowIs w.heap.size 27 m (fun _ => .int .u64 0)) ∧ Hid (Below w.heap.size w wr)) (fun i _ => 64 * m + 64 - (intOf i).toNat)
  case atStart => exact ⟨0, Nat.zero_le _, rfl, R0.out, B0.out⟩
  case round =>
    obtain ⟨k, hk, rfl, hrow, hbel⟩ := hrel
    by_cases hlt : k < 64 * m + 64
    · by_cases hin : k < 64 * m
      · go_wp2_with fail
        refine (zzhas_in w.heap.size m k 0 false _ (by omega) hin (hrow.out.cell (by omega)) (zero_fin ⟨k % 64, by omega⟩)).mono ?_
        rintro e w' ⟨rfl, nq, rfl⟩
        go_wp2
        go_roundw
        case rel => exact ⟨k + 1, by omega, by go_num, row_drewN hrow.out _, below_drewN hbel.out _⟩
        case measure => simp [intOf]; omega
      · go_wp2_with fail
        refine (zzhas_off w.heap.size m k _ (by omega) (by omega)).mono ?_
        rintro e w' ⟨rfl, nq, rfl⟩
        go_wp2
        go_roundw
        case rel => exact ⟨k + 1, by omega, by go_num, row_drewN hrow.out _, below_drewN hbel.out _⟩
        case measure => simp [intOf]; omega
    · have hf1 : wr.frozen? ⟨w.heap.size, j / 64, none⟩ = false := hrow.out.frozen _
      have hc1 : wr.cell? ⟨w.heap.size, j / 64, none⟩ = some (.int .u64 0) := hrow.out.cell (by omega)
      have R1 : Hid ((wr.setCell ⟨w.heap.size, j / 64, none⟩ (.int .u64 (bits BinOp.or IntKind.u64 0 (IntKind.u64.wrap (2 ^ (j % 64)))))).rowIs w.heap.size 27 m (word (j / 64) (j % 64))) := word_set hrow.out
      have B1 : Hid (Below w.heap.size w (wr.setCell ⟨w.heap.size, j / 64, none⟩ (.int .u64 (bits BinOp.or IntKind.u64 0 (IntKind.u64.wrap (2 ^ (j % 64))))))) := hbel.out.setCell (Nat.le_refl _) _
      go_wp2
      clear hf1 hc1 hrow hbel
      go_loopw [7] (fun i wq => ∃ q : Nat, q ≤ 64 * m + 64 ∧ i = .int .i64 q ∧ Hid (wq.rowIs w.heap.size 27 m (word (j / 64) (j % 64))) ∧ Hid (Below w.heap.size w wq)) (fun i _ => 64 * m + 64 - (intOf i).toNat)
      case atStart => exact ⟨0, Nat.zero_le _, rfl, R1.out, B1.out⟩
      case round =>
        obtain ⟨q, hq, rfl, hrow, hbel⟩ := hrel
        by_cases hlt2 : q < 64 * m + 64
        · by_cases hin : q < 64 * m
          · obtain ⟨x, hx1, hx2⟩ := bit_at q j
            have hcx := hrow.out.cell (i := q / 64) (by omega)
            rw [hx1] at hcx
            by_cases hqj : q = j
            · have hv : Hid ((bits BinOp.and IntKind.u64 x (IntKind.u64.wrap (2 ^ (q % 64))) != 0) = true) := by unfold Hid; rw [hx2]; exact decide_eq_true hqj
              clear hx1 hx2
              subst hqj
              go_wp2_with fail
              refine (zzhas_in w.heap.size m q x true _ (by omega) hin hcx hv).mono ?_
              rintro e w' ⟨rfl, nq, rfl⟩
              go_wp2
              go_roundw
              case rel => exact ⟨q + 1, by omega, by go_num, row_drewN hrow.out _, below_drewN hbel.out _⟩
              case measure => simp [intOf]; omega
            · have hv : Hid ((bits BinOp.and IntKind.u64 x (IntKind.u64.wrap (2 ^ (q % 64))) != 0) = false) := by unfold Hid; rw [hx2]; exact decide_eq_false hqj
              have hne : ((q : Int) == (j : Int)) = false := by simp; omega
              clear hx1 hx2
              go_wp2_with fail
              refine (zzhas_in w.heap.size m q x false _ (by omega) hin hcx hv).mono ?_
              rintro e w' ⟨rfl, nq, rfl⟩
              go_wp2
              go_roundw
              case rel => exact ⟨q + 1, by omega, by go_num, row_drewN hrow.out _, below_drewN hbel.out _⟩
              case measure => simp [intOf]; omega
          · have hne : ((q : Int) == (j : Int)) = false := by simp; omega
            go_wp2_with fail
            refine (zzhas_off w.heap.size m q _ (by omega) (by omega)).mono ?_
            rintro e w' ⟨rfl, nq, rfl⟩
            go_wp2
            go_roundw
            case rel => exact ⟨q + 1, by omega, by go_num, row_drewN hrow.out _, below_drewN hbel.out _⟩
            case measure => simp [intOf]; omega
        · go_wp2
          go_ret
          exact ⟨rfl, hbel.out⟩

set_option maxHeartbeats 1000000 in
theorem holds_out (n j : Int) (h : n < 1 ∨ 65536 < n ∨ j < 0 ∨ n ≤ j) (w : World) :
    Calls Try.prog 4 #[.int .i64 n, .int .i64 j] w fun e w' => e = .returned (.bool true) ∧ Below w.heap.size w w' := by
  by_cases h1 : n < 1
  · go_enter Try.func4, Try.ntmps4
    go_wp2
    go_ret
    exact ⟨rfl, Below.refl _ _⟩
  · by_cases h2 : 65536 < n
    · go_enter Try.func4, Try.ntmps4
      go_wp2
      go_ret
      exact ⟨rfl, Below.refl _ _⟩
    · by_cases h3 : j < 0
      · clear h
        go_enter Try.func4, Try.ntmps4
        go_wp2
        go_ret
        exact ⟨rfl, Below.refl _ _⟩
      · have h4 : n ≤ j := by omega
        clear h
        go_enter Try.func4, Try.ntmps4
        go_wp2
        go_ret
        exact ⟨rfl, Below.refl _ _⟩
/-- ████ FnNewBitSetHoldsEachNumberBelowN: true, at every input ████ -/
theorem holds_any (n j : Int) (w : World) :
    Calls Try.prog 4 #[.int .i64 n, .int .i64 j] w fun e w' => e = .returned (.bool true) ∧ Below w.heap.size w w' := by
  by_cases h : n < 1 ∨ 65536 < n ∨ j < 0 ∨ n ≤ j
  · exact holds_out n j h w
  · obtain ⟨q, rfl⟩ : ∃ q : Nat, j = (q : Int) := ⟨j.toNat, by omega⟩
    exact holds_in n q ((n + 63) / 64).toNat (by omega) (by omega) (by omega) (by omega) (by omega) w
end Go.Proofs.Qxb6608861a

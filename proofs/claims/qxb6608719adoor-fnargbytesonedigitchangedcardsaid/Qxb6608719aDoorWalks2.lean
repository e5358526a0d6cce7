/-
  THE WALKS of seat b6608719aD: decodeLowerHex.
-/
import Derived.Test.Qxb6608719aDoorWalks
import Derived.Deep.RegionHeld3
import Derived.Deep.DrawnRows
import Derived.RegionTactic
import Derived.ChangeAlike
namespace Go.Proofs.Qxb6608719aDoor
open Go.RowKit Pl
attribute [local go_sem ↓] Go.wp_at_zero Go.wp_at_succ

theorem info5 : (Tryd.prog.info? 5).map (fun i => (i.zero, i.size, i.bytes)) = some (some (.int .u8 0), 1, 1) := by kernel_rfl

theorem lhv_u8 (c : UInt8) (w : World) :
    Calls Tryd.prog 24 #[.int .u8 (c.toNat : Int)] w fun e w' => e = .returned (.int .i64 (lhv (c.toNat : Int))) ∧ w' = w := by
  have := c.toNat_lt
  exact lhv_any _ (by omega) (by omega) w

set_option maxRecDepth 100000 in
theorem or_fin : ∀ a b : Fin 16, bits BinOp.or IntKind.i64 (wrap64 (((a.val : Nat) : Int) * 16)) ((b.val : Nat) : Int) % 256 = (((a.val * 16 + b.val : Nat)) : Int) := by decide +kernel
theorem or_nib (a b : Int) (ha : 0 ≤ a) (ha' : a ≤ 15) (hb : 0 ≤ b) (hb' : b ≤ 15) : bits BinOp.or IntKind.i64 (wrap64 (a * 16)) b % 256 = ((UInt8.ofNat (a.toNat * 16 + b.toNat)).toNat : Int) := by
  have h := or_fin ⟨a.toNat, by omega⟩ ⟨b.toNat, by omega⟩
  rw [UInt8.toNat_ofNat', Nat.mod_eq_of_lt (by omega), ← h]
  simp only [Int.toNat_of_nonneg ha, Int.toNat_of_nonneg hb]
theorem at_list (s : ByteArray) (i : Nat) (h : i < s.size) : s.data.toList[i]? = some s[i] := by
  rw [List.getElem?_eq_getElem (by rw [size_len]; exact h)]; rfl
open Go.Lib in
/-- What a round of the loop leaves in the row. -/
theorem row_next (s : ByteArray) (n k b : Nat) (wr : World) (hn : s.size = 2 * n) (hl : lowB s.data.toList = true) (hk : k < n) (hr : wr.rowIs b 5 n (Hx.rowP (fun _ => .int .u8 0) 0 ((prs s.data.toList).take k)))
    (h0 : 2 * k < s.size) (h1 : 2 * k + 1 < s.size) :
    (wr.setCell ⟨b, k, none⟩ (.int .u8 (bits BinOp.or IntKind.i64 (wrap64 (lhv ((s[2 * k]'h0).toNat : Int) * 16)) (lhv ((s[2 * k + 1]'h1).toNat : Int)) % 256))).drew.rowIs b 5 n (Hx.rowP (fun _ => .int .u8 0) 0 ((prs s.data.toList).take (k + 1))) := by
  have e0 := at_list s _ h0
  have e1 := at_list s _ h1
  generalize s[2 * k]'h0 = p at e0 ⊢
  generalize s[2 * k + 1]'h1 = q at e1 ⊢
  have lp : 0 ≤ lb p := lowB_at hl _ _ e0
  have lq : 0 ≤ lb q := lowB_at hl _ _ e1
  have rp := lb_range p
  have rq := lb_range q
  have hlen : (prs s.data.toList).length = n := by rw [prs_length, size_len]; omega
  have hat := prs_at _ k p q e0 e1
  have htk : (prs s.data.toList).take (k + 1) = (prs s.data.toList).take k ++ [UInt8.ofNat ((lb p).toNat * 16 + (lb q).toNat)] := by
    rw [List.take_add_one, hat]; rfl
  have hpl : ((prs s.data.toList).take k).length = k := by rw [List.length_take, hlen]; omega
  have hv := or_nib (lb p) (lb q) lp rp.2 lq rq.2
  unfold lb at hv
  rw [hv, htk]
  refine ((hr.set k _).congr (fun j _ => ?_)).drew
  have e3 := Hx.rowP_step (fun _ => .int .u8 0) 0 ((prs s.data.toList).take k) (UInt8.ofNat ((lb p).toNat * 16 + (lb q).toNat)) j
  rw [hpl, Nat.zero_add] at e3
  exact e3

set_option maxHeartbeats 400000 in
theorem dlh_no (s : ByteArray) (hs : s.size ≤ 1048576) (hl : Hid (lowB s.data.toList = false)) (w : World) :
    Calls Tryd.prog 20 #[.string s] w fun e w' => e = .returned (.tuple #[.string ⟨#[]⟩, .bool false]) ∧ Below w.heap.size w w' := by
  go_enter Tryd.func20, Tryd.ntmps20
  go_wp2_with fail
  refine (low_any s hs _).mono ?_
  rw [hl.out]
  rintro e w1 ⟨rfl, rfl⟩
  go_wp2
  go_ret2
  exact ⟨rfl, Below.refl _ _⟩

set_option maxHeartbeats 1000000 in
theorem dlh_yes (s : ByteArray) (hs : s.size ≤ 1048576) (hl : Hid (lowB s.data.toList = true)) (w : World) :
    Calls Tryd.prog 20 #[.string s] w fun e w' => e = .returned (.tuple #[.string ⟨(prs s.data.toList).toArray⟩, .bool true]) ∧ Below w.heap.size w w' := by
  have hev : s.size % 2 = 0 := by have := lowB_even hl.out; rwa [size_len] at this
  obtain ⟨n, hn⟩ : ∃ n, s.size = 2 * n := ⟨s.size / 2, by omega⟩
  have HN : Hid (s.size = 2 * n) := hn
  have hn1 : 2 * n ≤ s.size := by omega
  have hn2 : s.size ≤ 2 * n := by omega
  have hmk : ∀ w : World, (Instr.makeSlice 31 (.int .i64 ((s.size : Int) / 2)) (.int .i64 ((s.size : Int) / 2))).run Tryd.prog w = .ok (.slice (some ⟨w.heap.size, 0, none⟩) n n) (w.alloc (.cells (madeCells #[.int .u8 0] n) 5)) := fun w => by
    have h := run_make_row' (P := Tryd.prog) 31 5 (.int .u8 0) 1 Tryd.underlying31 info5 rfl .i64 .i64 n (by omega) (by omega) w
    rwa [show ((n : Nat) : Int) = (s.size : Int) / 2 by omega] at h
  clear hn hev
  go_enter Tryd.func20, Tryd.ntmps20
  go_wp2_with fail
  refine (low_any s hs _).mono ?_
  rw [hl.out]
  rintro e w1 ⟨rfl, rfl⟩
  go_wp2
  go_loopw [5] (fun i wr => ∃ k : Nat, k ≤ n ∧ i = .int .i64 k ∧ Hid (wr.rowIs w1.heap.size 5 n (Lib.Hx.rowP (fun _ => .int .u8 0) 0 ((prs s.data.toList).take k))) ∧ Hid (Below w1.heap.size w1 wr)) (fun i _ => n - (intOf i).toNat)
  case atStart => exact ⟨0, Nat.zero_le _, rfl, (World.rowIs_made w1 _ _ _).congr (fun j _ => Lib.Hx.rowP_nil (fun _ => .int .u8 0) 0 j), (Below.refl _ _).alloc (Nat.le_refl _) _⟩
  case round =>
    obtain ⟨k, hk, rfl, hrow, hbel⟩ := hrel
    by_cases hlt : k < n
    · have hb0 : s[2 * k].toNat < 256 := s[2 * k].toNat_lt
      have hb1 : s[2 * k + 1].toNat < 256 := s[2 * k + 1].toNat_lt
      have i0 : 0 ≤ 2 * (k : Int) := by omega
      have i1 : 2 * (k : Int) < (s.size : Int) := by omega
      have i2 : 2 * (k : Int) + 1 < (s.size : Int) := by omega
      have i3 : (k : Int) < (n : Int) := by omega
      have q1 : IntKind.i64.wrap (2 * (k : Int)) = 2 * (k : Int) := by rw [IntKind.wrap_i64]; omega
      have q2 : IntKind.i64.wrap (2 * (k : Int) + 1) = 2 * (k : Int) + 1 := by rw [IntKind.wrap_i64]; omega
      have hf1 : wr.frozen? ⟨w1.heap.size, k, none⟩ = false := hrow.out.frozen _
      have hc1 : wr.cell? ⟨w1.heap.size, k, none⟩ = some (Lib.Hx.rowP (fun _ => .int .u8 0) 0 ((prs s.data.toList).take k) k) := hrow.out.cell (by omega)
      go_wp2
      go_region_held3 (fun w' => True) (trivial) (first | (go_at_call 24; refine (lhv_u8 _ _).mono ?_; rintro e w' ⟨rfl, rfl⟩))
      all_goals
        go_wp2
        go_roundw
        case rel => exact ⟨k + 1, by omega, by go_num, row_next s n k _ wr HN.out hl.out hlt hrow.out (by omega) (by omega), (hbel.out.setCell (Nat.le_refl _) _).drew⟩
        case measure => simp [intOf]; omega
    · have hkn : k = n := by omega
      have hlen : (prs s.data.toList).length = n := by rw [prs_length, size_len, HN.out]; omega
      have hr2 := hrow.out
      rw [List.take_of_length_le (by omega)] at hr2
      have hcv := run_convert_bytes_back (P := Tryd.prog) wr 31 9 5 ⟨w1.heap.size, 0, none⟩ n (prs s.data.toList) Tryd.underlying31 Tryd.underlying5 Tryd.underlying9 (fun j hj => by rw [addr_add]; exact rowP_cells hr2 (by omega) j hj)
      rw [hlen] at hcv
      have HL : Hid (prs s.data.toList = prs s.data.toList) := rfl
      clear hr2 hlen hkn HL
      go_wp2
      go_ret2
      exact ⟨rfl, hbel.out⟩
end Go.Proofs.Qxb6608719aDoor

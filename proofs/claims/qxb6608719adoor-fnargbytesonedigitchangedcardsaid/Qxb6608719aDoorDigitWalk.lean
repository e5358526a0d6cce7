/-
  THE WALK of seat b6608719aD's FnArgBytesOneDigitChanged.
-/
import Derived.Test.Qxb6608719aDoorWalks2
namespace Go.Proofs.Qxb6608719aDoor
open Go.RowKit Pl

set_option maxHeartbeats 400000 in
theorem zz22_yes (s : ByteArray) (j c : Int) (hs : s.size ≤ 1048576) (w : World) :
    Calls Tryd.prog 22 #[.string s, .int .i64 j, .int .u8 c] w fun e w' => e = .returned (.bool true) ∧ w' = w := by
  have h1 : (s.size : Int) ≤ 1048576 := by omega
  go_enter Tryd.func22, Tryd.ntmps22
  go_wp2
  go_ret
  exact ⟨rfl, rfl⟩
set_option maxHeartbeats 400000 in
theorem zz22_no (s : ByteArray) (j c : Int) (hs : 1048576 < s.size) (w : World) :
    Calls Tryd.prog 22 #[.string s, .int .i64 j, .int .u8 c] w fun e w' => e = .returned (.bool false) ∧ w' = w := by
  have h1 : (1048576 : Int) < s.size := by omega
  go_enter Tryd.func22, Tryd.ntmps22
  go_wp2
  go_ret
  exact ⟨rfl, rfl⟩

theorem below7' {w w' : World} {v : Value} (hb : Below w.heap.size w w') (h : w.cell? ⟨7, 0, none⟩ = some v) : w'.cell? ⟨7, 0, none⟩ = some v := (hb.cell (p := ⟨7, 0, none⟩) (block_lt_of_cell h)).trans h

open Go.Lib in
/-- A round of the copying loop. -/
theorem copy_next (s : ByteArray) (k b : Nat) (wr : World) (hk : k < s.size) (hr : wr.rowIs b 5 s.size (Hx.rowP (fun _ => .int .u8 0) 0 (s.data.toList.take k))) :
    (wr.setCell ⟨b, k, none⟩ (.int .u8 (s[k].toNat : Int))).rowIs b 5 s.size (Hx.rowP (fun _ => .int .u8 0) 0 (s.data.toList.take (k + 1))) := by
  rw [take_snoc s k hk]
  refine (hr.set k _).congr (fun j _ => ?_)
  have e3 := Hx.rowP_step (fun _ => .int .u8 0) 0 (s.data.toList.take k) s[k] j
  rw [List.length_take, size_len, Nat.min_eq_left (Nat.le_of_lt hk), Nat.zero_add] at e3
  exact e3
open Go.Lib in
/-- The one digit put. -/
theorem put_next (s : ByteArray) (j b : Nat) (c : UInt8) (wr : World) (hr : wr.rowIs b 5 s.size (Hx.rowP (fun _ => .int .u8 0) 0 s.data.toList)) (i : Nat) (hi : i < (s.data.toList.set j c).length) :
    (wr.setCell ⟨b, j, none⟩ (.int .u8 (c.toNat : Int))).cell? ⟨b, 0 + i, none⟩ = some (.int .u8 (((s.data.toList.set j c)[i]'hi).toNat : Int)) := by
  have hi' : i < s.size := by rw [List.length_set, size_len] at hi; exact hi
  rw [Nat.zero_add, (hr.set j _).cell hi', List.getElem_set]
  by_cases h : j = i
  · subst h; rw [if_pos rfl, if_pos rfl]
  · rw [if_neg (fun e => h e.symm), if_neg h]
    unfold Hx.rowP
    rw [if_pos ⟨Nat.zero_le _, by rw [size_len]; omega⟩, Nat.sub_zero, List.getElem?_eq_getElem (by rw [size_len]; exact hi')]
    rfl

/-- What the accepted answer r2 shows beside r. -/
structure Shows (j : Nat) (v : Int) (r r2 : ByteArray) : Prop where
  size : r2.size = r.size
  other : ∀ i (h : i < r.size) (h2 : i < r2.size), i ≠ j / 2 → (r2[i].toNat : Int) = (r[i].toNat : Int)
  even : ∀ i (h : i < r.size) (h2 : i < r2.size), i = j / 2 → j % 2 = 0 → (r2[i].toNat : Int) / 16 = v ∧ (r2[i].toNat : Int) % 16 = (r[i].toNat : Int) % 16
  odd : ∀ i (h : i < r.size) (h2 : i < r2.size), i = j / 2 → j % 2 = 1 → (r2[i].toNat : Int) % 16 = v ∧ (r2[i].toNat : Int) / 16 = (r[i].toNat : Int) / 16

set_option maxHeartbeats 2000000 in
set_option maxRecDepth 100000 in
theorem digit_core (s : ByteArray) (j : Nat) (c : UInt8) (hs : s.size ≤ 1048576) (hj : j < s.size) (H0 : Hid (lowB s.data.toList = true)) (b2 : Bool) (r r2 : ByteArray)
    (A0 : Hid (ab s = r)) (A2 : Hid (ab ⟨(s.data.toList.set j c).toArray⟩ = r2)) (H2 : Hid (lowB (s.data.toList.set j c) = b2)) (hr : Hid (r.size = s.size / 2)) (hq : ((r.size : Int) != (s.size : Int) / 2) = false)
    (hcase : Hid ((lhv (c.toNat : Int) < 0 ∧ b2 = false ∧ r2 = ⟨#[]⟩) ∨ (0 ≤ lhv (c.toNat : Int) ∧ b2 = true ∧ Shows j (lhv (c.toNat : Int)) r r2)))
    (w : World) (t : TypeId) (x : Value) (hE : w.cell? ⟨7, 0, none⟩ = some (.iface t x)) :
    Calls Tryd.prog 6 #[.string s, .int .i64 j, .int .u8 (c.toNat : Int)] w fun e w' => e = .returned (.bool true) ∧ Below w.heap.size w w' := by
  have hs1 : (s.size : Int) ≤ 1048576 := by omega
  have hrz : r.size ≤ 1048576 := by have := hr.out; omega
  have hj1 : (0 : Int) ≤ (j : Int) := by omega
  have hj2 : (j : Int) < (s.size : Int) := by omega
  have D0 : Hid (∀ W, Calls Tryd.prog 23 #[.string s] W fun e w' => e = .returned (.bool true) ∧ w' = W) := fun W => by
    have h := low_any s hs W; rwa [H0.out] at h
  have D1 : Hid (∀ W, W.cell? ⟨7, 0, none⟩ = some (.iface t x) → Calls Tryd.prog 21 #[.string s] W fun e w' => e = .returned (.tuple #[.string r, .bool true]) ∧ Below W.heap.size W w') := fun W h7 => by
    have h := zz_any s hs W t x h7; rwa [A0.out, H0.out] at h
  have D2 : Hid (∀ W, W.cell? ⟨7, 0, none⟩ = some (.iface t x) → Calls Tryd.prog 21 #[.string ⟨(s.data.toList.set j c).toArray⟩] W fun e w' => e = .returned (.tuple #[.string r2, .bool b2]) ∧ Below W.heap.size W w') := fun W h7 => by
    have h := zz_any ⟨(s.data.toList.set j c).toArray⟩ (by show (s.data.toList.set j c).toArray.size ≤ _; rw [List.size_toArray, List.length_set, size_len]; exact hs) W t x h7
    rwa [A2.out, show (⟨(s.data.toList.set j c).toArray⟩ : ByteArray).data.toList = s.data.toList.set j c from rfl, H2.out] at h
  have hmk : ∀ w : World, (Instr.makeSlice 31 (.int .i64 (s.size : Int)) (.int .i64 (s.size : Int))).run Tryd.prog w = .ok (.slice (some ⟨w.heap.size, 0, none⟩) s.size s.size) (w.alloc (.cells (madeCells #[.int .u8 0] s.size) 5)) := fun w =>
    run_make_row' (P := Tryd.prog) 31 5 (.int .u8 0) 1 Tryd.underlying31 info5 rfl .i64 .i64 s.size (by omega) (by omega) w
  clear H0 A0 A2 H2
  go_enter Tryd.func6, Tryd.ntmps6
  go_wp2_with fail
  refine (zz22_yes s _ _ hs _).mono ?_
  rintro e w0 ⟨rfl, rfl⟩
  go_wp2_with fail
  refine (D0.out _).mono ?_
  rintro e w1 ⟨rfl, rfl⟩
  go_wp2_with fail
  refine (D1.out _ hE).mono ?_
  rintro e w2 ⟨rfl, hb2⟩
  have g2 := below7' hb2 hE
  have HB2 : Hid _ := hb2
  have HG2 : Hid _ := g2
  clear hb2 g2
  go_wp2
  go_loopw [10] (fun i wr => ∃ k : Nat, k ≤ s.size ∧ i = .int .i64 k ∧ Hid (wr.rowIs w2.heap.size 5 s.size (Lib.Hx.rowP (fun _ => .int .u8 0) 0 (s.data.toList.take k))) ∧ Hid (Below w2.heap.size w2 wr)) (fun i _ => s.size - (intOf i).toNat)
  case atStart => exact ⟨0, Nat.zero_le _, rfl, (World.rowIs_made w2 _ _ _).congr (fun j _ => Lib.Hx.rowP_nil (fun _ => .int .u8 0) 0 j), (Below.refl _ _).alloc (Nat.le_refl _) _⟩
  case round =>
    obtain ⟨k, hk, rfl, hrow, hbel⟩ := hrel
    by_cases hlt : k < s.size
    · have hf1 : wr.frozen? ⟨w2.heap.size, k, none⟩ = false := hrow.out.frozen _
      have hc1 : wr.cell? ⟨w2.heap.size, k, none⟩ = some (Lib.Hx.rowP (fun _ => .int .u8 0) 0 (s.data.toList.take k) k) := hrow.out.cell (by omega)
      go_wp2
      go_roundw
      case rel => exact ⟨k + 1, by omega, by go_num, copy_next s k _ wr hlt hrow.out, hbel.out.setCell (Nat.le_refl _) _⟩
      case measure => simp [intOf]; omega
    · have hr2 := hrow.out
      rw [List.take_of_length_le (by rw [size_len]; omega)] at hr2
      have hf1 : wr.frozen? ⟨w2.heap.size, j, none⟩ = false := hrow.out.frozen _
      have hc1 : wr.cell? ⟨w2.heap.size, j, none⟩ = some (Lib.Hx.rowP (fun _ => .int .u8 0) 0 s.data.toList j) := hr2.cell (by omega)
      have hcv := run_convert_bytes_back (P := Tryd.prog) (wr.setCell ⟨w2.heap.size, j, none⟩ (.int .u8 (c.toNat : Int))) 31 9 5 ⟨w2.heap.size, 0, none⟩ s.size (s.data.toList.set j c) Tryd.underlying31 Tryd.underlying5 Tryd.underlying9 (fun i hi => by rw [addr_add]; exact put_next s j _ c wr hr2 i hi)
      rw [List.length_set, size_len] at hcv
      have HB3 : Hid (Below w2.heap.size w2 (wr.setCell ⟨w2.heap.size, j, none⟩ (.int .u8 (c.toNat : Int)))) := hbel.out.setCell (Nat.le_refl _) _
      have g3 := below7' HB3.out HG2.out
      clear hr2 hrow hbel
      go_wp2_with fail
      refine (D2.out _ g3).mono ?_
      rintro e w4 ⟨rfl, hb4⟩
      have HB4 : Hid (Below w1.heap.size w1 w4) := HB2.out.trans ((HB3.out.mono HB2.out.size).trans (hb4.mono (Nat.le_trans HB2.out.size HB3.out.size)))
      clear hb4 g3 HB3 HB2 HG2 D0 D1 D2 hE hcv hc1 hf1 hmk
      go_wp2_with fail
      refine (lhv_u8 c _).mono ?_
      rintro e w5 ⟨rfl, rfl⟩
      have hvr := lhv_range (c.toNat : Int)
      rcases hcase.out with ⟨hv, rfl, rfl⟩ | ⟨hv, rfl, hsh⟩
      · go_wp2
        go_ret
        exact ⟨rfl, HB4.out⟩
      · have hz1 : r2.size ≤ r.size := by rw [hsh.size]; exact Nat.le_refl _
        have hz2 : r.size ≤ r2.size := by rw [hsh.size]; exact Nat.le_refl _
        have hq2 : ((r2.size : Int) != (r.size : Int)) = false := by rw [hsh.size]; simp
        have HS : Hid _ := hsh
        clear hsh
        go_wp2
        go_loopw [14] (fun i wq => ∃ m : Nat, m ≤ r.size ∧ i = .int .i64 m ∧ Hid (Below w1.heap.size w1 wq)) (fun i _ => r.size - (intOf i).toNat)
        case atStart => exact ⟨0, Nat.zero_le _, rfl, HB4.out⟩
        case round =>
          obtain ⟨m, hm, rfl, hbq⟩ := hrel
          by_cases hlt2 : m < r.size
          · have hlt3 : m < r2.size := by omega
            have i1 : (m : Int) < (r.size : Int) := by omega
            have i2 : (m : Int) < (r2.size : Int) := by omega
            by_cases hmj : m = j / 2
            · have hne1 : (m : Int) ≤ (j : Int) / 2 := by omega
              have hne2 : (j : Int) / 2 ≤ (m : Int) := by omega
              have HMJ : Hid (m = j / 2) := hmj
              clear hmj
              by_cases hpar : j % 2 = 0
              · have hp2 : ((j : Int) % 2 == 0) = true := by simp; omega
                obtain ⟨y1, y2⟩ := HS.out.even m hlt2 hlt3 HMJ.out hpar
                have x1 : (((r2[m]'hlt3).toNat : Int) / 16 != lhv (c.toNat : Int)) = false := by rw [y1]; simp
                have x2 : (((r2[m]'hlt3).toNat : Int) % 16 != ((r[m]'hlt2).toNat : Int) % 16) = false := by rw [y2]; simp
                have rb : ((r2[m]'hlt3).toNat : Int) ≤ 255 := by have := (r2[m]'hlt3).toNat_lt; omega
                have rb2 : ((r[m]'hlt2).toNat : Int) ≤ 255 := by have := (r[m]'hlt2).toNat_lt; omega
                clear y1 y2 HS hvr hq2 hz1 hz2 hq hcase
                go_wp2
                go_quiet (fail)
                go_wp2
                go_roundw
                case rel => exact ⟨m + 1, by omega, by go_num, below_drewN hbq.out _⟩
                case measure => simp [intOf]; omega
              · have hp2 : ((j : Int) % 2 == 0) = false := by simp; omega
                obtain ⟨y1, y2⟩ := HS.out.odd m hlt2 hlt3 HMJ.out (by omega)
                have x1 : (((r2[m]'hlt3).toNat : Int) % 16 != lhv (c.toNat : Int)) = false := by rw [y1]; simp
                have x2 : (((r2[m]'hlt3).toNat : Int) / 16 != ((r[m]'hlt2).toNat : Int) / 16) = false := by rw [y2]; simp
                have rb : ((r2[m]'hlt3).toNat : Int) ≤ 255 := by have := (r2[m]'hlt3).toNat_lt; omega
                have rb2 : ((r[m]'hlt2).toNat : Int) ≤ 255 := by have := (r[m]'hlt2).toNat_lt; omega
                clear y1 y2 HS hvr hq2 hz1 hz2 hq hcase
                go_wp2
                go_quiet (fail)
                go_wp2
                go_roundw
                case rel => exact ⟨m + 1, by omega, by go_num, below_drewN hbq.out _⟩
                case measure => simp [intOf]; omega
            · have hne : ((m : Int) != (j : Int) / 2) = true := by simp; omega
              have hx := HS.out.other m hlt2 hlt3 hmj
              have hx2 : Hid ((((r2[m]'hlt3).toNat : Int) != ((r[m]'hlt2).toNat : Int)) = false) := by unfold Hid; rw [hx]; simp
              clear hx
              clear HS hvr hq2 hz1 hz2 hq
              go_wp2
              go_quiet (fail)
              rw [hx2.out]
              clear hx2 hcase
              go_wp2
              go_roundw
              case rel => exact ⟨m + 1, by omega, by go_num, below_drewN hbq.out _⟩
              case measure => simp [intOf]; omega
          · go_wp2
            go_ret
            exact ⟨rfl, hbq.out⟩
end Go.Proofs.Qxb6608719aDoor

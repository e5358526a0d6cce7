/-
  THE WALK of seat b6608719aD's FnArgBytesJoinsAtEveryByteBoundary.
-/
import Derived.Test.Qxb6608719aDoorWalks2
import Derived.Lib.IndexBytes
namespace Go.Proofs.Qxb6608719aDoor
open Go.RowKit Pl

/-- decodeLowerHex, every text. -/
theorem dlh_any (s : ByteArray) (hs : s.size ≤ 1048576) (w : World) :
    Calls Tryd.prog 20 #[.string s] w fun e w' => e = .returned (.tuple #[.string (ab s), .bool (lowB s.data.toList)]) ∧ Below w.heap.size w w' := by
  cases hl : lowB s.data.toList with
  | true => unfold ab; rw [if_pos hl]; exact dlh_yes s hs hl w
  | false => unfold ab; rw [if_neg (by rw [hl]; simp)]; exact dlh_no s hs hl w

set_option maxHeartbeats 400000 in
theorem zz19_yes (s : ByteArray) (k : Int) (hs : s.size ≤ 1048576) (w : World) :
    Calls Tryd.prog 19 #[.string s, .int .i64 k] w fun e w' => e = .returned (.bool true) ∧ w' = w := by
  have h1 : (s.size : Int) ≤ 1048576 := by omega
  go_enter Tryd.func19, Tryd.ntmps19
  go_wp2
  go_ret
  exact ⟨rfl, rfl⟩
set_option maxHeartbeats 400000 in
theorem zz19_no (s : ByteArray) (k : Int) (hs : 1048576 < s.size) (w : World) :
    Calls Tryd.prog 19 #[.string s, .int .i64 k] w fun e w' => e = .returned (.bool false) ∧ w' = w := by
  have h1 : (1048576 : Int) < s.size := by omega
  go_enter Tryd.func19, Tryd.ntmps19
  go_wp2
  go_ret
  exact ⟨rfl, rfl⟩

/-- The four answers, as one conjunction: what the law compares. -/
theorem joins (s : ByteArray) (k : Nat) (hk : 2 * k ≤ s.size) :
    lowB s.data.toList = (lowB (s.extract 0 (2 * k)).data.toList && lowB (s.extract (2 * k) s.size).data.toList) ∧
    (lowB s.data.toList = true → ab s = ab (s.extract 0 (2 * k)) ++ ab (s.extract (2 * k) s.size)) := by
  have e1 : (s.extract 0 (2 * k)).data.toList = s.data.toList.take (2 * k) := by rw [Lib.extract_data]; simp
  have e2 : (s.extract (2 * k) s.size).data.toList = s.data.toList.drop (2 * k) := Lib.extract_to_end s _
  have h1 := lowB_split k s.data.toList (by rw [size_len]; exact hk)
  refine ⟨by rw [e1, e2]; exact h1, fun hl => ?_⟩
  have h2 := prs_split k s.data.toList (by rw [size_len]; exact hk)
  rw [hl] at h1
  have h3 := h1.symm
  rw [Bool.and_eq_true] at h3
  unfold ab
  rw [e1, e2, if_pos hl, if_pos h3.1, if_pos h3.2, h2]
  apply ByteArray.ext
  simp

theorem below7 {w w' : World} {v : Value} (hb : Below w.heap.size w w') (h : w.cell? ⟨7, 0, none⟩ = some v) : w'.cell? ⟨7, 0, none⟩ = some v := (hb.cell (p := ⟨7, 0, none⟩) (block_lt_of_cell h)).trans h

set_option maxHeartbeats 2000000 in
theorem joins_core (s : ByteArray) (k : Nat) (hs : s.size ≤ 1048576) (hk : 2 * k ≤ s.size) (b1 b2 : Bool) (r r1 r2 : ByteArray)
    (H1 : Hid (lowB (s.extract 0 (2 * k)).data.toList = b1)) (H2 : Hid (lowB (s.extract (2 * k) s.size).data.toList = b2)) (H0 : Hid (lowB s.data.toList = (b1 && b2)))
    (A0 : Hid (ab s = r)) (A1 : Hid (ab (s.extract 0 (2 * k)) = r1)) (A2 : Hid (ab (s.extract (2 * k) s.size) = r2)) (hj : (b1 && b2) = true → (r.toList == (r1 ++ r2).toList) = true)
    (hz : r1.size ≤ 1048576 ∧ r2.size ≤ 1048576)
    (w : World) (t : TypeId) (x : Value) (hE : w.cell? ⟨7, 0, none⟩ = some (.iface t x)) :
    Calls Tryd.prog 5 #[.string s, .int .i64 k] w fun e w' => e = .returned (.bool true) ∧ Below w.heap.size w w' := by
  have hs1 : (s.size : Int) ≤ 1048576 := by omega
  have hk1 : (0 : Int) ≤ (k : Int) := by omega
  have hk2 : (k : Int) ≤ (s.size : Int) / 2 := by omega
  have hk3 : 2 * (k : Int) ≤ (s.size : Int) := by omega
  obtain ⟨hz1, hz2⟩ := hz
  have D0 : Hid (∀ W, Calls Tryd.prog 20 #[.string s] W fun e w' => e = .returned (.tuple #[.string r, .bool (b1 && b2)]) ∧ Below W.heap.size W w') := fun W => by
    have h := dlh_any s hs W; rwa [A0.out, H0.out] at h
  have D1 : Hid (∀ W, W.cell? ⟨7, 0, none⟩ = some (.iface t x) → Calls Tryd.prog 21 #[.string s] W fun e w' => e = .returned (.tuple #[.string r, .bool (b1 && b2)]) ∧ Below W.heap.size W w') := fun W h7 => by
    have h := zz_any s hs W t x h7; rwa [A0.out, H0.out] at h
  have D2 : Hid (∀ W, W.cell? ⟨7, 0, none⟩ = some (.iface t x) → Calls Tryd.prog 21 #[.string (s.extract 0 (2 * k))] W fun e w' => e = .returned (.tuple #[.string r1, .bool b1]) ∧ Below W.heap.size W w') := fun W h7 => by
    have h := zz_any (s.extract 0 (2 * k)) (by rw [ByteArray.size_extract]; omega) W t x h7; rwa [A1.out, H1.out] at h
  have D3 : Hid (∀ W, W.cell? ⟨7, 0, none⟩ = some (.iface t x) → Calls Tryd.prog 21 #[.string (s.extract (2 * k) s.size)] W fun e w' => e = .returned (.tuple #[.string r2, .bool b2]) ∧ Below W.heap.size W w') := fun W h7 => by
    have h := zz_any (s.extract (2 * k) s.size) (by rw [ByteArray.size_extract]; omega) W t x h7; rwa [A2.out, H2.out] at h
  clear H0 H1 H2 A0 A1 A2
  cases b1 <;> cases b2
  all_goals
    simp only [Bool.and_true, Bool.and_false] at hj D0 D1
    go_enter Tryd.func5, Tryd.ntmps5
    go_wp2_with fail
    refine (zz19_yes s _ hs _).mono ?_
    rintro e w0 ⟨rfl, rfl⟩
    go_wp2_with fail
    refine (D0.out _).mono ?_
    rintro e w1 ⟨rfl, hb1⟩
    have g1 := below7 hb1 hE
    go_wp2_with fail
    refine (D1.out _ g1).mono ?_
    rintro e w2 ⟨rfl, hb2⟩
    have g2 := below7 hb2 g1
    go_wp2_with fail
    refine (D2.out _ g2).mono ?_
    rintro e w3 ⟨rfl, hb3⟩
    have g3 := below7 hb3 g2
    go_wp2_with fail
    refine (D3.out _ g3).mono ?_
    rintro e w4 ⟨rfl, hb4⟩
    have HB : Hid (Below w0.heap.size w0 w4) := hb1.trans ((hb2.mono hb1.size).trans ((hb3.mono (Nat.le_trans hb1.size hb2.size)).trans (hb4.mono (Nat.le_trans hb1.size (Nat.le_trans hb2.size hb3.size)))))
    clear hb1 hb2 hb3 hb4 g1 g2 g3 hE D0 D1 D2 D3
    go_wp2
    go_ret
    exact ⟨rfl, HB.out⟩

theorem ab_size (s : ByteArray) : (ab s).size ≤ s.size := by
  unfold ab
  split
  · show (prs s.data.toList).toArray.size ≤ _
    rw [List.size_toArray, prs_length, size_len]; omega
  · exact Nat.zero_le _

set_option maxHeartbeats 400000 in
theorem joins_big (s : ByteArray) (k : Int) (hs : 1048576 < s.size) (w : World) :
    Calls Tryd.prog 5 #[.string s, .int .i64 k] w fun e w' => e = .returned (.bool true) ∧ Below w.heap.size w w' := by
  go_enter Tryd.func5, Tryd.ntmps5
  go_wp2_with fail
  refine (zz19_no s _ hs _).mono ?_
  rintro e w0 ⟨rfl, rfl⟩
  go_wp2
  go_ret
  exact ⟨rfl, Below.refl _ _⟩
set_option maxHeartbeats 400000 in
theorem joins_off (s : ByteArray) (k : Int) (hs : s.size ≤ 1048576) (hk : k < 0 ∨ (s.size : Int) / 2 < k) (w : World) :
    Calls Tryd.prog 5 #[.string s, .int .i64 k] w fun e w' => e = .returned (.bool true) ∧ Below w.heap.size w w' := by
  have hs1 : (s.size : Int) ≤ 1048576 := by omega
  rcases hk with hk | hk
  · go_enter Tryd.func5, Tryd.ntmps5
    go_wp2_with fail
    refine (zz19_yes s _ hs _).mono ?_
    rintro e w0 ⟨rfl, rfl⟩
    go_wp2
    go_ret
    exact ⟨rfl, Below.refl _ _⟩
  · have hk0 : 0 ≤ k := by omega
    go_enter Tryd.func5, Tryd.ntmps5
    go_wp2_with fail
    refine (zz19_yes s _ hs _).mono ?_
    rintro e w0 ⟨rfl, rfl⟩
    go_wp2
    go_ret
    exact ⟨rfl, Below.refl _ _⟩

/-- ████ FnArgBytesJoinsAtEveryByteBoundary: true, at every input ████ -/
theorem joins_any (s : ByteArray) (k : Int) (w : World) (t : TypeId) (x : Value) (hE : w.cell? ⟨7, 0, none⟩ = some (.iface t x)) :
    Calls Tryd.prog 5 #[.string s, .int .i64 k] w fun e w' => e = .returned (.bool true) ∧ Below w.heap.size w w' := by
  by_cases hs : s.size ≤ 1048576
  · by_cases hk : k < 0 ∨ (s.size : Int) / 2 < k
    · exact joins_off s k hs hk w
    · obtain ⟨n, rfl⟩ : ∃ n : Nat, k = (n : Int) := ⟨k.toNat, by omega⟩
      have hn : 2 * n ≤ s.size := by omega
      obtain ⟨j1, j2⟩ := joins s n hn
      have z1 := ab_size (s.extract 0 (2 * n))
      have z2 := ab_size (s.extract (2 * n) s.size)
      rw [ByteArray.size_extract] at z1 z2
      exact joins_core s n hs hn _ _ _ _ _ rfl rfl j1 rfl rfl rfl (fun h => by rw [j2 (by rw [j1]; exact h)]; simp) ⟨by omega, by omega⟩ w t x hE
  · exact joins_big s k (by omega) w
end Go.Proofs.Qxb6608719aDoor

/-
  THE WALKS of seat b6609083a: zzBytes_...
-/
import Derived.Test.Qxb6609083aWalks
namespace Go.Proofs.Qxb6609083a
open Go.RowKit

/-- A bool. -/
def AnyBool (e : Ending) : Prop := e = .returned (.bool false) ∨ e = .returned (.bool true)

set_option maxHeartbeats 4000000 in
set_option maxRecDepth 100000 in
theorem zzBytes_any (ai ac : Option Addr) (n m cap cap2 : Nat) (S : Nat → ByteArray) (A : Nat → Option Addr) (N K : Nat → Nat) (C : Nat → Nat → ByteArray) (s : ByteArray) (w : World)
    (hi : Hid (Strs w ai n S)) (hl : Hid (Lists w ac m A N K C)) :
    Calls Try.prog 4 #[.slice ai n cap, .slice ac m cap2, .string s] w fun e w' => Hid (AnyBool e) ∧ w' = w := by
  by_cases hn : n ≤ 1048576
  · have hni : (n : Int) ≤ 1048576 := by omega
    go_enter Try.func4, Try.ntmps4
    go_wp2
    go_loop [7, 8] (fun z i => ∃ (k x : Nat), k ≤ n ∧ x ≤ 1048576 ∧ i = .int .i64 k ∧ z = .int .i64 x) (fun _ i => n - (intOf i).toNat)
    case atStart => exact ⟨0, n, Nat.zero_le _, hn, rfl, rfl⟩
    case round =>
      obtain ⟨k, x, hk, hx, rfl, rfl⟩ := hrel
      by_cases hlt : k < n
      · obtain ⟨b, off, rfl, hc⟩ := hi.out.get k hlt
        obtain ⟨s1, hs1⟩ : ∃ s1, S k = s1 := ⟨_, rfl⟩
        rw [hs1] at hc
        clear hs1
        by_cases h1 : s1.size ≤ 1048576
        · have h1i : (s1.size : Int) ≤ 1048576 := by omega
          have hxi : (x : Int) ≤ 1048576 := by omega
          by_cases h2 : x + s1.size ≤ 1048576
          · have h2i : (x : Int) + (s1.size : Int) ≤ 1048576 := by omega
            go_wp2
            go_round
            case rel => exact ⟨k + 1, x + s1.size, by omega, h2, by go_num, by go_num⟩
            case measure => simp [intOf]; omega
          · have h2i : 1048576 < (x : Int) + (s1.size : Int) := by omega
            go_wp2
            go_ret
            exact ⟨.inl rfl, rfl⟩
        · have h1i : 1048576 < (s1.size : Int) := by omega
          go_wp2
          go_ret
          exact ⟨.inl rfl, rfl⟩
      · by_cases hm : m ≤ 1048576
        · have hmi : (m : Int) ≤ 1048576 := by omega
          have hxi : (x : Int) ≤ 1048576 := by omega
          by_cases h2 : x + m ≤ 1048576
          · have h2i : (x : Int) + (m : Int) ≤ 1048576 := by omega
            go_wp2
            go_loop [7, 9, 10] (fun z i _ => ∃ (k x : Nat), k ≤ m ∧ x ≤ 1048576 ∧ i = .int .i64 k ∧ z = .int .i64 x) (fun _ i _ => m - (intOf i).toNat)
            case atStart => exact ⟨0, x + m, Nat.zero_le _, h2, rfl, by go_num⟩
            case round =>
              clear h2i hxi h2 hx hk hlt
              obtain ⟨q, x, hq, hx, rfl, rfl⟩ := hrel
              have hxi : (x : Int) ≤ 1048576 := by omega
              by_cases hlt : q < m
              · have hrow : Hid (Strs w (A q) (N q) (C q)) := hl.out.row q hlt
                obtain ⟨b, off, rfl, hc⟩ := hl.out.get q hlt
                obtain ⟨a1, ha1⟩ : ∃ a1, A q = a1 := ⟨_, rfl⟩
                obtain ⟨n1, hn1⟩ : ∃ n1, N q = n1 := ⟨_, rfl⟩
                obtain ⟨c1, hc1⟩ : ∃ c1, K q = c1 := ⟨_, rfl⟩
                rw [ha1, hn1] at hrow
                rw [ha1, hn1, hc1] at hc
                clear ha1 hn1 hc1
                by_cases h1 : n1 ≤ 1048576
                · have h1i : (n1 : Int) ≤ 1048576 := by omega
                  by_cases h2 : x + n1 ≤ 1048576
                  · have h2i : (x : Int) + (n1 : Int) ≤ 1048576 := by omega
                    go_wp2
                    go_loop [7, 10] (fun z i => ∃ (k x : Nat), k ≤ n1 ∧ x ≤ 1048576 ∧ i = .int .i64 k ∧ z = .int .i64 x) (fun _ i => n1 - (intOf i).toNat)
                    case atStart => exact ⟨0, x + n1, Nat.zero_le _, h2, rfl, by go_num⟩
                    case round =>
                      clear h2i hxi h2 hx
                      obtain ⟨j, x, hj, hx, rfl, rfl⟩ := hrel
                      have hxi : (x : Int) ≤ 1048576 := by omega
                      by_cases hjl : j < n1
                      · obtain ⟨b1, off1, rfl, hc1⟩ := hrow.out.get j hjl
                        obtain ⟨s1, hs1⟩ : ∃ s1, C q j = s1 := ⟨_, rfl⟩
                        rw [hs1] at hc1
                        clear hs1
                        by_cases h3 : s1.size ≤ 1048576
                        · have h3i : (s1.size : Int) ≤ 1048576 := by omega
                          by_cases h2 : x + s1.size ≤ 1048576
                          · have h2i : (x : Int) + (s1.size : Int) ≤ 1048576 := by omega
                            go_wp2
                            go_round
                            case rel => exact ⟨j + 1, x + s1.size, by omega, h2, by go_num, by go_num⟩
                            case measure => simp [intOf]; omega
                          · have h2i : 1048576 < (x : Int) + (s1.size : Int) := by omega
                            go_wp2
                            go_ret
                            exact ⟨.inl rfl, rfl⟩
                        · have h3i : 1048576 < (s1.size : Int) := by omega
                          go_wp2
                          go_ret
                          exact ⟨.inl rfl, rfl⟩
                      · go_wp2
                        go_round
                        case rel => exact ⟨q + 1, x, by omega, hx, by go_num, rfl⟩
                        case measure => simp [intOf]; omega
                  · have h2i : 1048576 < (x : Int) + (n1 : Int) := by omega
                    go_wp2
                    go_ret
                    exact ⟨.inl rfl, rfl⟩
                · have h1i : 1048576 < (n1 : Int) := by omega
                  go_wp2
                  go_ret
                  exact ⟨.inl rfl, rfl⟩
              · by_cases h1 : s.size ≤ 1048576
                · have h1i : (s.size : Int) ≤ 1048576 := by omega
                  by_cases h2 : x + s.size ≤ 1048576
                  · have h2i : (x : Int) + (s.size : Int) ≤ 1048576 := by omega
                    go_wp2
                    go_ret
                    exact ⟨.inr rfl, rfl⟩
                  · have h2i : 1048576 < (x : Int) + (s.size : Int) := by omega
                    go_wp2
                    go_ret
                    exact ⟨.inl rfl, rfl⟩
                · have h1i : 1048576 < (s.size : Int) := by omega
                  go_wp2
                  go_ret
                  exact ⟨.inl rfl, rfl⟩
          · have h2i : 1048576 < (x : Int) + (m : Int) := by omega
            go_wp2
            go_ret
            exact ⟨.inl rfl, rfl⟩
        · have hmi : 1048576 < (m : Int) := by omega
          go_wp2
          go_ret
          exact ⟨.inl rfl, rfl⟩
  · have hni : 1048576 < (n : Int) := by omega
    go_enter Try.func4, Try.ntmps4
    go_wp2
    go_ret
    exact ⟨.inl rfl, rfl⟩
end Go.Proofs.Qxb6609083a

/-
  THE WALK of seat b6609083a's FnClassesOfFindsHolderInAnyOrder.
-/
import Derived.Test.Qxb6609083aFind
namespace Go.Proofs.Qxb6609083a
open Go.RowKit

set_option maxHeartbeats 8000000 in
set_option maxRecDepth 100000 in
theorem law_any (ai ac : Option Addr) (n m cap cap2 : Nat) (S : Nat → ByteArray) (A : Nat → Option Addr) (N K : Nat → Nat) (C : Nat → Nat → ByteArray) (s : ByteArray) (hs : s.size ≤ maxLen) (w : World)
    (hi : Hid (Strs w ai n S)) (hl : Hid (Lists w ac m A N K C)) :
    Calls Try.prog 3 #[.slice ai n cap, .slice ac m cap2, .string s] w fun e w' => e = .returned (.bool true) ∧ Hid (Below w.heap.size w w') := by
  have HS : Hid (s.size ≤ maxLen) := hs
  have BR : Hid (Below w.heap.size w w) := Below.refl _ _
  clear hs
  go_enter Try.func3, Try.ntmps3
  go_wp2_with fail
  refine (zzBytes_any ai ac n m cap cap2 S A N K C s _ hi hl).mono ?_
  rintro e w' ⟨he, rfl⟩
  rcases he.out with rfl | rfl
  · clear he
    go_wp2
    go_ret
    exact ⟨rfl, BR⟩
  clear he
  go_wp2_with fail
  refine (strBytes_any _ _ _ _ _ _ hi).mono ?_
  rintro e w2 ⟨he, rfl⟩
  rcases he.out with ⟨x, rfl⟩ | ⟨hn, x, rfl⟩
  · clear he
    go_wp2
    go_ret
    exact ⟨rfl, BR⟩
  clear he
  go_wp2_with fail
  refine (nestBytes_any _ _ _ _ _ _ _ _ _ hl).mono ?_
  rintro e w3 ⟨he, rfl⟩
  rcases he.out with ⟨y, rfl⟩ | ⟨hmN, y, rfl⟩
  · clear he
    go_wp2
    go_ret
    exact ⟨rfl, BR⟩
  clear he
  have hm := hmN.1
  have hN : Hid (∀ i, i < m → N i ≤ 65536) := hmN.2
  clear hmN
  go_wp2_with fail
  refine (addLen_any _ _ _).mono ?_
  rintro e w4 ⟨he, rfl⟩
  rcases he.out with ⟨z, rfl⟩ | ⟨z, rfl⟩
  · clear he
    go_wp2
    go_ret
    exact ⟨rfl, BR⟩
  clear he
  go_wp2_with fail
  refine (premise_any ai ac n m cap cap2 S A N K C hn hm hN _ hi hl).mono ?_
  rintro e w5 ⟨he, hb5⟩
  rcases he with rfl | ⟨rfl, hnm, hd⟩
  · go_wp2
    go_ret
    exact ⟨rfl, hb5⟩
  subst hnm
  have hi5 : Hid (Strs w5 ai n S) := hi.out.later hb5.out
  have hl5 : Hid (Lists w5 ac n A N K C) := hl.out.later hb5.out
  go_wp2_with fail
  refine (book_false ai ac n cap cap2 S A N K C hn hN _ hi5 hl5 hd).mono ?_
  rintro e w6 ⟨⟨p, rfl, hp6⟩, hb56⟩
  have hi6 : Hid (Strs w6 ai n S) := hi5.out.later hb56.out
  have hl6 : Hid (Lists w6 ac n A N K C) := hl5.out.later hb56.out
  go_wp2_with fail
  refine (book_true ai ac n cap cap2 S A N K C hn hN _ hi6 hl6 hd).mono ?_
  rintro e w7 ⟨⟨p2, rfl, hq7⟩, hb67⟩
  have hi7 : Hid (Strs w7 ai n S) := hi6.out.later hb67.out
  have hl7 : Hid (Lists w7 ac n A N K C) := hl6.out.later hb67.out
  have hp7 : Hid (IsBook w7 p n S N C) := hp6.out.later hb67.out
  have hb57 : Hid (Below w5.heap.size w5 w7) := hb56.out.trans (hb67.out.mono hb56.out.size)
  have hb7 : Hid (Below w4.heap.size w4 w7) := hb5.out.trans (hb57.out.mono hb5.out.size)
  have B77 : Hid (Below w7.heap.size w7 w7) := Below.refl _ _
  clear hi5 hl5 hi6 hl6 hp6 hb56 hb67 hb57 hb5
  go_wp2
  go_loopw [11] (fun i wr => ∃ k : Nat, i = .int .i64 k ∧ k ≤ n ∧ Hid (Below w7.heap.size w7 wr)) (fun i _ => n - (intOf i).toNat)
  case atStart => exact ⟨0, rfl, Nat.zero_le _, B77⟩
  case round =>
    obtain ⟨k, rfl, hk, hb⟩ := hrel
    have hP : Hid (IsBook wr p n S N C) := hp7.out.later hb.out
    have hQ : Hid (IsBook wr p2 n S N C) := hq7.out.later hb.out
    by_cases hlt : k < n
    · have hszk := hi.out.size k hlt
      have hrowk : Hid (Strs wr (A k) (N k) (C k)) := (hl7.out.later hb.out).row k hlt
      obtain ⟨bi, oi, rfl, hci⟩ := (hi7.out.later hb.out).get k hlt
      obtain ⟨bc, oc, rfl, hcc⟩ := (hl7.out.later hb.out).get k hlt
      go_wp2
      go_region_held3 (fun w' => w'.cell? ⟨bi, oi + k, none⟩ = some (.string (S k)) ∧ w'.cell? ⟨bc, oc + k, none⟩ = some (.slice (A k) (N k) (K k))) (go_keep)
        (first
          | (go_at_call 11
             refine (zzfind_some p n S N C k hlt hszk _ (hP.out.later (Below.refl _ _).drew)).mono ?_
             rintro e wa ⟨⟨lb, rfl, hlots⟩, rfl⟩)
          | (go_at_call 10
             refine (match_any lb (A k) (N k) (K k) (C k) (hN.out k hlt) _ hlots (hrowk.out.later (Below.refl _ _).drew)).mono ?_
             rintro e w8 ⟨rfl, hb8⟩
             have k1 := cell_later hb8.out hci
             have k2 := cell_later hb8.out hcc))
      have HB8 : Hid (Below wr.heap.size wr w8) := (below_drewN (Below.refl _ _) 1).trans hb8.out
      have hQ8 : Hid (IsBook w8 p2 n S N C) := hQ.out.later HB8.out
      have hrow8 : Hid (Strs w8 (A k) (N k) (C k)) := hrowk.out.later HB8.out
      go_wp2
      go_region_held3 (fun w' => w'.cell? ⟨bi, oi + k, none⟩ = some (.string (S k)) ∧ w'.cell? ⟨bc, oc + k, none⟩ = some (.slice (A k) (N k) (K k))) (go_keep)
        (first
          | (go_at_call 11
             refine (zzfind_some p2 n S N C k hlt hszk _ (hQ8.out.later (Below.refl _ _).drew)).mono ?_
             rintro e wa ⟨⟨lb2, rfl, hlots2⟩, rfl⟩)
          | (go_at_call 10
             refine (match_any lb2 (A k) (N k) (K k) (C k) (hN.out k hlt) _ hlots2 (hrow8.out.later (Below.refl _ _).drew)).mono ?_
             rintro e w9 ⟨rfl, hb9⟩
             have j1 := cell_later hb9.out k1
             have j2 := cell_later hb9.out k2))
      have HB9 : Hid (Below w8.heap.size w8 w9) := (below_drewN (Below.refl _ _) 1).trans hb9.out
      have HB79 : Hid (Below w7.heap.size w7 w9) := (hb.out.trans (HB8.out.mono hb.out.size)).trans (HB9.out.mono (Nat.le_trans hb.out.size HB8.out.size))
      go_wp2
      go_roundw
      case rel => exact ⟨k + 1, by go_num, by omega, HB79⟩
      case measure => simp [intOf]; omega
    · have hir : Hid (Strs wr ai n S) := hi7.out.later hb.out
      have hlr : Hid (Lists wr ac n A N K C) := hl7.out.later hb.out
      have hbr : Hid (Below w4.heap.size w4 wr) := hb7.out.trans (hb.out.mono hb7.out.size)
      by_cases hex : ∃ k0, k0 < n ∧ S k0 = s
      · obtain ⟨k0, hk0, rfl⟩ := hex
        go_wp2_with fail
        refine (zzfind_some p n S N C k0 hk0 HS.out _ hP).mono ?_
        rintro e wa ⟨⟨lb1, rfl, hL1⟩, rfl⟩
        go_wp2_with fail
        refine (zzfind_some p2 n S N C k0 hk0 HS.out _ hQ).mono ?_
        rintro e wa2 ⟨⟨lb2, rfl, hL2⟩, rfl⟩
        go_wp2_with fail
        refine (placeOf_any ai n cap S (S k0) hn _ hir).mono ?_
        rintro e wa3 ⟨he, rfl⟩
        have he' : e = .returned (.int .i64 (k0 : Int)) := by
          rcases he.out with ⟨_, hno⟩ | ⟨k', rfl, hk', heq⟩
          · exact absurd rfl (hno k0 hk0)
          · by_cases e1 : k' < k0
            · exact absurd heq (hd.out k' k0 e1 hk0)
            · by_cases e2 : k0 < k'
              · exact absurd heq.symm (hd.out k0 k' e2 hk')
              · rw [show k' = k0 by omega]
        subst he'
        have hrow0 : Hid (Strs wa3 (A k0) (N k0) (C k0)) := hlr.out.row k0 hk0
        obtain ⟨bc, oc, rfl, hcc⟩ := hlr.out.get k0 hk0
        clear he
        go_wp2_with fail
        refine (match_any lb1 (A k0) (N k0) (K k0) (C k0) (hN.out k0 hk0) _ hL1 hrow0).mono ?_
        rintro e w8 ⟨rfl, hb8⟩
        have hcc8 := cell_later hb8.out hcc
        have hrow8 : Hid (Strs w8 (A k0) (N k0) (C k0)) := hrow0.out.later hb8.out
        have hL8 : Hid (Lots w8 lb2 (N k0) (N k0) (C k0)) := hL2.out.later hb8.out
        go_wp2_with fail
        refine (match_any lb2 (A k0) (N k0) (K k0) (C k0) (hN.out k0 hk0) _ hL8 hrow8).mono ?_
        rintro e w9 ⟨rfl, hb9⟩
        have hb89 : Hid (Below w4.heap.size w4 w8) := hbr.out.trans (hb8.out.mono hbr.out.size)
        have hbz : Hid (Below w4.heap.size w4 w9) := hb89.out.trans (hb9.out.mono hb89.out.size)
        go_wp2
        go_ret
        exact ⟨rfl, hbz⟩
      · have hno : Hid (∀ i, i < n → S i ≠ s) := fun i hin e => hex ⟨i, hin, e⟩
        clear hex
        go_wp2_with fail
        refine (zzfind_none p n S N C s hno HS.out _ hP).mono ?_
        rintro e wa ⟨rfl, rfl⟩
        go_wp2_with fail
        refine (zzfind_none p2 n S N C s hno HS.out _ hQ).mono ?_
        rintro e wa2 ⟨rfl, rfl⟩
        go_wp2_with fail
        refine (placeOf_any ai n cap S s hn _ hir).mono ?_
        rintro e wa3 ⟨he, rfl⟩
        have he' : e = .returned (.int .i64 (-1)) := by
          rcases he.out with ⟨e1, _⟩ | ⟨k', rfl, hk', heq⟩
          · exact e1
          · exact absurd heq (hno.out k' hk')
        subst he'
        clear he
        have heq : ∀ W, (binOp .eql 33 (.slice none 0 0) (.slice none 0 0)).run Try.prog W = .ok (.bool true) W := fun W => run_eql_nil_slice W 33 48 none 0 0 0 0 Try.underlying33
        go_wp2
        go_ret
        exact ⟨rfl, hbr⟩
end Go.Proofs.Qxb6609083a

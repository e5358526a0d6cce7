/-
  THE WALK of seat b6609083aF: math/bits.Div64 (the library's own text).
-/
import Derived.Test.Qxb6609083aFmtMul
namespace Go.Proofs.Qxb6609083aFmt
open Go.RowKit Pl

/-- LeadingZeros64, as a natural number. -/
theorem lz (y : Nat) (h0 : y ≠ 0) (h1 : y < 18446744073709551616) (w : World) :
    Calls Tryf.prog 20 #[.int .u64 y] w fun e w' => e = .returned (.int .i64 ((64 - Lib.bitLen y : Nat) : Int)) ∧ w' = w := by
  refine (Tryf.bits_LeadingZeros64 (y : Int) w (by omega) (by omega)).mono ?_
  rintro e w' ⟨rfl, rfl⟩
  have hl := (norm_y y h0 h1).1
  rw [show (64 : Int) - ((Lib.bitLen ((y : Int)).toNat : Nat) : Int) = ((64 - Lib.bitLen y : Nat) : Int) by rw [Int.toNat_natCast]; omega]
  exact ⟨rfl, rfl⟩

set_option maxHeartbeats 1000000 in
theorem div_small (lo y q r : Nat) (hy0 : 0 < y) (eq : IntKind.u64.wrap ((lo : Int) / (y : Int)) = (q : Int)) (er : (lo : Int) % (y : Int) = (r : Int)) (w : World) :
    Calls Tryf.prog 18 #[.int .u64 0, .int .u64 lo, .int .u64 y] w fun e w' => e = .returned (.tuple #[.int .u64 ((q : Nat) : Int), .int .u64 ((r : Nat) : Int)]) ∧ ∃ n, w' = w.drewN n := by
  have hne : ((y : Int) == 0) = false := by simp; omega
  have hle : ¬ (y : Int) ≤ 0 := by omega
  go_enter Tryf.func18, Tryf.ntmps18
  go_wp2
  go_quiet (fail)
  go_wp2
  go_ret2
  exact ⟨ret2_int rfl er, _, rfl⟩

set_option maxHeartbeats 8000000 in
set_option maxRecDepth 100000 in
theorem div_great (hi lo y s Y N M y1 y0 u1 u0 q r a1 a2 R1 q2 r2 b1 b2 R0 QQ RR : Nat) (hs : s ≤ 63) (hhi : 0 < hi) (hhy : hi < y) (hy : y < 18446744073709551616) (HS : Hid (64 - Lib.bitLen y = s))
    (eY : IntKind.u64.wrap ((y : Int) * 2 ^ s) = (Y : Int)) (eN : bits BinOp.or IntKind.u64 (IntKind.u64.wrap ((hi : Int) * 2 ^ s)) ((lo : Int) / 2 ^ (64 - s)) = (N : Int)) (eM : IntKind.u64.wrap ((lo : Int) * 2 ^ s) = (M : Int))
    (e1 : (Y : Int) / 4294967296 = (y1 : Int)) (e0 : bits BinOp.and IntKind.u64 (Y : Int) 4294967295 = (y0 : Int)) (d1 : (M : Int) / 4294967296 = (u1 : Int)) (d0 : bits BinOp.and IntKind.u64 (M : Int) 4294967295 = (u0 : Int))
    (eq : IntKind.u64.wrap ((N : Int) / (y1 : Int)) = (q : Int)) (er : IntKind.u64.wrap ((N : Int) - IntKind.u64.wrap ((q : Int) * (y1 : Int))) = (r : Int))
    (hy1 : 2147483648 ≤ (y1 : Int)) (hy1b : y1 < 4294967296) (hy0 : y0 < 4294967296) (hda : u1 < 4294967296) (hdb : u0 < 4294967296) (hYb : Y < 18446744073709551616) (hY0 : 0 < Y)
    (HN : Hid (N < y1 * 4294967296 + y0)) (HN2 : Hid (R1 < y1 * 4294967296 + y0)) (HY : Hid (Y = y1 * 4294967296 + y0)) (hG : Hid (Guess y1 y0 N u1 q r)) (hG2 : Hid (Guess y1 y0 R1 u0 q2 r2))
    (HA : Hid (a1 = N * 4294967296 % 18446744073709551616 ∧ a2 = (a1 + u1) % 18446744073709551616 ∧ R1 = (N * 4294967296 + u1) % Y))
    (f1 : IntKind.u64.wrap ((N : Int) * 4294967296) = (a1 : Int)) (f2 : IntKind.u64.wrap ((a1 : Int) + (u1 : Int)) = (a2 : Int))
    (eq2 : IntKind.u64.wrap ((R1 : Int) / (y1 : Int)) = (q2 : Int)) (er2 : IntKind.u64.wrap ((R1 : Int) - IntKind.u64.wrap ((q2 : Int) * (y1 : Int))) = (r2 : Int))
    (HB : Hid (b1 = R1 * 4294967296 % 18446744073709551616 ∧ b2 = (b1 + u0) % 18446744073709551616 ∧ R0 = (R1 * 4294967296 + u0) % Y))
    (g1 : IntKind.u64.wrap ((R1 : Int) * 4294967296) = (b1 : Int)) (g2 : IntKind.u64.wrap ((b1 : Int) + (u0 : Int)) = (b2 : Int))
    (er0 : (R0 : Int) / 2 ^ s = (RR : Int))
    (HE : Hid ((N * 4294967296 + u1) / Y * 4294967296 + ((N * 4294967296 + u1) % Y * 4294967296 + u0) / Y = QQ))
    (w : World) :
    Calls Tryf.prog 18 #[.int .u64 hi, .int .u64 lo, .int .u64 y] w fun e w' => e = .returned (.tuple #[.int .u64 (QQ : Int), .int .u64 (RR : Int)]) ∧ ∃ n, w' = w.drewN n := by
  have hne : ((y : Int) == 0) = false := by simp; omega
  have hle : (hi : Int) < (y : Int) := by omega
  have hh : ((hi : Int) == 0) = false := by simp; omega
  have hy1z : ((y1 : Int) == 0) = false := by simp; omega
  go_enter Tryf.func18, Tryf.ntmps18
  go_wp2_with fail
  refine (lz y (by omega) hy _).mono ?_
  rw [HS.out]
  rintro e w' ⟨rfl, rfl⟩
  go_wp2
  go_loop [15, 16] (fun a b => ∃ q r : Nat, a = .int .u64 q ∧ b = .int .u64 r ∧ Hid (Guess y1 y0 N u1 q r)) (fun a _ => (intOf a).toNat)
  case atStart => exact ⟨q, r, rfl, rfl, hG.out⟩
  case round =>
    obtain ⟨q, r, rfl, rfl, hg⟩ := hrel
    by_cases hq : 4294967296 ≤ q
    · have db : decide ((4294967296 : Int) ≤ (q : Int)) = true := decide_eq_true (by omega)
      have hT : 4294967296 ≤ q ∨ 4294967296 * r + u1 < q * y0 := Or.inl hq
      clear hq
      have ho := hg.out.over hda HN.out hT
      obtain ⟨qm, hqm⟩ : ∃ qm, q = qm + 1 := ⟨q - 1, by have := Nat.lt_of_le_of_lt (Nat.zero_le _) ho; omega⟩
      obtain ⟨rm, hrm⟩ : ∃ rm, rm = r + y1 := ⟨_, rfl⟩
      have hqh := hg.out.high
      have hrs := hg.out.small
      have eqm : IntKind.u64.wrap ((q : Int) - 1) = (qm : Int) := by rw [IntKind.wrap_u64]; omega
      have erm : IntKind.u64.wrap ((r : Int) + (y1 : Int)) = (rm : Int) := by rw [IntKind.wrap_u64]; omega
      by_cases hb : 4294967296 ≤ rm
      · have dd : decide ((4294967296 : Int) ≤ (rm : Int)) = true := decide_eq_true (by omega)
        have HQa : Hid (qm = (N * 4294967296 + u1) / Y) := by
          unfold Hid
          rw [HY.out, ← hg.out.out hy0 hda HN.out hT (by omega)]
          omega
        clear ho hqm hrm hqh hrs hb hT
        obtain ⟨a3, ha3⟩ : ∃ a3, a3 = qm * Y % 18446744073709551616 := ⟨_, rfl⟩
        have f3 : IntKind.u64.wrap ((qm : Int) * (Y : Int)) = (a3 : Int) := by rw [← Int.natCast_mul, IntKind.wrap_u64]; omega
        have f4 : IntKind.u64.wrap ((a2 : Int) - (a3 : Int)) = (R1 : Int) := by
          have := digit_rem N u1 Y qm hY0 hYb HQa.out
          rw [IntKind.wrap_u64]
          have h := HA.out
          omega
        obtain ⟨c1, hc1⟩ : ∃ c1, c1 = qm * 4294967296 := ⟨_, rfl⟩
        have hlt := star_lt (y1 := y1) (y0 := y0) (n := N) (d := u1) (by omega) HN.out
        rw [← HY.out, ← HQa.out] at hlt
        have f5 : IntKind.u64.wrap ((qm : Int) * 4294967296) = (c1 : Int) := by rw [IntKind.wrap_u64]; omega
        have HC : Hid (c1 = qm * 4294967296 ∧ c1 ≤ 4294967295 * 4294967296) := ⟨hc1, by omega⟩
        clear ha3 hc1 hlt
        go_wp2
        go_loop [18, 16] (fun a b => ∃ q r : Nat, a = .int .u64 q ∧ b = .int .u64 r ∧ Hid (Guess y1 y0 R1 u0 q r)) (fun a _ => (intOf a).toNat)
        case atStart => exact ⟨q2, r2, rfl, rfl, hG2.out⟩
        case round =>
          obtain ⟨q, r, rfl, rfl, hg⟩ := hrel
          by_cases hq : 4294967296 ≤ q
          · have db : decide ((4294967296 : Int) ≤ (q : Int)) = true := decide_eq_true (by omega)
            have hT : 4294967296 ≤ q ∨ 4294967296 * r + u0 < q * y0 := Or.inl hq
            clear hq
            have ho := hg.out.over hdb HN2.out hT
            obtain ⟨qm, hqm⟩ : ∃ qm, q = qm + 1 := ⟨q - 1, by have := Nat.lt_of_le_of_lt (Nat.zero_le _) ho; omega⟩
            obtain ⟨rm, hrm⟩ : ∃ rm, rm = r + y1 := ⟨_, rfl⟩
            have hqh := hg.out.high
            have hrs := hg.out.small
            have eqm : IntKind.u64.wrap ((q : Int) - 1) = (qm : Int) := by rw [IntKind.wrap_u64]; omega
            have erm : IntKind.u64.wrap ((r : Int) + (y1 : Int)) = (rm : Int) := by rw [IntKind.wrap_u64]; omega
            by_cases hb : 4294967296 ≤ rm
            · have dd : decide ((4294967296 : Int) ≤ (rm : Int)) = true := decide_eq_true (by omega)
              have HQb : Hid (qm = (R1 * 4294967296 + u0) / Y) := by
                unfold Hid
                rw [HY.out, ← hg.out.out hy0 hdb HN2.out hT (by omega)]
                omega
              clear ho hqm hrm hqh hrs hb hT
              obtain ⟨b3, hb3⟩ : ∃ b3, b3 = qm * Y % 18446744073709551616 := ⟨_, rfl⟩
              have g3 : IntKind.u64.wrap ((qm : Int) * (Y : Int)) = (b3 : Int) := by rw [← Int.natCast_mul, IntKind.wrap_u64]; omega
              have g4 : IntKind.u64.wrap ((b2 : Int) - (b3 : Int)) = (R0 : Int) := by
                have := digit_rem R1 u0 Y qm hY0 hYb HQb.out
                rw [IntKind.wrap_u64]
                have h := HB.out
                omega
              obtain ⟨c2, hc2⟩ : ∃ c2, c2 = c1 + qm := ⟨_, rfl⟩
              have g5 : IntKind.u64.wrap ((c1 : Int) + (qm : Int)) = (c2 : Int) := by
                have := star_lt (y1 := y1) (y0 := y0) (n := R1) (d := u0) (by omega) HN2.out
                rw [← HY.out, ← HQb.out] at this
                have h := HC.out
                rw [IntKind.wrap_u64]; omega
              have HF : Hid (c2 = QQ) := by
                unfold Hid
                have h := HE.out
                have hB := HC.out
                have hA := HA.out
                rw [hc2, hB.1, HQa.out, HQb.out, hA.2.2]
                exact h
              clear hb3 hc2
              go_wp2
              go_ret2
              exact ⟨ret2_int (by rw [HF.out]) rfl, 0, rfl⟩
            · have dd : decide ((4294967296 : Int) ≤ (rm : Int)) = false := decide_eq_false (by omega)
              have HR : Hid (Guess y1 y0 R1 u0 qm rm) := by
                have h := hg.out.next hdb HN2.out hT (by omega)
                rw [show q - 1 = qm by omega, ← hrm] at h
                exact h
              have HM : Hid (qm < q) := by unfold Hid; omega
              clear ho hqm hrm hqh hrs hb hT
              go_wp2
              go_round
              case rel => exact ⟨qm, rm, rfl, rfl, HR.out⟩
              case measure => have := HM.out; simp [intOf]; omega
          · have db : decide ((4294967296 : Int) ≤ (q : Int)) = false := decide_eq_false (by omega)
            have hrs := hg.out.small
            have hqy : q * y0 ≤ 4294967295 * 4294967295 := Nat.mul_le_mul (by omega) (by omega)
            obtain ⟨p, hp⟩ : ∃ p, p = q * y0 := ⟨_, rfl⟩
            obtain ⟨v, hv⟩ : ∃ v, v = 4294967296 * r := ⟨_, rfl⟩
            obtain ⟨v2, hv2⟩ : ∃ v2, v2 = v + u0 := ⟨_, rfl⟩
            have ep : IntKind.u64.wrap ((q : Int) * (y0 : Int)) = (p : Int) := by rw [← Int.natCast_mul, ← hp, IntKind.wrap_u64]; omega
            have ea : IntKind.u64.wrap (4294967296 * (r : Int)) = (v : Int) := by rw [IntKind.wrap_u64]; omega
            have eb : IntKind.u64.wrap ((v : Int) + (u0 : Int)) = (v2 : Int) := by rw [IntKind.wrap_u64]; omega
            have HP : Hid (p = q * y0 ∧ v2 = 4294967296 * r + u0) := ⟨hp, by omega⟩
            clear hp hqy hv hv2 hrs hq
            by_cases ht : v2 < p
            · have dc : decide (v2 < p) = true := decide_eq_true ht
              have hT : 4294967296 ≤ q ∨ 4294967296 * r + u0 < q * y0 := Or.inr (by have h := HP.out; rw [← h.1, ← h.2]; exact ht)
              clear ht
              have ho := hg.out.over hdb HN2.out hT
              obtain ⟨qm, hqm⟩ : ∃ qm, q = qm + 1 := ⟨q - 1, by have := Nat.lt_of_le_of_lt (Nat.zero_le _) ho; omega⟩
              obtain ⟨rm, hrm⟩ : ∃ rm, rm = r + y1 := ⟨_, rfl⟩
              have hqh := hg.out.high
              have hrs := hg.out.small
              have eqm : IntKind.u64.wrap ((q : Int) - 1) = (qm : Int) := by rw [IntKind.wrap_u64]; omega
              have erm : IntKind.u64.wrap ((r : Int) + (y1 : Int)) = (rm : Int) := by rw [IntKind.wrap_u64]; omega
              by_cases hb : 4294967296 ≤ rm
              · have dd : decide ((4294967296 : Int) ≤ (rm : Int)) = true := decide_eq_true (by omega)
                have HQb : Hid (qm = (R1 * 4294967296 + u0) / Y) := by
                  unfold Hid
                  rw [HY.out, ← hg.out.out hy0 hdb HN2.out hT (by omega)]
                  omega
                clear ho hqm hrm hqh hrs hb hT
                obtain ⟨b3, hb3⟩ : ∃ b3, b3 = qm * Y % 18446744073709551616 := ⟨_, rfl⟩
                have g3 : IntKind.u64.wrap ((qm : Int) * (Y : Int)) = (b3 : Int) := by rw [← Int.natCast_mul, IntKind.wrap_u64]; omega
                have g4 : IntKind.u64.wrap ((b2 : Int) - (b3 : Int)) = (R0 : Int) := by
                  have := digit_rem R1 u0 Y qm hY0 hYb HQb.out
                  rw [IntKind.wrap_u64]
                  have h := HB.out
                  omega
                obtain ⟨c2, hc2⟩ : ∃ c2, c2 = c1 + qm := ⟨_, rfl⟩
                have g5 : IntKind.u64.wrap ((c1 : Int) + (qm : Int)) = (c2 : Int) := by
                  have := star_lt (y1 := y1) (y0 := y0) (n := R1) (d := u0) (by omega) HN2.out
                  rw [← HY.out, ← HQb.out] at this
                  have h := HC.out
                  rw [IntKind.wrap_u64]; omega
                have HF : Hid (c2 = QQ) := by
                  unfold Hid
                  have h := HE.out
                  have hB := HC.out
                  have hA := HA.out
                  rw [hc2, hB.1, HQa.out, HQb.out, hA.2.2]
                  exact h
                clear hb3 hc2
                go_wp2
                go_ret2
                exact ⟨ret2_int (by rw [HF.out]) rfl, 0, rfl⟩
              · have dd : decide ((4294967296 : Int) ≤ (rm : Int)) = false := decide_eq_false (by omega)
                have HR : Hid (Guess y1 y0 R1 u0 qm rm) := by
                  have h := hg.out.next hdb HN2.out hT (by omega)
                  rw [show q - 1 = qm by omega, ← hrm] at h
                  exact h
                have HM : Hid (qm < q) := by unfold Hid; omega
                clear ho hqm hrm hqh hrs hb hT
                go_wp2
                go_round
                case rel => exact ⟨qm, rm, rfl, rfl, HR.out⟩
                case measure => have := HM.out; simp [intOf]; omega
            · have dc : decide (v2 < p) = false := decide_eq_false ht
              have HQb : Hid (q = (R1 * 4294967296 + u0) / Y) := by
                unfold Hid; rw [HY.out]; exact hg.out.done (by omega) (by have h := HP.out; omega)
              clear ht
              obtain ⟨b3, hb3⟩ : ∃ b3, b3 = q * Y % 18446744073709551616 := ⟨_, rfl⟩
              have g3 : IntKind.u64.wrap ((q : Int) * (Y : Int)) = (b3 : Int) := by rw [← Int.natCast_mul, IntKind.wrap_u64]; omega
              have g4 : IntKind.u64.wrap ((b2 : Int) - (b3 : Int)) = (R0 : Int) := by
                have := digit_rem R1 u0 Y q hY0 hYb HQb.out
                rw [IntKind.wrap_u64]
                have h := HB.out
                omega
              obtain ⟨c2, hc2⟩ : ∃ c2, c2 = c1 + q := ⟨_, rfl⟩
              have g5 : IntKind.u64.wrap ((c1 : Int) + (q : Int)) = (c2 : Int) := by
                have := star_lt (y1 := y1) (y0 := y0) (n := R1) (d := u0) (by omega) HN2.out
                rw [← HY.out, ← HQb.out] at this
                have h := HC.out
                rw [IntKind.wrap_u64]; omega
              have HF : Hid (c2 = QQ) := by
                unfold Hid
                have h := HE.out
                have hB := HC.out
                have hA := HA.out
                rw [hc2, hB.1, HQa.out, HQb.out, hA.2.2]
                exact h
              clear hb3 hc2
              go_wp2
              go_ret2
              exact ⟨ret2_int (by rw [HF.out]) rfl, 0, rfl⟩
      · have dd : decide ((4294967296 : Int) ≤ (rm : Int)) = false := decide_eq_false (by omega)
        have HR : Hid (Guess y1 y0 N u1 qm rm) := by
          have h := hg.out.next hda HN.out hT (by omega)
          rw [show q - 1 = qm by omega, ← hrm] at h
          exact h
        have HM : Hid (qm < q) := by unfold Hid; omega
        clear ho hqm hrm hqh hrs hb hT
        go_wp2
        go_round
        case rel => exact ⟨qm, rm, rfl, rfl, HR.out⟩
        case measure => have := HM.out; simp [intOf]; omega
    · have db : decide ((4294967296 : Int) ≤ (q : Int)) = false := decide_eq_false (by omega)
      have hrs := hg.out.small
      have hqy : q * y0 ≤ 4294967295 * 4294967295 := Nat.mul_le_mul (by omega) (by omega)
      obtain ⟨p, hp⟩ : ∃ p, p = q * y0 := ⟨_, rfl⟩
      obtain ⟨v, hv⟩ : ∃ v, v = 4294967296 * r := ⟨_, rfl⟩
      obtain ⟨v2, hv2⟩ : ∃ v2, v2 = v + u1 := ⟨_, rfl⟩
      have ep : IntKind.u64.wrap ((q : Int) * (y0 : Int)) = (p : Int) := by rw [← Int.natCast_mul, ← hp, IntKind.wrap_u64]; omega
      have ea : IntKind.u64.wrap (4294967296 * (r : Int)) = (v : Int) := by rw [IntKind.wrap_u64]; omega
      have eb : IntKind.u64.wrap ((v : Int) + (u1 : Int)) = (v2 : Int) := by rw [IntKind.wrap_u64]; omega
      have HP : Hid (p = q * y0 ∧ v2 = 4294967296 * r + u1) := ⟨hp, by omega⟩
      clear hp hqy hv hv2 hrs hq
      by_cases ht : v2 < p
      · have dc : decide (v2 < p) = true := decide_eq_true ht
        have hT : 4294967296 ≤ q ∨ 4294967296 * r + u1 < q * y0 := Or.inr (by have h := HP.out; rw [← h.1, ← h.2]; exact ht)
        clear ht
        have ho := hg.out.over hda HN.out hT
        obtain ⟨qm, hqm⟩ : ∃ qm, q = qm + 1 := ⟨q - 1, by have := Nat.lt_of_le_of_lt (Nat.zero_le _) ho; omega⟩
        obtain ⟨rm, hrm⟩ : ∃ rm, rm = r + y1 := ⟨_, rfl⟩
        have hqh := hg.out.high
        have hrs := hg.out.small
        have eqm : IntKind.u64.wrap ((q : Int) - 1) = (qm : Int) := by rw [IntKind.wrap_u64]; omega
        have erm : IntKind.u64.wrap ((r : Int) + (y1 : Int)) = (rm : Int) := by rw [IntKind.wrap_u64]; omega
        by_cases hb : 4294967296 ≤ rm
        · have dd : decide ((4294967296 : Int) ≤ (rm : Int)) = true := decide_eq_true (by omega)
          have HQa : Hid (qm = (N * 4294967296 + u1) / Y) := by
            unfold Hid
            rw [HY.out, ← hg.out.out hy0 hda HN.out hT (by omega)]
            omega
          clear ho hqm hrm hqh hrs hb hT
          obtain ⟨a3, ha3⟩ : ∃ a3, a3 = qm * Y % 18446744073709551616 := ⟨_, rfl⟩
          have f3 : IntKind.u64.wrap ((qm : Int) * (Y : Int)) = (a3 : Int) := by rw [← Int.natCast_mul, IntKind.wrap_u64]; omega
          have f4 : IntKind.u64.wrap ((a2 : Int) - (a3 : Int)) = (R1 : Int) := by
            have := digit_rem N u1 Y qm hY0 hYb HQa.out
            rw [IntKind.wrap_u64]
            have h := HA.out
            omega
          obtain ⟨c1, hc1⟩ : ∃ c1, c1 = qm * 4294967296 := ⟨_, rfl⟩
          have hlt := star_lt (y1 := y1) (y0 := y0) (n := N) (d := u1) (by omega) HN.out
          rw [← HY.out, ← HQa.out] at hlt
          have f5 : IntKind.u64.wrap ((qm : Int) * 4294967296) = (c1 : Int) := by rw [IntKind.wrap_u64]; omega
          have HC : Hid (c1 = qm * 4294967296 ∧ c1 ≤ 4294967295 * 4294967296) := ⟨hc1, by omega⟩
          clear ha3 hc1 hlt
          go_wp2
          go_loop [18, 16] (fun a b => ∃ q r : Nat, a = .int .u64 q ∧ b = .int .u64 r ∧ Hid (Guess y1 y0 R1 u0 q r)) (fun a _ => (intOf a).toNat)
          case atStart => exact ⟨q2, r2, rfl, rfl, hG2.out⟩
          case round =>
            obtain ⟨q, r, rfl, rfl, hg⟩ := hrel
            by_cases hq : 4294967296 ≤ q
            · have db : decide ((4294967296 : Int) ≤ (q : Int)) = true := decide_eq_true (by omega)
              have hT : 4294967296 ≤ q ∨ 4294967296 * r + u0 < q * y0 := Or.inl hq
              clear hq
              have ho := hg.out.over hdb HN2.out hT
              obtain ⟨qm, hqm⟩ : ∃ qm, q = qm + 1 := ⟨q - 1, by have := Nat.lt_of_le_of_lt (Nat.zero_le _) ho; omega⟩
              obtain ⟨rm, hrm⟩ : ∃ rm, rm = r + y1 := ⟨_, rfl⟩
              have hqh := hg.out.high
              have hrs := hg.out.small
              have eqm : IntKind.u64.wrap ((q : Int) - 1) = (qm : Int) := by rw [IntKind.wrap_u64]; omega
              have erm : IntKind.u64.wrap ((r : Int) + (y1 : Int)) = (rm : Int) := by rw [IntKind.wrap_u64]; omega
              by_cases hb : 4294967296 ≤ rm
              · have dd : decide ((4294967296 : Int) ≤ (rm : Int)) = true := decide_eq_true (by omega)
                have HQb : Hid (qm = (R1 * 4294967296 + u0) / Y) := by
                  unfold Hid
                  rw [HY.out, ← hg.out.out hy0 hdb HN2.out hT (by omega)]
                  omega
                clear ho hqm hrm hqh hrs hb hT
                obtain ⟨b3, hb3⟩ : ∃ b3, b3 = qm * Y % 18446744073709551616 := ⟨_, rfl⟩
                have g3 : IntKind.u64.wrap ((qm : Int) * (Y : Int)) = (b3 : Int) := by rw [← Int.natCast_mul, IntKind.wrap_u64]; omega
                have g4 : IntKind.u64.wrap ((b2 : Int) - (b3 : Int)) = (R0 : Int) := by
                  have := digit_rem R1 u0 Y qm hY0 hYb HQb.out
                  rw [IntKind.wrap_u64]
                  have h := HB.out
                  omega
                obtain ⟨c2, hc2⟩ : ∃ c2, c2 = c1 + qm := ⟨_, rfl⟩
                have g5 : IntKind.u64.wrap ((c1 : Int) + (qm : Int)) = (c2 : Int) := by
                  have := star_lt (y1 := y1) (y0 := y0) (n := R1) (d := u0) (by omega) HN2.out
                  rw [← HY.out, ← HQb.out] at this
                  have h := HC.out
                  rw [IntKind.wrap_u64]; omega
                have HF : Hid (c2 = QQ) := by
                  unfold Hid
                  have h := HE.out
                  have hB := HC.out
                  have hA := HA.out
                  rw [hc2, hB.1, HQa.out, HQb.out, hA.2.2]
                  exact h
                clear hb3 hc2
                go_wp2
                go_ret2
                exact ⟨ret2_int (by rw [HF.out]) rfl, 0, rfl⟩
              · have dd : decide ((4294967296 : Int) ≤ (rm : Int)) = false := decide_eq_false (by omega)
                have HR : Hid (Guess y1 y0 R1 u0 qm rm) := by
                  have h := hg.out.next hdb HN2.out hT (by omega)
                  rw [show q - 1 = qm by omega, ← hrm] at h
                  exact h
                have HM : Hid (qm < q) := by unfold Hid; omega
                clear ho hqm hrm hqh hrs hb hT
                go_wp2
                go_round
                case rel => exact ⟨qm, rm, rfl, rfl, HR.out⟩
                case measure => have := HM.out; simp [intOf]; omega
            · have db : decide ((4294967296 : Int) ≤ (q : Int)) = false := decide_eq_false (by omega)
              have hrs := hg.out.small
              have hqy : q * y0 ≤ 4294967295 * 4294967295 := Nat.mul_le_mul (by omega) (by omega)
              obtain ⟨p, hp⟩ : ∃ p, p = q * y0 := ⟨_, rfl⟩
              obtain ⟨v, hv⟩ : ∃ v, v = 4294967296 * r := ⟨_, rfl⟩
              obtain ⟨v2, hv2⟩ : ∃ v2, v2 = v + u0 := ⟨_, rfl⟩
              have ep : IntKind.u64.wrap ((q : Int) * (y0 : Int)) = (p : Int) := by rw [← Int.natCast_mul, ← hp, IntKind.wrap_u64]; omega
              have ea : IntKind.u64.wrap (4294967296 * (r : Int)) = (v : Int) := by rw [IntKind.wrap_u64]; omega
              have eb : IntKind.u64.wrap ((v : Int) + (u0 : Int)) = (v2 : Int) := by rw [IntKind.wrap_u64]; omega
              have HP : Hid (p = q * y0 ∧ v2 = 4294967296 * r + u0) := ⟨hp, by omega⟩
              clear hp hqy hv hv2 hrs hq
              by_cases ht : v2 < p
              · have dc : decide (v2 < p) = true := decide_eq_true ht
                have hT : 4294967296 ≤ q ∨ 4294967296 * r + u0 < q * y0 := Or.inr (by have h := HP.out; rw [← h.1, ← h.2]; exact ht)
                clear ht
                have ho := hg.out.over hdb HN2.out hT
                obtain ⟨qm, hqm⟩ : ∃ qm, q = qm + 1 := ⟨q - 1, by have := Nat.lt_of_le_of_lt (Nat.zero_le _) ho; omega⟩
                obtain ⟨rm, hrm⟩ : ∃ rm, rm = r + y1 := ⟨_, rfl⟩
                have hqh := hg.out.high
                have hrs := hg.out.small
                have eqm : IntKind.u64.wrap ((q : Int) - 1) = (qm : Int) := by rw [IntKind.wrap_u64]; omega
                have erm : IntKind.u64.wrap ((r : Int) + (y1 : Int)) = (rm : Int) := by rw [IntKind.wrap_u64]; omega
                by_cases hb : 4294967296 ≤ rm
                · have dd : decide ((4294967296 : Int) ≤ (rm : Int)) = true := decide_eq_true (by omega)
                  have HQb : Hid (qm = (R1 * 4294967296 + u0) / Y) := by
                    unfold Hid
                    rw [HY.out, ← hg.out.out hy0 hdb HN2.out hT (by omega)]
                    omega
                  clear ho hqm hrm hqh hrs hb hT
                  obtain ⟨b3, hb3⟩ : ∃ b3, b3 = qm * Y % 18446744073709551616 := ⟨_, rfl⟩
                  have g3 : IntKind.u64.wrap ((qm : Int) * (Y : Int)) = (b3 : Int) := by rw [← Int.natCast_mul, IntKind.wrap_u64]; omega
                  have g4 : IntKind.u64.wrap ((b2 : Int) - (b3 : Int)) = (R0 : Int) := by
                    have := digit_rem R1 u0 Y qm hY0 hYb HQb.out
                    rw [IntKind.wrap_u64]
                    have h := HB.out
                    omega
                  obtain ⟨c2, hc2⟩ : ∃ c2, c2 = c1 + qm := ⟨_, rfl⟩
                  have g5 : IntKind.u64.wrap ((c1 : Int) + (qm : Int)) = (c2 : Int) := by
                    have := star_lt (y1 := y1) (y0 := y0) (n := R1) (d := u0) (by omega) HN2.out
                    rw [← HY.out, ← HQb.out] at this
                    have h := HC.out
                    rw [IntKind.wrap_u64]; omega
                  have HF : Hid (c2 = QQ) := by
                    unfold Hid
                    have h := HE.out
                    have hB := HC.out
                    have hA := HA.out
                    rw [hc2, hB.1, HQa.out, HQb.out, hA.2.2]
                    exact h
                  clear hb3 hc2
                  go_wp2
                  go_ret2
                  exact ⟨ret2_int (by rw [HF.out]) rfl, 0, rfl⟩
                · have dd : decide ((4294967296 : Int) ≤ (rm : Int)) = false := decide_eq_false (by omega)
                  have HR : Hid (Guess y1 y0 R1 u0 qm rm) := by
                    have h := hg.out.next hdb HN2.out hT (by omega)
                    rw [show q - 1 = qm by omega, ← hrm] at h
                    exact h
                  have HM : Hid (qm < q) := by unfold Hid; omega
                  clear ho hqm hrm hqh hrs hb hT
                  go_wp2
                  go_round
                  case rel => exact ⟨qm, rm, rfl, rfl, HR.out⟩
                  case measure => have := HM.out; simp [intOf]; omega
              · have dc : decide (v2 < p) = false := decide_eq_false ht
                have HQb : Hid (q = (R1 * 4294967296 + u0) / Y) := by
                  unfold Hid; rw [HY.out]; exact hg.out.done (by omega) (by have h := HP.out; omega)
                clear ht
                obtain ⟨b3, hb3⟩ : ∃ b3, b3 = q * Y % 18446744073709551616 := ⟨_, rfl⟩
                have g3 : IntKind.u64.wrap ((q : Int) * (Y : Int)) = (b3 : Int) := by rw [← Int.natCast_mul, IntKind.wrap_u64]; omega
                have g4 : IntKind.u64.wrap ((b2 : Int) - (b3 : Int)) = (R0 : Int) := by
                  have := digit_rem R1 u0 Y q hY0 hYb HQb.out
                  rw [IntKind.wrap_u64]
                  have h := HB.out
                  omega
                obtain ⟨c2, hc2⟩ : ∃ c2, c2 = c1 + q := ⟨_, rfl⟩
                have g5 : IntKind.u64.wrap ((c1 : Int) + (q : Int)) = (c2 : Int) := by
                  have := star_lt (y1 := y1) (y0 := y0) (n := R1) (d := u0) (by omega) HN2.out
                  rw [← HY.out, ← HQb.out] at this
                  have h := HC.out
                  rw [IntKind.wrap_u64]; omega
                have HF : Hid (c2 = QQ) := by
                  unfold Hid
                  have h := HE.out
                  have hB := HC.out
                  have hA := HA.out
                  rw [hc2, hB.1, HQa.out, HQb.out, hA.2.2]
                  exact h
                clear hb3 hc2
                go_wp2
                go_ret2
                exact ⟨ret2_int (by rw [HF.out]) rfl, 0, rfl⟩
        · have dd : decide ((4294967296 : Int) ≤ (rm : Int)) = false := decide_eq_false (by omega)
          have HR : Hid (Guess y1 y0 N u1 qm rm) := by
            have h := hg.out.next hda HN.out hT (by omega)
            rw [show q - 1 = qm by omega, ← hrm] at h
            exact h
          have HM : Hid (qm < q) := by unfold Hid; omega
          clear ho hqm hrm hqh hrs hb hT
          go_wp2
          go_round
          case rel => exact ⟨qm, rm, rfl, rfl, HR.out⟩
          case measure => have := HM.out; simp [intOf]; omega
      · have dc : decide (v2 < p) = false := decide_eq_false ht
        have HQa : Hid (q = (N * 4294967296 + u1) / Y) := by
          unfold Hid; rw [HY.out]; exact hg.out.done (by omega) (by have h := HP.out; omega)
        clear ht
        obtain ⟨a3, ha3⟩ : ∃ a3, a3 = q * Y % 18446744073709551616 := ⟨_, rfl⟩
        have f3 : IntKind.u64.wrap ((q : Int) * (Y : Int)) = (a3 : Int) := by rw [← Int.natCast_mul, IntKind.wrap_u64]; omega
        have f4 : IntKind.u64.wrap ((a2 : Int) - (a3 : Int)) = (R1 : Int) := by
          have := digit_rem N u1 Y q hY0 hYb HQa.out
          rw [IntKind.wrap_u64]
          have h := HA.out
          omega
        obtain ⟨c1, hc1⟩ : ∃ c1, c1 = q * 4294967296 := ⟨_, rfl⟩
        have hlt := star_lt (y1 := y1) (y0 := y0) (n := N) (d := u1) (by omega) HN.out
        rw [← HY.out, ← HQa.out] at hlt
        have f5 : IntKind.u64.wrap ((q : Int) * 4294967296) = (c1 : Int) := by rw [IntKind.wrap_u64]; omega
        have HC : Hid (c1 = q * 4294967296 ∧ c1 ≤ 4294967295 * 4294967296) := ⟨hc1, by omega⟩
        clear ha3 hc1 hlt
        go_wp2
        go_loop [18, 16] (fun a b => ∃ q r : Nat, a = .int .u64 q ∧ b = .int .u64 r ∧ Hid (Guess y1 y0 R1 u0 q r)) (fun a _ => (intOf a).toNat)
        case atStart => exact ⟨q2, r2, rfl, rfl, hG2.out⟩
        case round =>
          obtain ⟨q, r, rfl, rfl, hg⟩ := hrel
          by_cases hq : 4294967296 ≤ q
          · have db : decide ((4294967296 : Int) ≤ (q : Int)) = true := decide_eq_true (by omega)
            have hT : 4294967296 ≤ q ∨ 4294967296 * r + u0 < q * y0 := Or.inl hq
            clear hq
            have ho := hg.out.over hdb HN2.out hT
            obtain ⟨qm, hqm⟩ : ∃ qm, q = qm + 1 := ⟨q - 1, by have := Nat.lt_of_le_of_lt (Nat.zero_le _) ho; omega⟩
            obtain ⟨rm, hrm⟩ : ∃ rm, rm = r + y1 := ⟨_, rfl⟩
            have hqh := hg.out.high
            have hrs := hg.out.small
            have eqm : IntKind.u64.wrap ((q : Int) - 1) = (qm : Int) := by rw [IntKind.wrap_u64]; omega
            have erm : IntKind.u64.wrap ((r : Int) + (y1 : Int)) = (rm : Int) := by rw [IntKind.wrap_u64]; omega
            by_cases hb : 4294967296 ≤ rm
            · have dd : decide ((4294967296 : Int) ≤ (rm : Int)) = true := decide_eq_true (by omega)
              have HQb : Hid (qm = (R1 * 4294967296 + u0) / Y) := by
                unfold Hid
                rw [HY.out, ← hg.out.out hy0 hdb HN2.out hT (by omega)]
                omega
              clear ho hqm hrm hqh hrs hb hT
              obtain ⟨b3, hb3⟩ : ∃ b3, b3 = qm * Y % 18446744073709551616 := ⟨_, rfl⟩
              have g3 : IntKind.u64.wrap ((qm : Int) * (Y : Int)) = (b3 : Int) := by rw [← Int.natCast_mul, IntKind.wrap_u64]; omega
              have g4 : IntKind.u64.wrap ((b2 : Int) - (b3 : Int)) = (R0 : Int) := by
                have := digit_rem R1 u0 Y qm hY0 hYb HQb.out
                rw [IntKind.wrap_u64]
                have h := HB.out
                omega
              obtain ⟨c2, hc2⟩ : ∃ c2, c2 = c1 + qm := ⟨_, rfl⟩
              have g5 : IntKind.u64.wrap ((c1 : Int) + (qm : Int)) = (c2 : Int) := by
                have := star_lt (y1 := y1) (y0 := y0) (n := R1) (d := u0) (by omega) HN2.out
                rw [← HY.out, ← HQb.out] at this
                have h := HC.out
                rw [IntKind.wrap_u64]; omega
              have HF : Hid (c2 = QQ) := by
                unfold Hid
                have h := HE.out
                have hB := HC.out
                have hA := HA.out
                rw [hc2, hB.1, HQa.out, HQb.out, hA.2.2]
                exact h
              clear hb3 hc2
              go_wp2
              go_ret2
              exact ⟨ret2_int (by rw [HF.out]) rfl, 0, rfl⟩
            · have dd : decide ((4294967296 : Int) ≤ (rm : Int)) = false := decide_eq_false (by omega)
              have HR : Hid (Guess y1 y0 R1 u0 qm rm) := by
                have h := hg.out.next hdb HN2.out hT (by omega)
                rw [show q - 1 = qm by omega, ← hrm] at h
                exact h
              have HM : Hid (qm < q) := by unfold Hid; omega
              clear ho hqm hrm hqh hrs hb hT
              go_wp2
              go_round
              case rel => exact ⟨qm, rm, rfl, rfl, HR.out⟩
              case measure => have := HM.out; simp [intOf]; omega
          · have db : decide ((4294967296 : Int) ≤ (q : Int)) = false := decide_eq_false (by omega)
            have hrs := hg.out.small
            have hqy : q * y0 ≤ 4294967295 * 4294967295 := Nat.mul_le_mul (by omega) (by omega)
            obtain ⟨p, hp⟩ : ∃ p, p = q * y0 := ⟨_, rfl⟩
            obtain ⟨v, hv⟩ : ∃ v, v = 4294967296 * r := ⟨_, rfl⟩
            obtain ⟨v2, hv2⟩ : ∃ v2, v2 = v + u0 := ⟨_, rfl⟩
            have ep : IntKind.u64.wrap ((q : Int) * (y0 : Int)) = (p : Int) := by rw [← Int.natCast_mul, ← hp, IntKind.wrap_u64]; omega
            have ea : IntKind.u64.wrap (4294967296 * (r : Int)) = (v : Int) := by rw [IntKind.wrap_u64]; omega
            have eb : IntKind.u64.wrap ((v : Int) + (u0 : Int)) = (v2 : Int) := by rw [IntKind.wrap_u64]; omega
            have HP : Hid (p = q * y0 ∧ v2 = 4294967296 * r + u0) := ⟨hp, by omega⟩
            clear hp hqy hv hv2 hrs hq
            by_cases ht : v2 < p
            · have dc : decide (v2 < p) = true := decide_eq_true ht
              have hT : 4294967296 ≤ q ∨ 4294967296 * r + u0 < q * y0 := Or.inr (by have h := HP.out; rw [← h.1, ← h.2]; exact ht)
              clear ht
              have ho := hg.out.over hdb HN2.out hT
              obtain ⟨qm, hqm⟩ : ∃ qm, q = qm + 1 := ⟨q - 1, by have := Nat.lt_of_le_of_lt (Nat.zero_le _) ho; omega⟩
              obtain ⟨rm, hrm⟩ : ∃ rm, rm = r + y1 := ⟨_, rfl⟩
              have hqh := hg.out.high
              have hrs := hg.out.small
              have eqm : IntKind.u64.wrap ((q : Int) - 1) = (qm : Int) := by rw [IntKind.wrap_u64]; omega
              have erm : IntKind.u64.wrap ((r : Int) + (y1 : Int)) = (rm : Int) := by rw [IntKind.wrap_u64]; omega
              by_cases hb : 4294967296 ≤ rm
              · have dd : decide ((4294967296 : Int) ≤ (rm : Int)) = true := decide_eq_true (by omega)
                have HQb : Hid (qm = (R1 * 4294967296 + u0) / Y) := by
                  unfold Hid
                  rw [HY.out, ← hg.out.out hy0 hdb HN2.out hT (by omega)]
                  omega
                clear ho hqm hrm hqh hrs hb hT
                obtain ⟨b3, hb3⟩ : ∃ b3, b3 = qm * Y % 18446744073709551616 := ⟨_, rfl⟩
                have g3 : IntKind.u64.wrap ((qm : Int) * (Y : Int)) = (b3 : Int) := by rw [← Int.natCast_mul, IntKind.wrap_u64]; omega
                have g4 : IntKind.u64.wrap ((b2 : Int) - (b3 : Int)) = (R0 : Int) := by
                  have := digit_rem R1 u0 Y qm hY0 hYb HQb.out
                  rw [IntKind.wrap_u64]
                  have h := HB.out
                  omega
                obtain ⟨c2, hc2⟩ : ∃ c2, c2 = c1 + qm := ⟨_, rfl⟩
                have g5 : IntKind.u64.wrap ((c1 : Int) + (qm : Int)) = (c2 : Int) := by
                  have := star_lt (y1 := y1) (y0 := y0) (n := R1) (d := u0) (by omega) HN2.out
                  rw [← HY.out, ← HQb.out] at this
                  have h := HC.out
                  rw [IntKind.wrap_u64]; omega
                have HF : Hid (c2 = QQ) := by
                  unfold Hid
                  have h := HE.out
                  have hB := HC.out
                  have hA := HA.out
                  rw [hc2, hB.1, HQa.out, HQb.out, hA.2.2]
                  exact h
                clear hb3 hc2
                go_wp2
                go_ret2
                exact ⟨ret2_int (by rw [HF.out]) rfl, 0, rfl⟩
              · have dd : decide ((4294967296 : Int) ≤ (rm : Int)) = false := decide_eq_false (by omega)
                have HR : Hid (Guess y1 y0 R1 u0 qm rm) := by
                  have h := hg.out.next hdb HN2.out hT (by omega)
                  rw [show q - 1 = qm by omega, ← hrm] at h
                  exact h
                have HM : Hid (qm < q) := by unfold Hid; omega
                clear ho hqm hrm hqh hrs hb hT
                go_wp2
                go_round
                case rel => exact ⟨qm, rm, rfl, rfl, HR.out⟩
                case measure => have := HM.out; simp [intOf]; omega
            · have dc : decide (v2 < p) = false := decide_eq_false ht
              have HQb : Hid (q = (R1 * 4294967296 + u0) / Y) := by
                unfold Hid; rw [HY.out]; exact hg.out.done (by omega) (by have h := HP.out; omega)
              clear ht
              obtain ⟨b3, hb3⟩ : ∃ b3, b3 = q * Y % 18446744073709551616 := ⟨_, rfl⟩
              have g3 : IntKind.u64.wrap ((q : Int) * (Y : Int)) = (b3 : Int) := by rw [← Int.natCast_mul, IntKind.wrap_u64]; omega
              have g4 : IntKind.u64.wrap ((b2 : Int) - (b3 : Int)) = (R0 : Int) := by
                have := digit_rem R1 u0 Y q hY0 hYb HQb.out
                rw [IntKind.wrap_u64]
                have h := HB.out
                omega
              obtain ⟨c2, hc2⟩ : ∃ c2, c2 = c1 + q := ⟨_, rfl⟩
              have g5 : IntKind.u64.wrap ((c1 : Int) + (q : Int)) = (c2 : Int) := by
                have := star_lt (y1 := y1) (y0 := y0) (n := R1) (d := u0) (by omega) HN2.out
                rw [← HY.out, ← HQb.out] at this
                have h := HC.out
                rw [IntKind.wrap_u64]; omega
              have HF : Hid (c2 = QQ) := by
                unfold Hid
                have h := HE.out
                have hB := HC.out
                have hA := HA.out
                rw [hc2, hB.1, HQa.out, HQb.out, hA.2.2]
                exact h
              clear hb3 hc2
              go_wp2
              go_ret2
              exact ⟨ret2_int (by rw [HF.out]) rfl, 0, rfl⟩
end Go.Proofs.Qxb6609083aFmt

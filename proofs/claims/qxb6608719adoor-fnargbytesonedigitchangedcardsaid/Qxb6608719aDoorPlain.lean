/-
  THE PLAIN MATHEMATICS of seat b6608719aD: lower-case hex digits, their pairs, and what encoding/hex's plain functions (the kit's 'Hx') say of them. No Go in sight.
-/
import Derived.Lib.HexFns2
namespace Go.Proofs.Qxb6608719aDoor.Pl
open Go.Lib

/-- The value of a lower-case hex digit, or -1. -/
def lhv (c : Int) : Int := if 48 ≤ c ∧ c ≤ 57 then c - 48 else if 97 ≤ c ∧ c ≤ 102 then c - 97 + 10 else -1
/-- The value of a byte. -/
def lb (c : UInt8) : Int := lhv (c.toNat : Int)
/-- Lower-case hex of even length. -/
def lowB (l : List UInt8) : Bool := l.length % 2 == 0 && l.all fun c => decide (0 ≤ lb c)
/-- The bytes that l spells, pair by pair. -/
def prs : List UInt8 → List UInt8
  | p :: q :: t => UInt8.ofNat ((lb p).toNat * 16 + (lb q).toNat) :: prs t
  | _ => []

theorem lhv_range (c : Int) : -1 ≤ lhv c ∧ lhv c ≤ 15 := by
  unfold lhv; split
  · omega
  · split <;> omega
theorem lb_range (c : UInt8) : -1 ≤ lb c ∧ lb c ≤ 15 := lhv_range _

theorem all_bytes {p : UInt8 → Prop} (h : ∀ n : Fin 256, p (UInt8.ofNat n.val)) (c : UInt8) : p c := by
  have := h ⟨c.toNat, c.toNat_lt⟩
  simpa using this

set_option maxRecDepth 100000 in
theorem v_fin : ∀ n : Fin 256, 0 ≤ lb (UInt8.ofNat n.val) → Hx.v (UInt8.ofNat n.val) = (lb (UInt8.ofNat n.val)).toNat := by decide +kernel
theorem v_eq (c : UInt8) (h : 0 ≤ lb c) : Hx.v c = (lb c).toNat := all_bytes (p := fun c => 0 ≤ lb c → Hx.v c = (lb c).toNat) v_fin c h
set_option maxRecDepth 100000 in
theorem digit_fin : ∀ n : Fin 256, 0 ≤ lb (UInt8.ofNat n.val) → Hx.digit (lb (UInt8.ofNat n.val)).toNat = UInt8.ofNat n.val := by decide +kernel
theorem digit_eq (c : UInt8) (h : 0 ≤ lb c) : Hx.digit (lb c).toNat = c := all_bytes (p := fun c => 0 ≤ lb c → Hx.digit (lb c).toNat = c) digit_fin c h
set_option maxRecDepth 100000 in
theorem digit_low_fin : ∀ d : Fin 16, 0 ≤ lb (Hx.digit d.val) := by decide +kernel
theorem digit_low (d : Nat) (h : d < 16) : 0 ≤ lb (Hx.digit d) := digit_low_fin ⟨d, h⟩

theorem lowB_cons2 (p q : UInt8) (t : List UInt8) : lowB (p :: q :: t) = (decide (0 ≤ lb p) && decide (0 ≤ lb q) && lowB t) := by
  unfold lowB
  rw [List.all_cons, List.all_cons, List.length_cons, List.length_cons, show (t.length + 1 + 1) % 2 = t.length % 2 by omega]
  cases (t.length % 2 == 0) <;> cases decide (0 ≤ lb p) <;> cases decide (0 ≤ lb q) <;> rfl
theorem lowB_one (p : UInt8) : lowB [p] = false := by simp [lowB]
theorem lowB_nil : lowB [] = true := rfl

/-- An accepted text: what it decodes to, and that it is that encoded. -/
theorem decode_low : ∀ l : List UInt8, lowB l = true → Hx.decode l = (prs l, .ok)
  | [], _ => by rw [Hx.decode_nil, prs]; intros; simp_all
  | [p], h => by rw [lowB_one] at h; cases h
  | p :: q :: t, h => by
    rw [lowB_cons2] at h
    simp only [Bool.and_eq_true, decide_eq_true_eq] at h
    obtain ⟨⟨hp, hq⟩, ht⟩ := h
    have rp := lb_range p
    have rq := lb_range q
    rw [Hx.decode_two, v_eq p hp, v_eq q hq, if_neg (by omega), if_neg (by omega), decode_low t ht, prs]
theorem encode_prs : ∀ l : List UInt8, lowB l = true → Hx.encode (prs l) = l
  | [], _ => rfl
  | [p], h => by rw [lowB_one] at h; cases h
  | p :: q :: t, h => by
    rw [lowB_cons2] at h
    simp only [Bool.and_eq_true, decide_eq_true_eq] at h
    obtain ⟨⟨hp, hq⟩, ht⟩ := h
    have rp := lb_range p
    have rq := lb_range q
    rw [prs, Hx.encode_cons, encode_prs t ht, UInt8.toNat_ofNat', Nat.mod_eq_of_lt (by omega),
      show ((lb p).toNat * 16 + (lb q).toNat) / 16 = (lb p).toNat by omega, show ((lb p).toNat * 16 + (lb q).toNat) % 16 = (lb q).toNat by omega, digit_eq p hp, digit_eq q hq]
theorem lowB_encode : ∀ x : List UInt8, lowB (Hx.encode x) = true
  | [] => rfl
  | a :: t => by
    have := a.toNat_lt
    rw [Hx.encode_cons, lowB_cons2, lowB_encode t]
    simp only [Bool.and_true, Bool.and_eq_true, decide_eq_true_eq]
    exact ⟨digit_low _ (by omega), digit_low _ (by omega)⟩
/-- A text that isn't so is refused one way or the other. -/
theorem refused (l : List UInt8) (h : lowB l = false) : Hx.encode (Hx.decode l).1 ≠ l := by
  intro e
  have := lowB_encode (Hx.decode l).1
  rw [e, h] at this
  cases this

theorem prs_length : ∀ l : List UInt8, (prs l).length = l.length / 2
  | [] => rfl
  | [_] => by simp [prs]
  | p :: q :: t => by rw [prs, List.length_cons, prs_length t, List.length_cons, List.length_cons]; omega
theorem prs_at : ∀ (l : List UInt8) (k : Nat) (p q : UInt8), l[2 * k]? = some p → l[2 * k + 1]? = some q → (prs l)[k]? = some (UInt8.ofNat ((lb p).toNat * 16 + (lb q).toNat))
  | [], k, p, q, hp, _ => by simp at hp
  | [_], k, p, q, _, hq => by simp at hq
  | a :: b :: t, 0, p, q, hp, hq => by
    simp at hp hq
    subst hp; subst hq
    simp [prs]
  | a :: b :: t, k + 1, p, q, hp, hq => by
    rw [show 2 * (k + 1) = 2 * k + 1 + 1 by omega] at hp
    rw [show 2 * (k + 1) + 1 = 2 * k + 1 + 1 + 1 by omega] at hq
    rw [List.getElem?_cons_succ, List.getElem?_cons_succ] at hp hq
    rw [prs, List.getElem?_cons_succ]
    exact prs_at t k p q hp hq

/-- Cut at an even place. -/
theorem prs_split : ∀ (k : Nat) (l : List UInt8), 2 * k ≤ l.length → prs l = prs (l.take (2 * k)) ++ prs (l.drop (2 * k))
  | 0, l, _ => by simp [prs]
  | k + 1, [], h => by simp at h
  | k + 1, [_], h => by simp at h; omega
  | k + 1, a :: b :: t, h => by
    simp only [List.length_cons] at h
    rw [show 2 * (k + 1) = 2 * k + 1 + 1 by omega, List.take_succ_cons, List.take_succ_cons, List.drop_succ_cons, List.drop_succ_cons, prs, prs, prs_split k t (by omega), List.cons_append]
theorem lowB_split (k : Nat) (l : List UInt8) (h : 2 * k ≤ l.length) : lowB l = (lowB (l.take (2 * k)) && lowB (l.drop (2 * k))) := by
  have e : l.all (fun c => decide (0 ≤ lb c)) = ((l.take (2 * k)).all (fun c => decide (0 ≤ lb c)) && (l.drop (2 * k)).all (fun c => decide (0 ≤ lb c))) := by
    conv => lhs; rw [← List.take_append_drop (2 * k) l, List.all_append]
  unfold lowB
  rw [e, List.length_take, List.length_drop, Nat.min_eq_left h, show (2 * k) % 2 = 0 by omega, show (l.length - 2 * k) % 2 = l.length % 2 by omega]
  cases (l.length % 2 == 0) <;> simp

theorem lowB_at {l : List UInt8} (h : lowB l = true) (i : Nat) (c : UInt8) (hc : l[i]? = some c) : 0 ≤ lb c := by
  unfold lowB at h
  simp only [Bool.and_eq_true] at h
  have := List.all_eq_true.1 h.2 c (List.mem_of_getElem? hc)
  simpa using this
theorem lowB_even {l : List UInt8} (h : lowB l = true) : l.length % 2 = 0 := by
  unfold lowB at h
  simp only [Bool.and_eq_true, beq_iff_eq] at h
  exact h.1

/-- One digit changed. -/
theorem lowB_set {l : List UInt8} (h : lowB l = true) (j : Nat) (hj : j < l.length) (c : UInt8) : lowB (l.set j c) = decide (0 ≤ lb c) := by
  have he := lowB_even h
  rw [Bool.eq_iff_iff]
  constructor
  · intro h'
    exact decide_eq_true (lowB_at h' j c (by simp [hj]))
  · intro h'
    have hc : 0 ≤ lb c := by simpa using h'
    unfold lowB
    rw [List.length_set, he]
    simp only [beq_self_eq_true, Bool.true_and]
    rw [List.all_eq_true]
    intro x hx
    rcases List.mem_or_eq_of_mem_set hx with hm | hm
    · obtain ⟨i, hi⟩ := List.mem_iff_getElem?.1 hm
      exact decide_eq_true (lowB_at h i x hi)
    · subst hm
      exact decide_eq_true hc
end Go.Proofs.Qxb6608719aDoor.Pl

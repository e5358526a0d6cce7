/-
  THE WALKS of seat b6609083a: bookInOrder.
-/
import Derived.Test.Qxb6609083aMatch
namespace Go.Proofs.Qxb6609083a
open Go.RowKit

/-- Holder i's place. -/
def pl (n : Nat) (rev : Bool) (i : Nat) : Nat := if rev then n - 1 - i else i
theorem pl_lt {n : Nat} {rev : Bool} {i : Nat} (h : i < n) : pl n rev i < n := by unfold pl; split <;> omega
theorem pl_ne {n : Nat} {rev : Bool} {i j : Nat} (hi : i < n) (hj : j < n) (h : i ≠ j) : pl n rev i ≠ pl n rev j := by unfold pl; split <;> omega

theorem Lots.of_block {w w' : World} {b n k : Nat} {S : Nat → ByteArray} (h : Lots w b n k S) (e : w'.heap[b]? = w.heap[b]?) : Lots w' b n k S := by
  obtain ⟨f, hr, hf⟩ := h.ex
  exact ⟨f, hr.of_block e, hf⟩
theorem Lots.lt {w : World} {b n k : Nat} {S : Nat → ByteArray} (h : Lots w b n k S) : b < w.heap.size := by
  obtain ⟨f, hr, hf⟩ := h.ex
  exact hr.lt
theorem Idx.of_block {w w' : World} {b n : Nat} {F : ByteArray → Option Nat} (h : Idx w b n F) (e : w'.heap[b]? = w.heap[b]?) : Idx w' b n F := by
  obtain ⟨D, ⟨es, clock, hb, r⟩, hF⟩ := h
  exact ⟨D, ⟨es, clock, e.trans hb, r⟩, hF⟩
theorem Idx.lt {w : World} {b n : Nat} {F : ByteArray → Option Nat} (h : Idx w b n F) : b < w.heap.size := by
  obtain ⟨D, ho, _⟩ := h
  exact ho.lt

/-- The first k holders are laid in row hb. -/
def HalfRow (w : World) (hb mb n k : Nat) (rev : Bool) (N : Nat → Nat) (C : Nat → Nat → ByteArray) : Prop :=
  ∃ f, w.rowIs hb 41 (n * 2) f ∧ ∀ i, i < k → ∃ lb, f (pl n rev i * 2 + 1) = .slice (some ⟨lb, 0, none⟩) (N i) (N i) ∧ Lots w lb (N i) (N i) (C i) ∧ hb < lb ∧ mb < lb
/-- .. and in the map mb. -/
def HalfIdx (w : World) (mb n k : Nat) (rev : Bool) (S : Nat → ByteArray) : Prop :=
  ∃ F, Idx w mb k F ∧ (∀ i, i < k → F (S i) = some (pl n rev i)) ∧ ∀ s, (∀ i, i < k → S i ≠ s) → F s = none

theorem HalfRow.set {wr w3 : World} {hb mb n k lb q : Nat} {rev : Bool} {N : Nat → Nat} {C : Nat → Nat → ByteArray} (h : HalfRow wr hb mb n k rev N C) (hB : Below wr.heap.size wr w3)
    (hL : Lots w3 lb (N k) (N k) (C k)) (h1 : hb < lb) (h2 : mb < lb) (hk : k < n) (hq : q = pl n rev k) (v0 : Value) :
    HalfRow ((w3.setCell ⟨hb, q * 2, none⟩ v0).setCell ⟨hb, q * 2 + 1, none⟩ (.slice (some ⟨lb, 0, none⟩) (N k) (N k))) hb mb n (k + 1) rev N C := by
  obtain ⟨f, hr, hf⟩ := h
  have hr3 := hr.of_block (hB.block hb hr.lt)
  have mv : ∀ {x m : Nat} {T : Nat → ByteArray}, hb < x → Lots w3 x m m T → Lots ((w3.setCell ⟨hb, q * 2, none⟩ v0).setCell ⟨hb, q * 2 + 1, none⟩ (.slice (some ⟨lb, 0, none⟩) (N k) (N k))) x m m T := fun {x m T} hx hl =>
    hl.of_block ((Below.heap_setCell _ _ _ x (by simp; omega)).trans (Below.heap_setCell _ _ _ x (by simp; omega)))
  refine ⟨_, (hr3.set _ _).set _ _, fun i hi => ?_⟩
  by_cases e : i = k
  · subst e
    exact ⟨lb, by simp [hq], mv h1 hL, h1, h2⟩
  · obtain ⟨lb', e1, hl', a1, a2⟩ := hf i (by omega)
    have hne := pl_ne (rev := rev) (show i < n by omega) hk e
    rw [← hq] at hne
    have n1 : pl n rev i * 2 + 1 ≠ q * 2 + 1 := by omega
    have n2 : pl n rev i * 2 + 1 ≠ q * 2 := by omega
    exact ⟨lb', by simp only [n1, n2, if_false]; exact e1, mv a1 (hl'.of_block (hB.block lb' hl'.lt)), a1, a2⟩

theorem HalfRow.kept {w w' : World} {hb mb n k : Nat} {rev : Bool} {N : Nat → Nat} {C : Nat → Nat → ByteArray} (h : HalfRow w hb mb n k rev N C) (hne : hb ≠ mb) (hg : w.grownBy w' (some mb)) : HalfRow w' hb mb n k rev N C := by
  obtain ⟨f, hr, hf⟩ := h
  refine ⟨f, hr.of_block (hg.block hb hr.lt (fun e => by cases e; exact hne rfl)), fun i hi => ?_⟩
  obtain ⟨lb, e1, hl, a1, a2⟩ := hf i hi
  exact ⟨lb, e1, hl.of_block (hg.block lb hl.lt (fun e => by cases e; omega)), a1, a2⟩

theorem HalfIdx.of_block {w w' : World} {mb n k : Nat} {rev : Bool} {S : Nat → ByteArray} (h : HalfIdx w mb n k rev S) (e : w'.heap[mb]? = w.heap[mb]?) : HalfIdx w' mb n k rev S := by
  obtain ⟨F, hi, r⟩ := h
  exact ⟨F, hi.of_block e, r⟩

theorem HalfIdx.store {w : World} {mb n k q : Nat} {rev : Bool} {S : Nat → ByteArray} (h : HalfIdx w mb n k rev S) (hs : (S k).size ≤ maxLen) (hk : k < n) (hn : n ≤ 65536) (hd : ∀ i j, i < j → j < n → S i ≠ S j) (hq : q = pl n rev k) :
    ∃ w', (Instr.mapUpdate 39 (.map (some mb)) (.string (S k)) (.int .i64 q)).run Try.prog w = .ok () w' ∧ HalfIdx w' mb n (k + 1) rev S ∧ w.grownBy w' (some mb) := by
  obtain ⟨F, hi, h1, h2⟩ := h
  have hql := pl_lt (rev := rev) hk
  obtain ⟨w', hrun, hi', hg⟩ := hi.store (S k) q (by omega) hs (by unfold maxLen; omega)
  refine ⟨w', hrun, ⟨_, hi', fun i hik => ?_, fun s hns => ?_⟩, hg⟩
  · by_cases e : i = k
    · subst e; simp [hq]
    · have := hd i k (by omega) hk
      simp [this]
      exact h1 i (by omega)
  · have : s ≠ S k := fun e => hns k (by omega) e.symm
    simp [this]
    exact h2 s (fun i hi => hns i (by omega))

/-- A book over n holders. -/
structure IsBook (w : World) (p n : Nat) (S : Nat → ByteArray) (N : Nat → Nat) (C : Nat → Nat → ByteArray) : Prop where
  ex : ∃ hb mb F, w.cell? ⟨p, 3, none⟩ = some (.slice (some ⟨hb, 0, none⟩) n n) ∧ w.cell? ⟨p, 5, none⟩ = some (.map (some mb)) ∧ Idx w mb n F ∧ (∀ s, (∀ i, i < n → S i ≠ s) → F s = none) ∧
    ∀ i, i < n → ∃ q lb, q < n ∧ F (S i) = some q ∧ w.cell? ⟨hb, q * 2 + 1, none⟩ = some (.slice (some ⟨lb, 0, none⟩) (N i) (N i)) ∧ Lots w lb (N i) (N i) (C i)

theorem IsBook.later {w w' : World} {p n S N C} (h : IsBook w p n S N C) (hB : Below w.heap.size w w') : IsBook w' p n S N C := by
  obtain ⟨hb, mb, F, c1, c2, hi, hF, hr⟩ := h.ex
  refine ⟨hb, mb, F, cell_later hB c1, cell_later hB c2, hi.of_block (hB.block mb hi.lt), hF, fun i hin => ?_⟩
  obtain ⟨q, lb, a, b, c, d⟩ := hr i hin
  exact ⟨q, lb, a, b, cell_later hB c, d.later hB⟩

theorem isBook_of {w : World} {hb mb n : Nat} {rev : Bool} {S : Nat → ByteArray} {N : Nat → Nat} {C : Nat → Nat → ByteArray} (h : HalfRow w hb mb n n rev N C) (hx : HalfIdx w mb n n rev S) :
    IsBook (w.alloc (bookObj (some ⟨hb, 0, none⟩) n n mb)) w.heap.size n S N C := by
  obtain ⟨f, hr, hf⟩ := h
  obtain ⟨F, hi, h1, h2⟩ := hx
  have R := World.rowIs_alloc w #[.string ByteArray.empty, .slice none 0 0, .pointer none, .slice (some ⟨hb, 0, none⟩) n n, .int .i64 0, .map (some mb), .slice none 0 0, .pointer none, .pointer none, .map none, .slice none 0 0] 59
    (fun i => (#[.string ByteArray.empty, .slice none 0 0, .pointer none, .slice (some ⟨hb, 0, none⟩) n n, .int .i64 0, .map (some mb), .slice none 0 0, .pointer none, .pointer none, .map none, .slice none 0 0] : Array Value).getD i undef) (fun i hi => by rw [Array.getElem?_eq_getElem hi, Array.getD_eq_getD_getElem?, Array.getElem?_eq_getElem hi]; rfl)
  refine ⟨hb, mb, F, R.cell (i := 3) (by simp), R.cell (i := 5) (by simp), hi.of_block (Below.heap_alloc _ _ _ hi.lt), h2, fun i hin => ?_⟩
  obtain ⟨lb, e1, hl, _, _⟩ := hf i hin
  have hql := pl_lt (rev := rev) hin
  have hc := (hr.alloc (bookObj (some ⟨hb, 0, none⟩) n n mb)).cell (i := pl n rev i * 2 + 1) (by omega)
  rw [e1] at hc
  exact ⟨pl n rev i, lb, hql, h1 i hin, hc, hl.of_block (Below.heap_alloc _ _ _ hl.lt)⟩

set_option maxHeartbeats 4000000 in
set_option maxRecDepth 100000 in
theorem book_false (ai ac : Option Addr) (n cap cap2 : Nat) (S : Nat → ByteArray) (A : Nat → Option Addr) (N K : Nat → Nat) (C : Nat → Nat → ByteArray) (hn : n ≤ 65536) (hN : Hid (∀ i, i < n → N i ≤ 65536)) (w : World)
    (hi : Hid (Strs w ai n S)) (hl : Hid (Lists w ac n A N K C)) (hd : Hid (∀ i j, i < j → j < n → S i ≠ S j)) :
    Calls Try.prog 9 #[.slice ai n cap, .slice ac n cap2, .bool false] w fun e w' => (∃ p, e = .returned (.pointer (some ⟨p, 0, none⟩)) ∧ Hid (IsBook w' p n S N C)) ∧ Hid (Below w.heap.size w w') := by
  have hmk : ∀ w : World, (Instr.makeSlice 38 (.int .i64 (n : Int)) (.int .i64 (n : Int))).run Try.prog w = .ok (.slice (some ⟨w.heap.size, 0, none⟩) n n) (w.alloc (.cells (madeCells #[.string ByteArray.empty, .slice none 0 0] (n * 2)) 41)) :=
    fun w => run_make_pair 38 41 _ _ 40 Try.underlying38 info41 n (by omega) (by omega) w
  have hmm : ∀ w : World, (Instr.makeMap 39 (some (.int .i64 (n : Int)))).run Try.prog w = .ok (.map (some w.heap.size)) (w.alloc (.map #[] 0)) := fun w => run_make Try.underlying39 _ w
  obtain ⟨w1, hw1⟩ : ∃ w1, w1 = ((w.alloc (.cells (madeCells #[.string ByteArray.empty, .slice none 0 0] (n * 2)) 41)).alloc (.map #[] 0)) := ⟨_, rfl⟩
  have H0 : Hid (HalfRow w1 w.heap.size (w.heap.size + 1) n 0 false N C) := by
    rw [hw1]
    exact ⟨_, (rowIs_pair w _ _ n 41).alloc _, fun i hi => by omega⟩
  have I0 : Hid (HalfIdx w1 (w.heap.size + 1) n 0 false S) := by
    rw [hw1]
    refine ⟨_, ?_, fun i hi => by omega, fun _ _ => rfl⟩
    have := Idx.made (w.alloc (.cells (madeCells #[.string ByteArray.empty, .slice none 0 0] (n * 2)) 41))
    rwa [World.size_alloc] at this
  have B0 : Hid (Below w.heap.size w w1) := by
    rw [hw1]
    exact ((Below.refl _ _).alloc (Nat.le_refl _) _).alloc (by rw [World.size_alloc]; omega) _
  go_enter Try.func9, Try.ntmps9
  go_wp2
  rw [← hw1]
  clear hw1
  go_loopw [10, 11] (fun i _ wr => ∃ k : Nat, i = .int .i64 k ∧ k ≤ n ∧ Hid (Below w.heap.size w wr) ∧ Hid (HalfRow wr w.heap.size (w.heap.size + 1) n k false N C) ∧ Hid (HalfIdx wr (w.heap.size + 1) n k false S)) (fun i _ _ => n - (intOf i).toNat)
  case atStart => exact ⟨0, rfl, Nat.zero_le _, B0, H0, I0⟩
  case round =>
    obtain ⟨k, rfl, hk, hb, hh, hx⟩ := hrel
    by_cases hlt : k < n
    · have hlI : (k : Int) < (n : Int) := by omega
      have HQ : Hid (k = pl n false k) := rfl
      have hsz := hi.out.size k hlt
      obtain ⟨bi, oi, rfl, hci⟩ := hi.out.get k hlt
      obtain ⟨bc, oc, rfl, hcc⟩ := hl.out.get k hlt
      have nbi : bi ≠ w.heap.size := Nat.ne_of_lt (block_lt_of_cell hci)
      have nbc : bc ≠ w.heap.size := Nat.ne_of_lt (block_lt_of_cell hcc)
      have nbi' : w.heap.size ≠ bi := fun e => nbi e.symm
      have nbc' : w.heap.size ≠ bc := fun e => nbc e.symm
      replace hci := cell_later hb.out hci
      replace hcc := cell_later hb.out hcc
      have hrowk : Hid (Strs wr (A k) (N k) (C k)) := (hl.out.later hb.out).row k hlt
      obtain ⟨f, hrow, _⟩ := hh.out
      have c1 := hrow.cell (i := k * 2) (by omega)
      have c2 := hrow.cell (i := k * 2 + 1) (by omega)
      have f1 := hrow.frozen (k * 2)
      have f2 := hrow.frozen (k * 2 + 1)
      have hlt1 : w.heap.size < wr.heap.size := hrow.lt
      have hltm : w.heap.size + 1 < wr.heap.size := by obtain ⟨_, h, _⟩ := hx.out; exact h.lt
      clear hrow
      go_wp2
      go_region_held3 (fun w' => w'.cell? ⟨bi, oi + k, none⟩ = some (.string (S k)) ∧ w'.cell? ⟨bc, oc + k, none⟩ = some (.slice (A k) (N k) (K k))) (go_keep)
        (first
          | (go_at_call 16
             refine (lots_any (A k) (N k) (K k) (C k) (hN.out k hlt) _ (hrowk.out.later (Below.refl _ _).drew)).mono ?_
             rintro e w2 ⟨rfl, hl2, hb2⟩
             have k1 := cell_later hb2.out hci
             have k2 := cell_later hb2.out hcc
             have k3 := cell_later hb2.out c1
             have k4 := cell_later hb2.out c2
             have k5 := (hb2.out.frozen (p := ⟨w.heap.size, k * 2, none⟩) hlt1).trans f1
             have k6 := (hb2.out.frozen (p := ⟨w.heap.size, k * 2 + 1, none⟩) hlt1).trans f2)
          | (go_at_call 15
             refine (newHolder_any _ _ _ _ _).mono ?_
             rintro e w3 ⟨rfl, hw3⟩
             have hb3 : Hid (Below w2.heap.size w2 w3) := by rw [hw3]; exact (Below.refl _ _).alloc (Nat.le_refl _) _
             have hlt2 : w.heap.size < w2.heap.size := Nat.lt_of_lt_of_le hlt1 hb2.out.size
             clear hw3
             have j1 := cell_later hb3.out k1
             have j2 := cell_later hb3.out k2
             have j3 := cell_later hb3.out k3
             have j4 := cell_later hb3.out k4
             have j5 := (hb3.out.frozen (p := ⟨w.heap.size, k * 2, none⟩) hlt2).trans k5
             have j6 := (hb3.out.frozen (p := ⟨w.heap.size, k * 2 + 1, none⟩) hlt2).trans k6))
      have hbX : Below wr.heap.size wr w2 := (below_drewN (Below.refl _ _) 1).trans hb2.out
      have hbY : Below wr.heap.size wr w3 := hbX.trans (hb3.out.mono hbX.size)
      have HR : Hid (HalfRow ((w3.setCell ⟨w.heap.size, k * 2, none⟩ (.string (S k))).setCell ⟨w.heap.size, k * 2 + 1, none⟩ (.slice (some ⟨wr.heap.size, 0, none⟩) (N k) (N k))) w.heap.size (w.heap.size + 1) n (k + 1) false N C) :=
        hh.out.set hbY (hl2.out.later hb3.out) hlt1 hltm hlt HQ.out _
      have HB : Hid (Below w.heap.size w ((w3.setCell ⟨w.heap.size, k * 2, none⟩ (.string (S k))).setCell ⟨w.heap.size, k * 2 + 1, none⟩ (.slice (some ⟨wr.heap.size, 0, none⟩) (N k) (N k)))) :=
        ((hb.out.trans (hbY.mono hb.out.size)).setCell (Nat.le_refl _) _).setCell (Nat.le_refl _) _
      have HX : Hid (HalfIdx ((w3.setCell ⟨w.heap.size, k * 2, none⟩ (.string (S k))).setCell ⟨w.heap.size, k * 2 + 1, none⟩ (.slice (some ⟨wr.heap.size, 0, none⟩) (N k) (N k))) (w.heap.size + 1) n k false S) :=
        hx.out.of_block ((Below.heap_setCell _ _ _ _ (by simp)).trans ((Below.heap_setCell _ _ _ _ (by simp)).trans (hbY.block _ hltm)))
      generalize ((w3.setCell ⟨w.heap.size, k * 2, none⟩ (.string (S k))).setCell ⟨w.heap.size, k * 2 + 1, none⟩ (.slice (some ⟨wr.heap.size, 0, none⟩) (N k) (N k))) = w4 at *
      obtain ⟨w5, hrun, hx5, hg5⟩ := HX.out.store hsz hlt hn hd.out HQ.out
      have HR5 : Hid (HalfRow w5 w.heap.size (w.heap.size + 1) n (k + 1) false N C) := HR.out.kept (by omega) hg5
      have HX5 : Hid (HalfIdx w5 (w.heap.size + 1) n (k + 1) false S) := hx5
      have HB5 : Hid (Below w.heap.size w w5) := HB.out.grown hg5 HB.out.size (fun k e => by cases e; omega)
      have hcell4 : w4.cell? ⟨bi, oi + k, none⟩ = some (.string (S k)) := by rename_i hHeld; exact hHeld.1
      clear k1 k2 k3 k4 k5 k6 j1 j2 j3 j4 j5 j6 c1 c2 f1 f2 hci hcc hbX hbY HR HB HX hx5 hg5
      go_wp2
      go_roundw
      case rel => exact ⟨k + 1, by go_num, by omega, HB5, HR5, HX5⟩
      case measure => simp [intOf]; omega
    · have e : k = n := by omega
      subst e
      go_wp2_with fail
      refine (newBook_any _ _ _ _ _).mono ?_
      rintro e w2 ⟨rfl, hw2⟩
      have HBk : Hid (IsBook w2 wr.heap.size k S N C) := by rw [hw2]; exact isBook_of hh.out hx.out
      have HB2 : Hid (Below w.heap.size w w2) := by rw [hw2]; exact hb.out.alloc hb.out.size _
      clear hw2
      go_wp2
      go_ret
      exact ⟨⟨_, rfl, HBk⟩, HB2⟩

set_option maxHeartbeats 4000000 in
set_option maxRecDepth 100000 in
theorem book_true (ai ac : Option Addr) (n cap cap2 : Nat) (S : Nat → ByteArray) (A : Nat → Option Addr) (N K : Nat → Nat) (C : Nat → Nat → ByteArray) (hn : n ≤ 65536) (hN : Hid (∀ i, i < n → N i ≤ 65536)) (w : World)
    (hi : Hid (Strs w ai n S)) (hl : Hid (Lists w ac n A N K C)) (hd : Hid (∀ i j, i < j → j < n → S i ≠ S j)) :
    Calls Try.prog 9 #[.slice ai n cap, .slice ac n cap2, .bool true] w fun e w' => (∃ p, e = .returned (.pointer (some ⟨p, 0, none⟩)) ∧ Hid (IsBook w' p n S N C)) ∧ Hid (Below w.heap.size w w') := by
  have hmk : ∀ w : World, (Instr.makeSlice 38 (.int .i64 (n : Int)) (.int .i64 (n : Int))).run Try.prog w = .ok (.slice (some ⟨w.heap.size, 0, none⟩) n n) (w.alloc (.cells (madeCells #[.string ByteArray.empty, .slice none 0 0] (n * 2)) 41)) :=
    fun w => run_make_pair 38 41 _ _ 40 Try.underlying38 info41 n (by omega) (by omega) w
  have hmm : ∀ w : World, (Instr.makeMap 39 (some (.int .i64 (n : Int)))).run Try.prog w = .ok (.map (some w.heap.size)) (w.alloc (.map #[] 0)) := fun w => run_make Try.underlying39 _ w
  obtain ⟨w1, hw1⟩ : ∃ w1, w1 = ((w.alloc (.cells (madeCells #[.string ByteArray.empty, .slice none 0 0] (n * 2)) 41)).alloc (.map #[] 0)) := ⟨_, rfl⟩
  have H0 : Hid (HalfRow w1 w.heap.size (w.heap.size + 1) n 0 true N C) := by
    rw [hw1]
    exact ⟨_, (rowIs_pair w _ _ n 41).alloc _, fun i hi => by omega⟩
  have I0 : Hid (HalfIdx w1 (w.heap.size + 1) n 0 true S) := by
    rw [hw1]
    refine ⟨_, ?_, fun i hi => by omega, fun _ _ => rfl⟩
    have := Idx.made (w.alloc (.cells (madeCells #[.string ByteArray.empty, .slice none 0 0] (n * 2)) 41))
    rwa [World.size_alloc] at this
  have B0 : Hid (Below w.heap.size w w1) := by
    rw [hw1]
    exact ((Below.refl _ _).alloc (Nat.le_refl _) _).alloc (by rw [World.size_alloc]; omega) _
  go_enter Try.func9, Try.ntmps9
  go_wp2
  rw [← hw1]
  clear hw1
  go_loopw [10, 11] (fun i _ wr => ∃ k : Nat, i = .int .i64 k ∧ k ≤ n ∧ Hid (Below w.heap.size w wr) ∧ Hid (HalfRow wr w.heap.size (w.heap.size + 1) n k true N C) ∧ Hid (HalfIdx wr (w.heap.size + 1) n k true S)) (fun i _ _ => n - (intOf i).toNat)
  case atStart => exact ⟨0, rfl, Nat.zero_le _, B0, H0, I0⟩
  case round =>
    obtain ⟨k, rfl, hk, hb, hh, hx⟩ := hrel
    by_cases hlt : k < n
    · have hlI : (k : Int) < (n : Int) := by omega
      obtain ⟨q, hq⟩ : ∃ q, q = pl n true k := ⟨_, rfl⟩
      have hq' : q = n - 1 - k := by rw [hq]; rfl
      have hql : q < n := by omega
      have hqi : (n : Int) - 1 - (k : Int) = (q : Int) := by omega
      have HQ : Hid (q = pl n true k) := hq
      clear hq hq'
      have hsz := hi.out.size k hlt
      obtain ⟨bi, oi, rfl, hci⟩ := hi.out.get k hlt
      obtain ⟨bc, oc, rfl, hcc⟩ := hl.out.get k hlt
      have nbi : bi ≠ w.heap.size := Nat.ne_of_lt (block_lt_of_cell hci)
      have nbc : bc ≠ w.heap.size := Nat.ne_of_lt (block_lt_of_cell hcc)
      have nbi' : w.heap.size ≠ bi := fun e => nbi e.symm
      have nbc' : w.heap.size ≠ bc := fun e => nbc e.symm
      replace hci := cell_later hb.out hci
      replace hcc := cell_later hb.out hcc
      have hrowk : Hid (Strs wr (A k) (N k) (C k)) := (hl.out.later hb.out).row k hlt
      obtain ⟨f, hrow, _⟩ := hh.out
      have c1 := hrow.cell (i := q * 2) (by omega)
      have c2 := hrow.cell (i := q * 2 + 1) (by omega)
      have f1 := hrow.frozen (q * 2)
      have f2 := hrow.frozen (q * 2 + 1)
      have hlt1 : w.heap.size < wr.heap.size := hrow.lt
      have hltm : w.heap.size + 1 < wr.heap.size := by obtain ⟨_, h, _⟩ := hx.out; exact h.lt
      clear hrow
      go_wp2
      go_region_held3 (fun w' => w'.cell? ⟨bi, oi + k, none⟩ = some (.string (S k)) ∧ w'.cell? ⟨bc, oc + k, none⟩ = some (.slice (A k) (N k) (K k))) (go_keep)
        (first
          | (go_at_call 16
             refine (lots_any (A k) (N k) (K k) (C k) (hN.out k hlt) _ (hrowk.out.later (Below.refl _ _).drew)).mono ?_
             rintro e w2 ⟨rfl, hl2, hb2⟩
             have k1 := cell_later hb2.out hci
             have k2 := cell_later hb2.out hcc
             have k3 := cell_later hb2.out c1
             have k4 := cell_later hb2.out c2
             have k5 := (hb2.out.frozen (p := ⟨w.heap.size, q * 2, none⟩) hlt1).trans f1
             have k6 := (hb2.out.frozen (p := ⟨w.heap.size, q * 2 + 1, none⟩) hlt1).trans f2)
          | (go_at_call 15
             refine (newHolder_any _ _ _ _ _).mono ?_
             rintro e w3 ⟨rfl, hw3⟩
             have hb3 : Hid (Below w2.heap.size w2 w3) := by rw [hw3]; exact (Below.refl _ _).alloc (Nat.le_refl _) _
             have hlt2 : w.heap.size < w2.heap.size := Nat.lt_of_lt_of_le hlt1 hb2.out.size
             clear hw3
             have j1 := cell_later hb3.out k1
             have j2 := cell_later hb3.out k2
             have j3 := cell_later hb3.out k3
             have j4 := cell_later hb3.out k4
             have j5 := (hb3.out.frozen (p := ⟨w.heap.size, q * 2, none⟩) hlt2).trans k5
             have j6 := (hb3.out.frozen (p := ⟨w.heap.size, q * 2 + 1, none⟩) hlt2).trans k6))
      have hbX : Below wr.heap.size wr w2 := (below_drewN (Below.refl _ _) 1).trans hb2.out
      have hbY : Below wr.heap.size wr w3 := hbX.trans (hb3.out.mono hbX.size)
      have HR : Hid (HalfRow ((w3.setCell ⟨w.heap.size, q * 2, none⟩ (.string (S k))).setCell ⟨w.heap.size, q * 2 + 1, none⟩ (.slice (some ⟨wr.heap.size, 0, none⟩) (N k) (N k))) w.heap.size (w.heap.size + 1) n (k + 1) true N C) :=
        hh.out.set hbY (hl2.out.later hb3.out) hlt1 hltm hlt HQ.out _
      have HB : Hid (Below w.heap.size w ((w3.setCell ⟨w.heap.size, q * 2, none⟩ (.string (S k))).setCell ⟨w.heap.size, q * 2 + 1, none⟩ (.slice (some ⟨wr.heap.size, 0, none⟩) (N k) (N k)))) :=
        ((hb.out.trans (hbY.mono hb.out.size)).setCell (Nat.le_refl _) _).setCell (Nat.le_refl _) _
      have HX : Hid (HalfIdx ((w3.setCell ⟨w.heap.size, q * 2, none⟩ (.string (S k))).setCell ⟨w.heap.size, q * 2 + 1, none⟩ (.slice (some ⟨wr.heap.size, 0, none⟩) (N k) (N k))) (w.heap.size + 1) n k true S) :=
        hx.out.of_block ((Below.heap_setCell _ _ _ _ (by simp)).trans ((Below.heap_setCell _ _ _ _ (by simp)).trans (hbY.block _ hltm)))
      generalize ((w3.setCell ⟨w.heap.size, q * 2, none⟩ (.string (S k))).setCell ⟨w.heap.size, q * 2 + 1, none⟩ (.slice (some ⟨wr.heap.size, 0, none⟩) (N k) (N k))) = w4 at *
      obtain ⟨w5, hrun, hx5, hg5⟩ := HX.out.store hsz hlt hn hd.out HQ.out
      have HR5 : Hid (HalfRow w5 w.heap.size (w.heap.size + 1) n (k + 1) true N C) := HR.out.kept (by omega) hg5
      have HX5 : Hid (HalfIdx w5 (w.heap.size + 1) n (k + 1) true S) := hx5
      have HB5 : Hid (Below w.heap.size w w5) := HB.out.grown hg5 HB.out.size (fun k e => by cases e; omega)
      have hcell4 : w4.cell? ⟨bi, oi + k, none⟩ = some (.string (S k)) := by rename_i hHeld; exact hHeld.1
      clear k1 k2 k3 k4 k5 k6 j1 j2 j3 j4 j5 j6 c1 c2 f1 f2 hci hcc hbX hbY HR HB HX hx5 hg5
      go_wp2
      go_roundw
      case rel => exact ⟨k + 1, by go_num, by omega, HB5, HR5, HX5⟩
      case measure => simp [intOf]; omega
    · have e : k = n := by omega
      subst e
      go_wp2_with fail
      refine (newBook_any _ _ _ _ _).mono ?_
      rintro e w2 ⟨rfl, hw2⟩
      have HBk : Hid (IsBook w2 wr.heap.size k S N C) := by rw [hw2]; exact isBook_of hh.out hx.out
      have HB2 : Hid (Below w.heap.size w w2) := by rw [hw2]; exact hb.out.alloc hb.out.size _
      clear hw2
      go_wp2
      go_ret
      exact ⟨⟨_, rfl, HBk⟩, HB2⟩
end Go.Proofs.Qxb6609083a

/-
  THE WALKS of seat b6609083a: classLotsOf.
-/
import Derived.Test.Qxb6609083aBuild
namespace Go.Proofs.Qxb6609083a
open Go.RowKit

theorem info48 : (Try.prog.info? 48).map (fun i => (i.zero, i.size, i.bytes)) = some (some (.agg #[.string ByteArray.empty, .slice none 0 0]), 2, 40) := by kernel_rfl
theorem info41 : (Try.prog.info? 41).map (fun i => (i.zero, i.size, i.bytes)) = some (some (.agg #[.string ByteArray.empty, .slice none 0 0]), 2, 40) := by kernel_rfl

/-- make of n structs of two cells. -/
theorem run_make_pair (t e : TypeId) (z0 z1 : Value) (bytes : Nat) (ht : Try.prog.underlying t = some (.slice e)) (hinfo : (Try.prog.info? e).map (fun i => (i.zero, i.size, i.bytes)) = some (some (.agg #[z0, z1]), 2, bytes))
    (n : Nat) (hbytes : bytes * n ≤ 281474976710656) (h63 : n ≤ 9223372036854775807) (w : World) :
    (Instr.makeSlice t (.int .i64 (n : Int)) (.int .i64 (n : Int))).run Try.prog w = .ok (.slice (some ⟨w.heap.size, 0, none⟩) n n) (w.alloc (.cells (madeCells #[z0, z1] (n * 2)) e)) := by
  obtain ⟨i, hi, hzz⟩ := Option.map_eq_some_iff.1 hinfo
  simp only [Prod.mk.injEq] at hzz
  obtain ⟨hz, hs, hb⟩ := hzz
  have hb' : (i.bytes : Int) * (n : Int) ≤ 281474976710656 := by
    have h : ((i.bytes * n : Nat) : Int) ≤ 281474976710656 := by rw [hb]; omega
    rwa [Int.natCast_mul] at h
  have hr := Go.run_make (P := Try.prog) w t e i _ ht hi hz .i64 .i64 n n (by omega) (Int.le_refl _) hb' (by omega)
  simp only [Int.toNat_natCast, hs] at hr
  exact hr
theorem rowIs_pair (w : World) (z0 z1 : Value) (n : Nat) (t : TypeId) : (w.alloc (.cells (madeCells #[z0, z1] (n * 2)) t)).rowIs w.heap.size t (n * 2) (fun i => if i % 2 = 0 then z0 else z1) := by
  have h := World.rowIs_alloc w (madeCells #[z0, z1] (n * 2)) t (fun i => if i % 2 = 0 then z0 else z1) (fun i hi => by
    rw [size_madeCells] at hi
    simp [madeCells, hi]
    rcases Nat.mod_two_eq_zero_or_one i with h | h <;> simp [h])
  rwa [size_madeCells] at h

/-- Row b holds n classes, the first k of the names S. -/
structure Lots (w : World) (b n k : Nat) (S : Nat → ByteArray) : Prop where
  ex : ∃ f, w.rowIs b 48 (n * 2) f ∧ ∀ j, j < k → f (j * 2) = .string (S j) ∧ ∃ c, f (j * 2 + 1) = .slice (some ⟨c, 0, none⟩) 1 1

theorem Lots.later {w w' : World} {b n k S} (h : Lots w b n k S) (hb : Below w.heap.size w w') : Lots w' b n k S := by
  obtain ⟨f, hr, hf⟩ := h.ex
  exact ⟨f, hr.of_block (hb.block b hr.lt), hf⟩

theorem Lots.set {w : World} {b n k : Nat} {S : Nat → ByteArray} (h : Lots w b n k S) (c : Nat) :
    Lots ((w.setCell ⟨b, k * 2, none⟩ (.string (S k))).setCell ⟨b, k * 2 + 1, none⟩ (.slice (some ⟨c, 0, none⟩) 1 1)) b n (k + 1) S := by
  obtain ⟨f, hr, hf⟩ := h.ex
  refine ⟨_, (hr.set _ _).set _ _, fun j hj => ?_⟩
  by_cases e : j = k
  · subst e
    exact ⟨by simp, c, by simp⟩
  · obtain ⟨h1, c', h2⟩ := hf j (by omega)
    have n1 : j * 2 ≠ k * 2 + 1 := by omega
    have n2 : j * 2 ≠ k * 2 := by omega
    have n3 : j * 2 + 1 ≠ k * 2 + 1 := by omega
    have n4 : j * 2 + 1 ≠ k * 2 := by omega
    exact ⟨by simp only [n1, n2, if_false]; exact h1, c', by simp only [n3, n4, if_false]; exact h2⟩

set_option maxHeartbeats 1000000 in
theorem lots_any (a : Option Addr) (n cap : Nat) (S : Nat → ByteArray) (hn : n ≤ 65536) (w : World) (h : Hid (Strs w a n S)) :
    Calls Try.prog 16 #[.slice a n cap] w fun e w' => e = .returned (.slice (some ⟨w.heap.size, 0, none⟩) n n) ∧ Hid (Lots w' w.heap.size n n S) ∧ Hid (Below w.heap.size w w') := by
  have hmk : ∀ w : World, (Instr.makeSlice 33 (.int .i64 (n : Int)) (.int .i64 (n : Int))).run Try.prog w = .ok (.slice (some ⟨w.heap.size, 0, none⟩) n n) (w.alloc (.cells (madeCells #[.string ByteArray.empty, .slice none 0 0] (n * 2)) 48)) :=
    fun w => run_make_pair 33 48 _ _ 40 Try.underlying33 info48 n (by omega) (by omega) w
  have R0 : Hid (Lots (w.alloc (.cells (madeCells #[.string ByteArray.empty, .slice none 0 0] (n * 2)) 48)) w.heap.size n 0 S) := ⟨_, rowIs_pair w _ _ n 48, fun j hj => by omega⟩
  have B0 : Hid (Below w.heap.size w (w.alloc (.cells (madeCells #[.string ByteArray.empty, .slice none 0 0] (n * 2)) 48))) := (Below.refl _ _).alloc (Nat.le_refl _) _
  go_enter Try.func16, Try.ntmps16
  go_wp2
  go_loopw [4] (fun i wr => ∃ k : Nat, i = .int .i64 k ∧ k ≤ n ∧ Hid (Below w.heap.size w wr) ∧ Hid (Lots wr w.heap.size n k S)) (fun i _ => n - (intOf i).toNat)
  case atStart => exact ⟨0, rfl, Nat.zero_le _, B0, R0⟩
  case round =>
    obtain ⟨k, rfl, hk, hb, hr⟩ := hrel
    by_cases hlt : k < n
    · have hst := h.out.later hb.out
      obtain ⟨b, off, rfl, hc⟩ := hst.get k hlt
      clear hst
      go_wp2_with fail
      refine (newClass_any _ _).mono ?_
      rintro e w2 ⟨⟨c, rfl⟩, hb2⟩
      obtain ⟨f, hrow, hf⟩ := (hr.out.later hb2.out).ex
      have c1 := hrow.cell (i := k * 2) (by omega)
      have c2 := hrow.cell (i := k * 2 + 1) (by omega)
      have f1 := hrow.frozen (k * 2)
      have f2 := hrow.frozen (k * 2 + 1)
      have hb3 : Hid (Below w.heap.size w w2) := hb.out.trans (hb2.out.mono hb.out.size)
      have hl2 : Hid (Lots w2 w.heap.size n k S) := hr.out.later hb2.out
      clear hf hrow hr hb2 hb
      go_wp2
      go_roundw
      case rel => exact ⟨k + 1, by go_num, by omega, (hb3.out.setCell (Nat.le_refl _) _).setCell (Nat.le_refl _) _, hl2.out.set c⟩
      case measure => simp [intOf]; omega
    · have e : k = n := by omega
      subst e
      go_wp2
      go_ret
      exact ⟨rfl, hr, hb⟩
end Go.Proofs.Qxb6609083a

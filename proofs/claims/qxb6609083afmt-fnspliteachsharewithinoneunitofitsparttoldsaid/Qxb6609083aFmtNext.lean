/-
  THE WALKS of seat b6609083aF: ZZnewSplit, next.
-/
import Derived.Test.Qxb6609083aFmtMulDiv
import Derived.Deep.OwnRows
namespace Go.Proofs.Qxb6609083aFmt
open Go.RowKit Pl

/-- A split in memory: its five fields. -/
def sp (r b c t g : Int) : Nat → Value
  | 0 => .int .i64 r
  | 1 => .int .i64 b
  | 2 => .int .i64 c
  | 3 => .int .i64 t
  | _ => .int .i64 g
theorem sp_set3 (r b c t g t' : Int) (j : Nat) (hj : j < 5) : (if j = 3 then Value.int .i64 t' else sp r b c t g j) = sp r b c t' g j := by
  rcases (show j = 0 ∨ j = 1 ∨ j = 2 ∨ j = 3 ∨ j = 4 by omega) with rfl | rfl | rfl | rfl | rfl <;> rfl
theorem sp_set4 (r b c t g g' : Int) (j : Nat) (hj : j < 5) : (if j = 4 then Value.int .i64 g' else sp r b c t g j) = sp r b c t g' j := by
  rcases (show j = 0 ∨ j = 1 ∨ j = 2 ∨ j = 3 ∨ j = 4 by omega) with rfl | rfl | rfl | rfl | rfl <;> rfl
theorem sp_new (w : World) (r b c : Int) : (w.alloc (.cells #[.int .i64 r, .int .i64 b, .int .i64 c, .int .i64 0, .int .i64 0] 36)).rowIs w.heap.size 36 5 (sp r b c 0 0) := by
  refine World.rowIs_alloc w _ 36 _ (fun i hi => ?_)
  have hi' : i < 5 := hi
  rcases (show i = 0 ∨ i = 1 ∨ i = 2 ∨ i = 3 ∨ i = 4 by omega) with rfl | rfl | rfl | rfl | rfl <;> rfl

set_option maxHeartbeats 400000 in
theorem new_any (r b c : Int) (w : World) :
    Calls Tryf.prog 7 #[.int .i64 r, .int .i64 b, .int .i64 c] w fun e w' => e = .returned (.pointer (some ⟨w.heap.size, 0, none⟩)) ∧ w' = w.alloc (.cells #[.int .i64 r, .int .i64 b, .int .i64 c, .int .i64 0, .int .i64 0] 36) := by
  go_enter Tryf.func7, Tryf.ntmps7
  go_wp2
  go_ret
  exact ⟨rfl, rfl⟩

theorem row_drewN {w : World} {b : Nat} {t : TypeId} {n : Nat} {f : Nat → Value} (h : w.rowIs b t n f) (k : Nat) : (w.drewN k).rowIs b t n f := h.of_block rfl

set_option maxHeartbeats 2000000 in
set_option maxRecDepth 100000 in
theorem next_any (r : Int) (b c t g p F bs : Nat) (hr : r = 1 ∨ r = 2 ∨ r = 3) (ht : t + p < 9223372036854775808) (hb : b < 9223372036854775808) (hc0 : 0 < c) (hc : c < 9223372036854775808) (hfit : Hid ((t + p) * b / c < 9223372036854775807)) (HF : Hid (F = fig r ((t + p) * b) c))
    (hF : F < 9223372036854775808) (hg : g ≤ F) (w : World) (hw : Hid (w.rowIs bs 36 5 (sp r b c t g))) :
    Calls Tryf.prog 14 #[.pointer (some ⟨bs, 0, none⟩), .int .i64 p] w fun e w' => e = .returned (.int .i64 ((F : Int) - (g : Int))) ∧ w'.rowIs bs 36 5 (sp r b c (t + p : Nat) F) ∧ (∀ B w0, B ≤ bs → Below B w0 w → Below B w0 w') := by
  have c0 : w.cell? ⟨bs, 0, none⟩ = some (.int .i64 r) := hw.out.cell (by omega)
  have c1 : w.cell? ⟨bs, 1, none⟩ = some (.int .i64 b) := hw.out.cell (by omega)
  have c2 : w.cell? ⟨bs, 2, none⟩ = some (.int .i64 c) := hw.out.cell (by omega)
  have c3 : w.cell? ⟨bs, 3, none⟩ = some (.int .i64 t) := hw.out.cell (by omega)
  have c4 : w.cell? ⟨bs, 4, none⟩ = some (.int .i64 g) := hw.out.cell (by omega)
  have f3 : w.frozen? ⟨bs, 3, none⟩ = false := hw.out.frozen _
  have f4 : w.frozen? ⟨bs, 4, none⟩ = false := hw.out.frozen _
  have hti : (t : Int) + (p : Int) ≤ 9223372036854775807 := by omega
  have hFi : (F : Int) ≤ 9223372036854775807 := by omega
  have hgi : (g : Int) ≤ (F : Int) := by omega
  have C : Hid (∀ W, Calls Tryf.prog 16 #[.int .i64 r, .int .i64 ((t : Int) + (p : Int)), .int .i64 b, .int .i64 c] W fun e w' => e = .returned (.tuple #[.int .i64 F, .bool true]) ∧ ∃ n, w' = W.drewN n) := fun W => by
    have h := muldiv_yes r (t + p) b c hr ht hb hc0 hc hfit W
    rw [← HF.out, Int.natCast_add] at h
    exact h
  go_enter Tryf.func14, Tryf.ntmps14
  go_wp2
  go_quiet ((go_at_call 16; exact Calls.quiet_of (C.out _)))
  go_wp2
  go_ret
  refine ⟨rfl, ?_, fun B w0 hB hb => ?_⟩
  · rw [Int.natCast_add]
    have r1 := (hw.out.set 3 (.int .i64 ((t : Int) + (p : Int)))).congr (sp_set3 r b c t g ((t : Int) + (p : Int)))
    exact (((row_drewN r1 nq).set 4 _).congr (sp_set4 r b c ((t : Int) + (p : Int)) g F))
  · exact (below_drewN (hb.setCell hB _) nq).setCell hB _

set_option maxHeartbeats 400000 in
theorem zznext (r : Int) (b c t g p F bs : Nat) (hr : r = 1 ∨ r = 2 ∨ r = 3) (ht : t + p < 9223372036854775808) (hb : b < 9223372036854775808) (hc0 : 0 < c) (hc : c < 9223372036854775808) (hfit : Hid ((t + p) * b / c < 9223372036854775807)) (HF : Hid (F = fig r ((t + p) * b) c))
    (hF : F < 9223372036854775808) (hg : g ≤ F) (w : World) (hw : Hid (w.rowIs bs 36 5 (sp r b c t g))) :
    Calls Tryf.prog 8 #[.pointer (some ⟨bs, 0, none⟩), .int .i64 p] w fun e w' => e = .returned (.int .i64 ((F : Int) - (g : Int))) ∧ w'.rowIs bs 36 5 (sp r b c (t + p : Nat) F) ∧ (∀ B w0, B ≤ bs → Below B w0 w → Below B w0 w') := by
  go_enter Tryf.func8, Tryf.ntmps8
  go_wp2_with fail
  refine (next_any r b c t g p F bs hr ht hb hc0 hc hfit HF hF hg _ hw).mono ?_
  rintro e w' ⟨rfl, h1, h2⟩
  have H1 : Hid _ := h1
  have H2 : Hid _ := h2
  clear h1 h2
  go_wp2
  go_ret
  exact ⟨rfl, H1.out, H2.out⟩
end Go.Proofs.Qxb6609083aFmt

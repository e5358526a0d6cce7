/-
  THE WALKS of seat b6609083a: ZZnewClassLots, ZZnewHolderLots, ZZnewBook, ZZclassOf, classLotsOf.
-/
import Derived.Test.Qxb6609083aPremise
namespace Go.Proofs.Qxb6609083a
open Go.RowKit

set_option maxHeartbeats 1000000 in
theorem newClass_any (s : ByteArray) (w : World) :
    Calls Try.prog 21 #[.string s, .int .i32 0, .int .i64 1] w fun e w' => (∃ b, e = .returned (.agg #[.string s, .slice (some ⟨b, 0, none⟩) 1 1])) ∧ Hid (Below w.heap.size w w') := by
  go_enter Try.func21, Try.ntmps21
  go_wp2
  refine bodyPost_ret (v := .agg #[.string s, .slice (some ⟨w.heap.size + 1, 0, none⟩) 1 1]) (by simp [results, Try.results21, go_sem]) rfl ⟨⟨_, rfl⟩, ?_⟩
  exact (((Below.refl _ _).alloc (Nat.le_refl _) _).alloc (by rw [World.size_alloc]; omega) _)
set_option maxHeartbeats 1000000 in
theorem newHolder_any (s : ByteArray) (a : Option Addr) (n c : Nat) (w : World) :
    Calls Try.prog 15 #[.string s, .slice a n c] w fun e w' => e = .returned (.agg #[.string s, .slice a n c]) ∧ w' = w.alloc (.cells #[.string s, .slice a n c] 41) := by
  go_enter Try.func15, Try.ntmps15
  go_wp2
  exact bodyPost_ret (v := .agg #[.string s, .slice a n c]) (by simp [results, Try.results15, go_sem]) rfl ⟨rfl, rfl⟩

/-- A book's cells. -/
def bookObj (a : Option Addr) (n c b : Nat) : Obj := .cells #[.string ByteArray.empty, .slice none 0 0, .pointer none, .slice a n c, .int .i64 0, .map (some b), .slice none 0 0, .pointer none, .pointer none, .map none, .slice none 0 0] 59
set_option maxHeartbeats 1000000 in
theorem newBook_any (a : Option Addr) (n c b : Nat) (w : World) :
    Calls Try.prog 17 #[.slice a n c, .int .i64 0, .map (some b)] w fun e w' => e = .returned (.pointer (some ⟨w.heap.size, 0, none⟩)) ∧ w' = w.alloc (bookObj a n c b) := by
  go_enter Try.func17, Try.ntmps17
  go_wp2
  go_ret
  exact ⟨rfl, rfl⟩
set_option maxHeartbeats 1000000 in
theorem classOf_any (s : ByteArray) (b : Nat) (w : World) :
    Calls Try.prog 18 #[.agg #[.string s, .slice (some ⟨b, 0, none⟩) 1 1]] w fun e w' => e = .returned (.string s) ∧ w' = w.alloc (.cells #[.string s, .slice (some ⟨b, 0, none⟩) 1 1] 48) := by
  go_enter Try.func18, Try.ntmps18
  go_wp2
  go_ret
  exact ⟨rfl, rfl⟩
end Go.Proofs.Qxb6609083a

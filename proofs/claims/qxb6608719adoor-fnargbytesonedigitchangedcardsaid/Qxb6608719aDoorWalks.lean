/-
  THE WALKS of seat b6608719aD, the leaves first.
-/
import Derived.Test.Qxb6608719aDoorRows
import Derived.Test.Qxb6608719aDoorShelf
import Derived.Test.Qxb6608719aDoorPlain
import Derived.WalkKit
import Derived.WalkSpells
import Derived.WalkLawsBesides
import Derived.Deep.QuietTactic
import Derived.BigQuiet
namespace Go.Proofs.Qxb6608719aDoor
open Go.RowKit Pl

theorem ret_int {k : IntKind} {a b : Int} (h : a = b) : Ending.returned (.int k a) = .returned (.int k b) := by rw [h]

set_option maxHeartbeats 400000 in
/-- lowerHexVal. -/
theorem lhv_any (c : Int) (h0 : 0 ≤ c) (h1 : c < 256) (w : World) :
    Calls Tryd.prog 24 #[.int .u8 c] w fun e w' => e = .returned (.int .i64 (lhv c)) ∧ w' = w := by
  go_enter Tryd.func24, Tryd.ntmps24
  go_wp2
  all_goals
    go_ret
    refine ⟨ret_int ?_, rfl⟩
    unfold lhv
    split <;> (try split) <;> omega

theorem take_snoc (s : ByteArray) (k : Nat) (h : k < s.size) : s.data.toList.take (k + 1) = s.data.toList.take k ++ [s[k]] := by
  rw [List.take_succ_eq_append_getElem (by simpa using h)]; rfl
def okAll (l : List UInt8) : Bool := l.all fun c => decide (0 ≤ lb c)
theorem okAll_take_succ (s : ByteArray) (k : Nat) (h : k < s.size) : okAll (s.data.toList.take (k + 1)) = (okAll (s.data.toList.take k) && decide (0 ≤ lhv (s[k].toNat : Int))) := by
  rw [take_snoc s k h]; unfold okAll; rw [List.all_append]; simp only [List.all_cons, List.all_nil, Bool.and_true]; rfl
theorem lowB_false_of (s : ByteArray) (k : Nat) (h : k < s.size) (hv : lhv (s[k].toNat : Int) < 0) : lowB s.data.toList = false := by
  rw [Bool.eq_false_iff]
  intro h'
  have := lowB_at h' k s[k] (by rw [List.getElem?_eq_getElem (by simpa using h)]; rfl)
  unfold lb at this
  omega
theorem size_len (s : ByteArray) : s.data.toList.length = s.size := (Lib.size_eq s).symm

set_option maxHeartbeats 400000 in
/-- isLowerHexEven. -/
theorem low_any (s : ByteArray) (hs : s.size ≤ 1048576) (w : World) :
    Calls Tryd.prog 23 #[.string s] w fun e w' => e = .returned (.bool (lowB s.data.toList)) ∧ w' = w := by
  by_cases hev : s.size % 2 = 0
  · have hev' : (((s.size : Int) % 2) != 0) = false := by simp; omega
    have hev'' : Hid (s.size % 2 = 0) := hev
    clear hev
    go_enter Tryd.func23, Tryd.ntmps23
    go_wp2
    go_loop [3] (fun i => ∃ k : Nat, k ≤ s.size ∧ i = .int .i64 k ∧ Hid (okAll (s.data.toList.take k) = true)) (fun i => s.size - (intOf i).toNat)
    case atStart => exact ⟨0, Nat.zero_le _, rfl, rfl⟩
    case round =>
      obtain ⟨k, hk, rfl, hok⟩ := hrel
      by_cases hlt : k < s.size
      · have HS : Hid (okAll (s.data.toList.take (k + 1)) = (okAll (s.data.toList.take k) && decide (0 ≤ lhv (s[k].toNat : Int)))) := okAll_take_succ s k hlt
        have hb : s[k].toNat < 256 := s[k].toNat_lt
        go_wp2_with (go_at_call 24; refine (lhv_any _ (by omega) (by omega) _).mono ?_; rintro e w' ⟨rfl, rfl⟩)
        · have hv : lhv (s[k].toNat : Int) < 0 := by assumption
          go_ret
          exact ⟨by rw [lowB_false_of s k hlt hv]; rfl, rfl⟩
        · have hv : 0 ≤ lhv (s[k].toNat : Int) := by assumption
          go_round
          case rel => exact ⟨k + 1, by omega, by go_num, by unfold Hid; rw [HS.out, hok.out]; simpa using hv⟩
          case measure => simp [intOf]; omega
      · go_wp2
        go_ret
        refine ⟨?_, rfl⟩
        have hk' : k = s.size := by omega
        have h2 := hok.out
        rw [List.take_of_length_le (by rw [size_len]; omega)] at h2
        have h3 : lowB s.data.toList = true := by unfold lowB; unfold okAll at h2; rw [h2, size_len, hev''.out]; rfl
        rw [h3]; rfl
  · have hev' : (((s.size : Int) % 2) != 0) = true := by simp; omega
    have hf : lowB s.data.toList = false := by unfold lowB; rw [size_len]; have : (s.size % 2 == 0) = false := by simpa using hev
                                               rw [this]; rfl
    have HF : Hid (lowB s.data.toList = false) := hf
    clear hf hev
    go_enter Tryd.func23, Tryd.ntmps23
    go_wp2
    go_ret
    exact ⟨by rw [HF.out]; rfl, rfl⟩

theorem bytes_back (s : ByteArray) : (⟨s.data.toList.toArray⟩ : ByteArray) = s := by cases s; simp

theorem addr_add (b j : Nat) : (⟨b, 0, none⟩ : Addr).add j = ⟨b, 0 + j, none⟩ := by
  unfold Addr.add; split
  · next h => subst h; rfl
  · rfl
open Go.Lib in
/-- The decoded cells, as bytes. -/
theorem rowP_cells {w1 : World} {b n : Nat} {D : List UInt8} (hr : w1.rowIs b 5 n (Hx.rowP (fun _ => .int .u8 0) 0 D)) (hn : D.length ≤ n) (i : Nat) (hi : i < D.length) : w1.cell? ⟨b, 0 + i, none⟩ = some (.int .u8 ((D[i]'hi).toNat : Int)) := by
  rw [Nat.zero_add, hr.cell (by omega)]
  unfold Hx.rowP
  rw [if_pos (by omega), Nat.sub_zero, List.getElem?_eq_getElem hi]
  rfl
open Go.Lib in
/-- DecodeString, ends well. -/
theorem dec_ok (s : ByteArray) (D : List UInt8) (hd : Hx.decode s.data.toList = (D, .ok)) (hs : s.size ≤ 1048576) (w : World) (ev : Value) (hE : w.cell? ⟨7, 0, none⟩ = some ev) :
    Calls Tryd.prog 37 #[.string s] w fun e w' => e = .returned (.tuple #[.slice (some ⟨w.heap.size, 0, none⟩) D.length (s.size / 2), .nilIface]) ∧
      (∀ i (h : i < D.length), w'.cell? ⟨w.heap.size, 0 + i, none⟩ = some (.int .u8 ((D[i]'h).toNat : Int))) ∧ w.heap.size < w'.heap.size ∧ Below w.heap.size w w' := by
  have hl := Hx.decode_len s.data.toList
  rw [hd, size_len] at hl
  have c1 := Tryd.hex_DecodeString s w ev hE (by omega)
  rw [hd] at c1
  refine c1.mono ?_
  rintro e w1 ⟨rfl, hrow, hbel⟩
  exact ⟨rfl, fun i hi => rowP_cells hrow hl i hi, hrow.lt, hbel⟩
open Go.Lib in
/-- DecodeString, ends ill: the error is not nil. -/
theorem dec_ill (s : ByteArray) (hd : (Hx.decode s.data.toList).2 ≠ .ok) (hs : s.size ≤ 1048576) (w : World) (t : TypeId) (x : Value) (hE : w.cell? ⟨7, 0, none⟩ = some (.iface t x)) :
    Calls Tryd.prog 37 #[.string s] w fun e w' => ∃ n cp t' x', e = .returned (.tuple #[.slice (some ⟨w.heap.size, 0, none⟩) n cp, .iface t' x']) ∧ Below w.heap.size w w' := by
  refine (Tryd.hex_DecodeString s w _ hE (by omega)).mono ?_
  rintro e w1 ⟨rfl, hrow, hbel⟩
  cases ho : (Hx.decode s.data.toList).2 with
  | ok => exact absurd ho hd
  | bad c => exact ⟨_, _, _, _, rfl, hbel⟩
  | odd => exact ⟨_, _, _, _, rfl, hbel⟩
open Go.Lib in
/-- EncodeToString behind it. -/
theorem enc_at (D : List UInt8) (b cp : Nat) (w : World) (hD : D.length ≤ 1048576) (hc : ∀ i (h : i < D.length), w.cell? ⟨b, 0 + i, none⟩ = some (.int .u8 ((D[i]'h).toNat : Int))) (hb : b < w.heap.size) :
    Calls Tryd.prog 38 #[.slice (some ⟨b, 0, none⟩) D.length cp] w fun e w' => e = .returned (.string ⟨(Hx.encode D).toArray⟩) ∧ Below w.heap.size w w' :=
  Tryd.hex_EncodeToString_bytes b 0 cp D w hc hb (by omega)

set_option maxHeartbeats 1000000 in
open Go.Lib in
/-- argBytes, the decoding ends well, the encoding back is the text t, the same. -/
theorem arg_ok (s t : ByteArray) (D : List UInt8) (hd : Hid (Hx.decode s.data.toList = (D, .ok))) (ht : Hid ((⟨(Hx.encode D).toArray⟩ : ByteArray) = t)) (hq : (t.toList == s.toList) = true) (hs : s.size ≤ 1048576) (w : World) (ev : Value) (hE : w.cell? ⟨7, 0, none⟩ = some ev) :
    Calls Tryd.prog 30 #[.string s] w fun e w' => e = .returned (.tuple #[.string ⟨D.toArray⟩, .bool true]) ∧ Below w.heap.size w w' := by
  have hD : D.length ≤ 1048576 := by
    have hl := Hx.decode_len s.data.toList
    rw [hd.out, size_len] at hl
    have : D.length ≤ s.size / 2 := hl
    omega
  go_enter Tryd.func30, Tryd.ntmps30
  go_wp2_with fail
  refine (dec_ok s D hd.out hs _ ev hE).mono ?_
  rintro e w1 ⟨rfl, hcell, hlt, hbel⟩
  have HC : Hid _ := hcell
  have HB : Hid _ := hbel
  clear hcell hbel
  go_wp2_with fail
  refine (enc_at D _ _ _ hD HC.out hlt).mono ?_
  rw [ht.out]
  rintro e w2 ⟨rfl, hbel2⟩
  have hcv := run_convert_bytes_back (P := Tryd.prog) w2 31 9 5 ⟨w.heap.size, 0, none⟩ (s.size / 2) D Tryd.underlying31 Tryd.underlying5 Tryd.underlying9 (fun j hj => by rw [addr_add]; exact (hbel2.cell (p := ⟨w.heap.size, 0 + j, none⟩) hlt).trans (HC.out j hj))
  have HB2 : Hid _ := hbel2
  clear hbel2
  go_wp2
  go_ret2
  exact ⟨rfl, HB.out.trans (HB2.out.mono (by omega))⟩
set_option maxHeartbeats 1000000 in
open Go.Lib in
/-- argBytes, the decoding ends well, the encoding back is the text t, another. -/
theorem arg_other (s t : ByteArray) (D : List UInt8) (hd : Hid (Hx.decode s.data.toList = (D, .ok))) (ht : Hid ((⟨(Hx.encode D).toArray⟩ : ByteArray) = t)) (hq : (t.toList == s.toList) = false) (hs : s.size ≤ 1048576) (w : World) (ev : Value) (hE : w.cell? ⟨7, 0, none⟩ = some ev) :
    Calls Tryd.prog 30 #[.string s] w fun e w' => e = .returned (.tuple #[.string ⟨#[]⟩, .bool false]) ∧ Below w.heap.size w w' := by
  have hD : D.length ≤ 1048576 := by
    have hl := Hx.decode_len s.data.toList
    rw [hd.out, size_len] at hl
    have : D.length ≤ s.size / 2 := hl
    omega
  go_enter Tryd.func30, Tryd.ntmps30
  go_wp2_with fail
  refine (dec_ok s D hd.out hs _ ev hE).mono ?_
  rintro e w1 ⟨rfl, hcell, hlt, hbel⟩
  have HC : Hid _ := hcell
  have HB : Hid _ := hbel
  clear hcell hbel
  go_wp2_with fail
  refine (enc_at D _ _ _ hD HC.out hlt).mono ?_
  rw [ht.out]
  rintro e w2 ⟨rfl, hbel2⟩
  have HB2 : Hid _ := hbel2
  clear hbel2
  go_wp2
  go_ret2
  exact ⟨rfl, HB.out.trans (HB2.out.mono (by omega))⟩
set_option maxHeartbeats 1000000 in
open Go.Lib in
/-- argBytes, the decoding ends ill. -/
theorem arg_ill (s : ByteArray) (hd : (Hx.decode s.data.toList).2 ≠ .ok) (hs : s.size ≤ 1048576) (w : World) (t : TypeId) (x : Value) (hE : w.cell? ⟨7, 0, none⟩ = some (.iface t x)) :
    Calls Tryd.prog 30 #[.string s] w fun e w' => e = .returned (.tuple #[.string ⟨#[]⟩, .bool false]) ∧ Below w.heap.size w w' := by
  go_enter Tryd.func30, Tryd.ntmps30
  go_wp2_with fail
  refine (dec_ill s hd hs _ t x hE).mono ?_
  rintro e w1 ⟨n, cp, t', x', rfl, hbel⟩
  have HB : Hid _ := hbel
  clear hbel
  go_wp2
  go_ret2
  exact ⟨rfl, HB.out⟩

/-- What argBytes answers. -/
def ab (s : ByteArray) : ByteArray := if lowB s.data.toList = true then ⟨(prs s.data.toList).toArray⟩ else ⟨#[]⟩
theorem toList_ne {a b : ByteArray} (h : a ≠ b) : (a.toList == b.toList) = false := by
  rw [Lib.toList_data, Lib.toList_data, beq_eq_false_iff_ne]
  intro e
  apply h
  cases a; cases b
  simp at e
  rw [e]
open Go.Lib in
/-- ████ argBytes, EVERY TEXT ████ -/
theorem arg_any (s : ByteArray) (hs : s.size ≤ 1048576) (w : World) (t : TypeId) (x : Value) (hE : w.cell? ⟨7, 0, none⟩ = some (.iface t x)) :
    Calls Tryd.prog 30 #[.string s] w fun e w' => e = .returned (.tuple #[.string (ab s), .bool (lowB s.data.toList)]) ∧ Below w.heap.size w w' := by
  cases hl : lowB s.data.toList with
  | true =>
    unfold ab
    rw [if_pos hl]
    refine arg_ok s s (prs s.data.toList) (decode_low _ hl) ?_ (by simp) hs w _ hE
    unfold Hid
    rw [encode_prs _ hl, bytes_back]
  | false =>
    unfold ab
    rw [if_neg (by rw [hl]; simp)]
    by_cases ho : (Hx.decode s.data.toList).2 = .ok
    · refine arg_other s _ (Hx.decode s.data.toList).1 (show Hx.decode s.data.toList = _ from Prod.ext rfl ho) (show _ = _ from rfl) (toList_ne ?_) hs w _ hE
      intro e
      apply refused _ hl
      have := congrArg (fun b : ByteArray => b.data.toList) e
      simpa using this
    · exact arg_ill s ho hs w t x hE
set_option maxHeartbeats 400000 in
/-- ZZargBytes hands on. -/
theorem zz_any (s : ByteArray) (hs : s.size ≤ 1048576) (w : World) (t : TypeId) (x : Value) (hE : w.cell? ⟨7, 0, none⟩ = some (.iface t x)) :
    Calls Tryd.prog 21 #[.string s] w fun e w' => e = .returned (.tuple #[.string (ab s), .bool (lowB s.data.toList)]) ∧ Below w.heap.size w w' := by
  go_enter Tryd.func21, Tryd.ntmps21
  go_wp2_with fail
  refine (arg_any s hs _ t x hE).mono ?_
  rintro e w1 ⟨rfl, hb⟩
  go_wp2
  go_ret2
  exact ⟨rfl, hb⟩
end Go.Proofs.Qxb6608719aDoor

/-
  'Rows.FnArgBytesOneDigitChangedCardSaid', PROVED: the plain law, every input, the row, then the tied card.
-/
import Derived.Test.Qxb6608719aDoorTie
import Derived.Test.Qxb6608719aDoorCards
import Derived.Test.Qxb6608719aDoorLaid
import Derived.Test.Qxb6608719aDoorDigitWalk
namespace Go.Proofs.Qxb6608719aDoor
open Go.ChangeShapes Go.WideShapes Go.ChangeAt Go.RowKit Pl
open Go.ChangeMaps (open_string shut_string)

/-- A byte of the spelt ones, by its two digits. -/
theorem byte_of (l : List UInt8) (hl : lowB l = true) (i : Nat) (p q : UInt8) (hp : l[2 * i]? = some p) (hq : l[2 * i + 1]? = some q) (h : i < (⟨(prs l).toArray⟩ : ByteArray).size) :
    (((⟨(prs l).toArray⟩ : ByteArray)[i]'h).toNat : Int) = lb p * 16 + lb q := by
  have hat := prs_at l i p q hp hq
  have lp : 0 ≤ lb p := lowB_at hl _ _ hp
  have lq : 0 ≤ lb q := lowB_at hl _ _ hq
  have rp := lb_range p
  have rq := lb_range q
  obtain ⟨h', e⟩ := List.getElem?_eq_some_iff.1 hat
  have e2 : ((⟨(prs l).toArray⟩ : ByteArray)[i]'h) = (prs l)[i] := rfl
  rw [e2, e, UInt8.toNat_ofNat', Nat.mod_eq_of_lt (by omega)]
  omega

theorem shows_of (l : List UInt8) (j : Nat) (c : UInt8) (hl : lowB l = true) (hj : j < l.length) (hc : 0 ≤ lb c) : Shows j (lb c) ⟨(prs l).toArray⟩ ⟨(prs (l.set j c)).toArray⟩ := by
  have hev := lowB_even hl
  have hl2 : lowB (l.set j c) = true := by rw [lowB_set hl j hj c]; exact decide_eq_true hc
  have hs1 : (⟨(prs l).toArray⟩ : ByteArray).size = l.length / 2 := by show (prs l).toArray.size = _; rw [List.size_toArray, prs_length]
  have hs2 : (⟨(prs (l.set j c)).toArray⟩ : ByteArray).size = l.length / 2 := by show (prs (l.set j c)).toArray.size = _; rw [List.size_toArray, prs_length, List.length_set]
  have rc := lb_range c
  have look : ∀ i, i < l.length → ∃ p, l[i]? = some p ∧ (l.set j c)[i]? = some (if i = j then c else p) ∧ 0 ≤ lb p ∧ lb p ≤ 15 := fun i hi => by
    refine ⟨l[i], List.getElem?_eq_getElem hi, ?_, lowB_at hl i _ (List.getElem?_eq_getElem hi), (lb_range _).2⟩
    rw [List.getElem?_set]
    by_cases h : i = j
    · subst h; simp [hi]
    · rw [if_neg (fun e => h e.symm), if_neg h, List.getElem?_eq_getElem hi]
  refine ⟨by rw [hs1, hs2], ?_, ?_, ?_⟩
  · intro i h h2 hne
    rw [hs1] at h
    obtain ⟨p, a1, a2, a3, a4⟩ := look (2 * i) (by omega)
    obtain ⟨q, b1, b2, b3, b4⟩ := look (2 * i + 1) (by omega)
    rw [if_neg (by omega)] at a2 b2
    rw [byte_of l hl i p q a1 b1, byte_of _ hl2 i p q a2 b2]
  · intro i h h2 he hp
    rw [hs1] at h
    obtain ⟨p, a1, a2, a3, a4⟩ := look (2 * i) (by omega)
    obtain ⟨q, b1, b2, b3, b4⟩ := look (2 * i + 1) (by omega)
    rw [if_pos (by omega)] at a2
    rw [if_neg (by omega)] at b2
    rw [byte_of l hl i p q a1 b1, byte_of _ hl2 i c q a2 b2]
    omega
  · intro i h h2 he hp
    rw [hs1] at h
    obtain ⟨p, a1, a2, a3, a4⟩ := look (2 * i) (by omega)
    obtain ⟨q, b1, b2, b3, b4⟩ := look (2 * i + 1) (by omega)
    rw [if_neg (by omega)] at a2
    rw [if_pos (by omega)] at b2
    rw [byte_of l hl i p q a1 b1, byte_of _ hl2 i p c a2 b2]
    omega

set_option maxHeartbeats 400000 in
theorem digit_big (s : ByteArray) (j c : Int) (hs : 1048576 < s.size) (w : World) :
    Calls Tryd.prog 6 #[.string s, .int .i64 j, .int .u8 c] w fun e w' => e = .returned (.bool true) ∧ Below w.heap.size w w' := by
  go_enter Tryd.func6, Tryd.ntmps6
  go_wp2_with fail
  refine (zz22_no s _ _ hs _).mono ?_
  rintro e w0 ⟨rfl, rfl⟩
  go_wp2
  go_ret
  exact ⟨rfl, Below.refl _ _⟩
set_option maxHeartbeats 400000 in
theorem digit_not (s : ByteArray) (j c : Int) (hs : s.size ≤ 1048576) (hl : Hid (lowB s.data.toList = false)) (w : World) :
    Calls Tryd.prog 6 #[.string s, .int .i64 j, .int .u8 c] w fun e w' => e = .returned (.bool true) ∧ Below w.heap.size w w' := by
  have hs1 : (s.size : Int) ≤ 1048576 := by omega
  go_enter Tryd.func6, Tryd.ntmps6
  go_wp2_with fail
  refine (zz22_yes s _ _ hs _).mono ?_
  rintro e w0 ⟨rfl, rfl⟩
  go_wp2_with fail
  refine (low_any s hs _).mono ?_
  rw [hl.out]
  rintro e w1 ⟨rfl, rfl⟩
  go_wp2
  go_ret
  exact ⟨rfl, Below.refl _ _⟩
set_option maxHeartbeats 400000 in
theorem digit_off (s : ByteArray) (j c : Int) (hs : s.size ≤ 1048576) (hl : Hid (lowB s.data.toList = true)) (hj : j < 0 ∨ (s.size : Int) ≤ j) (w : World) :
    Calls Tryd.prog 6 #[.string s, .int .i64 j, .int .u8 c] w fun e w' => e = .returned (.bool true) ∧ Below w.heap.size w w' := by
  have hs1 : (s.size : Int) ≤ 1048576 := by omega
  rcases hj with hj | hj
  · go_enter Tryd.func6, Tryd.ntmps6
    go_wp2_with fail
    refine (zz22_yes s _ _ hs _).mono ?_
    rintro e w0 ⟨rfl, rfl⟩
    go_wp2_with fail
    refine (low_any s hs _).mono ?_
    rw [hl.out]
    rintro e w1 ⟨rfl, rfl⟩
    go_wp2
    go_ret
    exact ⟨rfl, Below.refl _ _⟩
  · have hj0 : 0 ≤ j := by omega
    go_enter Tryd.func6, Tryd.ntmps6
    go_wp2_with fail
    refine (zz22_yes s _ _ hs _).mono ?_
    rintro e w0 ⟨rfl, rfl⟩
    go_wp2_with fail
    refine (low_any s hs _).mono ?_
    rw [hl.out]
    rintro e w1 ⟨rfl, rfl⟩
    go_wp2
    go_ret
    exact ⟨rfl, Below.refl _ _⟩

/-- ████ FnArgBytesOneDigitChanged: true, at every input ████ -/
theorem digit_any (s : ByteArray) (j c : Int) (hc0 : 0 ≤ c) (hc1 : c ≤ 255) (w : World) (t : TypeId) (x : Value) (hE : w.cell? ⟨7, 0, none⟩ = some (.iface t x)) :
    Calls Tryd.prog 6 #[.string s, .int .i64 j, .int .u8 c] w fun e w' => e = .returned (.bool true) ∧ Below w.heap.size w w' := by
  by_cases hs : s.size ≤ 1048576
  · cases hl : lowB s.data.toList with
    | false => exact digit_not s j c hs hl w
    | true =>
      by_cases hj : j < 0 ∨ (s.size : Int) ≤ j
      · exact digit_off s j c hs hl hj w
      · obtain ⟨m, rfl⟩ : ∃ m : Nat, j = (m : Int) := ⟨j.toNat, by omega⟩
        obtain ⟨b, rfl⟩ : ∃ b : UInt8, c = (b.toNat : Int) := ⟨UInt8.ofNat c.toNat, by rw [UInt8.toNat_ofNat', Nat.mod_eq_of_lt (by omega)]; omega⟩
        have hm : m < s.data.toList.length := by rw [size_len]; omega
        have e0 : ab s = ⟨(prs s.data.toList).toArray⟩ := by unfold ab; rw [if_pos hl]
        have hr : (ab s).size = s.size / 2 := by rw [e0]; show (prs s.data.toList).toArray.size = _; rw [List.size_toArray, prs_length, size_len]
        refine digit_core s m b hs (by omega) hl _ _ _ rfl rfl rfl hr (by rw [hr]; simp) ?_ w t x hE
        have hset := lowB_set hl m hm b
        by_cases hb : 0 ≤ lb b
        · rw [decide_eq_true hb] at hset
          refine Or.inr ⟨hb, hset, ?_⟩
          have e2 : ab ⟨(s.data.toList.set m b).toArray⟩ = ⟨(prs (s.data.toList.set m b)).toArray⟩ := by unfold ab; rw [if_pos hset]
          rw [e0, e2]
          exact shows_of _ m b hl hm hb
        · rw [decide_eq_false hb] at hset
          refine Or.inl ⟨by unfold lb at hb; omega, hset, ?_⟩
          unfold ab
          rw [if_neg (by rw [show (⟨(s.data.toList.set m b).toArray⟩ : ByteArray).data.toList = s.data.toList.set m b from rfl, hset]; simp)]
  · exact digit_big s j c (by omega) w

set_option maxRecDepth 100000 in
theorem digit_lifted (os : Os) (started : os.Started) (H : Type) (enc : TypeId × Value → H) :
    ReturnsInHanded {} Tryd.checked os 6 .any (fun w args => (Rows.fnArgBytesOneDigitChangedSpec.pre enc Tryd.prog Tryd.f6 [] false w args ∧ laidMetH Tryd.prog laidOne w) ∧ sizedMet enc Tryd.prog Tryd.f6 (OpenSpec.ofChange Rows.fnArgBytesOneDigitChangedSpec) false w args)
      (Rows.fnArgBytesOneDigitChangedSpec.post enc Tryd.prog Tryd.f6 false true false false) := by
  refine returnsInHanded_of_change_and (C := Tryd.checked) (X := fun w _ => laidMetH Tryd.prog laidOne w) (fun _ _ _ hh h => h.of_heap hh) own started (by kernel_rfl) Tryd.func6
    (ChangeSpec.witness_shaped (enc := enc) (C := Tryd.checked) (os := os) (X := fun w _ => laidMetH Tryd.prog laidOne w) false (World.laidAll Tryd.prog os laidOne) #[.string ByteArray.empty, .int .i64 0, .int .u8 0] 8 (World.laidAll_os _ _ _)
      (World.shaped_of_ZipB (by kernel_rfl) (by kernel_rfl)) (by kernel_rfl) (by kernel_rfl) (by kernel_rfl)
      (by rw [MakeChecks.laidMetH_plain _ _ _ (by kernel_rfl)]; exact laidMet_laidAll _ (by kernel_rfl) (by kernel_rfl))) ?_
  intro W base args ds gs before hval0 hW _ _ hL _
  have hval : ∀ (j : Nat) t v, Tryd.f6.params[j]? = some t → args[j]? = some v → Value.okWide Tryd.prog W .any base t v := hval0
  have hW' := hW
  obtain ⟨p, q, hA0, hV, rfl, _, _⟩ := hW
  have hA : DataW.TrodAll enc Tryd.prog W 0 (fun _ => true) true Tryd.f6.params.toList args.toList ds p := hA0
  rw [Tryd.params6] at hA hval
  obtain ⟨v0, v1, v2, d0, d1, d2, p0, p1, p2, rfl, rfl, rfl, h0, h1, h2⟩ := trodAll_three hA
  obtain ⟨rfl, rfl⟩ := trodVars_none hV
  obtain ⟨s, rfl, rfl, rfl, hs⟩ := open_string Tryd.underlying9 (hval 0 9 v0 rfl rfl) h0
  obtain ⟨j, rfl, rfl, rfl, wj⟩ := open_int Tryd.underlying3 (hval 1 3 v1 rfl rfl) h1
  obtain ⟨c, rfl, rfl, rfl, wc⟩ := open_int Tryd.underlying5 (hval 2 5 v2 rfl rfl) h2
  have hc : 0 ≤ c ∧ c ≤ 255 := by simpa [Lit.wf, IntKind.min, IntKind.max, IntKind.signed, IntKind.bits] using wc
  obtain ⟨t, x, hE⟩ := of_laid hL
  simp only [List.append_nil] at hW'
  refine (digit_any s j c hc.1 hc.2 W t x hE).mono fun e W' ⟨he, hb⟩ => ?_
  subst he
  exact ⟨_, rfl, _, _, _, [], [], [], hW', trodAll_mk1 (shut_bool Tryd.underlying4 _), trodAll_mk3 (shut_string Tryd.underlying9 hs) (shut_int Tryd.underlying3 wj) (shut_int Tryd.underlying5 wc), rfl, hb.frame _, fun h => by cases h⟩

theorem digit_row : Rows.FnArgBytesOneDigitChangedSaid :=
  OpenClaim.holds_of_wide 6 Tryd.f6 rfl rfl rfl rfl rfl rfl rfl ⟨rfl, rfl, rfl, rfl, rfl⟩ rfl rfl rfl rfl rfl (by kernel_rfl) Tryd.func6 (by kernel_rfl)
    (of_decide_eq_true (by kernel_rfl)) (by unfold Func.isWrapper; first | (rw [if_pos (by decide +kernel)]; kernel_rfl) | (rw [if_neg (by decide +kernel)]; exact ⟨rfl, rfl⟩))
    (fun os started H enc _ => digit_lifted os started H enc)

/-- ████ THE STATEMENT: THE TIED CARD ████ -/
theorem digit_card : Rows.FnArgBytesOneDigitChangedCardSaid :=
  Claim7.holds_tied_plain_at .later [] [.called] true (true, "3e2b74622382160f342384e4e665ff96fd208786a2cdf46ff9ea3d069f380d31") true digit_row (fun _ h => by cases h) (by kernel_rfl) (fun _ h => by cases h) fnArgBytesOneDigitChanged_row_tie rfl ⟨rfl, rfl⟩ (by kernel_rfl) rfl
    (fun f fn hf hfn => by
      obtain rfl : f = 6 := Option.some.inj ((show Tryd.prog.funcNamed "example.com/antlion/antlion/zzlaws_internal_artifact_b1.FnArgBytesOneDigitChanged" = some 6 by kernel_rfl).symm.trans hf) |>.symm
      obtain rfl : fn = Tryd.f6 := (Option.some.inj (Tryd.func6.symm.trans hfn)).symm
      exact ⟨by kernel_rfl, fun j t ht => by
        rw [Tryd.params6] at ht
        have hm : t ∈ [9, 3, 5] := by simpa using Array.mem_of_getElem? ht
        have hall : ([9, 3, 5].all fun u => !Tryd.prog.wantsStandIn u) = true := by kernel_rfl
        exact (show Tryd.prog.wantsStandIn t = false by simpa using List.all_eq_true.1 hall t hm)⟩)
    (by kernel_rfl)
#print axioms digit_card
end Go.Proofs.Qxb6608719aDoor

/-
  modelTag's CONTRACT, WHOLE; THE WALK OF THE LAW FnPlainTagMatchesModel.
-/
import Derived.Test.Qxb6001200aPtModel
namespace Go.Proofs.Qxb6001200a.Pt
open Go.RowKit Go.Deep
set_option linter.unusedVariables false

/-- No word: what follows the words' test, by the first byte. -/
def rest (l : List UInt8) : List UInt8 := if !dg (l.headD 0) then [33, 33, 115, 116, 114] else if canon l then [33, 33, 105, 110, 116] else []

set_option maxHeartbeats 1000000 in
theorem mt_long (s : ByteArray) (w : World) (hm : s.size ≤ maxLen) (h5 : 5 < s.size) :
    Calls Try.prog 8 #[.string s] w fun e w' => e = .returned (.string ⟨(rest s.toList).toArray⟩) ∧ Below w.heap.size w w' := by
  have hh := head_list s (by omega)
  unfold rest
  rw [hh]
  have HM : Hid (s.size ≤ maxLen) := hm
  unfold maxLen at hm
  by_cases hd : 48 ≤ s[0].toNat ∧ s[0].toNat ≤ 57
  · have hdg : dg s[0] = true := by simpa [dg] using hd
    obtain ⟨v, hv⟩ : ∃ v, v = canon s.toList := ⟨_, rfl⟩
    have HV : Hid (v = canon s.toList) := hv
    rw [hdg, ← hv]
    clear hdg hv hh
    obtain ⟨d1, d2⟩ := hd
    cases v
    all_goals
      go_enter Try.func8, Try.ntmps8
      go_wp2_with fail
      refine (dig_yes _ _ (by omega) (by omega)).mono ?_
      rintro e w2 ⟨rfl, rfl⟩
      go_wp2_with fail
      refine (canon_any s _ _ (by omega) HM.out HV).mono ?_
      rintro e w2 ⟨rfl, hB⟩
      go_wp2_with fail
      go_ret
      exact ⟨rfl, hB⟩
  · have hdg : dg s[0] = false := by simpa [dg] using hd
    rw [hdg]
    clear hdg hh
    go_enter Try.func8, Try.ntmps8
    go_wp2_with fail
    refine (dig_no _ _ (by omega)).mono ?_
    rintro e w2 ⟨rfl, rfl⟩
    go_wp2_with fail
    go_ret
    exact ⟨rfl, Below.refl _ _⟩

set_option maxHeartbeats 1000000 in
theorem mt_short (s : ByteArray) (L : List UInt8) (w : World) (h0 : 0 < s.size) (h5 : s.size ≤ 5) (HL : Hid (L = s.toList.map low))
    (c1 : (L == [116, 114, 117, 101]) = false) (c2 : (L == [102, 97, 108, 115, 101]) = false) (c3 : (L == [110, 117, 108, 108]) = false) :
    Calls Try.prog 8 #[.string s] w fun e w' => e = .returned (.string ⟨(rest s.toList).toArray⟩) ∧ Below w.heap.size w w' := by
  have hh := head_list s (by omega)
  unfold rest
  rw [hh]
  have HM : Hid (s.size ≤ maxLen) := by unfold Hid maxLen; omega
  by_cases hd : 48 ≤ s[0].toNat ∧ s[0].toNat ≤ 57
  · have hdg : dg s[0] = true := by simpa [dg] using hd
    obtain ⟨v, hv⟩ : ∃ v, v = canon s.toList := ⟨_, rfl⟩
    have HV : Hid (v = canon s.toList) := hv
    rw [hdg, ← hv]
    clear hdg hv hh
    obtain ⟨d1, d2⟩ := hd
    cases v
    all_goals
      go_enter Try.func8, Try.ntmps8
      go_wp2_with fail
      refine (lower_any s _ h0 (by omega)).mono ?_
      rintro e w1 ⟨rfl, hB1⟩
      rw [← HL.out]
      go_wp2_with fail
      refine (dig_yes _ _ (by omega) (by omega)).mono ?_
      rintro e w2 ⟨rfl, rfl⟩
      go_wp2_with fail
      refine (canon_any s _ _ (by omega) HM.out HV).mono ?_
      rintro e w2 ⟨rfl, hB⟩
      go_wp2_with fail
      go_ret
      exact ⟨rfl, hB1.trans (hB.mono hB1.size)⟩
  · have hdg : dg s[0] = false := by simpa [dg] using hd
    rw [hdg]
    clear hdg hh
    go_enter Try.func8, Try.ntmps8
    go_wp2_with fail
    refine (lower_any s _ h0 (by omega)).mono ?_
    rintro e w1 ⟨rfl, hB1⟩
    rw [← HL.out]
    go_wp2_with fail
    refine (dig_no _ _ (by omega)).mono ?_
    rintro e w2 ⟨rfl, rfl⟩
    go_wp2_with fail
    go_ret
    exact ⟨rfl, hB1⟩

theorem low_letter {c : UInt8} (h : 97 ≤ (low c).toNat) (h' : (low c).toNat ≤ 122) : 57 < c.toNat := by
  unfold low at h h'
  split at h
  · omega
  · omega

theorem extract_01 (s : ByteArray) : (s.extract 0 1).toList = s.toList.take 1 := by
  rw [ByteArray.toList_eq, ByteArray.toList_eq, Lib.extract_data]; simp
theorem cap_eq (U1 L : List UInt8) : ((⟨U1.toArray⟩ : ByteArray) ++ (⟨L.toArray⟩ : ByteArray).extract 1 L.length).toList = U1 ++ L.drop 1 := by
  rw [ByteArray.extract_mk, ByteArray.mk_append_mk, ByteArray.toList_mk]
  congr 1
  rw [List.take_of_length_le (by simp)]

/-- modelTag. -/
theorem mt_any (s : ByteArray) (w : World) (h0 : 0 < s.size) (hm : s.size ≤ maxLen) :
    Calls Try.prog 8 #[.string s] w fun e w' => e = .returned (.string ⟨(mtag s.toList).toArray⟩) ∧ Below w.heap.size w w' := by
  have hl := len_list s
  by_cases h5 : s.size ≤ 5
  · cases hw : wordL (s.toList.map low) with
    | true =>
      have hW := word_of hw
      have hLL : (s.toList.map low).length = s.size := by rw [List.length_map, hl]
      have hU1 : ((s.toList.take 1).map upp).length ≤ 1 := by simp; omega
      have HU1 : Hid ((s.toList.take 1).map upp = (s.extract 0 1).toList.map upp) := by show _ = _; rw [extract_01]
      have e3 := cap_eq ((s.toList.take 1).map upp) (s.toList.map low)
      have hcap : (s.toList.take 1).map upp ++ (s.toList.map low).drop 1 = cap1 s.toList := rfl
      rw [hcap] at e3
      cases hs : spelt s.toList with
      | true =>
        have ht : mtag s.toList = wt (s.toList.map low) := by
          unfold mtag wt
          rw [hw, hs, decide_eq_true (by omega)]
          simp
        rw [ht]
        cases q1 : s.toList == s.toList.map low with
        | true => exact mt_e1 s _ w h0 h5 rfl hW q1
        | false =>
          cases q2 : s.toList == s.toList.map upp with
          | true => exact mt_e2 s _ _ w h0 h5 rfl rfl hW q1 q2
          | false =>
            have q3 : (s.toList == cap1 s.toList) = true := by simpa [spelt, q1, q2] using hs
            exact mt_e3 s _ _ _ w h0 h5 rfl rfl HU1 hW (by omega) (by omega) hU1 q1 q2 (by rw [e3]; exact q3)
      | false =>
        simp only [spelt, Bool.or_eq_false_iff] at hs
        obtain ⟨⟨q1, q2⟩, q3⟩ := hs
        have hd : 57 < s[0].toNat := by
          have hx : (s.toList.map low).headD 0 = low s[0] := by
            have hh := get_list s 0 h0
            cases hsl : s.toList with
            | nil => rw [hsl] at hh; simp at hh
            | cons c r =>
              rw [hsl] at hh
              have e : c = s[0] := by simpa using hh
              simp [e]
          simp only [wordL, Bool.or_eq_true, beq_iff_eq] at hw
          rcases hw with (e | e) | e <;> rw [e] at hx <;> simp at hx <;> exact low_letter (by rw [← hx]; decide) (by rw [← hx]; decide)
        have hdg : dg (s.toList.headD 0) = false := by rw [head_list s h0]; simp [dg]; omega
        have ht : mtag s.toList = [33, 33, 115, 116, 114] := by
          unfold mtag
          rw [hdg]
          simp [spelt, q1, q2, q3]
        rw [ht]
        exact mt_e4 s _ _ _ w h0 h5 rfl rfl HU1 hW (by omega) (by omega) hU1 hd q1 q2 (by rw [e3]; exact q3)
    | false =>
      have ht : mtag s.toList = rest s.toList := by unfold mtag rest; rw [hw]; simp
      rw [ht]
      simp only [wordL, Bool.or_eq_false_iff] at hw
      exact mt_short s _ w h0 h5 rfl hw.1.1 hw.1.2 hw.2
  · have ht : mtag s.toList = rest s.toList := by
      unfold mtag rest
      rw [decide_eq_false (by omega)]; simp
    rw [ht]
    exact mt_long s w hm (by omega)

/-- The length test says yes. -/
theorem zb_yes (s : ByteArray) (w : World) (hm : s.size ≤ 1048576) : Calls Try.prog 6 #[.string s] w fun e w' => e = .returned (.bool true) ∧ w = w' := by
  go_enter Try.func6, Try.ntmps6
  go_wp2
  go_ret
  exact ⟨rfl, rfl⟩
theorem zb_no (s : ByteArray) (w : World) (hm : 1048576 < s.size) (hM : s.size ≤ maxLen) : Calls Try.prog 6 #[.string s] w fun e w' => e = .returned (.bool false) ∧ w = w' := by
  unfold maxLen at hM
  go_enter Try.func6, Try.ntmps6
  go_wp2
  go_ret
  exact ⟨rfl, rfl⟩
theorem law_big (s : ByteArray) (w : World) (hm : 1048576 < s.size) (hM : s.size ≤ maxLen) :
    Calls Try.prog 3 #[.string s] w fun e w' => e = .returned (.bool true) ∧ Below w.heap.size w w' := by
  go_enter Try.func3, Try.ntmps3
  go_wp2_with fail
  refine (zb_no s _ hm hM).mono ?_
  rintro e w' ⟨rfl, rfl⟩
  go_wp2_with fail
  go_ret
  exact ⟨rfl, Below.refl _ _⟩
theorem law_nil (s : ByteArray) (w : World) (h0 : s.size ≤ 0) :
    Calls Try.prog 3 #[.string s] w fun e w' => e = .returned (.bool true) ∧ Below w.heap.size w w' := by
  have hz : ((s.size : Int) == 0) = true := by rw [beq_iff_eq]; omega
  go_enter Try.func3, Try.ntmps3
  go_wp2_with fail
  refine (zb_yes s _ (by omega)).mono ?_
  rintro e w' ⟨rfl, rfl⟩
  go_wp2_with fail
  go_ret
  exact ⟨rfl, Below.refl _ _⟩

set_option maxHeartbeats 400000 in
theorem law_in (s : ByteArray) (w : World) (h0 : 0 < s.size) (hm : s.size ≤ 1048576) :
    Calls Try.prog 3 #[.string s] w fun e w' => e = .returned (.bool true) ∧ Below w.heap.size w w' := by
  obtain ⟨t, ht⟩ : ∃ t, t = tag s.toList := ⟨_, rfl⟩
  have HT : Hid (t = tag s.toList) := ht
  have HT2 : Hid (mtag s.toList = t) := by
    rw [ht]
    refine (tag_eq _ ?_).symm
    have := len_list s
    intro e
    rw [e] at this
    simp at this
    omega
  clear ht
  have HM : Hid (s.size ≤ maxLen) := by unfold Hid maxLen; omega
  have hz : ((s.size : Int) == 0) = false := beq_eq_false_iff_ne.2 (by omega)
  go_enter Try.func3, Try.ntmps3
  go_wp2_with fail
  refine (zb_yes s _ hm).mono ?_
  rintro e w' ⟨rfl, rfl⟩
  go_wp2_with fail
  refine (zp_any s t _ h0 HM.out HT).mono ?_
  rintro e w' ⟨rfl, rfl⟩
  go_wp2_with fail
  refine (mt_any s _ h0 HM.out).mono ?_
  rintro e w1 ⟨rfl, hB⟩
  rw [HT2.out]
  go_wp2_with fail
  go_ret
  exact ⟨rfl, hB⟩
end Go.Proofs.Qxb6001200a.Pt

/-
  THE WALK OF modelTag.
-/
import Derived.Test.Qxb6001200aPtCanon
import Derived.Lib.QuietBelow
import Derived.Deep.RegionWith
namespace Go.Proofs.Qxb6001200a.Pt
open Go.RowKit Go.Deep Go.Sort
set_option linter.unusedVariables false

/-- upperASCII, in a world that has grown. -/
theorem upper_in (s : ByteArray) (U : List UInt8) (w : World) (h0 : 0 < s.size) (hm : s.size ≤ 1048576) (hU : Hid (U = s.toList.map upp)) (d : Nat) (os : Array Obj) :
    Calls Try.prog 14 #[.string s] (grow (redrawn w d) os) fun e w'' => e = .returned (.string ⟨U.toArray⟩) ∧ ∃ p : Regrown, w'' = grow (redrawn w p.d) p.os := by
  rw [hU.out]
  exact Calls.regrown_of (upper_any s _ h0 hm)

theorem canon_any (s : ByteArray) (v : Bool) (w : World) (h0 : 0 < s.size) (hm : s.size ≤ maxLen) (HV : Hid (v = canon s.toList)) : Calls Try.prog 15 #[.string s] w fun e w' => e = .returned (.bool v) ∧ Below w.heap.size w w' := by
  by_cases h : s.size ≤ 18
  · exact canon_short s v w h0 h HV
  · rw [HV.out]
    exact canon_long s w (by omega) hm

/-- The tag of a word, by its lower-case spelling. -/
def wt (L : List UInt8) : List UInt8 := if L == [110, 117, 108, 108] then [33, 33, 110, 117, 108, 108] else [33, 33, 98, 111, 111, 108]
/-- L is one of the three words: which, in the order of the tests. -/
def Word (L : List UInt8) : Prop :=
  ((L == [116, 114, 117, 101]) = true ∧ (L == [110, 117, 108, 108]) = false) ∨ ((L == [116, 114, 117, 101]) = false ∧ (L == [102, 97, 108, 115, 101]) = true ∧ (L == [110, 117, 108, 108]) = false) ∨
  ((L == [116, 114, 117, 101]) = false ∧ (L == [102, 97, 108, 115, 101]) = false ∧ (L == [110, 117, 108, 108]) = true)
theorem word_of {L : List UInt8} (h : wordL L = true) : Word L := by
  simp only [wordL, Bool.or_eq_true, beq_iff_eq] at h
  rcases h with (h | h) | h
  · subst h; exact Or.inl ⟨by decide, by decide⟩
  · subst h; exact Or.inr (Or.inl ⟨by decide, by decide, by decide⟩)
  · subst h; exact Or.inr (Or.inr ⟨by decide, by decide, by decide⟩)

set_option maxHeartbeats 1000000 in
theorem mt_e1 (s : ByteArray) (L : List UInt8) (w : World) (h0 : 0 < s.size) (hm : s.size ≤ 5) (HL : Hid (L = s.toList.map low)) (hw : Word L) (e1 : (s.toList == L) = true) :
    Calls Try.prog 8 #[.string s] w fun e w' => e = .returned (.string ⟨(wt L).toArray⟩) ∧ Below w.heap.size w w' := by
  rcases hw with ⟨c1, c3⟩ | ⟨c1, c2, c3⟩ | ⟨c1, c2, c3⟩
  all_goals
    unfold wt
    rw [c3]
    go_enter Try.func8, Try.ntmps8
    go_wp2_with fail
    refine (lower_any s _ h0 (by omega)).mono ?_
    rintro e w1 ⟨rfl, hB⟩
    rw [← HL.out]
    go_wp2_with fail
    refine wp_region_quiet_below (by kernel_rfl) (by kernel_rfl) ?_
    repeat (go_big_quiet_step (fail))
    refine wpQuiet_nil ?_
    intro _ hw'
    obtain ⟨⟨dq, osq⟩, hw''⟩ := hw'
    subst hw''
    go_wp2_with fail
    go_ret
    exact ⟨rfl, hB.trans ((below_regrown w1 dq osq).mono hB.size)⟩

set_option maxHeartbeats 1000000 in
theorem mt_e2 (s : ByteArray) (L U : List UInt8) (w : World) (h0 : 0 < s.size) (hm : s.size ≤ 5) (HL : Hid (L = s.toList.map low)) (HU : Hid (U = s.toList.map upp)) (hw : Word L) (e1 : (s.toList == L) = false) (e2 : (s.toList == U) = true) :
    Calls Try.prog 8 #[.string s] w fun e w' => e = .returned (.string ⟨(wt L).toArray⟩) ∧ Below w.heap.size w w' := by
  rcases hw with ⟨c1, c3⟩ | ⟨c1, c2, c3⟩ | ⟨c1, c2, c3⟩
  all_goals
    unfold wt
    rw [c3]
    go_enter Try.func8, Try.ntmps8
    go_wp2_with fail
    refine (lower_any s _ h0 (by omega)).mono ?_
    rintro e w1 ⟨rfl, hB⟩
    rw [← HL.out]
    go_wp2_with fail
    refine wp_region_quiet_below (by kernel_rfl) (by kernel_rfl) ?_
    repeat (go_big_quiet_step (exact upper_in s U w1 h0 (by omega) HU _ _))
    refine wpQuiet_nil ?_
    intro _ hw'
    obtain ⟨⟨dq, osq⟩, hw''⟩ := hw'
    subst hw''
    go_wp2_with fail
    go_ret
    exact ⟨rfl, hB.trans ((below_regrown w1 dq osq).mono hB.size)⟩

set_option maxHeartbeats 1000000 in
theorem mt_e3 (s : ByteArray) (L U U1 : List UInt8) (w : World) (h0 : 0 < s.size) (hm : s.size ≤ 5) (HL : Hid (L = s.toList.map low)) (HU : Hid (U = s.toList.map upp)) (HU1 : Hid (U1 = (s.extract 0 1).toList.map upp)) (hw : Word L)
    (hLL : 0 < L.length) (hL5 : L.length ≤ 5) (hU1 : U1.length ≤ 1)
    (e1 : (s.toList == L) = false) (e2 : (s.toList == U) = false) (e3 : (s.toList == ((⟨U1.toArray⟩ : ByteArray) ++ (⟨L.toArray⟩ : ByteArray).extract 1 L.length).toList) = true) :
    Calls Try.prog 8 #[.string s] w fun e w' => e = .returned (.string ⟨(wt L).toArray⟩) ∧ Below w.heap.size w w' := by
  rcases hw with ⟨c1, c3⟩ | ⟨c1, c2, c3⟩ | ⟨c1, c2, c3⟩
  all_goals
    unfold wt
    rw [c3]
    go_enter Try.func8, Try.ntmps8
    go_wp2_with fail
    refine (lower_any s _ h0 (by omega)).mono ?_
    rintro e w1 ⟨rfl, hB⟩
    rw [← HL.out]
    go_wp2_with fail
    refine wp_region_quiet_below (by kernel_rfl) (by kernel_rfl) ?_
    repeat (go_big_quiet_step (first | (go_at_call_of 14 (Value.string s); exact upper_in s U w1 h0 (by omega) HU _ _) | exact upper_in (s.extract 0 1) U1 w1 (by simp; omega) (by simp; omega) HU1 _ _))
    refine wpQuiet_nil ?_
    intro _ hw'
    obtain ⟨⟨dq, osq⟩, hw''⟩ := hw'
    subst hw''
    go_wp2_with fail
    go_ret
    exact ⟨rfl, hB.trans ((below_regrown w1 dq osq).mono hB.size)⟩

set_option maxHeartbeats 1000000 in
/-- A word in another spelling: a string. -/
theorem mt_e4 (s : ByteArray) (L U U1 : List UInt8) (w : World) (h0 : 0 < s.size) (hm : s.size ≤ 5) (HL : Hid (L = s.toList.map low)) (HU : Hid (U = s.toList.map upp)) (HU1 : Hid (U1 = (s.extract 0 1).toList.map upp)) (hw : Word L)
    (hLL : 0 < L.length) (hL5 : L.length ≤ 5) (hU1 : U1.length ≤ 1) (hd : 57 < s[0].toNat)
    (e1 : (s.toList == L) = false) (e2 : (s.toList == U) = false) (e3 : (s.toList == ((⟨U1.toArray⟩ : ByteArray) ++ (⟨L.toArray⟩ : ByteArray).extract 1 L.length).toList) = false) :
    Calls Try.prog 8 #[.string s] w fun e w' => e = .returned (.string ⟨#[33, 33, 115, 116, 114]⟩) ∧ Below w.heap.size w w' := by
  rcases hw with ⟨c1, c3⟩ | ⟨c1, c2, c3⟩ | ⟨c1, c2, c3⟩
  all_goals
    go_enter Try.func8, Try.ntmps8
    go_wp2_with fail
    refine (lower_any s _ h0 (by omega)).mono ?_
    rintro e w1 ⟨rfl, hB⟩
    rw [← HL.out]
    go_wp2_with fail
    refine wp_region_quiet_below (by kernel_rfl) (by kernel_rfl) ?_
    repeat (go_big_quiet_step (first | (go_at_call_of 14 (Value.string s); exact upper_in s U w1 h0 (by omega) HU _ _) | exact upper_in (s.extract 0 1) U1 w1 (by simp; omega) (by simp; omega) HU1 _ _))
    refine wpQuiet_nil ?_
    intro _ hw'
    obtain ⟨⟨dq, osq⟩, hw''⟩ := hw'
    subst hw''
    go_wp2_with fail
    refine (dig_no _ _ (by omega)).mono ?_
    rintro e w2 ⟨rfl, rfl⟩
    go_wp2_with fail
    go_ret
    exact ⟨rfl, hB.trans ((below_regrown w1 dq osq).mono hB.size)⟩
end Go.Proofs.Qxb6001200a.Pt

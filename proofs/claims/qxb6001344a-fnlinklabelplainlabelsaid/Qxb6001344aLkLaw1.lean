/-
  THE WALK OF THE LAW FnLinkLabelPlainLabel.
-/
import Derived.Test.Qxb6001344aLkLabel
namespace Go.Proofs.Qxb6001344a.Lk
open Go.RowKit Go.Deep
set_option linter.unusedVariables false

/-- ZZLinkLabel. -/
theorem zl_any (a : Option Addr) (c t : List Int) (n N cap : Nat) (r : Int) (w : World) (HN : Hid (c.length = n)) (HL : Hid ((91 :: (c ++ 93 :: t)).length = N)) (hN : n + 2 ≤ N) (hN2 : N ≤ 4194304)
    (hr : Hid (Rd w a (91 :: (c ++ 93 :: t)))) (HC : Hid (∀ k, k < n → (c.getD k 0 == 91) = false ∧ (c.getD k 0 == 92) = false ∧ (c.getD k 0 == 93) = false))
    (HR1 : Hid (n ≤ 999 → c.all bl = false → r = (n : Int) + 2)) (HR2 : Hid (n ≤ 999 → c.all bl = true → r = 0)) (HR3 : Hid (1000 ≤ n → r = 0)) :
    Calls Try.prog 11 #[.slice a N cap] w fun e w' => e = .returned (.int .i64 r) ∧ w = w' := by
  go_enter Try.func11, Try.ntmps11
  go_wp2_with fail
  refine (label_any a c t n N cap r _ HN HL hN hN2 hr HC HR1 HR2 HR3).mono ?_
  rintro e w' ⟨rfl, rfl⟩
  go_wp2_with fail
  go_ret
  exact ⟨rfl, rfl⟩

/-- The length test says yes. -/
theorem zb5_yes (a0 a1 : Option Addr) (n m c0 c1 : Nat) (w : World) (hn : n ≤ 524288) (hm : m ≤ 524288) : Calls Try.prog 14 #[.slice a0 n c0, .slice a1 m c1] w fun e w' => e = .returned (.bool true) ∧ w = w' := by
  go_enter Try.func14, Try.ntmps14
  go_wp2
  go_ret
  exact ⟨rfl, rfl⟩
theorem law5_big (a0 a1 : Option Addr) (n m c0 c1 : Nat) (w : World) (hn : n ≤ maxLen) (hm : m ≤ maxLen) (h : ¬ (n ≤ 524288 ∧ m ≤ 524288)) :
    Calls Try.prog 5 #[.slice a0 n c0, .slice a1 m c1] w fun e w' => e = .returned (.bool true) ∧ Below w.heap.size w w' := by
  unfold maxLen at hn hm
  by_cases h1 : n ≤ 524288
  · have h2 : 524288 < m := by omega
    clear h
    by_cases h3 : n + m ≤ 1048576
    · go_enter Try.func5, Try.ntmps5
      go_wp2
      go_ret
      exact ⟨rfl, Below.refl _ _⟩
    · by_cases h4 : m ≤ 1048576
      · go_enter Try.func5, Try.ntmps5
        go_wp2
        go_ret
        exact ⟨rfl, Below.refl _ _⟩
      · go_enter Try.func5, Try.ntmps5
        go_wp2
        go_ret
        exact ⟨rfl, Below.refl _ _⟩
  · have h2 : 524288 < n := by omega
    clear h
    go_enter Try.func5, Try.ntmps5
    go_wp2
    all_goals (go_ret; exact ⟨rfl, Below.refl _ _⟩)

set_option maxHeartbeats 400000 in
/-- c bears one of the three marks. -/
theorem law5_has (a0 a1 : Option Addr) (c : List Int) (n m c0 c1 : Nat) (w : World) (HN : Hid (c.length = n)) (hn : n ≤ 524288) (hm : m ≤ 524288) (hr : Hid (Rd w a0 c)) (h : 91 ∈ c ∨ 93 ∈ c ∨ 92 ∈ c) :
    Calls Try.prog 5 #[.slice a0 n c0, .slice a1 m c1] w fun e w' => e = .returned (.bool true) ∧ Below w.heap.size w w' := by
  by_cases h1 : (91 : Int) ∈ c
  · have V1 : Hid (true = decide ((91 : Int) ∈ c)) := (decide_eq_true h1).symm
    clear h h1
    go_enter Try.func5, Try.ntmps5
    go_wp2_with fail
    refine (zb5_yes a0 a1 n m c0 c1 _ hn hm).mono ?_
    rintro e w' ⟨rfl, rfl⟩
    go_wp2_with fail
    refine (has_any a0 c n c0 91 true _ HN (by omega) hr V1).mono ?_
    rintro e w' ⟨rfl, rfl⟩
    go_wp2_with fail
    go_ret
    exact ⟨rfl, Below.refl _ _⟩
  · by_cases h2 : (93 : Int) ∈ c
    · have V1 : Hid (false = decide ((91 : Int) ∈ c)) := (decide_eq_false h1).symm
      have V2 : Hid (true = decide ((93 : Int) ∈ c)) := (decide_eq_true h2).symm
      clear h h1 h2
      go_enter Try.func5, Try.ntmps5
      go_wp2_with fail
      refine (zb5_yes a0 a1 n m c0 c1 _ hn hm).mono ?_
      rintro e w' ⟨rfl, rfl⟩
      go_wp2_with fail
      refine (has_any a0 c n c0 91 false _ HN (by omega) hr V1).mono ?_
      rintro e w' ⟨rfl, rfl⟩
      go_wp2_with fail
      refine (has_any a0 c n c0 93 true _ HN (by omega) hr V2).mono ?_
      rintro e w' ⟨rfl, rfl⟩
      go_wp2_with fail
      go_ret
      exact ⟨rfl, Below.refl _ _⟩
    · have h3 : (92 : Int) ∈ c := by
        rcases h with h | h | h
        · exact absurd h h1
        · exact absurd h h2
        · exact h
      have V1 : Hid (false = decide ((91 : Int) ∈ c)) := (decide_eq_false h1).symm
      have V2 : Hid (false = decide ((93 : Int) ∈ c)) := (decide_eq_false h2).symm
      have V3 : Hid (true = decide ((92 : Int) ∈ c)) := (decide_eq_true h3).symm
      clear h h1 h2 h3
      go_enter Try.func5, Try.ntmps5
      go_wp2_with fail
      refine (zb5_yes a0 a1 n m c0 c1 _ hn hm).mono ?_
      rintro e w' ⟨rfl, rfl⟩
      go_wp2_with fail
      refine (has_any a0 c n c0 91 false _ HN (by omega) hr V1).mono ?_
      rintro e w' ⟨rfl, rfl⟩
      go_wp2_with fail
      refine (has_any a0 c n c0 93 false _ HN (by omega) hr V2).mono ?_
      rintro e w' ⟨rfl, rfl⟩
      go_wp2_with fail
      refine (has_any a0 c n c0 92 true _ HN (by omega) hr V3).mono ?_
      rintro e w' ⟨rfl, rfl⟩
      go_wp2_with fail
      go_ret
      exact ⟨rfl, Below.refl _ _⟩

theorem free_of {c : List Int} {x : Int} (h : ¬ x ∈ c) (k : Nat) (hk : k < c.length) : (c.getD k 0 == x) = false := by
  have e : c.getD k 0 = c[k] := by simp [List.getD, hk]
  rw [e]
  exact beq_eq_false_iff_ne.2 fun h' => h (h' ▸ List.getElem_mem hk)

set_option maxRecDepth 100000 in
set_option maxHeartbeats 1000000 in
theorem law5_main (a0 a1 : Option Addr) (c t : List Int) (n m c0 c1 : Nat) (w : World) (HN : Hid (c.length = n)) (HM : Hid (t.length = m)) (hn : n ≤ 524288) (hm : m ≤ 524288) (hr : Hid (Rd w a0 c)) (hr1 : Hid (Rd w a1 t))
    (z0 : a0 = none → n = 0 ∧ c0 = 0) (z1 : a1 = none → m = 0 ∧ c1 = 0) (h1 : ¬ (91 : Int) ∈ c) (h2 : ¬ (93 : Int) ∈ c) (h3 : ¬ (92 : Int) ∈ c) :
    Calls Try.prog 5 #[.slice a0 n c0, .slice a1 m c1] w fun e w' => e = .returned (.bool true) ∧ Below w.heap.size w w' := by
  have V1 : Hid (false = decide ((91 : Int) ∈ c)) := (decide_eq_false h1).symm
  have V2 : Hid (false = decide ((93 : Int) ∈ c)) := (decide_eq_false h2).symm
  have V3 : Hid (false = decide ((92 : Int) ∈ c)) := (decide_eq_false h3).symm
  have HC : Hid (∀ k, k < n → (c.getD k 0 == 91) = false ∧ (c.getD k 0 == 92) = false ∧ (c.getD k 0 == 93) = false) := fun k hk => by
    have hk' : k < c.length := by rw [HN.out]; exact hk
    exact ⟨free_of h1 k hk', free_of h3 k hk', free_of h2 k hk'⟩
  have Z0 : Hid (a0 = none → n = 0 ∧ c0 = 0) := z0
  have Z1 : Hid (a1 = none → m = 0 ∧ c1 = 0) := z1
  clear z0 z1 h1 h2 h3
  go_enter Try.func5, Try.ntmps5
  go_wp2_with fail
  refine (zb5_yes a0 a1 n m c0 c1 _ hn hm).mono ?_
  rintro e w' ⟨rfl, rfl⟩
  go_wp2_with fail
  refine (has_any a0 c n c0 91 false _ HN (by omega) hr V1).mono ?_
  rintro e w' ⟨rfl, rfl⟩
  go_wp2_with fail
  refine (has_any a0 c n c0 93 false _ HN (by omega) hr V2).mono ?_
  rintro e w' ⟨rfl, rfl⟩
  go_wp2_with fail
  refine (has_any a0 c n c0 92 false _ HN (by omega) hr V3).mono ?_
  rintro e w' ⟨rfl, rfl⟩
  go_wp2_with fail
  refine (clone_any a0 c n c0 _ HN (by omega) hr Z0.out).mono ?_
  rintro e w1 ⟨x0, d0, rfl, r0, B1⟩
  go_wp2_with fail
  refine (clone_any a1 t m c1 _ HM (by omega) (hr1.out.later B1) Z1.out).mono ?_
  rintro e w2 ⟨x1, d1, rfl, r1, B2⟩
  have R0 := r0.later B2
  clear r0
  have B02 := B1.trans (B2.mono B1.size)
  clear B1 B2
  go_wp2_with fail
  refine (one_any 91 _).mono ?_
  rintro e w3 ⟨rfl, s1, B3⟩
  have R0' := R0.later B3
  have R1' := r1.later B3
  have B03 := B02.trans (B3.mono B02.size)
  clear R0 r1 B02 B3
  go_wp2_with fail
  refine (cat_any _ _ [91] c 1 n _ _ _ rfl HN (by omega) (by omega) s1 R0').mono ?_
  rintro e w4 ⟨rfl, s2, B4⟩
  have R0 := R0'.later B4
  have R1 := R1'.later B4
  have B04 := B03.trans (B4.mono B03.size)
  clear R0' R1' B03 B4 s1
  go_wp2_with fail
  refine (one_any 93 _).mono ?_
  rintro e w5 ⟨rfl, s3, B5⟩
  have R0' := R0.later B5
  have R1' := R1.later B5
  have s2' := s2.later B5
  have B05 := B04.trans (B5.mono B04.size)
  clear R0 R1 B04 B5 s2
  go_wp2_with fail
  refine (cat_any _ _ [93] t 1 m _ _ _ rfl HM (by omega) (by omega) s3 R1').mono ?_
  rintro e w6 ⟨rfl, s4, B6⟩
  have R0 := R0'.later B6
  have s2 := s2'.later B6
  have B06 := B05.trans (B6.mono B05.size)
  clear R0' R1' B05 B6 s3 s2'
  go_wp2_with fail
  refine (cat_any _ _ ([91] ++ c) ([93] ++ t) (1 + n) (1 + m) _ _ _ ?_ ?_ (by omega) (by omega) s2 s4).mono ?_
  · show _ = _
    rw [List.length_append, HN.out]; rfl
  · show _ = _
    rw [List.length_append, HM.out]; rfl
  rintro e w7 ⟨rfl, s5, B7⟩
  have R0' := R0.later B7
  have B07 : Hid (Below w.heap.size w w7) := B06.trans (B7.mono B06.size)
  have el : [91] ++ c ++ ([93] ++ t) = 91 :: (c ++ 93 :: t) := by simp
  rw [el] at s5
  have S5 : Hid (Rd w7 (some ⟨w6.heap.size, 0, none⟩) (91 :: (c ++ 93 :: t))) := s5
  have RC : Hid (Rd w7 x0 c) := R0'
  have HL : Hid ((91 :: (c ++ 93 :: t)).length = 1 + n + (1 + m)) := by
    show _ = _
    have e1 := HN.out
    have e2 := HM.out
    simp [e1, e2]; omega
  clear R0 R0' B06 B7 s2 s4 s5 el
  go_wp2_with fail
  go_loop [6, 7] (fun x i => ∃ (k : Nat) (bv : Bool), k ≤ n ∧ i = .int .i64 k ∧ x = .bool bv ∧ Hid (bv = (c.take k).all bl)) (fun _ i => n - (intOf i).toNat)
  case atStart => exact ⟨0, true, Nat.zero_le _, rfl, rfl, rfl⟩
  case round =>
    obtain ⟨k, bv, hk, rfl, rfl, hT⟩ := hrel
    by_cases hlt : k < n
    · have hkl : k < c.length := by rw [HN.out]; exact hlt
      obtain ⟨b, off, rfl, hc⟩ := RC.out.at (by omega)
      have q1 := hc k hkl
      have hA := all_take_succ c k hkl
      obtain ⟨y, hy⟩ : ∃ y, y = c.getD k 0 := ⟨_, rfl⟩
      rw [← hy] at q1 hA
      have HA : Hid ((c.take (k + 1)).all bl = ((c.take k).all bl && bl y)) := hA
      clear hy hA hkl hc
      by_cases b1 : y = 32
      · have HB : Hid (bv = (c.take (k + 1)).all bl) := by show _ = _; rw [HA.out, b1, hT.out]; simp [bl]
        have p1 : (y != 32) = false := by simpa using b1
        clear b1
        go_wp2
        go_round
        case rel => exact ⟨k + 1, bv, by omega, by go_num, rfl, HB⟩
        case measure => simp [intOf]; omega
      · by_cases b2 : y = 9
        · have HB : Hid (bv = (c.take (k + 1)).all bl) := by show _ = _; rw [HA.out, b2, hT.out]; simp [bl]
          have p1 : (y != 32) = true := by simpa using b1
          have p2 : (y != 9) = false := by simpa using b2
          clear b1 b2
          go_wp2
          go_round
          case rel => exact ⟨k + 1, bv, by omega, by go_num, rfl, HB⟩
          case measure => simp [intOf]; omega
        · by_cases b3 : y = 10
          · have HB : Hid (bv = (c.take (k + 1)).all bl) := by show _ = _; rw [HA.out, b3, hT.out]; simp [bl]
            have p1 : (y != 32) = true := by simpa using b1
            have p2 : (y != 9) = true := by simpa using b2
            have p3 : (y != 10) = false := by simpa using b3
            clear b1 b2 b3
            go_wp2
            go_round
            case rel => exact ⟨k + 1, bv, by omega, by go_num, rfl, HB⟩
            case measure => simp [intOf]; omega
          · have HB : Hid (false = (c.take (k + 1)).all bl) := by show _ = _; rw [HA.out]; simp [bl, b1, b2, b3]
            have p1 : (y != 32) = true := by simpa using b1
            have p2 : (y != 9) = true := by simpa using b2
            have p3 : (y != 10) = true := by simpa using b3
            clear b1 b2 b3
            go_wp2
            go_round
            case rel => exact ⟨k + 1, false, by omega, by go_num, rfl, HB⟩
            case measure => simp [intOf]; omega
    · obtain rfl : k = n := by omega
      have HB : Hid (bv = c.all bl) := by
        show _ = _
        rw [hT.out, List.take_of_length_le (by rw [HN.out]; omega)]
      clear hT
      by_cases g1 : (1 : Int) ≤ (k : Int)
      · by_cases g2 : (k : Int) ≤ 999
        · cases bv with
          | true =>
            go_wp2_with fail
            refine (zl_any _ c t k _ _ 0 _ HN HL (by omega) (by omega) S5 HC ?_ ?_ ?_).mono ?_
            · intro _ h; rw [← HB.out] at h; cases h
            · intro _ _; rfl
            · intro _; rfl
            rintro e w' ⟨rfl, rfl⟩
            go_wp2_with fail
            go_ret
            exact ⟨rfl, B07.out⟩
          | false =>
            go_wp2_with fail
            refine (zl_any _ c t k _ _ ((k : Int) + 2) _ HN HL (by omega) (by omega) S5 HC ?_ ?_ ?_).mono ?_
            · intro _ _; rfl
            · intro _ h; rw [← HB.out] at h; cases h
            · intro h; omega
            rintro e w' ⟨rfl, rfl⟩
            go_wp2_with fail
            go_ret
            exact ⟨rfl, B07.out⟩
        · go_wp2_with fail
          refine (zl_any _ c t k _ _ 0 _ HN HL (by omega) (by omega) S5 HC ?_ ?_ ?_).mono ?_
          · intro h _; omega
          · intro _ _; rfl
          · intro _; rfl
          rintro e w' ⟨rfl, rfl⟩
          go_wp2_with fail
          go_ret
          exact ⟨rfl, B07.out⟩
      · have hd : decide ((1 : Int) ≤ (k : Int)) = false := decide_eq_false g1
        have hnil : c = [] := List.eq_nil_of_length_eq_zero (by rw [HN.out]; omega)
        have HNIL : Hid (c.all bl = true) := by show _ = _; rw [hnil]; rfl
        clear hnil
        go_wp2_with fail
        refine (zl_any _ c t k _ _ 0 _ HN HL (by omega) (by omega) S5 HC ?_ ?_ ?_).mono ?_
        · intro _ h; rw [HNIL.out] at h; cases h
        · intro _ _; rfl
        · intro _; rfl
        rintro e w' ⟨rfl, rfl⟩
        go_wp2_with fail
        go_ret
        exact ⟨rfl, B07.out⟩
end Go.Proofs.Qxb6001344a.Lk

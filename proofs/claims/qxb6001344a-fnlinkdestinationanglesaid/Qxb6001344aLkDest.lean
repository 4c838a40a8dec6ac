/-
  THE WALK OF linkDestination OVER '<' c AND '<' c '>' tail.
-/
import Derived.Test.Qxb6001344aLkLabel
namespace Go.Proofs.Qxb6001344a.Lk
open Go.RowKit Go.Deep
set_option linter.unusedVariables false

theorem at_open (p : Int) (c : List Int) (k : Nat) : (p :: c).getD (k + 1) 0 = c.getD k 0 := by
  simp [List.getD]

set_option maxHeartbeats 1000000 in
/-- '<' c alone: none. -/
theorem dest_open (a : Option Addr) (c : List Int) (n N cap : Nat) (w : World) (HN : Hid (c.length = n)) (HL : Hid ((60 :: c).length = N)) (hN : N ≤ n + 1) (hN1 : n + 1 ≤ N) (hN2 : N ≤ 4194304)
    (hr : Hid (Rd w a (60 :: c))) (HC : Hid (∀ k, k < n → (c.getD k 0 == 92) = false ∧ (c.getD k 0 == 60) = false ∧ (c.getD k 0 == 10) = false ∧ (c.getD k 0 == 62) = false)) :
    Calls Try.prog 22 #[.slice a N cap, .int .i64 0] w fun e w' => e = .returned (.int .i64 0) ∧ w = w' := by
  obtain ⟨b, off, rfl, hc⟩ := hr.out.at (by simp)
  have HCE : Hid (∀ i, i < (60 :: c).length → w.cell? ⟨b, off + i, none⟩ = some (.int .u8 ((60 :: c).getD i 0))) := hc
  have g0 : w.cell? ⟨b, off, none⟩ = some (.int .u8 60) := by simpa using hc 0 (by simp)
  have hz : ((0 : Int) == (N : Int)) = false := beq_eq_false_iff_ne.2 (by omega)
  clear hc
  go_enter Try.func22, Try.ntmps22
  go_wp2
  clear g0 hz
  go_loop [5] (fun i => ∃ k : Nat, k ≤ n ∧ i = .int .i64 ((k : Int) + 1)) (fun i => n + 1 - (intOf i).toNat)
  case atStart => exact ⟨0, Nat.zero_le _, rfl⟩
  case round =>
    obtain ⟨k, hk, rfl⟩ := hrel
    by_cases hlt : k < n
    · have q1 := HCE.out (k + 1) (by rw [HL.out]; omega)
      rw [at_open 60 c k] at q1
      obtain ⟨n1, n2, n3, n4⟩ := HC.out k hlt
      obtain ⟨y, hy⟩ : ∃ y, y = c.getD k 0 := ⟨_, rfl⟩
      rw [← hy] at q1 n1 n2 n3 n4
      clear hy
      go_wp2
      go_round
      case rel => exact ⟨k + 1, by omega, by go_num⟩
      case measure => simp [intOf]; omega
    · go_wp2
      go_ret
      exact ⟨rfl, rfl⟩

set_option maxHeartbeats 1000000 in
/-- '<' c '>' tail: behind the '>'. -/
theorem dest_shut (a : Option Addr) (c t : List Int) (n N cap : Nat) (w : World) (HN : Hid (c.length = n)) (HL : Hid ((60 :: (c ++ 62 :: t)).length = N)) (hN1 : n + 2 ≤ N) (hN2 : N ≤ 4194304)
    (hr : Hid (Rd w a (60 :: (c ++ 62 :: t)))) (HC : Hid (∀ k, k < n → (c.getD k 0 == 92) = false ∧ (c.getD k 0 == 60) = false ∧ (c.getD k 0 == 10) = false ∧ (c.getD k 0 == 62) = false)) :
    Calls Try.prog 22 #[.slice a N cap, .int .i64 0] w fun e w' => e = .returned (.int .i64 ((n : Int) + 2)) ∧ w = w' := by
  obtain ⟨b, off, rfl, hc⟩ := hr.out.at (by simp)
  have HCE : Hid (∀ i, i < (60 :: (c ++ 62 :: t)).length → w.cell? ⟨b, off + i, none⟩ = some (.int .u8 ((60 :: (c ++ 62 :: t)).getD i 0))) := hc
  have g0 : w.cell? ⟨b, off, none⟩ = some (.int .u8 60) := by simpa using hc 0 (by simp)
  have hz : ((0 : Int) == (N : Int)) = false := beq_eq_false_iff_ne.2 (by omega)
  clear hc
  go_enter Try.func22, Try.ntmps22
  go_wp2
  clear g0 hz
  go_loop [5] (fun i => ∃ k : Nat, k ≤ n ∧ i = .int .i64 ((k : Int) + 1)) (fun i => n + 1 - (intOf i).toNat)
  case atStart => exact ⟨0, Nat.zero_le _, rfl⟩
  case round =>
    obtain ⟨k, hk, rfl⟩ := hrel
    by_cases hlt : k < n
    · have hkl : k < c.length := by rw [HN.out]; exact hlt
      have q1 := HCE.out (k + 1) (by rw [HL.out]; omega)
      rw [at_mid 60 62 c t k hkl] at q1
      obtain ⟨n1, n2, n3, n4⟩ := HC.out k hlt
      obtain ⟨y, hy⟩ : ∃ y, y = c.getD k 0 := ⟨_, rfl⟩
      rw [← hy] at q1 n1 n2 n3 n4
      clear hy hkl
      go_wp2
      go_round
      case rel => exact ⟨k + 1, by omega, by go_num⟩
      case measure => simp [intOf]; omega
    · obtain rfl : k = n := by omega
      have q1 := HCE.out (k + 1) (by rw [HL.out]; omega)
      have e : (60 :: (c ++ 62 :: t)).getD (k + 1) 0 = 62 := by rw [← HN.out]; exact at_end 60 62 c t
      rw [e] at q1
      clear e
      go_wp2
      go_ret
      exact ⟨by go_num, rfl⟩

/-- ZZLinkDestination. -/
theorem zd_open (a : Option Addr) (c : List Int) (n N cap : Nat) (w : World) (HN : Hid (c.length = n)) (HL : Hid ((60 :: c).length = N)) (hN : N ≤ n + 1) (hN1 : n + 1 ≤ N) (hN2 : N ≤ 4194304)
    (hr : Hid (Rd w a (60 :: c))) (HC : Hid (∀ k, k < n → (c.getD k 0 == 92) = false ∧ (c.getD k 0 == 60) = false ∧ (c.getD k 0 == 10) = false ∧ (c.getD k 0 == 62) = false)) :
    Calls Try.prog 18 #[.slice a N cap, .int .i64 0] w fun e w' => e = .returned (.int .i64 0) ∧ w = w' := by
  go_enter Try.func18, Try.ntmps18
  go_wp2_with fail
  refine (dest_open a c n N cap _ HN HL hN hN1 hN2 hr HC).mono ?_
  rintro e w' ⟨rfl, rfl⟩
  go_wp2_with fail
  go_ret
  exact ⟨rfl, rfl⟩
theorem zd_shut (a : Option Addr) (c t : List Int) (n N cap : Nat) (w : World) (HN : Hid (c.length = n)) (HL : Hid ((60 :: (c ++ 62 :: t)).length = N)) (hN1 : n + 2 ≤ N) (hN2 : N ≤ 4194304)
    (hr : Hid (Rd w a (60 :: (c ++ 62 :: t)))) (HC : Hid (∀ k, k < n → (c.getD k 0 == 92) = false ∧ (c.getD k 0 == 60) = false ∧ (c.getD k 0 == 10) = false ∧ (c.getD k 0 == 62) = false)) :
    Calls Try.prog 18 #[.slice a N cap, .int .i64 0] w fun e w' => e = .returned (.int .i64 ((n : Int) + 2)) ∧ w = w' := by
  go_enter Try.func18, Try.ntmps18
  go_wp2_with fail
  refine (dest_shut a c t n N cap _ HN HL hN1 hN2 hr HC).mono ?_
  rintro e w' ⟨rfl, rfl⟩
  go_wp2_with fail
  go_ret
  exact ⟨rfl, rfl⟩

/-- The length test says yes. -/
theorem zb8_yes (a0 a1 : Option Addr) (n m c0 c1 : Nat) (w : World) (hn : n ≤ 524288) (hm : m ≤ 524288) : Calls Try.prog 20 #[.slice a0 n c0, .slice a1 m c1] w fun e w' => e = .returned (.bool true) ∧ w = w' := by
  go_enter Try.func20, Try.ntmps20
  go_wp2
  go_ret
  exact ⟨rfl, rfl⟩
theorem law8_big (a0 a1 : Option Addr) (n m c0 c1 : Nat) (w : World) (hn : n ≤ maxLen) (hm : m ≤ maxLen) (h : ¬ (n ≤ 524288 ∧ m ≤ 524288)) :
    Calls Try.prog 8 #[.slice a0 n c0, .slice a1 m c1] w fun e w' => e = .returned (.bool true) ∧ Below w.heap.size w w' := by
  unfold maxLen at hn hm
  by_cases h1 : n ≤ 524288
  · have h2 : 524288 < m := by omega
    clear h
    by_cases h3 : n + m ≤ 1048576
    · go_enter Try.func8, Try.ntmps8
      go_wp2
      go_ret
      exact ⟨rfl, Below.refl _ _⟩
    · by_cases h4 : m ≤ 1048576
      · go_enter Try.func8, Try.ntmps8
        go_wp2
        go_ret
        exact ⟨rfl, Below.refl _ _⟩
      · go_enter Try.func8, Try.ntmps8
        go_wp2
        go_ret
        exact ⟨rfl, Below.refl _ _⟩
  · have h2 : 524288 < n := by omega
    clear h
    go_enter Try.func8, Try.ntmps8
    go_wp2
    all_goals (go_ret; exact ⟨rfl, Below.refl _ _⟩)

set_option maxHeartbeats 1000000 in
/-- c bears one of the four marks. -/
theorem law8_has (a0 a1 : Option Addr) (c : List Int) (n m c0 c1 : Nat) (v1 v2 v3 v4 : Bool) (w : World) (HN : Hid (c.length = n)) (hn : n ≤ 524288) (hm : m ≤ 524288) (hr : Hid (Rd w a0 c))
    (V1 : Hid (v1 = decide ((60 : Int) ∈ c))) (V2 : Hid (v2 = decide ((62 : Int) ∈ c))) (V3 : Hid (v3 = decide ((10 : Int) ∈ c))) (V4 : Hid (v4 = decide ((92 : Int) ∈ c))) (h : (v1 || (v2 || (v3 || v4))) = true) :
    Calls Try.prog 8 #[.slice a0 n c0, .slice a1 m c1] w fun e w' => e = .returned (.bool true) ∧ Below w.heap.size w w' := by
  cases v1
  · cases v2
    · cases v3
      · cases v4
        · simp at h
        · clear h
          go_enter Try.func8, Try.ntmps8
          go_wp2_with fail
          refine (zb8_yes a0 a1 n m c0 c1 _ hn hm).mono ?_
          rintro e w' ⟨rfl, rfl⟩
          go_wp2_with fail
          refine (has_any a0 c n c0 60 _ _ HN (by omega) hr V1).mono ?_
          rintro e w' ⟨rfl, rfl⟩
          go_wp2_with fail
          refine (has_any a0 c n c0 62 _ _ HN (by omega) hr V2).mono ?_
          rintro e w' ⟨rfl, rfl⟩
          go_wp2_with fail
          refine (has_any a0 c n c0 10 _ _ HN (by omega) hr V3).mono ?_
          rintro e w' ⟨rfl, rfl⟩
          go_wp2_with fail
          refine (has_any a0 c n c0 92 _ _ HN (by omega) hr V4).mono ?_
          rintro e w' ⟨rfl, rfl⟩
          go_wp2_with fail
          go_ret
          exact ⟨rfl, Below.refl _ _⟩
      · clear h
        go_enter Try.func8, Try.ntmps8
        go_wp2_with fail
        refine (zb8_yes a0 a1 n m c0 c1 _ hn hm).mono ?_
        rintro e w' ⟨rfl, rfl⟩
        go_wp2_with fail
        refine (has_any a0 c n c0 60 _ _ HN (by omega) hr V1).mono ?_
        rintro e w' ⟨rfl, rfl⟩
        go_wp2_with fail
        refine (has_any a0 c n c0 62 _ _ HN (by omega) hr V2).mono ?_
        rintro e w' ⟨rfl, rfl⟩
        go_wp2_with fail
        refine (has_any a0 c n c0 10 _ _ HN (by omega) hr V3).mono ?_
        rintro e w' ⟨rfl, rfl⟩
        go_wp2_with fail
        go_ret
        exact ⟨rfl, Below.refl _ _⟩
    · clear h
      go_enter Try.func8, Try.ntmps8
      go_wp2_with fail
      refine (zb8_yes a0 a1 n m c0 c1 _ hn hm).mono ?_
      rintro e w' ⟨rfl, rfl⟩
      go_wp2_with fail
      refine (has_any a0 c n c0 60 _ _ HN (by omega) hr V1).mono ?_
      rintro e w' ⟨rfl, rfl⟩
      go_wp2_with fail
      refine (has_any a0 c n c0 62 _ _ HN (by omega) hr V2).mono ?_
      rintro e w' ⟨rfl, rfl⟩
      go_wp2_with fail
      go_ret
      exact ⟨rfl, Below.refl _ _⟩
  · clear h
    go_enter Try.func8, Try.ntmps8
    go_wp2_with fail
    refine (zb8_yes a0 a1 n m c0 c1 _ hn hm).mono ?_
    rintro e w' ⟨rfl, rfl⟩
    go_wp2_with fail
    refine (has_any a0 c n c0 60 _ _ HN (by omega) hr V1).mono ?_
    rintro e w' ⟨rfl, rfl⟩
    go_wp2_with fail
    go_ret
    exact ⟨rfl, Below.refl _ _⟩

theorem free_of8 {c : List Int} {x : Int} (h : ¬ x ∈ c) (k : Nat) (hk : k < c.length) : (c.getD k 0 == x) = false := by
  have e : c.getD k 0 = c[k] := by simp [List.getD, hk]
  rw [e]
  exact beq_eq_false_iff_ne.2 fun h' => h (h' ▸ List.getElem_mem hk)

set_option maxHeartbeats 1000000 in
theorem law8_main (a0 a1 : Option Addr) (c t : List Int) (n m c0 c1 : Nat) (w : World) (HN : Hid (c.length = n)) (HM : Hid (t.length = m)) (hn : n ≤ 524288) (hm : m ≤ 524288) (hr : Hid (Rd w a0 c)) (hr1 : Hid (Rd w a1 t))
    (z0 : a0 = none → n = 0 ∧ c0 = 0) (z1 : a1 = none → m = 0 ∧ c1 = 0) (h1 : ¬ (60 : Int) ∈ c) (h2 : ¬ (62 : Int) ∈ c) (h3 : ¬ (10 : Int) ∈ c) (h4 : ¬ (92 : Int) ∈ c) :
    Calls Try.prog 8 #[.slice a0 n c0, .slice a1 m c1] w fun e w' => e = .returned (.bool true) ∧ Below w.heap.size w w' := by
  have V1 : Hid (false = decide ((60 : Int) ∈ c)) := (decide_eq_false h1).symm
  have V2 : Hid (false = decide ((62 : Int) ∈ c)) := (decide_eq_false h2).symm
  have V3 : Hid (false = decide ((10 : Int) ∈ c)) := (decide_eq_false h3).symm
  have V4 : Hid (false = decide ((92 : Int) ∈ c)) := (decide_eq_false h4).symm
  have HC : Hid (∀ k, k < n → (c.getD k 0 == 92) = false ∧ (c.getD k 0 == 60) = false ∧ (c.getD k 0 == 10) = false ∧ (c.getD k 0 == 62) = false) := fun k hk => by
    have hk' : k < c.length := by rw [HN.out]; exact hk
    exact ⟨free_of8 h4 k hk', free_of8 h1 k hk', free_of8 h3 k hk', free_of8 h2 k hk'⟩
  have Z0 : Hid (a0 = none → n = 0 ∧ c0 = 0) := z0
  have Z1 : Hid (a1 = none → m = 0 ∧ c1 = 0) := z1
  clear z0 z1 h1 h2 h3 h4
  go_enter Try.func8, Try.ntmps8
  go_wp2_with fail
  refine (zb8_yes a0 a1 n m c0 c1 _ hn hm).mono ?_
  rintro e w' ⟨rfl, rfl⟩
  go_wp2_with fail
  refine (has_any a0 c n c0 60 false _ HN (by omega) hr V1).mono ?_
  rintro e w' ⟨rfl, rfl⟩
  go_wp2_with fail
  refine (has_any a0 c n c0 62 false _ HN (by omega) hr V2).mono ?_
  rintro e w' ⟨rfl, rfl⟩
  go_wp2_with fail
  refine (has_any a0 c n c0 10 false _ HN (by omega) hr V3).mono ?_
  rintro e w' ⟨rfl, rfl⟩
  go_wp2_with fail
  refine (has_any a0 c n c0 92 false _ HN (by omega) hr V4).mono ?_
  rintro e w' ⟨rfl, rfl⟩
  go_wp2_with fail
  refine (clone_any a0 c n c0 _ HN (by omega) hr Z0.out).mono ?_
  rintro e w1 ⟨x0, d0, rfl, r0, B1⟩
  go_wp2_with fail
  refine (clone_any a1 t m c1 _ HM (by omega) (hr1.out.later B1) Z1.out).mono ?_
  rintro e w2 ⟨x1, d1, rfl, r1, B2⟩
  have R0 := r0.later B2
  clear r0
  have B02 := B1.trans (B2.mono B1.size)
  clear B1 B2
  go_wp2_with fail
  refine (one_any 60 _).mono ?_
  rintro e w3 ⟨rfl, s1, B3⟩
  have R0' := R0.later B3
  have R1' := r1.later B3
  have B03 := B02.trans (B3.mono B02.size)
  clear R0 r1 B02 B3
  go_wp2_with fail
  refine (cat_any _ _ [60] c 1 n _ _ _ rfl HN (by omega) (by omega) s1 R0').mono ?_
  rintro e w4 ⟨rfl, s2, B4⟩
  have R1 := R1'.later B4
  have B04 := B03.trans (B4.mono B03.size)
  clear R0' R1' B03 B4 s1
  go_wp2_with fail
  refine (zd_open _ c n _ _ _ HN ?_ (by omega) (by omega) (by omega) s2 HC).mono ?_
  · show _ = _
    rw [List.length_cons, HN.out]; omega
  rintro e w' ⟨rfl, rfl⟩
  go_wp2_with fail
  refine (one_any 62 _).mono ?_
  rintro e w5 ⟨rfl, s3, B5⟩
  have R1' := R1.later B5
  have s2' := s2.later B5
  have B05 := B04.trans (B5.mono B04.size)
  clear R1 B04 B5 s2
  go_wp2_with fail
  refine (cat_any _ _ [62] t 1 m _ _ _ rfl HM (by omega) (by omega) s3 R1').mono ?_
  rintro e w6 ⟨rfl, s4, B6⟩
  have s2 := s2'.later B6
  have B06 := B05.trans (B6.mono B05.size)
  clear R1' B05 B6 s3 s2'
  go_wp2_with fail
  refine (cat_any _ _ ([60] ++ c) ([62] ++ t) (1 + n) (1 + m) _ _ _ ?_ ?_ (by omega) (by omega) s2 s4).mono ?_
  · show _ = _
    rw [List.length_append, HN.out]; rfl
  · show _ = _
    rw [List.length_append, HM.out]; rfl
  rintro e w7 ⟨rfl, s5, B7⟩
  have B07 : Hid (Below w.heap.size w w7) := B06.trans (B7.mono B06.size)
  have el : [60] ++ c ++ ([62] ++ t) = 60 :: (c ++ 62 :: t) := by simp
  rw [el] at s5
  have S5 : Hid (Rd w7 (some ⟨w6.heap.size, 0, none⟩) (60 :: (c ++ 62 :: t))) := s5
  have HL : Hid ((60 :: (c ++ 62 :: t)).length = 1 + n + (1 + m)) := by
    show _ = _
    have e1 := HN.out
    have e2 := HM.out
    simp [e1, e2]; omega
  clear B06 B7 s2 s4 s5 el
  go_wp2_with fail
  refine (zd_shut _ c t n _ _ _ HN HL (by omega) (by omega) S5 HC).mono ?_
  rintro e w' ⟨rfl, rfl⟩
  go_wp2_with fail
  go_ret
  exact ⟨rfl, B07.out⟩
end Go.Proofs.Qxb6001344a.Lk

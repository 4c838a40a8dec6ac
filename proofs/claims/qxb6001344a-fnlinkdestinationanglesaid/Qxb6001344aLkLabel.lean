/-
  THE WALK OF linkLabel OVER '[' c ']' tail.
-/
import Derived.Test.Qxb6001344aLkParts
namespace Go.Proofs.Qxb6001344a.Lk
open Go.RowKit Go.Deep
set_option linter.unusedVariables false

/-- A space, a tab, a line end. -/
def bl (x : Int) : Bool := x == 32 || (x == 9 || x == 10)

theorem all_take_succ (c : List Int) (k : Nat) (h : k < c.length) : (c.take (k + 1)).all bl = ((c.take k).all bl && bl (c.getD k 0)) := by
  rw [List.take_add_one, List.all_append, List.getElem?_eq_getElem h]
  have e : c.getD k 0 = c[k] := by simp [List.getD, h]
  rw [e]
  simp only [Option.toList_some, List.all_cons, List.all_nil, Bool.and_true]

/-- The bytes of '[' c ']' tail (or another pair of marks). -/
theorem at_mid (p q : Int) (c t : List Int) (k : Nat) (h : k < c.length) : (p :: (c ++ q :: t)).getD (k + 1) 0 = c.getD k 0 := by
  have := getD_left c (q :: t) k h
  rw [this]
  simp [List.getD]
theorem at_end (p q : Int) (c t : List Int) : (p :: (c ++ q :: t)).getD (c.length + 1) 0 = q := by
  simp [List.getD]

set_option maxRecDepth 100000 in
set_option maxHeartbeats 1000000 in
theorem label_any (a : Option Addr) (c t : List Int) (n N cap : Nat) (r : Int) (w : World) (HN : Hid (c.length = n)) (HL : Hid ((91 :: (c ++ 93 :: t)).length = N)) (hN : n + 2 ≤ N) (hN2 : N ≤ 4194304)
    (hr : Hid (Rd w a (91 :: (c ++ 93 :: t)))) (HC : Hid (∀ k, k < n → (c.getD k 0 == 91) = false ∧ (c.getD k 0 == 92) = false ∧ (c.getD k 0 == 93) = false))
    (HR1 : Hid (n ≤ 999 → c.all bl = false → r = (n : Int) + 2)) (HR2 : Hid (n ≤ 999 → c.all bl = true → r = 0)) (HR3 : Hid (1000 ≤ n → r = 0)) :
    Calls Try.prog 21 #[.slice a N cap] w fun e w' => e = .returned (.int .i64 r) ∧ w = w' := by
  obtain ⟨b, off, rfl, hc⟩ := hr.out.at (by simp)
  have HCE : Hid (∀ i, i < (91 :: (c ++ 93 :: t)).length → w.cell? ⟨b, off + i, none⟩ = some (.int .u8 ((91 :: (c ++ 93 :: t)).getD i 0))) := hc
  have g0 : w.cell? ⟨b, off, none⟩ = some (.int .u8 91) := by simpa using hc 0 (by simp)
  have hz : ((N : Int) == 0) = false := beq_eq_false_iff_ne.2 (by omega)
  clear hc
  go_enter Try.func21, Try.ntmps21
  go_wp2
  clear g0 hz
  go_loop [3, 4] (fun x i => ∃ (k : Nat) (tx : Bool), k ≤ n ∧ (k : Int) ≤ 1000 ∧ i = .int .i64 ((k : Int) + 1) ∧ x = .bool tx ∧ Hid (tx = !(c.take k).all bl)) (fun _ i => n + 1 - (intOf i).toNat)
  case atStart => exact ⟨0, false, Nat.zero_le _, by omega, rfl, rfl, rfl⟩
  case round =>
    obtain ⟨k, tx, hk, hk2, rfl, rfl, hT⟩ := hrel
    by_cases h999 : (k : Int) ≤ 999
    · by_cases hlt : k < n
      · have hkl : k < c.length := by rw [HN.out]; exact hlt
        have q1 := HCE.out (k + 1) (by rw [HL.out]; omega)
        rw [at_mid 91 93 c t k hkl] at q1
        obtain ⟨n1, n2, n3⟩ := HC.out k hlt
        have hA := all_take_succ c k hkl
        obtain ⟨y, hy⟩ : ∃ y, y = c.getD k 0 := ⟨_, rfl⟩
        rw [← hy] at q1 n1 n2 n3 hA
        have HA : Hid ((c.take (k + 1)).all bl = ((c.take k).all bl && bl y)) := hA
        clear hy hA hkl
        by_cases b1 : y = 32
        · have HB : Hid (tx = !(c.take (k + 1)).all bl) := by show _ = _; rw [HA.out, b1, hT.out]; simp [bl]
          have p1 : (y == 32) = true := by simpa using b1
          clear b1
          go_wp2
          go_round
          case rel => exact ⟨k + 1, tx, by omega, by omega, by go_num, rfl, HB⟩
          case measure => simp [intOf]; omega
        · by_cases b2 : y = 9
          · have HB : Hid (tx = !(c.take (k + 1)).all bl) := by show _ = _; rw [HA.out, b2, hT.out]; simp [bl]
            have p1 : (y == 32) = false := by simpa using b1
            have p2 : (y == 9) = true := by simpa using b2
            clear b1 b2
            go_wp2
            go_round
            case rel => exact ⟨k + 1, tx, by omega, by omega, by go_num, rfl, HB⟩
            case measure => simp [intOf]; omega
          · by_cases b3 : y = 10
            · have HB : Hid (tx = !(c.take (k + 1)).all bl) := by show _ = _; rw [HA.out, b3, hT.out]; simp [bl]
              have p1 : (y == 32) = false := by simpa using b1
              have p2 : (y == 9) = false := by simpa using b2
              have p3 : (y == 10) = true := by simpa using b3
              clear b1 b2 b3
              go_wp2
              go_round
              case rel => exact ⟨k + 1, tx, by omega, by omega, by go_num, rfl, HB⟩
              case measure => simp [intOf]; omega
            · have HB : Hid (true = !(c.take (k + 1)).all bl) := by show _ = _; rw [HA.out]; simp [bl, b1, b2, b3]
              have p1 : (y == 32) = false := by simpa using b1
              have p2 : (y == 9) = false := by simpa using b2
              have p3 : (y == 10) = false := by simpa using b3
              clear b1 b2 b3
              go_wp2
              go_round
              case rel => exact ⟨k + 1, true, by omega, by omega, by go_num, rfl, HB⟩
              case measure => simp [intOf]; omega
      · obtain rfl : k = n := by omega
        have q1 := HCE.out (k + 1) (by rw [HL.out]; omega)
        have e : (91 :: (c ++ 93 :: t)).getD (k + 1) 0 = 93 := by rw [← HN.out]; exact at_end 91 93 c t
        rw [e] at q1
        clear e
        have ht : tx = !c.all bl := by rw [hT.out, List.take_of_length_le (by rw [HN.out]; omega)]
        cases tx with
        | true =>
          have hr1 := HR1.out (by omega) (by simpa using ht.symm)
          subst hr1
          clear ht
          go_wp2
          go_ret
          exact ⟨by go_num, rfl⟩
        | false =>
          have hr1 := HR2.out (by omega) (by simpa using ht.symm)
          subst hr1
          clear ht
          go_wp2
          go_ret
          exact ⟨rfl, rfl⟩
    · have hr1 := HR3.out (by omega)
      subst hr1
      go_wp2
      go_ret
      exact ⟨rfl, rfl⟩
end Go.Proofs.Qxb6001344a.Lk

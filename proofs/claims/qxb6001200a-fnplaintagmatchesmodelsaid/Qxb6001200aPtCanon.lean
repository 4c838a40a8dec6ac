/-
  THE WALK OF canonicalInt.
-/
import Derived.Test.Qxb6001200aPtCase
import Derived.Test.Qxb6001200aPtInts
namespace Go.Proofs.Qxb6001200a.Pt
open Go.RowKit Go.Deep
set_option linter.unusedVariables false

theorem val_lt : ∀ (r : List UInt8), r.all dg = true → val r.reverse < 10 ^ r.length
  | [], _ => by simp [val]
  | c :: r, h => by
    simp only [List.all_cons, Bool.and_eq_true] at h
    have ih := val_lt r h.2
    have hc : 48 ≤ c.toNat ∧ c.toNat ≤ 57 := by simpa [dg] using h.1
    rw [List.reverse_cons, val_snoc, List.length_cons, Nat.pow_succ]
    omega
theorem val_lt' (l : List UInt8) (h : l.all dg = true) : val l < 10 ^ l.length := by
  have := val_lt l.reverse (by simpa using h)
  simpa using this
theorem take_snoc (s : ByteArray) (k : Nat) (h : k < s.size) : s.toList.take (k + 1) = s.toList.take k ++ [s[k]] := by
  rw [List.take_add_one, get_list s k h]; rfl

/-- The number read so far. -/
structure Cn (l : List UInt8) (k : Nat) (x : Int) : Prop where
  num : x = (val (l.take k) : Int)
  dgs : (l.take k).all dg = true
theorem Cn.bound {l : List UInt8} {k : Nat} {x : Int} (h : Cn l k x) (hk : k ≤ 17) : 0 ≤ x ∧ x < 100000000000000000 := by
  have h1 := val_lt' _ h.dgs
  have h2 : (l.take k).length ≤ 17 := by rw [List.length_take]; omega
  have h3 : 10 ^ (l.take k).length ≤ 10 ^ 17 := Nat.pow_le_pow_right (by omega) h2
  have e : (10 : Nat) ^ 17 = 100000000000000000 := by decide
  rw [h.num]; omega
theorem Cn.bound18 {l : List UInt8} {k : Nat} {x : Int} (h : Cn l k x) (hk : k ≤ 18) : val (l.take k) < 10000000000000000000 := by
  have h1 := val_lt' _ h.dgs
  have h2 : (l.take k).length ≤ 18 := by rw [List.length_take]; omega
  have h3 : 10 ^ (l.take k).length ≤ 10 ^ 18 := Nat.pow_le_pow_right (by omega) h2
  have e : (10 : Nat) ^ 18 = 1000000000000000000 := by decide
  omega
theorem Cn.step {s : ByteArray} {k : Nat} {x : Int} (h : Cn s.toList k x) (hk : k < s.size) (h1 : 48 ≤ s[k].toNat) (h2 : s[k].toNat ≤ 57) : Cn s.toList (k + 1) (x * 10 + ((s[k].toNat : Int) - 48)) := by
  refine ⟨?_, ?_⟩
  · rw [take_snoc s k hk, val_snoc, h.num]; omega
  · rw [take_snoc s k hk, List.all_append, h.dgs]
    simp [dg, h1, h2]

theorem canon_long (s : ByteArray) (w : World) (hs : 18 < s.size) (hm : s.size ≤ maxLen) : Calls Try.prog 15 #[.string s] w fun e w' => e = .returned (.bool (canon s.toList)) ∧ Below w.heap.size w w' := by
  unfold maxLen at hm
  have hc : canon s.toList = false := by
    have := len_list s
    simp [canon]; omega
  rw [hc]
  have hz : ((s.size : Int) == 0) = false := beq_eq_false_iff_ne.2 (by omega)
  go_enter Try.func15, Try.ntmps15
  go_wp2
  go_ret
  exact ⟨rfl, Below.refl _ _⟩

set_option maxHeartbeats 400000 in
theorem canon_short (s : ByteArray) (v : Bool) (w : World) (h0 : 0 < s.size) (hm : s.size ≤ 18) (HV : Hid (v = canon s.toList)) : Calls Try.prog 15 #[.string s] w fun e w' => e = .returned (.bool v) ∧ Below w.heap.size w w' := by
  have HL : Hid (s.toList.length = s.size) := len_list s
  have hz : ((s.size : Int) == 0) = false := beq_eq_false_iff_ne.2 (by omega)
  go_enter Try.func15, Try.ntmps15
  go_wp2
  go_loop [3, 4] (fun x i => ∃ (k : Nat) (z : Int), k ≤ s.size ∧ i = .int .i64 k ∧ x = .int .u64 z ∧ Cn s.toList k z) (fun _ i => s.size - (intOf i).toNat)
  case atStart => exact ⟨0, 0, Nat.zero_le _, rfl, rfl, ⟨by simp [val], by simp⟩⟩
  case round =>
    obtain ⟨k, x, hk, rfl, rfl, hC⟩ := hrel
    by_cases hlt : k < s.size
    · obtain ⟨b0, b1⟩ := hC.bound (by omega)
      have HC : Hid (Cn s.toList k x) := hC
      clear hC
      by_cases hd : 48 ≤ s[k].toNat ∧ s[k].toNat ≤ 57
      · obtain ⟨d1, d2⟩ := hd
        have HS : Hid _ := HC.out.step hlt d1 d2
        go_wp2_with fail
        refine (dig_yes _ _ (by omega) (by omega)).mono ?_
        rintro e w' ⟨rfl, rfl⟩
        go_wp2_with fail
        go_round
        case rel => exact ⟨k + 1, _, by omega, by go_num, rfl, HS.out⟩
        case measure => simp [intOf]; omega
      · have hv : v = false := by
          rw [HV.out]
          have : s.toList.all dg = false := by
            cases e : s.toList.all dg with
            | false => rfl
            | true => exact absurd ((all_list s).1 e k hlt) hd
          simp [canon, this]
        subst hv
        go_wp2_with fail
        refine (dig_no _ _ (by omega)).mono ?_
        rintro e w' ⟨rfl, rfl⟩
        go_wp2_with fail
        go_ret
        exact ⟨rfl, Below.refl _ _⟩
    · obtain rfl : k = s.size := by omega
      have ht : s.toList.take s.size = s.toList := List.take_of_length_le (by rw [HL.out]; omega)
      have hn := hC.num
      have ha := hC.dgs
      have hb := hC.bound18 hm
      rw [ht] at hn ha hb
      have HN : Hid (x = (val s.toList : Int)) := hn
      have hvv : v = (utoa (val s.toList) == s.toList) := by
        rw [HV.out]
        have := HL.out
        simp [canon, ha]; omega
      clear hn ha hC ht
      have HVV : Hid (v = (utoa (val s.toList) == s.toList)) := hvv
      have HB : Hid (val s.toList < 10000000000000000000) := hb
      clear hvv hb
      go_wp2_with fail
      refine (utoa_any _ _ _ HB.out HN.out).mono ?_
      rintro e w1 ⟨rfl, hB⟩
      go_wp2_with fail
      go_ret
      exact ⟨by rw [HVV.out]; rfl, hB⟩
end Go.Proofs.Qxb6001200a.Pt

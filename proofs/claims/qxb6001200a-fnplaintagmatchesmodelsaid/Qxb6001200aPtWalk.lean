/-
  THE WALKS OF plainTag AND utoa.
-/
import Derived.Test.Qxb6001200aRows
import Derived.Test.Qxb6001200aPtPlain
import Derived.WalkKit
import Derived.WalkLawsBesides
import Derived.WalkSpells
import Derived.Laws.IdiomStrings
import Derived.Deep.OwnRows
import Derived.Deep.LoopGhost
import Derived.Deep.QuietTactic
import Derived.BigQuiet
import Derived.Below
namespace Go.Proofs.Qxb6001200a.Pt
open Go.RowKit Go.Deep
set_option linter.unusedVariables false

/-- The nine words, each by its own walk. -/
theorem pt_word1 (w : World) : Calls Try.prog 12 #[.string ⟨#[116, 114, 117, 101]⟩] w fun e w' => e = .returned (.string ⟨#[33, 33, 98, 111, 111, 108]⟩) ∧ w = w' := by
  go_enter Try.func12, Try.ntmps12
  go_wp2
  go_ret
  exact ⟨rfl, rfl⟩
theorem pt_word9 (w : World) : Calls Try.prog 12 #[.string ⟨#[78, 85, 76, 76]⟩] w fun e w' => e = .returned (.string ⟨#[33, 33, 110, 117, 108, 108]⟩) ∧ w = w' := by
  go_enter Try.func12, Try.ntmps12
  go_wp2
  go_ret
  exact ⟨rfl, rfl⟩

theorem not_words {l : List UInt8} (hb : isB l = false) (hn : isN l = false) :
    (l == [116, 114, 117, 101]) = false ∧ (l == [84, 114, 117, 101]) = false ∧ (l == [84, 82, 85, 69]) = false ∧ (l == [102, 97, 108, 115, 101]) = false ∧ (l == [70, 97, 108, 115, 101]) = false ∧ (l == [70, 65, 76, 83, 69]) = false ∧
    (l == [110, 117, 108, 108]) = false ∧ (l == [78, 117, 108, 108]) = false ∧ (l == [78, 85, 76, 76]) = false := by
  simp only [isB, isN, Bool.or_eq_false_iff] at hb hn
  exact ⟨hb.1, hb.2.1, hb.2.2.1, hb.2.2.2.1, hb.2.2.2.2.1, hb.2.2.2.2.2, hn.1, hn.2.1, hn.2.2⟩

theorem pt_str (s : ByteArray) (w : World) (hs : 0 < s.size) (hm : s.size ≤ maxLen) (hb : isB s.toList = false) (hn : isN s.toList = false) (hd : s[0].toNat < 48 ∨ 57 < s[0].toNat) :
    Calls Try.prog 12 #[.string s] w fun e w' => e = .returned (.string ⟨#[33, 33, 115, 116, 114]⟩) ∧ w = w' := by
  obtain ⟨n1, n2, n3, n4, n5, n6, n7, n8, n9⟩ := not_words hb hn
  unfold maxLen at hm
  clear hb hn
  by_cases h1 : s[0].toNat < 48
  · clear hd
    go_enter Try.func12, Try.ntmps12
    go_wp2
    go_ret
    exact ⟨rfl, rfl⟩
  · have h2 : 57 < s[0].toNat := by omega
    clear hd
    go_enter Try.func12, Try.ntmps12
    go_wp2
    go_ret
    exact ⟨rfl, rfl⟩

/-- It opens with a digit and is longer than 18 bytes. -/
theorem pt_long (s : ByteArray) (w : World) (hs : 18 < s.size) (hm : s.size ≤ maxLen) (hb : isB s.toList = false) (hn : isN s.toList = false) (h1 : 48 ≤ s[0].toNat) (h2 : s[0].toNat ≤ 57) :
    Calls Try.prog 12 #[.string s] w fun e w' => e = .returned (.string ⟨#[]⟩) ∧ w = w' := by
  obtain ⟨n1, n2, n3, n4, n5, n6, n7, n8, n9⟩ := not_words hb hn
  unfold maxLen at hm
  clear hb hn
  go_enter Try.func12, Try.ntmps12
  go_wp2
  go_ret
  exact ⟨rfl, rfl⟩
/-- It opens with a zero and goes on. -/
theorem pt_zero (s : ByteArray) (w : World) (hs : 1 < s.size) (hm : s.size ≤ 18) (hb : isB s.toList = false) (hn : isN s.toList = false) (h1 : ((s[0].toNat : Int) == 48) = true) (h2 : 48 ≤ s[0].toNat) (h3 : s[0].toNat ≤ 57) :
    Calls Try.prog 12 #[.string s] w fun e w' => e = .returned (.string ⟨#[]⟩) ∧ w = w' := by
  obtain ⟨n1, n2, n3, n4, n5, n6, n7, n8, n9⟩ := not_words hb hn
  clear hb hn
  go_enter Try.func12, Try.ntmps12
  go_wp2
  go_ret
  exact ⟨rfl, rfl⟩

set_option maxHeartbeats 400000 in
theorem pt_loop (s : ByteArray) (r : ByteArray) (w : World) (hs0 : 0 < s.size) (hs2 : s.size ≤ 18) (hb : isB s.toList = false) (hn : isN s.toList = false) (h1 : 48 ≤ s[0].toNat) (h2 : s[0].toNat ≤ 57)
    (hcond : s.size ≤ 1 ∨ (1 < s.size ∧ ((s[0].toNat : Int) == 48) = false))
    (hyes : Hid ((∀ t (h : t < s.size), 48 ≤ s[t].toNat ∧ s[t].toNat ≤ 57) → r = ⟨#[33, 33, 105, 110, 116]⟩)) (hno : Hid (¬ (∀ t (h : t < s.size), 48 ≤ s[t].toNat ∧ s[t].toNat ≤ 57) → r = ⟨#[]⟩)) :
    Calls Try.prog 12 #[.string s] w fun e w' => e = .returned (.string r) ∧ w = w' := by
  obtain ⟨n1, n2, n3, n4, n5, n6, n7, n8, n9⟩ := not_words hb hn
  clear hb hn
  rcases hcond with hc | ⟨hc, h48⟩
  · have hs1 : decide ((1 : Int) < (s.size : Int)) = false := decide_eq_false (by omega)
    go_enter Try.func12, Try.ntmps12
    go_wp2
    clear n1 n2 n3 n4 n5 n6 n7 n8 n9 h1 h2
    go_loop [40] (fun i => ∃ k : Nat, k ≤ s.size ∧ i = .int .i64 k ∧ Hid (∀ t (h : t < s.size), t < k → 48 ≤ s[t].toNat ∧ s[t].toNat ≤ 57)) (fun i => s.size - (intOf i).toNat)
    case atStart => exact ⟨0, Nat.zero_le _, rfl, fun t _ ht => absurd ht (Nat.not_lt_zero _)⟩
    case round =>
      obtain ⟨k, hk, rfl, hE⟩ := hrel
      by_cases hlt : k < s.size
      · by_cases q1 : s[k].toNat < 48
        · have hr := hno.out (fun hall => by have := hall k hlt; omega)
          subst hr
          go_wp2
          go_ret
          exact ⟨rfl, rfl⟩
        · by_cases q2 : 57 < s[k].toNat
          · have hr := hno.out (fun hall => by have := hall k hlt; omega)
            subst hr
            go_wp2
            go_ret
            exact ⟨rfl, rfl⟩
          · go_wp2
            go_round
            case rel => exact ⟨k + 1, by omega, by go_num, fun t h ht => (by
              by_cases e : t = k
              · subst e; omega
              · exact hE t h (by omega))⟩
            case measure => simp [intOf]; omega
      · have hr := hyes.out (fun t h => hE t h (by omega))
        subst hr
        go_wp2
        go_ret
        exact ⟨rfl, rfl⟩
  · skip
    go_enter Try.func12, Try.ntmps12
    go_wp2
    clear n1 n2 n3 n4 n5 n6 n7 n8 n9 h1 h2 h48
    go_loop [40] (fun i => ∃ k : Nat, k ≤ s.size ∧ i = .int .i64 k ∧ Hid (∀ t (h : t < s.size), t < k → 48 ≤ s[t].toNat ∧ s[t].toNat ≤ 57)) (fun i => s.size - (intOf i).toNat)
    case atStart => exact ⟨0, Nat.zero_le _, rfl, fun t _ ht => absurd ht (Nat.not_lt_zero _)⟩
    case round =>
      obtain ⟨k, hk, rfl, hE⟩ := hrel
      by_cases hlt : k < s.size
      · by_cases q1 : s[k].toNat < 48
        · have hr := hno.out (fun hall => by have := hall k hlt; omega)
          subst hr
          go_wp2
          go_ret
          exact ⟨rfl, rfl⟩
        · by_cases q2 : 57 < s[k].toNat
          · have hr := hno.out (fun hall => by have := hall k hlt; omega)
            subst hr
            go_wp2
            go_ret
            exact ⟨rfl, rfl⟩
          · go_wp2
            go_round
            case rel => exact ⟨k + 1, by omega, by go_num, fun t h ht => (by
              by_cases e : t = k
              · subst e; omega
              · exact hE t h (by omega))⟩
            case measure => simp [intOf]; omega
      · have hr := hyes.out (fun t h => hE t h (by omega))
        subst hr
        go_wp2
        go_ret
        exact ⟨rfl, rfl⟩
end Go.Proofs.Qxb6001200a.Pt

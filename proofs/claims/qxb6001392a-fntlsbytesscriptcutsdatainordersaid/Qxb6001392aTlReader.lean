/-
  THE READER: ZZNewTlsReader, ZZTlsBytes, ZZTlsState.
-/
import Derived.Test.Qxb6001392aTlParts
namespace Go.Proofs.Qxb6001392a.Tl
open Go.RowKit Go.Deep
set_option linter.unusedVariables false

theorem new_any (a : Option Addr) (n c : Nat) (sh : Bool) (w : World) :
    Calls Try.prog 8 #[.slice a n c, .bool sh] w fun e w' => e = .returned (.pointer (some ⟨w.heap.size, 0, none⟩)) ∧ w' = w.alloc (.cells #[.slice a n c, .bool sh] 36) := by
  go_enter Try.func8, Try.ntmps8
  go_wp2
  go_ret
  exact ⟨rfl, rfl⟩

theorem state_any (G : Nat) (sh : Bool) (a : Option Addr) (n c : Nat) (w : World) (c0 : w.cell? ⟨G, 0, none⟩ = some (.slice a n c)) (c1 : w.cell? ⟨G, 1, none⟩ = some (.bool sh)) :
    Calls Try.prog 10 #[.pointer (some ⟨G, 0, none⟩)] w fun e w' => e = .returned (.tuple #[.slice a n c, .bool sh]) ∧ ∃ q, w' = w.drewN q := by
  go_enter Try.func10, Try.ntmps10
  go_wp2
  go_quiet (fail)
  go_wp2
  go_ret2
  exact ⟨rfl, _, rfl⟩

theorem bytes_was (G : Nat) (n : Int) (w : World) (c1 : w.cell? ⟨G, 1, none⟩ = some (.bool true)) (f1 : w.frozen? ⟨G, 1, none⟩ = false) :
    Calls Try.prog 14 #[.pointer (some ⟨G, 0, none⟩), .int .i64 n] w fun e w' => e = .returned (.slice none 0 0) ∧ w' = w.setCell ⟨G, 1, none⟩ (.bool true) := by
  go_enter Try.func14, Try.ntmps14
  go_wp2
  go_ret
  exact ⟨rfl, rfl⟩
theorem bytes_more (G : Nat) (n : Int) (a : Option Addr) (m c : Nat) (w : World) (c0 : w.cell? ⟨G, 0, none⟩ = some (.slice a m c)) (c1 : w.cell? ⟨G, 1, none⟩ = some (.bool false)) (f1 : w.frozen? ⟨G, 1, none⟩ = false) (hn : (m : Int) < n) :
    Calls Try.prog 14 #[.pointer (some ⟨G, 0, none⟩), .int .i64 n] w fun e w' => e = .returned (.slice none 0 0) ∧ w' = w.setCell ⟨G, 1, none⟩ (.bool true) := by
  go_enter Try.func14, Try.ntmps14
  go_wp2
  go_ret
  exact ⟨rfl, rfl⟩
theorem bytes_cut (G : Nat) (n : Nat) (b off m c : Nat) (w : World) (c0 : w.cell? ⟨G, 0, none⟩ = some (.slice (some ⟨b, off, none⟩) m c)) (c1 : w.cell? ⟨G, 1, none⟩ = some (.bool false)) (f0 : w.frozen? ⟨G, 0, none⟩ = false) (hn : n ≤ m) (hm : m ≤ c) (hc : n < c) :
    Calls Try.prog 14 #[.pointer (some ⟨G, 0, none⟩), .int .i64 (n : Int)] w fun e w' => e = .returned (.slice (some ⟨b, off, none⟩) n c) ∧ w' = w.setCell ⟨G, 0, none⟩ (.slice (some ⟨b, off + n, none⟩) (m - n) (c - n)) := by
  go_enter Try.func14, Try.ntmps14
  go_wp2
  go_ret
  exact ⟨rfl, rfl⟩
theorem bytes_all (G : Nat) (n : Nat) (a : Option Addr) (w : World) (c0 : w.cell? ⟨G, 0, none⟩ = some (.slice a n n)) (c1 : w.cell? ⟨G, 1, none⟩ = some (.bool false)) (f0 : w.frozen? ⟨G, 0, none⟩ = false) :
    Calls Try.prog 14 #[.pointer (some ⟨G, 0, none⟩), .int .i64 (n : Int)] w fun e w' => e = .returned (.slice a n n) ∧ w' = w.setCell ⟨G, 0, none⟩ (.slice a 0 0) := by
  go_enter Try.func14, Try.ntmps14
  go_wp2
  go_ret
  exact ⟨rfl, rfl⟩

theorem Rd.take {kd : IntKind} {w : World} {a : Option Addr} {l : List Int} (h : Rd kd w a l) (n : Nat) : Rd kd w a (l.take n) := by
  rcases h with h | ⟨b, off, ha, hc⟩
  · left; rw [h]; simp
  · refine Or.inr ⟨b, off, ha, fun i hi => ?_⟩
    rw [List.length_take] at hi
    rw [hc i (by omega), List.getD_eq_getElem?_getD, List.getD_eq_getElem?_getD, List.getElem?_take_of_lt (by omega)]
theorem Rd.drop {kd : IntKind} {w : World} {b off : Nat} {l : List Int} (h : Rd kd w (some ⟨b, off, none⟩) l) (n : Nat) : Rd kd w (some ⟨b, off + n, none⟩) (l.drop n) := by
  rcases h with h | ⟨b', off', ha, hc⟩
  · left; rw [h]; simp
  · obtain ⟨rfl, rfl⟩ : b = b' ∧ off = off' := by simpa using ha
    refine Or.inr ⟨b, off + n, rfl, fun i hi => ?_⟩
    rw [List.length_drop] at hi
    rw [Nat.add_assoc, hc (n + i) (by omega), List.getD_eq_getElem?_getD, List.getD_eq_getElem?_getD, List.getElem?_drop]

/-- ZZTlsBytes: refused. -/
theorem zt_refuse (G : Nat) (n : Int) (a : Option Addr) (m : Nat) (sh : Bool) (w : World) (c0 : Hid (w.cell? ⟨G, 0, none⟩ = some (.slice a m m))) (c1 : Hid (w.cell? ⟨G, 1, none⟩ = some (.bool sh))) (f1 : Hid (w.frozen? ⟨G, 1, none⟩ = false)) (hn : sh = true ∨ (m : Int) < n) :
    Calls Try.prog 9 #[.pointer (some ⟨G, 0, none⟩), .int .i64 n] w fun e w' => e = .returned (.slice none 0 0) ∧ w' = w.setCell ⟨G, 1, none⟩ (.bool true) := by
  have h : Calls Try.prog 14 #[.pointer (some ⟨G, 0, none⟩), .int .i64 n] w fun e w' => e = .returned (.slice none 0 0) ∧ w' = w.setCell ⟨G, 1, none⟩ (.bool true) := by
    cases sh with
    | true => exact bytes_was G n w c1.out f1.out
    | false => exact bytes_more G n a m m w c0.out c1.out f1.out (by simpa using hn)
  have H := h
  clear h hn
  go_enter Try.func9, Try.ntmps9
  go_wp2_with fail
  refine H.mono ?_
  rintro e w' ⟨rfl, rfl⟩
  clear H
  go_wp2_with fail
  go_ret
  exact ⟨rfl, rfl⟩

/-- ZZTlsBytes: a piece. -/
theorem zt_ok (G : Nat) (n : Nat) (a : Option Addr) (m : Nat) (l : List Int) (w2 w : World) (c0 : Hid (w.cell? ⟨G, 0, none⟩ = some (.slice a m m))) (c1 : Hid (w.cell? ⟨G, 1, none⟩ = some (.bool false))) (f0 : Hid (w.frozen? ⟨G, 0, none⟩ = false)) (hn : n ≤ m)
    (hl : Hid (l.length = m)) (hr : Hid (Rd .u8 w2 a l)) :
    Calls Try.prog 9 #[.pointer (some ⟨G, 0, none⟩), .int .i64 (n : Int)] w fun e w' => ∃ a1 a2, e = .returned (.slice a1 n m) ∧ w' = w.setCell ⟨G, 0, none⟩ (.slice a2 (m - n) (m - n)) ∧ Rd .u8 w2 a1 (l.take n) ∧ Rd .u8 w2 a2 (l.drop n) := by
  have h : Calls Try.prog 14 #[.pointer (some ⟨G, 0, none⟩), .int .i64 (n : Int)] w fun e w' => ∃ a1 a2, e = .returned (.slice a1 n m) ∧ w' = w.setCell ⟨G, 0, none⟩ (.slice a2 (m - n) (m - n)) ∧ Rd .u8 w2 a1 (l.take n) ∧ Rd .u8 w2 a2 (l.drop n) := by
    by_cases hnm : n = m
    · subst hnm
      refine (bytes_all G n a w c0.out c1.out f0.out).mono ?_
      rintro e w' ⟨rfl, rfl⟩
      refine ⟨a, a, rfl, by rw [Nat.sub_self], hr.out.take n, Or.inl ?_⟩
      rw [List.drop_eq_nil_iff]
      exact Nat.le_of_eq hl.out
    · obtain ⟨b, off, rfl, _⟩ := hr.out.at (by rw [hl.out]; omega)
      refine (bytes_cut G n b off m m w c0.out c1.out f0.out hn (Nat.le_refl _) (by omega)).mono ?_
      rintro e w' ⟨rfl, rfl⟩
      exact ⟨_, _, rfl, rfl, hr.out.take n, hr.out.drop n⟩
  have H := h
  clear h hn
  go_enter Try.func9, Try.ntmps9
  go_wp2_with fail
  refine H.mono ?_
  rintro e w' ⟨a1, a2, rfl, rfl, h1, h2⟩
  clear H
  go_wp2_with fail
  go_ret
  exact ⟨a1, a2, rfl, rfl, h1, h2⟩
end Go.Proofs.Qxb6001392a.Tl

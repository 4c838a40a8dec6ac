/-
  THE WALK OF THE LAW FnPlainTagIntegerTexts.
-/
import Derived.Test.Qxb6001200aPtUtoa
import Derived.Test.Qxb6001200aPtTag
namespace Go.Proofs.Qxb6001200a.Pt
open Go.RowKit Go.Deep
set_option linter.unusedVariables false

theorem utoa_any (n : Nat) (x : Int) (w : World) (hn : n < 10000000000000000000) (hx : x = (n : Int)) : Calls Try.prog 9 #[.int .u64 x] w fun e w' => e = .returned (.string ⟨(utoa n).toArray⟩) ∧ Below w.heap.size w w' := by
  subst hx
  by_cases h : n = 0
  · subst h
    exact utoa_zero w
  · have e : utoa n = decF 20 n := by unfold utoa; rw [if_neg h]
    rw [e]
    exact utoa_pos n w (by simpa using h) hn

theorem not_neg (n : Int) (h0 : n < 0) (h1 : -9223372036854775808 ≤ n) : bits .xor .i64 (-1) n = -1 - n := by
  show IntKind.i64.wrap ((BitVec.ofInt 64 (-1) ^^^ BitVec.ofInt 64 n).toNat : Int) = _
  have h2 : BitVec.ofInt 64 (-1) = BitVec.allOnes 64 := by decide
  rw [h2, BitVec.allOnes_xor, BitVec.toNat_not, BitVec.toNat_ofInt]
  simp [IntKind.wrap, IntKind.bits, IntKind.signed]
  omega
theorem mag_eq (n : Int) (h0 : n < 0) (h1 : -9223372036854775808 ≤ n) : IntKind.u64.wrap (IntKind.u64.wrap (bits .xor .i64 (-1) n) + 1) = ((-n).toNat : Int) := by
  rw [not_neg n h0 h1]
  simp [IntKind.wrap, IntKind.bits, IntKind.signed]
  omega

theorem size_mk (l : List UInt8) : (⟨l.toArray⟩ : ByteArray).size = l.length := rfl
theorem cat_mk (c : UInt8) (l : List UInt8) : (⟨#[c]⟩ : ByteArray) ++ ⟨l.toArray⟩ = ⟨(c :: l).toArray⟩ := ByteArray.mk_append_mk [c] l

set_option maxHeartbeats 400000 in
theorem ints_neg (n : Int) (w : World) (h0 : n < 0) (h1 : -9223372036854775808 ≤ n) :
    Calls Try.prog 4 #[.int .i64 n] w fun e w' => e = .returned (.bool true) ∧ Below w.heap.size w w' := by
  obtain ⟨m, hm⟩ : ∃ m, m = (-n).toNat := ⟨_, rfl⟩
  have HM : Hid (IntKind.u64.wrap (IntKind.u64.wrap (bits .xor .i64 (-1) n) + 1) = (m : Int)) := by rw [hm]; exact mag_eq n h0 h1
  have hm2 : m < 10000000000000000000 := by omega
  clear hm
  have hl := utoa_len m
  go_enter Try.func4, Try.ntmps4
  go_wp2_with fail
  refine (utoa_any m _ _ hm2 HM.out).mono ?_
  rintro e w1 ⟨rfl, hB⟩
  go_wp2_with fail
  refine (zp_any _ [33, 33, 115, 116, 114] _ ?_ ?_ ?_).mono ?_
  · rw [cat_mk, size_mk]; simp
  · rw [cat_mk, size_mk]; simp [maxLen]; omega
  · show _ = _
    rw [cat_mk, ByteArray.toList_mk, tag_dash]
  rintro e w2 ⟨rfl, rfl⟩
  go_wp2
  go_ret
  exact ⟨rfl, hB⟩

set_option maxHeartbeats 400000 in
theorem ints_big (m : Nat) (x : Int) (w : World) (h0 : (1000000000000000000 : Int) ≤ x) (H0 : Hid (1000000000000000000 ≤ m)) (H1 : Hid (m < 10000000000000000000)) (h1 : x ≤ 9223372036854775807) (HM : Hid (x = (m : Int))) :
    Calls Try.prog 4 #[.int .i64 x] w fun e w' => e = .returned (.bool true) ∧ Below w.heap.size w w' := by
  have hl := utoa_len m
  go_enter Try.func4, Try.ntmps4
  go_wp2_with fail
  refine (utoa_any m _ _ H1.out HM.out).mono ?_
  rintro e w1 ⟨rfl, hB⟩
  go_wp2_with fail
  refine (zp_any _ [] _ ?_ ?_ ?_).mono ?_
  · rw [size_mk]; exact List.length_pos_iff.2 (utoa_ne m)
  · rw [size_mk]; simp [maxLen]; omega
  · show _ = _
    rw [ByteArray.toList_mk, tag_long m H0.out]
  rintro e w2 ⟨rfl, rfl⟩
  go_wp2
  go_ret
  exact ⟨rfl, hB⟩

set_option maxHeartbeats 400000 in
theorem ints_small (m : Nat) (x : Int) (w : World) (h0 : x < (1000000000000000000 : Int)) (H0 : Hid (m < 1000000000000000000)) (H1 : Hid (m < 10000000000000000000)) (h1 : 0 ≤ x) (HM : Hid (x = (m : Int))) :
    Calls Try.prog 4 #[.int .i64 x] w fun e w' => e = .returned (.bool true) ∧ Below w.heap.size w w' := by
  have hl := utoa_len m
  go_enter Try.func4, Try.ntmps4
  go_wp2_with fail
  refine (utoa_any m _ _ H1.out HM.out).mono ?_
  rintro e w1 ⟨rfl, hB⟩
  go_wp2_with fail
  refine (zp_any _ [33, 33, 105, 110, 116] _ ?_ ?_ ?_).mono ?_
  · rw [size_mk]; exact List.length_pos_iff.2 (utoa_ne m)
  · rw [size_mk]; simp [maxLen]; omega
  · show _ = _
    rw [ByteArray.toList_mk, tag_short m H0.out]
  rintro e w2 ⟨rfl, rfl⟩
  go_wp2_with fail
  refine (zp_any _ [] _ ?_ ?_ ?_).mono ?_
  · rw [cat_mk, size_mk]; simp
  · rw [cat_mk, size_mk]; simp [maxLen]; omega
  · show _ = _
    rw [cat_mk, ByteArray.toList_mk, tag_zero _ (utoa_ne m)]
  rintro e w2 ⟨rfl, rfl⟩
  go_wp2
  go_ret
  exact ⟨rfl, hB⟩
end Go.Proofs.Qxb6001200a.Pt

/-
  THE WALKS OF isDigit, lowerASCII, upperASCII.
-/
import Derived.Test.Qxb6001200aPtUtoa
import Derived.Test.Qxb6001200aPtTag
namespace Go.Proofs.Qxb6001200a.Pt
open Go.RowKit Go.Deep
set_option linter.unusedVariables false

theorem info5 : (Try.prog.info? 5).map (fun i => (i.zero, i.size, i.bytes)) = some (some (.int .u8 0), 1, 1) := by kernel_rfl

/-- isDigit. -/
theorem dig_yes (c : Int) (w : World) (h1 : 48 ≤ c) (h2 : c ≤ 57) : Calls Try.prog 11 #[.int .u8 c] w fun e w' => e = .returned (.bool true) ∧ w = w' := by
  go_enter Try.func11, Try.ntmps11
  go_wp2
  go_ret
  exact ⟨rfl, rfl⟩
theorem dig_no (c : Int) (w : World) (h : c < 48 ∨ 57 < c) : Calls Try.prog 11 #[.int .u8 c] w fun e w' => e = .returned (.bool false) ∧ w = w' := by
  by_cases h1 : c < 48
  · have hd : decide ((48 : Int) ≤ c) = false := decide_eq_false (by omega)
    clear h
    go_enter Try.func11, Try.ntmps11
    go_wp2
    go_ret
    exact ⟨rfl, rfl⟩
  · have h2 : decide (c ≤ 57) = false := decide_eq_false (by omega)
    clear h
    go_enter Try.func11, Try.ntmps11
    go_wp2
    go_ret
    exact ⟨rfl, rfl⟩

/-- The row when k bytes are turned. -/
def rowM (f : UInt8 → UInt8) (l : List UInt8) (k : Nat) : Nat → Value := fun t => if t < k then .int .u8 ((f (l.getD t 0)).toNat : Int) else .int .u8 0

structure Cs (w wr : World) (f : UInt8 → UInt8) (l : List UInt8) (k : Nat) : Prop where
  below : Below w.heap.size w wr
  row : wr.rowIs w.heap.size 5 l.length (rowM f l k)

theorem Cs.start (w : World) (f : UInt8 → UInt8) (l : List UInt8) : Cs w (w.alloc (.cells (madeCells #[.int .u8 0] l.length) 5)) f l 0 :=
  ⟨(Below.refl _ _).alloc (Nat.le_refl _) _, (World.rowIs_made w _ _ 5).congr fun t _ => by simp [rowM]⟩
theorem Cs.step {w wr : World} {f : UInt8 → UInt8} {l : List UInt8} {k : Nat} (h : Cs w wr f l k) (v : Int) (hv : v = ((f (l.getD k 0)).toNat : Int)) : Cs w (wr.setCell ⟨w.heap.size, k, none⟩ (.int .u8 v)) f l (k + 1) := by
  subst hv
  refine ⟨h.below.setCell (Nat.le_refl _) _, (h.row.set k _).congr fun t _ => ?_⟩
  unfold rowM
  by_cases e : t = k
  · subst e; simp
  · rw [if_neg e]
    by_cases hlt : t < k
    · rw [if_pos hlt, if_pos (by omega)]
    · rw [if_neg hlt, if_neg (by omega)]
theorem Cs.conv {w wr : World} {f : UInt8 → UInt8} {l : List UInt8} {n : Nat} (h : Cs w wr f l l.length) (hn : l.length = n) :
    (convert 28 9 (.slice (some ⟨w.heap.size, 0, none⟩) n n)).run Try.prog wr = .ok (.string ⟨(l.map f).toArray⟩) wr := by
  have hc := run_convert_bytes_back (P := Try.prog) wr 28 9 5 ⟨w.heap.size, 0, none⟩ n (l.map f) Try.underlying28 Try.underlying5 Try.underlying9 (fun j hj => by
    rw [List.length_map] at hj
    rw [Addr.add_lit, Nat.zero_add, h.row.cell hj]
    unfold rowM
    rw [if_pos hj]
    simp [hj])
  rw [List.length_map, hn] at hc
  exact hc
theorem getD_list (s : ByteArray) (t : Nat) (h : t < s.size) : s.toList.getD t 0 = s[t] := by
  have := get_list s t h
  simp [List.getD, this]

theorem low_yes {c : UInt8} (h1 : 65 ≤ c.toNat) (h2 : c.toNat ≤ 90) : (c.toNat : Int) + 32 = ((low c).toNat : Int) := by
  unfold low
  rw [if_pos ⟨h1, h2⟩, UInt8.toNat_add]
  simp; omega
theorem low_no {c : UInt8} (h : ¬ (65 ≤ c.toNat ∧ c.toNat ≤ 90)) : (c.toNat : Int) = ((low c).toNat : Int) := by
  unfold low
  rw [if_neg h]
theorem upp_yes {c : UInt8} (h1 : 97 ≤ c.toNat) (h2 : c.toNat ≤ 122) : (c.toNat : Int) - 32 = ((upp c).toNat : Int) := by
  unfold upp
  rw [if_pos ⟨h1, h2⟩, UInt8.toNat_sub_of_le _ _ (by rw [UInt8.le_iff_toNat_le]; simp; omega)]
  simp; omega
theorem upp_no {c : UInt8} (h : ¬ (97 ≤ c.toNat ∧ c.toNat ≤ 122)) : (c.toNat : Int) = ((upp c).toNat : Int) := by
  unfold upp
  rw [if_neg h]

set_option maxHeartbeats 400000 in
/-- lowerASCII. -/
theorem lower_any (s : ByteArray) (w : World) (h0 : 0 < s.size) (hm : s.size ≤ 1048576) : Calls Try.prog 13 #[.string s] w fun e w' => e = .returned (.string ⟨(s.toList.map low).toArray⟩) ∧ Below w.heap.size w w' := by
  have hl := len_list s
  have HST : Hid (Cs w (w.alloc (.cells (madeCells #[.int .u8 0] s.size) 5)) low s.toList 0) := by rw [← hl]; exact Cs.start w low s.toList
  have HL : Hid (s.toList.length = s.size) := hl
  clear hl
  have hmk := run_make_row' (P := Try.prog) 28 5 (.int .u8 0) 1 Try.underlying28 info5 rfl .i64 .i64 s.size (by omega) (by omega)
  go_enter Try.func13, Try.ntmps13
  go_wp2
  go_loopw [4] (fun i wr => ∃ k : Nat, k ≤ s.size ∧ i = .int .i64 k ∧ Cs w wr low s.toList k) (fun i _ => s.size - (intOf i).toNat)
  case atStart => exact ⟨0, Nat.zero_le _, rfl, HST.out⟩
  case round =>
    obtain ⟨k, hk, rfl, hC⟩ := hrel
    clear HST hmk
    by_cases hlt : k < s.size
    · have hkl : k < s.toList.length := by rw [HL.out]; exact hlt
      have q1 := hC.row.cell hkl
      have q2 := hC.row.frozen k
      have HC : Hid (Cs w wr low s.toList k) := hC
      have HG : Hid (s.toList.getD k 0 = s[k]) := getD_list s k hlt
      clear hC hkl
      by_cases p1 : 65 ≤ s[k].toNat
      · by_cases p2 : s[k].toNat ≤ 90
        · go_wp2
          go_roundw
          case rel => exact ⟨k + 1, by omega, by go_num, HC.out.step _ (by rw [HG.out]; exact low_yes p1 p2)⟩
          case measure => simp [intOf]; omega
        · go_wp2
          go_roundw
          case rel => exact ⟨k + 1, by omega, by go_num, HC.out.step _ (by rw [HG.out]; exact low_no (by omega))⟩
          case measure => simp [intOf]; omega
      · have hd : decide ((65 : Int) ≤ (s[k].toNat : Int)) = false := decide_eq_false (by omega)
        go_wp2
        go_roundw
        case rel => exact ⟨k + 1, by omega, by go_num, HC.out.step _ (by rw [HG.out]; exact low_no (by omega))⟩
        case measure => simp [intOf]; omega
    · obtain rfl : k = s.size := by omega
      have hB := hC.below
      have hcv := (show Cs w wr low s.toList s.toList.length by rw [HL.out]; exact hC).conv HL.out
      clear hC
      go_wp2
      go_ret
      exact ⟨rfl, hB⟩

set_option maxHeartbeats 400000 in
/-- upperASCII. -/
theorem upper_any (s : ByteArray) (w : World) (h0 : 0 < s.size) (hm : s.size ≤ 1048576) : Calls Try.prog 14 #[.string s] w fun e w' => e = .returned (.string ⟨(s.toList.map upp).toArray⟩) ∧ Below w.heap.size w w' := by
  have hl := len_list s
  have HST : Hid (Cs w (w.alloc (.cells (madeCells #[.int .u8 0] s.size) 5)) upp s.toList 0) := by rw [← hl]; exact Cs.start w upp s.toList
  have HL : Hid (s.toList.length = s.size) := hl
  clear hl
  have hmk := run_make_row' (P := Try.prog) 28 5 (.int .u8 0) 1 Try.underlying28 info5 rfl .i64 .i64 s.size (by omega) (by omega)
  go_enter Try.func14, Try.ntmps14
  go_wp2
  go_loopw [4] (fun i wr => ∃ k : Nat, k ≤ s.size ∧ i = .int .i64 k ∧ Cs w wr upp s.toList k) (fun i _ => s.size - (intOf i).toNat)
  case atStart => exact ⟨0, Nat.zero_le _, rfl, HST.out⟩
  case round =>
    obtain ⟨k, hk, rfl, hC⟩ := hrel
    clear HST hmk
    by_cases hlt : k < s.size
    · have hkl : k < s.toList.length := by rw [HL.out]; exact hlt
      have q1 := hC.row.cell hkl
      have q2 := hC.row.frozen k
      have HC : Hid (Cs w wr upp s.toList k) := hC
      have HG : Hid (s.toList.getD k 0 = s[k]) := getD_list s k hlt
      clear hC hkl
      by_cases p1 : 97 ≤ s[k].toNat
      · by_cases p2 : s[k].toNat ≤ 122
        · go_wp2
          go_roundw
          case rel => exact ⟨k + 1, by omega, by go_num, HC.out.step _ (by rw [HG.out]; exact upp_yes p1 p2)⟩
          case measure => simp [intOf]; omega
        · go_wp2
          go_roundw
          case rel => exact ⟨k + 1, by omega, by go_num, HC.out.step _ (by rw [HG.out]; exact upp_no (by omega))⟩
          case measure => simp [intOf]; omega
      · have hd : decide ((97 : Int) ≤ (s[k].toNat : Int)) = false := decide_eq_false (by omega)
        go_wp2
        go_roundw
        case rel => exact ⟨k + 1, by omega, by go_num, HC.out.step _ (by rw [HG.out]; exact upp_no (by omega))⟩
        case measure => simp [intOf]; omega
    · obtain rfl : k = s.size := by omega
      have hB := hC.below
      have hcv := (show Cs w wr upp s.toList s.toList.length by rw [HL.out]; exact hC).conv HL.out
      clear hC
      go_wp2
      go_ret
      exact ⟨rfl, hB⟩
end Go.Proofs.Qxb6001200a.Pt

/-
  THE WALK OF utoa.
-/
import Derived.Test.Qxb6001200aPtWalk
import Derived.Laws.IdiomStrings
namespace Go.Proofs.Qxb6001200a.Pt
open Go.RowKit Go.Deep
set_option linter.unusedVariables false

theorem utoa_zero (w : World) : Calls Try.prog 9 #[.int .u64 0] w fun e w' => e = .returned (.string ⟨#[48]⟩) ∧ Below w.heap.size w w' := by
  go_enter Try.func9, Try.ntmps9
  go_wp2
  go_ret
  exact ⟨rfl, Below.refl _ _⟩

/-- The buffer: from place i on it holds the digits that are written. -/
def bufF (i : Nat) (suf : List UInt8) : Nat → Value := fun t => if t < i then .int .u8 0 else .int .u8 ((suf.getD (t - i) 0).toNat : Int)

/-- What holds at the loop's head. -/
structure Ut (w wr : World) (n m i : Nat) (suf : List UInt8) : Prop where
  below : Below w.heap.size w wr
  len : suf.length = 20 - i
  dec : decF 20 n = decF i m ++ suf
  small : m < 10 ^ i
  row : wr.rowIs w.heap.size 30 20 (bufF i suf)

theorem Ut.step {w wr : World} {n m j : Nat} {suf : List UInt8} (h : Ut w wr n m (j + 1) suf) (hm : m ≠ 0) (hj : j < 20) :
    Ut w (wr.setCell ⟨w.heap.size, j, none⟩ (.int .u8 (48 + (m : Int) % 10))) n (m / 10) j (UInt8.ofNat (48 + m % 10) :: suf) := by
  refine ⟨h.below.setCell (Nat.le_refl _) _, by have := h.len; simp; omega, ?_, ?_, (h.row.set j _).congr fun t ht => ?_⟩
  · rw [h.dec]; simp [decF, hm]
  · have := h.small; rw [Nat.pow_succ] at this; omega
  · unfold bufF
    by_cases e : t = j
    · subst e
      have e2 : (48 + m % 10) % 256 = 48 + m % 10 := by omega
      simp [e2]
    · rw [if_neg e]
      by_cases hlt : t < j
      · rw [if_pos hlt, if_pos (by omega)]
      · rw [if_neg hlt, if_neg (by omega)]
        have e3 : t - j = (t - (j + 1)) + 1 := by omega
        rw [e3]
        simp

theorem Ut.conv {w wr : World} {n i : Nat} {suf : List UInt8} (h : Ut w wr n 0 i suf) (hi : i ≤ 20) :
    (convert 28 9 (.slice (some ⟨w.heap.size, i, none⟩) (20 - i) (20 - i))).run Try.prog wr = .ok (.string ⟨(decF 20 n).toArray⟩) wr := by
  have hd : decF 20 n = suf := by rw [h.dec, decF_zero]; rfl
  rw [hd, ← h.len]
  refine run_convert_bytes_back (P := Try.prog) wr 28 9 5 ⟨w.heap.size, i, none⟩ suf.length suf Try.underlying28 Try.underlying5 Try.underlying9 (fun j hj => ?_)
  have := h.len
  have hc := h.row.cell (i := i + j) (by omega)
  rw [Addr.add_lit, hc]
  unfold bufF
  rw [if_neg (by omega)]
  simp [hj]

theorem Ut.start (n : Nat) (w : World) (hn : n < 100000000000000000000) : Ut w (w.alloc (.cells #[.int .u8 0, .int .u8 0, .int .u8 0, .int .u8 0, .int .u8 0, .int .u8 0, .int .u8 0, .int .u8 0, .int .u8 0, .int .u8 0, .int .u8 0, .int .u8 0, .int .u8 0, .int .u8 0, .int .u8 0, .int .u8 0, .int .u8 0, .int .u8 0, .int .u8 0, .int .u8 0] 30)) n n 20 [] := by
  refine ⟨(Below.refl _ _).alloc (Nat.le_refl _) _, rfl, by simp, by simpa using hn, ?_⟩
  have e : (#[.int .u8 0, .int .u8 0, .int .u8 0, .int .u8 0, .int .u8 0, .int .u8 0, .int .u8 0, .int .u8 0, .int .u8 0, .int .u8 0, .int .u8 0, .int .u8 0, .int .u8 0, .int .u8 0, .int .u8 0, .int .u8 0, .int .u8 0, .int .u8 0, .int .u8 0, .int .u8 0] : Array Value) = Array.replicate 20 (.int .u8 0) := rfl
  rw [e]
  have h := World.rowIs_alloc w (Array.replicate 20 (.int .u8 0)) 30 (fun _ => .int .u8 0) (fun i hi => by simp at hi; simp [hi])
  rw [Array.size_replicate] at h
  refine h.congr fun t ht => ?_
  unfold bufF
  rw [if_pos ht]

theorem arr30 : Try.prog.arrayLen 30 = 20 := by kernel_rfl
theorem arr30' : Try.prog.underlying 30 = some (.array (Try.prog.arrayLen 30) (Try.prog.elem 30)) := by kernel_rfl
theorem size30 (w : World) : (Go.sizeOf (Try.prog.elem 30)).run Try.prog w = .ok 1 w := by kernel_rfl
/-- 'buf[k:]'. -/
theorem slice_buf (b k : Nat) (w : World) (hk : k < 20) : (Instr.sliceAt 30 (.pointer (some ⟨b, 0, none⟩)) (some (.int .i64 (k : Int))) none none).run Try.prog w = .ok (.slice (some ⟨b, k, none⟩) (20 - k) (20 - k)) w := by
  rw [run_sliceAt_array_l w 30 ⟨b, 0, none⟩ arr30' .i64 (k : Int) (by omega) (by rw [arr30]; omega), size30]
  simp only [Result.andThen, slicedAt, arr30, Int.toNat_natCast, Nat.mul_one]
  rw [if_neg (by omega), Addr.add_lit, Nat.zero_add]

set_option maxHeartbeats 400000 in
theorem utoa_pos (n : Nat) (w : World) (h0 : ((n : Int) == 0) = false) (hn : n < 10000000000000000000) : Calls Try.prog 9 #[.int .u64 n] w fun e w' => e = .returned (.string ⟨(decF 20 n).toArray⟩) ∧ Below w.heap.size w w' := by
  have HST : Hid _ := Ut.start n w (by omega)
  have HN : Hid (n ≠ 0) := by simp at h0; exact h0
  go_enter Try.func9, Try.ntmps9
  go_wp2
  go_loopw [0, 4] (fun v i wr => ∃ (m k : Nat) (suf : List UInt8), k ≤ 20 ∧ m < 10000000000000000000 ∧ v = .int .u64 m ∧ i = .int .i64 k ∧ Ut w wr n m k suf) (fun _ i _ => (intOf i).toNat)
  case atStart => exact ⟨n, 20, [], Nat.le_refl _, hn, rfl, rfl, HST.out⟩
  case round =>
    obtain ⟨m, k, suf, hk, hm, rfl, rfl, hU⟩ := hrel
    clear HST
    by_cases hm0 : 0 < m
    · obtain ⟨j, rfl⟩ : ∃ j, k = j + 1 := by
        cases k with
        | zero => have := hU.small; simp at this; omega
        | succ j => exact ⟨j, rfl⟩
      have hj : j < 20 := by omega
      have q1 : wr.cell? ⟨w.heap.size, j, none⟩ = some (.int .u8 0) := by
        have := hU.row.cell (i := j) hj
        rw [this]; simp [bufF]
      have q2 := hU.row.frozen j
      have HS : Hid _ := hU.step (by omega) hj
      clear hU
      go_wp2
      go_roundw
      case rel => exact ⟨m / 10, j, _, by omega, by omega, by go_num, by go_num, HS.out⟩
      case measure => simp [intOf]
    · obtain rfl : m = 0 := by omega
      have hk20 : k < 20 := by
        have h1 := hU.dec
        rw [decF_zero] at h1
        have h2 := hU.len
        have h3 := decF_ne 19 n HN.out
        rw [h1] at h3
        have : suf.length ≠ 0 := fun e => h3 (by simpa using List.eq_nil_of_length_eq_zero e)
        omega
      have hcv := hU.conv (by omega)
      have hB := hU.below
      clear hU
      have hsl := slice_buf w.heap.size k wr hk20
      go_wp2
      go_ret
      exact ⟨rfl, hB⟩
end Go.Proofs.Qxb6001200a.Pt

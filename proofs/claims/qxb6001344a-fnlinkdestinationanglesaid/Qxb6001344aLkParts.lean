/-
  SLICES OF BYTES THAT ARE READ; zzHas, zzClone, zzOne, zzCat.
-/
import Derived.Test.Qxb6001344aRows
import Derived.WalkKit
import Derived.WalkLawsBesides
import Derived.WalkSpells
import Derived.Deep.OwnRows
import Derived.Deep.LoopGhost
import Derived.Below
namespace Go.Proofs.Qxb6001344a.Lk
open Go.RowKit Go.Deep
set_option linter.unusedVariables false

theorem info5 : (Try.prog.info? 5).map (fun i => (i.zero, i.size, i.bytes)) = some (some (.int .u8 0), 1, 1) := by kernel_rfl

/-- The slice that begins at a reads as the numbers l. -/
def Rd (w : World) (a : Option Addr) (l : List Int) : Prop :=
  l = [] ∨ ∃ b off, a = some ⟨b, off, none⟩ ∧ ∀ i, i < l.length → w.cell? ⟨b, off + i, none⟩ = some (.int .u8 (l.getD i 0))

theorem Rd.later {w w' : World} {a : Option Addr} {l : List Int} (h : Rd w a l) (hb : Below w.heap.size w w') : Rd w' a l := by
  rcases h with h | ⟨b, off, ha, hc⟩
  · exact Or.inl h
  · by_cases hl : l = []
    · exact Or.inl hl
    · refine Or.inr ⟨b, off, ha, fun i hi => ?_⟩
      have := hc i hi
      rw [hb.cell (p := ⟨b, off + i, none⟩) (World.block_lt_of_cell? _ _ this)]
      exact this

/-- In front of a round: the address, if there is a cell. -/
theorem Rd.at {w : World} {a : Option Addr} {l : List Int} (h : Rd w a l) (hl : 0 < l.length) : ∃ b off, a = some ⟨b, off, none⟩ ∧ ∀ i, i < l.length → w.cell? ⟨b, off + i, none⟩ = some (.int .u8 (l.getD i 0)) := by
  rcases h with h | h
  · subst h; simp at hl
  · exact h

theorem mem_take_succ (l : List Int) (x : Int) (k : Nat) (hk : k < l.length) : x ∈ l.take (k + 1) ↔ x ∈ l.take k ∨ x = l.getD k 0 := by
  rw [List.take_add_one, List.mem_append, List.getElem?_eq_getElem hk]
  have e : l.getD k 0 = l[k] := by simp [List.getD, hk]
  rw [e]
  simp only [Option.toList_some, List.mem_singleton]

set_option maxHeartbeats 400000 in
/-- zzHas. -/
theorem has_any (a : Option Addr) (l : List Int) (n cap : Nat) (x : Int) (v : Bool) (w : World) (HN : Hid (l.length = n)) (hn : n ≤ 1048576) (hr : Hid (Rd w a l)) (HV : Hid (v = decide (x ∈ l))) :
    Calls Try.prog 15 #[.slice a n cap, .int .u8 x] w fun e w' => e = .returned (.bool v) ∧ w = w' := by
  go_enter Try.func15, Try.ntmps15
  go_wp2
  go_loop [5] (fun i => ∃ k : Nat, k ≤ n ∧ i = .int .i64 k ∧ Hid (¬ x ∈ l.take k)) (fun i => n - (intOf i).toNat)
  case atStart => exact ⟨0, Nat.zero_le _, rfl, by simp [Hid]⟩
  case round =>
    obtain ⟨k, hk, rfl, hE⟩ := hrel
    by_cases hlt : k < n
    · have hkl : k < l.length := by rw [HN.out]; exact hlt
      obtain ⟨b, off, rfl, hc⟩ := hr.out.at (by omega)
      have q1 := hc k hkl
      obtain ⟨y, hy⟩ : ∃ y, y = l.getD k 0 := ⟨_, rfl⟩
      rw [← hy] at q1
      have HY : Hid (y = l.getD k 0) := hy
      have HM := mem_take_succ l x k hkl
      clear hc hy
      by_cases hxy : y = x
      · have hv : v = true := by
          rw [HV.out, decide_eq_true]
          have : x ∈ l.take (k + 1) := HM.2 (Or.inr (by rw [← hxy]; exact HY.out))
          exact List.mem_of_mem_take this
        have q2 : (y == x) = true := by simpa using hxy
        clear HM hxy
        subst hv
        go_wp2
        go_ret
        exact ⟨rfl, rfl⟩
      · have q2 : (y == x) = false := by simpa using hxy
        have HE : Hid (¬ x ∈ l.take (k + 1)) := by
          intro hm
          rcases HM.1 hm with h | h
          · exact hE.out h
          · exact hxy (by rw [h]; exact HY.out)
        clear HM hxy
        go_wp2
        go_round
        case rel => exact ⟨k + 1, by omega, by go_num, HE⟩
        case measure => simp [intOf]; omega
    · have hv : v = false := by
        rw [HV.out, decide_eq_false]
        have := hE.out
        rwa [List.take_of_length_le (by rw [HN.out]; omega)] at this
      subst hv
      go_wp2
      go_ret
      exact ⟨rfl, rfl⟩

/-- The row when k numbers of L are laid. -/
def rowK (L : List Int) (k : Nat) : Nat → Value := fun t => if t < k then .int .u8 (L.getD t 0) else .int .u8 0

structure Cp (w wr : World) (L : List Int) (k : Nat) : Prop where
  below : Below w.heap.size w wr
  row : wr.rowIs w.heap.size 5 L.length (rowK L k)
theorem Cp.start (w : World) (L : List Int) (n : Nat) (h : L.length = n) : Cp w (w.alloc (.cells (madeCells #[.int .u8 0] n) 5)) L 0 := by
  subst h
  exact ⟨(Below.refl _ _).alloc (Nat.le_refl _) _, (World.rowIs_made w _ _ 5).congr fun t _ => by simp [rowK]⟩
theorem Cp.step {w wr : World} {L : List Int} {k : Nat} (h : Cp w wr L k) (v : Int) (hv : v = L.getD k 0) : Cp w (wr.setCell ⟨w.heap.size, k, none⟩ (.int .u8 v)) L (k + 1) := by
  subst hv
  refine ⟨h.below.setCell (Nat.le_refl _) _, (h.row.set k _).congr fun t _ => ?_⟩
  unfold rowK
  by_cases e : t = k
  · subst e; simp
  · rw [if_neg e]
    by_cases hlt : t < k
    · rw [if_pos hlt, if_pos (by omega)]
    · rw [if_neg hlt, if_neg (by omega)]
theorem Cp.rd {w wr : World} {L : List Int} {k : Nat} (h : Cp w wr L k) (hk : L.length ≤ k) : Rd wr (some ⟨w.heap.size, 0, none⟩) L := by
  refine Or.inr ⟨w.heap.size, 0, rfl, fun i hi => ?_⟩
  rw [Nat.zero_add, h.row.cell hi]
  unfold rowK
  rw [if_pos (by omega)]

/-- zzClone of nil. -/
theorem clone_nil (w : World) : Calls Try.prog 10 #[.slice none 0 0] w fun e w' => e = .returned (.slice none 0 0) ∧ w = w' := by
  have q22 := fun (w : World) (a : Option Addr) (n c n' c' : Nat) => Lib.run_eql_slice_nil (P := Try.prog) w 22 5 a n c n' c' Try.underlying22
  go_enter Try.func10, Try.ntmps10
  go_wp2
  go_ret
  exact ⟨rfl, rfl⟩

set_option maxHeartbeats 400000 in
theorem clone_some (x : Addr) (l : List Int) (n cap : Nat) (w : World) (HN : Hid (l.length = n)) (hn : n ≤ 1048576) (hr : Hid (Rd w (some x) l)) :
    Calls Try.prog 10 #[.slice (some x) n cap] w fun e w' => e = .returned (.slice (some ⟨w.heap.size, 0, none⟩) n n) ∧ Rd w' (some ⟨w.heap.size, 0, none⟩) l ∧ Below w.heap.size w w' := by
  have q22 := fun (w : World) (a : Option Addr) (n c n' c' : Nat) => Lib.run_eql_slice_nil (P := Try.prog) w 22 5 a n c n' c' Try.underlying22
  have hmk := run_make_row' (P := Try.prog) 22 5 (.int .u8 0) 1 Try.underlying22 info5 rfl .i64 .i64 n (by omega) (by omega)
  have HST : Hid _ := Cp.start w l n HN.out
  go_enter Try.func10, Try.ntmps10
  go_wp2
  go_loopw [4] (fun i wr => ∃ k : Nat, k ≤ n ∧ i = .int .i64 k ∧ Cp w wr l k) (fun i _ => n - (intOf i).toNat)
  case atStart => exact ⟨0, Nat.zero_le _, rfl, HST.out⟩
  case round =>
    obtain ⟨k, hk, rfl, hC⟩ := hrel
    clear HST hmk q22
    by_cases hlt : k < n
    · have hkl : k < l.length := by rw [HN.out]; exact hlt
      obtain ⟨b, off, hx, hc⟩ := hr.out.at (by omega)
      obtain rfl : x = ⟨b, off, none⟩ := by simpa using hx
      have q1 := hc k hkl
      have q0 : wr.cell? ⟨b, off + k, none⟩ = some (.int .u8 (l.getD k 0)) := (hC.below.cell (p := ⟨b, off + k, none⟩) (World.block_lt_of_cell? _ _ q1)).trans q1
      have q2 := hC.row.cell hkl
      have q3 := hC.row.frozen k
      obtain ⟨y, hy⟩ : ∃ y, y = l.getD k 0 := ⟨_, rfl⟩
      rw [← hy] at q0
      have HS : Hid _ := hC.step y hy
      clear hc hy q1 hC hx
      go_wp2
      go_roundw
      case rel => exact ⟨k + 1, by omega, by go_num, HS.out⟩
      case measure => simp [intOf]; omega
    · have hB := hC.below
      have HR : Hid _ := hC.rd (by rw [HN.out]; omega)
      clear hC
      go_wp2
      go_ret
      exact ⟨rfl, HR.out, hB⟩

/-- zzClone, whatever comes. -/
theorem clone_any (a : Option Addr) (l : List Int) (n cap : Nat) (w : World) (HN : Hid (l.length = n)) (hn : n ≤ 1048576) (hr : Hid (Rd w a l)) (h0 : a = none → n = 0 ∧ cap = 0) :
    Calls Try.prog 10 #[.slice a n cap] w fun e w' => ∃ a' c', e = .returned (.slice a' n c') ∧ Rd w' a' l ∧ Below w.heap.size w w' := by
  cases a with
  | none =>
    obtain ⟨rfl, rfl⟩ := h0 rfl
    refine (clone_nil w).mono ?_
    rintro e w' ⟨rfl, rfl⟩
    exact ⟨none, 0, rfl, hr.out, Below.refl _ _⟩
  | some x =>
    refine (clone_some x l n cap w HN hn hr).mono ?_
    rintro e w' ⟨rfl, h1, h2⟩
    exact ⟨_, _, rfl, h1, h2⟩

theorem getD_left (l1 l2 : List Int) (k : Nat) (h : k < l1.length) : l1.getD k 0 = (l1 ++ l2).getD k 0 := by
  rw [List.getD_eq_getElem?_getD, List.getD_eq_getElem?_getD, List.getElem?_append_left h]
theorem getD_right (l1 l2 : List Int) (j : Nat) : l2.getD j 0 = (l1 ++ l2).getD (l1.length + j) 0 := by
  rw [List.getD_eq_getElem?_getD, List.getD_eq_getElem?_getD, List.getElem?_append_right (by omega)]
  congr 2
  omega
/-- zzOne. -/
theorem one_any (x : Int) (w : World) :
    Calls Try.prog 16 #[.int .u8 x] w fun e w' => e = .returned (.slice (some ⟨w.heap.size, 0, none⟩) 1 1) ∧ Rd w' (some ⟨w.heap.size, 0, none⟩) [x] ∧ Below w.heap.size w w' := by
  have hmk : ∀ w, (Instr.makeSlice 22 (.int .i64 1) (.int .i64 1)).run Try.prog w = .ok (.slice (some ⟨w.heap.size, 0, none⟩) 1 1) (w.alloc (.cells #[.int .u8 0] 5)) := fun _ => by kernel_rfl
  go_enter Try.func16, Try.ntmps16
  go_wp2
  go_ret
  refine ⟨rfl, Or.inr ⟨_, _, rfl, fun i hi => ?_⟩, (Below.refl _ _).alloc (Nat.le_refl _) _⟩
  simp at hi
  subst hi
  simp

set_option maxHeartbeats 1000000 in
/-- zzCat. -/
theorem cat_any (a1 a2 : Option Addr) (l1 l2 : List Int) (n1 n2 c1 c2 : Nat) (w : World) (H1 : Hid (l1.length = n1)) (H2 : Hid (l2.length = n2)) (hn1 : n1 ≤ 1048576) (hn2 : n2 ≤ 1048576) (hr1 : Hid (Rd w a1 l1)) (hr2 : Hid (Rd w a2 l2)) :
    Calls Try.prog 13 #[.slice a1 n1 c1, .slice a2 n2 c2] w fun e w' => e = .returned (.slice (some ⟨w.heap.size, 0, none⟩) (n1 + n2) (n1 + n2)) ∧ Rd w' (some ⟨w.heap.size, 0, none⟩) (l1 ++ l2) ∧ Below w.heap.size w w' := by
  have HN : Hid ((l1 ++ l2).length = n1 + n2) := by show _ = _; rw [List.length_append, H1.out, H2.out]
  have hmk := run_make_row' (P := Try.prog) 22 5 (.int .u8 0) 1 Try.underlying22 info5 rfl .i64 .i64 (n1 + n2) (by omega) (by omega)
  have ec : ((n1 + n2 : Nat) : Int) = (n1 : Int) + (n2 : Int) := by omega
  rw [ec] at hmk
  clear ec
  have HST : Hid _ := Cp.start w (l1 ++ l2) (n1 + n2) HN.out
  go_enter Try.func13, Try.ntmps13
  go_wp2
  go_loopw [6] (fun i wr => ∃ k : Nat, k ≤ n1 ∧ i = .int .i64 k ∧ Cp w wr (l1 ++ l2) k) (fun i _ => n1 - (intOf i).toNat)
  case atStart => exact ⟨0, Nat.zero_le _, rfl, HST.out⟩
  case round =>
    obtain ⟨k, hk, rfl, hC⟩ := hrel
    clear HST hmk
    by_cases hlt : k < n1
    · have hkl : k < l1.length := by rw [H1.out]; exact hlt
      have hkL : k < (l1 ++ l2).length := by rw [HN.out]; omega
      obtain ⟨b, off, rfl, hc⟩ := hr1.out.at (by omega)
      have q1 := hc k hkl
      have q0 : wr.cell? ⟨b, off + k, none⟩ = some (.int .u8 (l1.getD k 0)) := (hC.below.cell (p := ⟨b, off + k, none⟩) (World.block_lt_of_cell? _ _ q1)).trans q1
      have q2 := hC.row.cell hkL
      have q3 := hC.row.frozen k
      obtain ⟨y, hy⟩ : ∃ y, y = l1.getD k 0 := ⟨_, rfl⟩
      rw [← hy] at q0
      have HS : Hid _ := hC.step y (by rw [hy]; exact getD_left l1 l2 k hkl)
      clear hc hy q1 hC hkl hkL
      go_wp2
      go_roundw
      case rel => exact ⟨k + 1, by omega, by go_num, HS.out⟩
      case measure => simp [intOf]; omega
    · obtain rfl : k = n1 := by omega
      have HC : Hid (Cp w wr (l1 ++ l2) k) := hC
      clear hC
      go_wp2
      go_loopw [7] (fun i wr => ∃ j : Nat, j ≤ n2 ∧ i = .int .i64 j ∧ Cp w wr (l1 ++ l2) (k + j)) (fun i _ => n2 - (intOf i).toNat)
      case atStart => exact ⟨0, Nat.zero_le _, rfl, HC.out⟩
      case round =>
        obtain ⟨j, hj, rfl, hC⟩ := hrel
        clear HC
        by_cases hjt : j < n2
        · have hjl : j < l2.length := by rw [H2.out]; exact hjt
          have hkL : k + j < (l1 ++ l2).length := by rw [HN.out]; omega
          obtain ⟨b, off, rfl, hc⟩ := hr2.out.at (by omega)
          have q1 := hc j hjl
          have q0 : wr.cell? ⟨b, off + j, none⟩ = some (.int .u8 (l2.getD j 0)) := (hC.below.cell (p := ⟨b, off + j, none⟩) (World.block_lt_of_cell? _ _ q1)).trans q1
          have q2 := hC.row.cell hkL
          have q3 := hC.row.frozen (k + j)
          obtain ⟨y, hy⟩ : ∃ y, y = l2.getD j 0 := ⟨_, rfl⟩
          rw [← hy] at q0
          have HS : Hid _ := hC.step y (by rw [hy, ← H1.out]; exact getD_right l1 l2 j)
          clear hc hy q1 hC hjl hkL
          go_wp2
          go_roundw
          case rel => exact ⟨j + 1, by omega, by go_num, HS.out⟩
          case measure => simp [intOf]; omega
        · have hB := hC.below
          have HR : Hid _ := hC.rd (by rw [HN.out]; omega)
          clear hC
          go_wp2
          go_ret
          exact ⟨rfl, HR.out, hB⟩
end Go.Proofs.Qxb6001344a.Lk

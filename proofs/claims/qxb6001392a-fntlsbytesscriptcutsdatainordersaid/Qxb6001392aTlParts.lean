/-
  SLICES OF NUMBERS THAT ARE READ; cloneBytes, cloneInts, sameAt.
-/
import Derived.Test.Qxb6001392aRows
import Derived.WalkKit
import Derived.WalkLawsBesides
import Derived.WalkSpells
import Derived.Deep.OwnRows
import Derived.Deep.LoopGhost
import Derived.Deep.QuietTactic
import Derived.BigQuiet
import Derived.Below
namespace Go.Proofs.Qxb6001392a.Tl
open Go.RowKit Go.Deep
set_option linter.unusedVariables false

theorem info5 : (Try.prog.info? 5).map (fun i => (i.zero, i.size, i.bytes)) = some (some (.int .u8 0), 1, 1) := by kernel_rfl
theorem info3 : (Try.prog.info? 3).map (fun i => (i.zero, i.size, i.bytes)) = some (some (.int .i64 0), 1, 8) := by kernel_rfl

/-- The slice that begins at a reads as the numbers l. -/
def Rd (kd : IntKind) (w : World) (a : Option Addr) (l : List Int) : Prop :=
  l = [] ∨ ∃ b off, a = some ⟨b, off, none⟩ ∧ ∀ i, i < l.length → w.cell? ⟨b, off + i, none⟩ = some (.int kd (l.getD i 0))

theorem Rd.later {kd : IntKind} {w w' : World} {a : Option Addr} {l : List Int} (h : Rd kd w a l) (hb : Below w.heap.size w w') : Rd kd w' a l := by
  rcases h with h | ⟨b, off, ha, hc⟩
  · exact Or.inl h
  · by_cases hl : l = []
    · exact Or.inl hl
    · refine Or.inr ⟨b, off, ha, fun i hi => ?_⟩
      have := hc i hi
      rw [hb.cell (p := ⟨b, off + i, none⟩) (World.block_lt_of_cell? _ _ this)]
      exact this

theorem Rd.at {kd : IntKind} {w : World} {a : Option Addr} {l : List Int} (h : Rd kd w a l) (hl : 0 < l.length) : ∃ b off, a = some ⟨b, off, none⟩ ∧ ∀ i, i < l.length → w.cell? ⟨b, off + i, none⟩ = some (.int kd (l.getD i 0)) := by
  rcases h with h | h
  · subst h; simp at hl
  · exact h

/-- The row when k numbers of L are laid. -/
def rowK (kd : IntKind) (L : List Int) (k : Nat) : Nat → Value := fun t => if t < k then .int kd (L.getD t 0) else .int kd 0

structure Cp (kd : IntKind) (ty : TypeId) (w wr : World) (L : List Int) (k : Nat) : Prop where
  below : Below w.heap.size w wr
  row : wr.rowIs w.heap.size ty L.length (rowK kd L k)
theorem Cp.start (kd : IntKind) (ty : TypeId) (w : World) (L : List Int) (n : Nat) (h : L.length = n) : Cp kd ty w (w.alloc (.cells (madeCells #[.int kd 0] n) ty)) L 0 := by
  subst h
  exact ⟨(Below.refl _ _).alloc (Nat.le_refl _) _, (World.rowIs_made w _ _ ty).congr fun t _ => by simp [rowK]⟩
theorem Cp.step {kd : IntKind} {ty : TypeId} {w wr : World} {L : List Int} {k : Nat} (h : Cp kd ty w wr L k) (v : Int) (hv : v = L.getD k 0) : Cp kd ty w (wr.setCell ⟨w.heap.size, k, none⟩ (.int kd v)) L (k + 1) := by
  subst hv
  refine ⟨h.below.setCell (Nat.le_refl _) _, (h.row.set k _).congr fun t _ => ?_⟩
  unfold rowK
  by_cases e : t = k
  · subst e; simp
  · rw [if_neg e]
    by_cases hlt : t < k
    · rw [if_pos hlt, if_pos (by omega)]
    · rw [if_neg hlt, if_neg (by omega)]
theorem Cp.rd {kd : IntKind} {ty : TypeId} {w wr : World} {L : List Int} {k : Nat} (h : Cp kd ty w wr L k) (hk : L.length ≤ k) : Rd kd wr (some ⟨w.heap.size, 0, none⟩) L := by
  refine Or.inr ⟨w.heap.size, 0, rfl, fun i hi => ?_⟩
  rw [Nat.zero_add, h.row.cell hi]
  unfold rowK
  rw [if_pos (by omega)]

/-- A clone: nil, or a row of its own. -/
def Own (a : Option Addr) (n cap : Nat) : Prop := (a = none ∧ n = 0 ∧ cap = 0) ∨ (∃ b, a = some ⟨b, 0, none⟩ ∧ cap = n)

theorem cb_nil (w : World) : Calls Try.prog 6 #[.slice none 0 0] w fun e w' => e = .returned (.slice none 0 0) ∧ w = w' := by
  have q22 := fun (w : World) (a : Option Addr) (n c n' c' : Nat) => Lib.run_eql_slice_nil (P := Try.prog) w 22 5 a n c n' c' Try.underlying22
  go_enter Try.func6, Try.ntmps6
  go_wp2
  go_ret
  exact ⟨rfl, rfl⟩
theorem ci_nil (w : World) : Calls Try.prog 7 #[.slice none 0 0] w fun e w' => e = .returned (.slice none 0 0) ∧ w = w' := by
  have q22 := fun (w : World) (a : Option Addr) (n c n' c' : Nat) => Lib.run_eql_slice_nil (P := Try.prog) w 23 3 a n c n' c' Try.underlying23
  go_enter Try.func7, Try.ntmps7
  go_wp2
  go_ret
  exact ⟨rfl, rfl⟩

set_option maxHeartbeats 400000 in
theorem cb_some (x : Addr) (l : List Int) (n cap : Nat) (w : World) (HN : Hid (l.length = n)) (hn : n ≤ 1048576) (hr : Hid (Rd .u8 w (some x) l)) :
    Calls Try.prog 6 #[.slice (some x) n cap] w fun e w' => e = .returned (.slice (some ⟨w.heap.size, 0, none⟩) n n) ∧ Rd .u8 w' (some ⟨w.heap.size, 0, none⟩) l ∧ Below w.heap.size w w' := by
  have q22 := fun (w : World) (a : Option Addr) (n c n' c' : Nat) => Lib.run_eql_slice_nil (P := Try.prog) w 22 5 a n c n' c' Try.underlying22
  have hmk := run_make_row' (P := Try.prog) 22 5 (.int .u8 0) 1 Try.underlying22 info5 rfl .i64 .i64 n (by omega) (by omega)
  have HST : Hid _ := Cp.start .u8 5 w l n HN.out
  go_enter Try.func6, Try.ntmps6
  go_wp2
  go_loopw [4] (fun i wr => ∃ k : Nat, k ≤ n ∧ i = .int .i64 k ∧ Cp .u8 5 w wr l k) (fun i _ => n - (intOf i).toNat)
  case atStart => exact ⟨0, Nat.zero_le _, rfl, HST.out⟩
  case round =>
    obtain ⟨k, hk, rfl, hC⟩ := hrel
    clear HST hmk q22
    by_cases hlt : k < n
    · have hkl : k < l.length := by rw [HN.out]; exact hlt
      obtain ⟨b, off, hx, hc⟩ := hr.out.at (by omega)
      obtain rfl : x = ⟨b, off, none⟩ := by simpa using hx
      have q1 := hc k hkl
      have q0 : wr.cell? ⟨b, off + k, none⟩ = some (.int .u8 (l.getD k 0)) := (hC.below.cell (p := ⟨b, off + k, none⟩) (World.block_lt_of_cell? _ _ q1)).trans q1
      have q2 := hC.row.cell hkl
      have q3 := hC.row.frozen k
      obtain ⟨y, hy⟩ : ∃ y, y = l.getD k 0 := ⟨_, rfl⟩
      rw [← hy] at q0
      have HS : Hid _ := hC.step y hy
      clear hc hy q1 hC hx
      go_wp2
      go_roundw
      case rel => exact ⟨k + 1, by omega, by go_num, HS.out⟩
      case measure => simp [intOf]; omega
    · have hB := hC.below
      have HR : Hid _ := hC.rd (by rw [HN.out]; omega)
      clear hC
      go_wp2
      go_ret
      exact ⟨rfl, HR.out, hB⟩

set_option maxHeartbeats 400000 in
theorem ci_some (x : Addr) (l : List Int) (n cap : Nat) (w : World) (HN : Hid (l.length = n)) (hn : n ≤ 1048576) (hr : Hid (Rd .i64 w (some x) l)) :
    Calls Try.prog 7 #[.slice (some x) n cap] w fun e w' => e = .returned (.slice (some ⟨w.heap.size, 0, none⟩) n n) ∧ Rd .i64 w' (some ⟨w.heap.size, 0, none⟩) l ∧ Below w.heap.size w w' := by
  have q22 := fun (w : World) (a : Option Addr) (n c n' c' : Nat) => Lib.run_eql_slice_nil (P := Try.prog) w 23 3 a n c n' c' Try.underlying23
  have hmk := run_make_row' (P := Try.prog) 23 3 (.int .i64 0) 8 Try.underlying23 info3 rfl .i64 .i64 n (by omega) (by omega)
  have HST : Hid _ := Cp.start .i64 3 w l n HN.out
  go_enter Try.func7, Try.ntmps7
  go_wp2
  go_loopw [4] (fun i wr => ∃ k : Nat, k ≤ n ∧ i = .int .i64 k ∧ Cp .i64 3 w wr l k) (fun i _ => n - (intOf i).toNat)
  case atStart => exact ⟨0, Nat.zero_le _, rfl, HST.out⟩
  case round =>
    obtain ⟨k, hk, rfl, hC⟩ := hrel
    clear HST hmk q22
    by_cases hlt : k < n
    · have hkl : k < l.length := by rw [HN.out]; exact hlt
      obtain ⟨b, off, hx, hc⟩ := hr.out.at (by omega)
      obtain rfl : x = ⟨b, off, none⟩ := by simpa using hx
      have q1 := hc k hkl
      have q0 : wr.cell? ⟨b, off + k, none⟩ = some (.int .i64 (l.getD k 0)) := (hC.below.cell (p := ⟨b, off + k, none⟩) (World.block_lt_of_cell? _ _ q1)).trans q1
      have q2 := hC.row.cell hkl
      have q3 := hC.row.frozen k
      obtain ⟨y, hy⟩ : ∃ y, y = l.getD k 0 := ⟨_, rfl⟩
      rw [← hy] at q0
      have HS : Hid _ := hC.step y hy
      clear hc hy q1 hC hx
      go_wp2
      go_roundw
      case rel => exact ⟨k + 1, by omega, by go_num, HS.out⟩
      case measure => simp [intOf]; omega
    · have hB := hC.below
      have HR : Hid _ := hC.rd (by rw [HN.out]; omega)
      clear hC
      go_wp2
      go_ret
      exact ⟨rfl, HR.out, hB⟩

theorem cb_any (a : Option Addr) (l : List Int) (n cap : Nat) (w : World) (HN : Hid (l.length = n)) (hn : n ≤ 1048576) (hr : Hid (Rd .u8 w a l)) (h0 : a = none → n = 0 ∧ cap = 0) :
    Calls Try.prog 6 #[.slice a n cap] w fun e w' => ∃ a' c', e = .returned (.slice a' n c') ∧ Own a' n c' ∧ Rd .u8 w' a' l ∧ Below w.heap.size w w' := by
  cases a with
  | none =>
    obtain ⟨rfl, rfl⟩ := h0 rfl
    refine (cb_nil w).mono ?_
    rintro e w' ⟨rfl, rfl⟩
    exact ⟨none, 0, rfl, Or.inl ⟨rfl, rfl, rfl⟩, hr.out, Below.refl _ _⟩
  | some x =>
    refine (cb_some x l n cap w HN hn hr).mono ?_
    rintro e w' ⟨rfl, h1, h2⟩
    exact ⟨_, _, rfl, Or.inr ⟨_, rfl, rfl⟩, h1, h2⟩
theorem ci_any (a : Option Addr) (l : List Int) (n cap : Nat) (w : World) (HN : Hid (l.length = n)) (hn : n ≤ 1048576) (hr : Hid (Rd .i64 w a l)) (h0 : a = none → n = 0 ∧ cap = 0) :
    Calls Try.prog 7 #[.slice a n cap] w fun e w' => ∃ a' c', e = .returned (.slice a' n c') ∧ Rd .i64 w' a' l ∧ Below w.heap.size w w' := by
  cases a with
  | none =>
    obtain ⟨rfl, rfl⟩ := h0 rfl
    refine (ci_nil w).mono ?_
    rintro e w' ⟨rfl, rfl⟩
    exact ⟨none, 0, rfl, hr.out, Below.refl _ _⟩
  | some x =>
    refine (ci_some x l n cap w HN hn hr).mono ?_
    rintro e w' ⟨rfl, h1, h2⟩
    exact ⟨_, _, rfl, h1, h2⟩

set_option maxHeartbeats 400000 in
/-- sameAt, where the piece is just that part of the data. -/
theorem same_any (a ad : Option Addr) (L : List Int) (n N p c cD : Nat) (w : World) (HN : Hid (L.length = N)) (hN : N ≤ 1048576) (hp : p + n ≤ N)
    (hr : Hid (Rd .u8 w a ((L.drop p).take n))) (hD : Hid (Rd .u8 w ad L)) :
    Calls Try.prog 11 #[.slice a n c, .slice ad N cD, .int .i64 p] w fun e w' => e = .returned (.bool true) ∧ ∃ q, w' = w.drewN q := by
  have HT : Hid (((L.drop p).take n).length = n) := by
    show _ = _
    have := HN.out
    rw [List.length_take, List.length_drop]; omega
  go_enter Try.func11, Try.ntmps11
  go_wp2
  go_loopw [7] (fun i wr => ∃ k : Nat, k ≤ n ∧ i = .int .i64 k ∧ ∃ q, wr = w.drewN q) (fun i _ => n - (intOf i).toNat)
  case atStart => exact ⟨0, Nat.zero_le _, rfl, 0, rfl⟩
  case round =>
    obtain ⟨k, hk, rfl, q, rfl⟩ := hrel
    by_cases hlt : k < n
    · obtain ⟨b, off, rfl, hc⟩ := hr.out.at (by rw [HT.out]; omega)
      obtain ⟨b2, off2, rfl, hc2⟩ := hD.out.at (by rw [HN.out]; omega)
      have q1 := hc k (by rw [HT.out]; exact hlt)
      have q2 := hc2 (p + k) (by rw [HN.out]; omega)
      have e : ((L.drop p).take n).getD k 0 = L.getD (p + k) 0 := by
        rw [List.getD_eq_getElem?_getD, List.getD_eq_getElem?_getD, List.getElem?_take_of_lt hlt, List.getElem?_drop]
      rw [e] at q1
      obtain ⟨y, hy⟩ : ∃ y, y = L.getD (p + k) 0 := ⟨_, rfl⟩
      rw [← hy] at q1 q2
      have q3 : (y != y) = false := by simp
      clear hc hc2 e hy
      go_wp2
      go_quiet (fail)
      go_wp2
      go_roundw
      case rel => exact ⟨k + 1, by omega, by go_num, _, rfl⟩
      case measure => simp [intOf]; omega
    · go_wp2
      go_ret
      exact ⟨rfl, q, rfl⟩
end Go.Proofs.Qxb6001392a.Tl

/-
  PARTS FOR THE WALK OF edits: the code points of a string; what holds of the world while it runs.
-/
import Derived.Test.Qxb6001183aRows
import Derived.Test.Qxb6001183aEdPlain
import Derived.WalkKit
import Derived.WalkLawsBesides
import Derived.WalkSpells
import Derived.Laws.IdiomStrings
import Derived.Deep.OwnRows
import Derived.Deep.LoopGhost
import Derived.Deep.QuietTactic
import Derived.BigQuiet
import Derived.Below
namespace Go.Proofs.Qxb6001183a.Ed
open Go.RowKit Go.Deep

/-- The code points of a string, as numbers. -/
def runesL (s : ByteArray) : Nat → Nat → List Int
  | 0, _ => []
  | b + 1, i => if i < s.size then Int.ofNat (Utf8.decode s i).1 :: runesL s b (i + (Utf8.decode s i).2) else []
def runes (s : ByteArray) : List Int := runesL s s.size 0

theorem runesFrom_eq (s : ByteArray) : ∀ (b i : Nat) (acc : Array Value), Conv.runesFrom s b i acc = acc ++ ((runesL s b i).map (Value.int .i32)).toArray
  | 0, _, acc => by simp [Conv.runesFrom, runesL]
  | b + 1, i, acc => by
    unfold Conv.runesFrom runesL
    split
    · have := runesFrom_eq s b (i + (Utf8.decode s i).2) (acc.push (.int .i32 (Int.ofNat (Utf8.decode s i).1)))
      simp only [this]
      simp
    · simp

theorem runesL_len (s : ByteArray) : ∀ (b i : Nat), (runesL s b i).length ≤ b
  | 0, _ => by simp [runesL]
  | b + 1, i => by
    unfold runesL
    split
    · have := runesL_len s b (i + (Utf8.decode s i).2); simp; exact this
    · simp
theorem runes_len (s : ByteArray) : (runes s).length ≤ s.size := runesL_len s s.size 0

/-- What '[]rune(s)' lays: the code points, then zeros up to the capacity. -/
def runeRow (w : World) (s : ByteArray) : Array Value :=
  ((runes s).map (Value.int .i32)).toArray ++ Array.replicate (grownCap w (runes s).length 0 21 - (runes s).length) (.int .i32 0)

theorem run_runes (w : World) (s : ByteArray) (h : s.size ≤ 4096) :
    (convert 9 26 (.string s)).run Try.prog w = .ok (.slice (some ⟨w.heap.size, 0, none⟩) (runes s).length (grownCap w (runes s).length 0 21)) (w.alloc (.cells (runeRow w s) 21)).drew := by
  have e : Conv.runesFrom s s.size 0 #[] = ((runes s).map (Value.int .i32)).toArray := by rw [runesFrom_eq]; simp [runes]
  have hl := runes_len s
  have := run_runes_of_string (P := Try.prog) w 9 26 21 s Try.underlying9 Try.underlying26 Try.underlying21 (by rw [e]; simp; omega)
  rw [e] at this
  simp only [List.size_toArray, List.length_map] at this
  exact this

theorem runeRow_at (w : World) (s : ByteArray) (i : Nat) (hi : i < (runes s).length) : (runeRow w s)[i]? = some (.int .i32 ((runes s).getD i 0)) := by
  unfold runeRow
  rw [Array.getElem?_append_left (by simpa using hi)]
  simp [List.getD, hi]

/-- What holds while 'edits' runs: nothing old has turned; the two rows of code points; the table's row. -/
structure St (w wr : World) (R S : List Int) (f : Nat → Value) : Prop where
  below : Below w.heap.size w wr
  r : ∀ i, i < R.length → wr.cell? ⟨w.heap.size, i, none⟩ = some (.int .i32 (R.getD i 0))
  s : ∀ i, i < S.length → wr.cell? ⟨w.heap.size + 1, i, none⟩ = some (.int .i32 (S.getD i 0))
  row : wr.rowIs (w.heap.size + 1 + 1) 3 (S.length + 1) f

theorem St.congr {w wr : World} {R S : List Int} {f g : Nat → Value} (h : St w wr R S f) (e : ∀ i, i < S.length + 1 → f i = g i) : St w wr R S g :=
  ⟨h.below, h.r, h.s, h.row.congr e⟩
theorem St.drew {w wr : World} {R S : List Int} {f : Nat → Value} (h : St w wr R S f) : St w wr.drew R S f := ⟨h.below.drew, h.r, h.s, h.row.drew⟩
theorem St.drewN {w wr : World} {R S : List Int} {f : Nat → Value} (h : St w wr R S f) (n : Nat) : St w (wr.drewN n) R S f := ⟨⟨h.below.os, h.below.tape, h.below.output, h.below.size, h.below.block⟩, h.r, h.s, h.row⟩
theorem St.set {w wr : World} {R S : List Int} {f : Nat → Value} (h : St w wr R S f) (i : Nat) (v : Value) :
    St w (wr.setCell ⟨w.heap.size + 1 + 1, i, none⟩ v) R S (fun j => if j = i then v else f j) :=
  ⟨h.below.setCell (by show w.heap.size ≤ w.heap.size + 1 + 1; omega) v,
   fun j hj => by rw [World.cell?_setCell_other _ _ _ _ (by intro e; injection e with e1; omega)]; exact h.r j hj,
   fun j hj => by rw [World.cell?_setCell_other _ _ _ _ (by intro e; injection e with e1; omega)]; exact h.s j hj,
   h.row.set i v⟩

/-- The table's row behind the first loop. -/
def row0 (k : Nat) : Nat → Value := fun j => if j < k then .int .i64 (j : Int) else .int .i64 0
theorem row0_zero (j : Nat) : row0 0 j = .int .i64 0 := by simp [row0]
theorem St.start (w : World) (R S : List Int) (C1 C2 : Array Value) (h1 : ∀ i, i < R.length → C1[i]? = some (.int .i32 (R.getD i 0))) (h2 : ∀ i, i < S.length → C2[i]? = some (.int .i32 (S.getD i 0))) :
    St w ((((w.alloc (.cells C1 21)).alloc (.cells C2 21)).alloc (.cells (madeCells #[.int .i64 0] (S.length + 1)) 3)).drew.drew) R S (row0 0) := by
  have hr := World.rowIs_made ((w.alloc (.cells C1 21)).alloc (.cells C2 21)) (.int .i64 0) (S.length + 1) 3
  rw [World.size_alloc, World.size_alloc] at hr
  refine ⟨(((((Below.refl _ _).alloc (Nat.le_refl _) _).alloc (by simp) _).alloc (by simp; omega) _).drew).drew, fun i hi => ?_, fun i hi => ?_, (hr.drew.drew).congr (fun j _ => (row0_zero j).symm)⟩
  · rw [World.cell?_drew, World.cell?_drew, World.cell?_alloc_past _ _ _ (by simp; omega), World.cell?_alloc_past _ _ _ (by simp), World.cell?_alloc_at _ _ _ _ rfl]
    exact h1 i hi
  · rw [World.cell?_drew, World.cell?_drew, World.cell?_alloc_past _ _ _ (by simp), World.cell?_alloc_at _ _ _ _ (by simp)]
    exact h2 i hi

/-- The least of three, as the walk spells it. -/
theorem least (p q : Nat) (c : Int) : (if c < (if q < p then (q : Int) + 1 else (p : Int) + 1) then c else (if q < p then (q : Int) + 1 else (p : Int) + 1)) = min (min ((p : Int) + 1) ((q : Int) + 1)) c := by
  split <;> split <;> omega

def fn (L : List Int) : Nat → Int := fun i => L.getD i 0
def D (R S : List Int) (i j : Nat) : Nat := dist (fn R) (fn S) i j

theorem D_le (R S : List Int) (i j : Nat) (hi : i ≤ 4096) (hj : j ≤ 4096) : D R S i j ≤ 4096 := by
  have := dist_le_max (fn R) (fn S) i j
  unfold D; omega

/-- The table's row at the outer loop's head, k rows reckoned. -/
def rowA (R S : List Int) (k : Nat) : Nat → Value := fun j => .int .i64 (D R S k j : Int)
/-- .. and at the inner loop's, j columns of row k + 1 reckoned behind the first. -/
def rowB (R S : List Int) (k j : Nat) : Nat → Value := fun t => if t ≤ j then .int .i64 (D R S (k + 1) t : Int) else .int .i64 (D R S k t : Int)

theorem St.row0_step {w wr : World} {R S : List Int} {k : Nat} (h : St w wr R S (row0 k)) : St w (wr.setCell ⟨w.heap.size + 1 + 1, k, none⟩ (.int .i64 (k : Int))) R S (row0 (k + 1)) := by
  refine (h.set k _).congr fun j _ => ?_
  unfold row0
  by_cases e : j = k
  · subst e; simp
  · rw [if_neg e]
    by_cases hlt : j < k
    · rw [if_pos hlt, if_pos (by omega)]
    · rw [if_neg hlt, if_neg (by omega)]
theorem St.row0_end {w wr : World} {R S : List Int} {k : Nat} (h : St w wr R S (row0 k)) (hk : S.length + 1 ≤ k) : St w wr R S (rowA R S 0) := by
  refine h.congr fun j hj => ?_
  unfold row0 rowA D
  rw [if_pos (by omega), dist_zero]
theorem St.rowB_start {w wr : World} {R S : List Int} {k : Nat} (h : St w wr R S (rowA R S k)) : St w (wr.setCell ⟨w.heap.size + 1 + 1, 0, none⟩ (.int .i64 ((k : Int) + 1))) R S (rowB R S k 0) := by
  refine (h.set 0 _).congr fun j _ => ?_
  unfold rowA rowB
  by_cases e : j = 0
  · subst e
    simp [D, dist_succ_zero]
  · rw [if_neg e, if_neg (by omega)]
theorem St.rowB_end {w wr : World} {R S : List Int} {k j : Nat} (h : St w wr R S (rowB R S k j)) (hj : S.length ≤ j) : St w wr R S (rowA R S (k + 1)) := by
  refine h.congr fun t ht => ?_
  unfold rowA rowB
  rw [if_pos (by omega)]
theorem D_step (R S : List Int) (k j : Nat) (c : Int) (hc : c = (D R S k j : Int) + if R.getD k 0 = S.getD j 0 then 0 else 1) :
    (D R S (k + 1) (j + 1) : Int) = min (min ((D R S k (j + 1) : Int) + 1) ((D R S (k + 1) j : Int) + 1)) c := by
  subst hc
  show ((dist (fn R) (fn S) (k + 1) (j + 1) : Nat) : Int) = _
  rw [dist_succ]
  unfold D fn
  split <;> omega
theorem St.rowB_step {w wr : World} {R S : List Int} {k j : Nat} (h : St w wr R S (rowB R S k j)) (c : Int) (hc : c = (D R S k j : Int) + if R.getD k 0 = S.getD j 0 then 0 else 1) (v : Int)
    (hv : v = min (min ((D R S k (j + 1) : Int) + 1) ((D R S (k + 1) j : Int) + 1)) c) :
    St w (wr.setCell ⟨w.heap.size + 1 + 1, j + 1, none⟩ (.int .i64 v)) R S (rowB R S k (j + 1)) := by
  rw [← D_step R S k j c hc] at hv
  subst hv
  refine (h.set (j + 1) _).congr fun t _ => ?_
  unfold rowB
  by_cases e : t = j + 1
  · subst e; simp
  · rw [if_neg e]
    by_cases hlt : t ≤ j
    · rw [if_pos hlt, if_pos (by omega)]
    · rw [if_neg hlt, if_neg (by omega)]
theorem St.cellB_at {w wr : World} {R S : List Int} {k j : Nat} (h : St w wr R S (rowB R S k j)) (hj : j < S.length) :
    wr.cell? ⟨w.heap.size + 1 + 1, j, none⟩ = some (.int .i64 (D R S (k + 1) j : Int)) ∧ wr.cell? ⟨w.heap.size + 1 + 1, j + 1, none⟩ = some (.int .i64 (D R S k (j + 1) : Int)) := by
  have h1 := h.row.cell (i := j) (by omega)
  have h2 := h.row.cell (i := j + 1) (by omega)
  simp only [rowB] at h1 h2
  rw [if_pos (Nat.le_refl _)] at h1
  rw [if_neg (by omega)] at h2
  exact ⟨h1, h2⟩
end Go.Proofs.Qxb6001183a.Ed

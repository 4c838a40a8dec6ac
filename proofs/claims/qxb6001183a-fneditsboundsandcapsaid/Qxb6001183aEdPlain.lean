/-
  THE PLAIN MATHEMATICS OF THE EDIT DISTANCE: no Go in sight.
  'rowNext c s prev i': the next row of the table out of the previous one; 'dist r s i j': the edits between the first i numbers of r and the first j of s.
-/
namespace Go.Proofs.Qxb6001183a.Ed

def rowNext (c : Int) (s : Nat → Int) (prev : Nat → Nat) (i : Nat) : Nat → Nat
  | 0 => i + 1
  | j + 1 => min (min (prev (j + 1) + 1) (rowNext c s prev i j + 1)) (prev j + if c = s j then 0 else 1)

def dist (r s : Nat → Int) : Nat → Nat → Nat
  | 0 => fun j => j
  | i + 1 => rowNext (r i) s (dist r s i) i

theorem dist_zero (r s : Nat → Int) (j : Nat) : dist r s 0 j = j := rfl
theorem dist_succ_zero (r s : Nat → Int) (i : Nat) : dist r s (i + 1) 0 = i + 1 := rfl
theorem dist_left (r s : Nat → Int) (i : Nat) : dist r s i 0 = i := by cases i <;> rfl
theorem dist_succ (r s : Nat → Int) (i j : Nat) :
    dist r s (i + 1) (j + 1) = min (min (dist r s i (j + 1) + 1) (dist r s (i + 1) j + 1)) (dist r s i j + if r i = s j then 0 else 1) := rfl

theorem dist_le_max (r s : Nat → Int) : ∀ i j, dist r s i j ≤ max i j
  | 0, j => by rw [dist_zero]; omega
  | i + 1, 0 => by rw [dist_succ_zero]; omega
  | i + 1, j + 1 => by
    have h := dist_le_max r s i j
    rw [dist_succ]
    split <;> omega

theorem dist_ge (r s : Nat → Int) : ∀ i j, i ≤ dist r s i j + j ∧ j ≤ dist r s i j + i
  | 0, j => by rw [dist_zero]; omega
  | i + 1, 0 => by rw [dist_succ_zero]; omega
  | i + 1, j + 1 => by
    have h1 := dist_ge r s i j
    have h2 := dist_ge r s i (j + 1)
    have h3 := dist_ge r s (i + 1) j
    rw [dist_succ]
    split <;> omega

theorem dist_eq_zero (r s : Nat → Int) : ∀ i j, dist r s i j = 0 ↔ i = j ∧ ∀ t, t < i → r t = s t
  | 0, j => by rw [dist_zero]; constructor
               · intro h; exact ⟨h.symm, fun t ht => by omega⟩
               · intro h; exact h.1.symm
  | i + 1, 0 => by rw [dist_succ_zero]; constructor
                   · intro h; omega
                   · intro h; omega
  | i + 1, j + 1 => by
    have ih := dist_eq_zero r s i j
    rw [dist_succ]
    constructor
    · intro h
      by_cases e : r i = s j
      · rw [if_pos e] at h
        have h0 : dist r s i j = 0 := by omega
        obtain ⟨hij, ht⟩ := ih.1 h0
        subst hij
        refine ⟨rfl, fun t htl => ?_⟩
        by_cases hti : t = i
        · subst hti; exact e
        · exact ht t (by omega)
      · rw [if_neg e] at h; omega
    · rintro ⟨hij, ht⟩
      have hij' : i = j := by omega
      subst hij'
      have h0 : dist r s i i = 0 := ih.2 ⟨rfl, fun t htl => ht t (by omega)⟩
      rw [if_pos (ht i (by omega)), h0]
      omega

/-- What 'edits' answers: d is the distance, n and m the two lengths. -/
def capped (n m d limit : Int) : Int :=
  if limit ≤ n - m ∨ limit ≤ m - n then limit else if limit < d then limit else d

theorem capped_low (n m d limit : Int) (h : limit < 1) : capped n m d limit = limit := by
  unfold capped
  rw [if_pos (by omega)]

theorem capped_min (n m d limit : Int) (h1 : n ≤ d + m) (h2 : m ≤ d + n) : capped n m d limit = if limit < d then limit else d := by
  unfold capped
  split
  · split <;> omega
  · rfl

end Go.Proofs.Qxb6001183a.Ed

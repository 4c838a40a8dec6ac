/-
  THE PLAIN MATHEMATICS: the tag of a plain scalar, as 'plainTag' has it and as 'modelTag' has it; decimal texts. No Go in sight.
-/
namespace Go.Proofs.Qxb6001200a.Pt

def isB (l : List UInt8) : Bool :=
  l == [116, 114, 117, 101] || (l == [84, 114, 117, 101] || (l == [84, 82, 85, 69] || (l == [102, 97, 108, 115, 101] || (l == [70, 97, 108, 115, 101] || l == [70, 65, 76, 83, 69]))))
def isN (l : List UInt8) : Bool := l == [110, 117, 108, 108] || (l == [78, 117, 108, 108] || l == [78, 85, 76, 76])
def dg (c : UInt8) : Bool := decide (48 ≤ c.toNat ∧ c.toNat ≤ 57)
def plainInt (l : List UInt8) : Bool := decide (l.length ≤ 18) && (!(decide (1 < l.length) && l.headD 0 == 48) && l.all dg)
def tag (l : List UInt8) : List UInt8 :=
  if isB l then [33, 33, 98, 111, 111, 108] else if isN l then [33, 33, 110, 117, 108, 108] else if !dg (l.headD 0) then [33, 33, 115, 116, 114] else if plainInt l then [33, 33, 105, 110, 116] else []

def low (c : UInt8) : UInt8 := if 65 ≤ c.toNat ∧ c.toNat ≤ 90 then c + 32 else c
def upp (c : UInt8) : UInt8 := if 97 ≤ c.toNat ∧ c.toNat ≤ 122 then c - 32 else c
/-- The decimal digits of n, at most f of them, the last ones. -/
def decF : Nat → Nat → List UInt8
  | 0, _ => []
  | f + 1, n => if n = 0 then [] else decF f (n / 10) ++ [UInt8.ofNat (48 + n % 10)]
def utoa (n : Nat) : List UInt8 := if n = 0 then [48] else decF 20 n
def val (l : List UInt8) : Nat := l.foldl (fun v c => v * 10 + (c.toNat - 48)) 0
def canon (l : List UInt8) : Bool := decide (l.length ≤ 18) && (l.all dg && utoa (val l) == l)
def wordL (l : List UInt8) : Bool := (l == [116, 114, 117, 101] || l == [102, 97, 108, 115, 101]) || l == [110, 117, 108, 108]
def cap1 (l : List UInt8) : List UInt8 := (l.take 1).map upp ++ (l.map low).drop 1
def spelt (l : List UInt8) : Bool := (l == l.map low || l == l.map upp) || l == cap1 l
def mtag (l : List UInt8) : List UInt8 :=
  if decide (l.length ≤ 5) && (wordL (l.map low) && spelt l) then (if l.map low == [110, 117, 108, 108] then [33, 33, 110, 117, 108, 108] else [33, 33, 98, 111, 111, 108])
  else if !dg (l.headD 0) then [33, 33, 115, 116, 114] else if canon l then [33, 33, 105, 110, 116] else []

/-! ### decimal texts -/
theorem decF_dg : ∀ f n, (decF f n).all dg = true
  | 0, _ => rfl
  | f + 1, n => by
    unfold decF
    split
    · rfl
    · rw [List.all_append, decF_dg f]
      simp [dg]; omega
theorem decF_len : ∀ f n, (decF f n).length ≤ f
  | 0, _ => by simp [decF]
  | f + 1, n => by
    unfold decF
    split
    · simp
    · have := decF_len f (n / 10); simp; exact this
/-- n has at most k digits where it is below 10^k. -/
theorem decF_short : ∀ f n k, n < 10 ^ k → (decF f n).length ≤ k
  | 0, _, _, _ => by simp [decF]
  | f + 1, n, 0, h => by have : n = 0 := by simpa using h
                         subst this; simp [decF]
  | f + 1, n, k + 1, h => by
    unfold decF
    split
    · simp
    · have := decF_short f (n / 10) k (by rw [Nat.pow_succ] at h; omega)
      simp; exact this
/-- .. and more than k where it is not. -/
theorem decF_long : ∀ f n k, 10 ^ k ≤ n → k < f → k < (decF f n).length
  | 0, _, _, _, hf => by omega
  | f + 1, n, 0, h, _ => by
    have : n ≠ 0 := by simp at h; omega
    simp [decF, this]
  | f + 1, n, k + 1, h, hf => by
    have hp : 0 < 10 ^ k := Nat.pow_pos (by omega)
    rw [Nat.pow_succ] at h
    have : n ≠ 0 := by omega
    have ih := decF_long f (n / 10) k (by omega) (by omega)
    simp [decF, this]; exact ih
theorem decF_zero (f : Nat) : decF f 0 = [] := by cases f <;> simp [decF]
theorem decF_head : ∀ f n, n ≠ 0 → n < 10 ^ f → (decF f n).headD 0 ≠ 48
  | 0, n, h, hlt => by simp at hlt; omega
  | f + 1, n, h, hlt => by
    have h8 : ∀ k, k < 10 → UInt8.ofNat (48 + k) = 48 → k = 0 := by
      intro k hk e
      have := congrArg UInt8.toNat e
      simp at this; omega
    by_cases h0 : n / 10 = 0
    · simp only [decF, h, if_false, h0, decF_zero, List.nil_append, List.headD_cons]
      intro e
      have := h8 (n % 10) (by omega) e
      omega
    · have ih := decF_head f (n / 10) h0 (by rw [Nat.pow_succ] at hlt; omega)
      simp only [decF, h, if_false]
      cases hd : decF f (n / 10) with
      | nil => cases f with
        | zero => simp at hlt; omega
        | succ f' => simp [decF, h0] at hd
      | cons c r => rw [hd] at ih; simpa using ih
theorem decF_ne (f n : Nat) (h : n ≠ 0) : decF (f + 1) n ≠ [] := by simp [decF, h]

theorem utoa_dg (n : Nat) : (utoa n).all dg = true := by
  unfold utoa
  split
  · decide
  · exact decF_dg _ _
theorem utoa_len (n : Nat) : (utoa n).length ≤ 20 := by
  unfold utoa
  split
  · simp
  · exact decF_len _ _
theorem utoa_ne (n : Nat) : utoa n ≠ [] := by
  unfold utoa
  split
  · simp
  · exact decF_ne _ _ (by assumption)
theorem utoa_short (n : Nat) (h : n < 1000000000000000000) : (utoa n).length ≤ 18 := by
  unfold utoa
  split
  · simp
  · exact decF_short _ _ 18 (by simpa using h)
theorem utoa_long (n : Nat) (h : 1000000000000000000 ≤ n) : 18 < (utoa n).length := by
  unfold utoa
  split
  · omega
  · exact decF_long _ _ 18 (by simpa using h) (by omega)
theorem utoa_head (n : Nat) (h : n < 100000000000000000000) : 1 < (utoa n).length → (utoa n).headD 0 ≠ 48 := by
  unfold utoa
  split
  · simp
  · intro _; exact decF_head 20 n (by assumption) (by simpa using h)

/-! ### the tags of decimal texts -/
theorem headD_dg {l : List UInt8} (hne : l ≠ []) (h : l.all dg = true) : dg (l.headD 0) = true := by
  cases l with
  | nil => exact absurd rfl hne
  | cons c r => simp at h; simpa using h.1
/-- What opens with a digit, or with a sign that is no letter, is no word. -/
theorem not_word {l : List UInt8} (h : (l.headD 0).toNat < 65) (_hne : l ≠ []) : isB l = false ∧ isN l = false := by
  constructor
  · cases hb : isB l with
    | false => rfl
    | true =>
      simp [isB] at hb
      rcases hb with e | e | e | e | e | e <;> subst e <;> simp at h
  · cases hb : isN l with
    | false => rfl
    | true =>
      simp [isN] at hb
      rcases hb with e | e | e <;> subst e <;> simp at h
theorem dg_lt {c : UInt8} (h : dg c = true) : c.toNat < 65 := by simp [dg] at h; omega

theorem tag_dash (l : List UInt8) : tag (45 :: l) = [33, 33, 115, 116, 114] := by
  obtain ⟨h1, h2⟩ := not_word (l := 45 :: l) (by simp) (by simp)
  have h3 : dg 45 = false := by decide
  simp [tag, h1, h2, h3]
theorem tag_long (n : Nat) (h : 1000000000000000000 ≤ n) : tag (utoa n) = [] := by
  have hd := headD_dg (utoa_ne n) (utoa_dg n)
  obtain ⟨h1, h2⟩ := not_word (dg_lt hd) (utoa_ne n)
  have hl := utoa_long n h
  have h3 : plainInt (utoa n) = false := by simp [plainInt]; omega
  simp only [tag, h1, h2, hd, h3]; simp
theorem tag_short (n : Nat) (h : n < 1000000000000000000) : tag (utoa n) = [33, 33, 105, 110, 116] := by
  have hd := headD_dg (utoa_ne n) (utoa_dg n)
  obtain ⟨h1, h2⟩ := not_word (dg_lt hd) (utoa_ne n)
  have hl := utoa_short n h
  have hh := utoa_head n (by omega)
  have h3 : plainInt (utoa n) = true := by
    simp only [plainInt, utoa_dg, decide_eq_true hl, Bool.true_and, Bool.and_true]
    by_cases e : 1 < (utoa n).length
    · have := hh e; simp only [decide_eq_true e, Bool.true_and]; simpa using this
    · simp [e]
  simp only [tag, h1, h2, hd, h3]; simp
theorem tag_zero (l : List UInt8) (h : l ≠ []) : tag (48 :: l) = [] := by
  obtain ⟨h1, h2⟩ := not_word (l := 48 :: l) (by simp) (by simp)
  have h3 : dg 48 = true := by decide
  have h4 : plainInt (48 :: l) = false := by
    cases l with
    | nil => exact absurd rfl h
    | cons c r => simp [plainInt]
  simp only [tag, h1, h2, List.headD_cons, h3, h4]; simp

/-! ### the two tags are one -/
theorem val_snoc (l : List UInt8) (c : UInt8) : val (l ++ [c]) = val l * 10 + (c.toNat - 48) := by simp [val]
theorem dg_of {c : UInt8} (h : dg c = true) : UInt8.ofNat (48 + (c.toNat - 48)) = c := by
  simp [dg] at h
  apply UInt8.toNat_inj.1
  simp
  omega
/-- A digit text that opens with no zero comes back. Said of the text turned round. -/
theorem back : ∀ (r : List UInt8) (f : Nat), r.all dg = true → r.length ≤ f → (r ≠ [] → r.getLastD 0 ≠ 48) → decF f (val r.reverse) = r.reverse ∧ (r ≠ [] → val r.reverse ≠ 0)
  | [], f, _, _, _ => by simp [val, decF_zero]
  | c :: r, 0, _, hl, _ => by simp at hl
  | c :: r, f + 1, hd, hl, hz => by
    simp only [List.all_cons, Bool.and_eq_true] at hd
    obtain ⟨hc, hr⟩ := hd
    have hcb : 48 ≤ c.toNat ∧ c.toNat ≤ 57 := by simpa [dg] using hc
    simp only [List.length_cons] at hl
    have ih := back r f hr (by omega) (by
      intro hne
      have := hz (by simp)
      cases r with
      | nil => exact absurd rfl hne
      | cons d r' => simpa using this)
    rw [List.reverse_cons, val_snoc]
    have hv : val r.reverse * 10 + (c.toNat - 48) ≠ 0 := by
      by_cases hne : r = []
      · subst hne
        have h48 := hz (by simp)
        simp at h48
        have : c.toNat ≠ 48 := fun e => h48 (UInt8.toNat_inj.1 (by simpa using e))
        omega
      · have := ih.2 hne; omega
    refine ⟨?_, fun _ => hv⟩
    simp only [decF, hv, if_false]
    have e1 : (val r.reverse * 10 + (c.toNat - 48)) / 10 = val r.reverse := by omega
    have e2 : (val r.reverse * 10 + (c.toNat - 48)) % 10 = c.toNat - 48 := by omega
    rw [e1, e2, ih.1, dg_of hc]

theorem canon_eq (l : List UInt8) (hne : l ≠ []) : canon l = plainInt l := by
  unfold canon plainInt
  by_cases hl : l.length ≤ 18
  · rw [decide_eq_true hl]
    cases hd : l.all dg with
    | false => simp
    | true =>
      simp only [Bool.true_and, Bool.and_true]
      by_cases hz : l.headD 0 = 48
      · by_cases h1 : 1 < l.length
        · -- a leading zero: it does not come back
          have hn : (utoa (val l) == l) = false := by
            cases e : utoa (val l) == l with
            | false => rfl
            | true =>
              have e' : utoa (val l) = l := by simpa using e
              exfalso
              have hv : val l < 100000000000000000000 := by
                have hb : ∀ (m : List UInt8) (v : Nat), m.all dg = true → m.foldl (fun v c => v * 10 + (c.toNat - 48)) v < (v + 1) * 10 ^ m.length := by
                  intro m
                  induction m with
                  | nil => intro v _; simp
                  | cons c m ih =>
                    intro v hm
                    simp only [List.all_cons, Bool.and_eq_true] at hm
                    have hc : 48 ≤ c.toNat ∧ c.toNat ≤ 57 := by simpa [dg] using hm.1
                    have h := ih (v * 10 + (c.toNat - 48)) hm.2
                    simp only [List.foldl_cons, List.length_cons, Nat.pow_succ]
                    have hp : 0 < 10 ^ m.length := Nat.pow_pos (by omega)
                    have h2 : (v * 10 + (c.toNat - 48) + 1) * 10 ^ m.length ≤ ((v + 1) * 10) * 10 ^ m.length := Nat.mul_le_mul_right _ (by omega)
                    have h3 : (v + 1) * 10 * 10 ^ m.length = (v + 1) * (10 ^ m.length * 10) := by
                      rw [Nat.mul_assoc, Nat.mul_comm 10]
                    omega
                have := hb l 0 hd
                have hp : 10 ^ l.length ≤ 10 ^ 18 := Nat.pow_le_pow_right (by omega) hl
                have : val l < 10 ^ 18 := by unfold val; omega
                have e18 : (10 : Nat) ^ 18 = 1000000000000000000 := by decide
                omega
              have := utoa_head (val l) hv (by rw [e']; exact h1)
              rw [e'] at this
              exact this hz
          rw [hn, decide_eq_true h1, hz]
          rfl
        · -- the lone zero
          have hl1 : l = [48] := by
            match l, hne, h1, hz with
            | [c], _, _, hz => simp at hz; rw [hz]
            | c :: d :: r, _, h1, _ => simp at h1
          subst hl1
          decide
      · -- no leading zero: it comes back
        have hb := back l.reverse 20 (by simpa using hd) (by simp; omega) (by
          intro _
          cases l with
          | nil => exact absurd rfl hne
          | cons c r => simpa using hz)
        rw [List.reverse_reverse] at hb
        have hv := hb.2 (by simpa using hne)
        have hu : utoa (val l) = l := by unfold utoa; rw [if_neg hv]; exact hb.1
        rw [hu]
        simp at hz
        simp [hz]
  · rw [decide_eq_false hl]; rfl

theorem low_is {c d : UInt8} (h : low c = d) : c = d ∨ c = d - 32 := by
  unfold low at h
  split at h
  · right; rw [← h]; simp
  · left; exact h

theorem snip {l : List UInt8} {n : Nat} (h : l.length = n + 1) : ∃ a m, l = a :: m ∧ m.length = n := by
  cases l with
  | nil => simp at h
  | cons a m => exact ⟨a, m, rfl, by simpa using h⟩
theorem four {l : List UInt8} {p q r t : UInt8} (h : l.map low = [p, q, r, t]) : ∃ a b c d, l = [a, b, c, d] ∧ low a = p ∧ low b = q ∧ low c = r ∧ low d = t := by
  have hl : l.length = 4 := by simpa using congrArg List.length h
  obtain ⟨a, l1, rfl, hl1⟩ := snip hl
  obtain ⟨b, l2, rfl, hl2⟩ := snip hl1
  obtain ⟨c, l3, rfl, hl3⟩ := snip hl2
  obtain ⟨d, l4, rfl, hl4⟩ := snip hl3
  obtain rfl : l4 = [] := List.eq_nil_of_length_eq_zero hl4
  simp only [List.map_cons, List.map_nil, List.cons.injEq, and_true] at h
  exact ⟨a, b, c, d, rfl, h.1, h.2.1, h.2.2.1, h.2.2.2⟩
theorem five {l : List UInt8} {p q r t u : UInt8} (h : l.map low = [p, q, r, t, u]) : ∃ a b c d e, l = [a, b, c, d, e] ∧ low a = p ∧ low b = q ∧ low c = r ∧ low d = t ∧ low e = u := by
  have hl : l.length = 5 := by simpa using congrArg List.length h
  obtain ⟨a, l1, rfl, _⟩ := snip hl
  simp only [List.map_cons, List.cons.injEq] at h
  obtain ⟨b, c, d, e, rfl, hb, hc, hd, he⟩ := four h.2
  exact ⟨a, b, c, d, e, rfl, h.1, hb, hc, hd, he⟩

set_option maxRecDepth 4000 in
theorem word_cases (l : List UInt8) (h : wordL (l.map low) = true) : tag l = mtag l := by
  simp only [wordL, Bool.or_eq_true, beq_iff_eq] at h
  rcases h with (h | h) | h
  · obtain ⟨a, b, c, d, rfl, h1, h2, h3, h4⟩ := four h
    rcases low_is h1 with rfl | rfl <;> rcases low_is h2 with rfl | rfl <;> rcases low_is h3 with rfl | rfl <;> rcases low_is h4 with rfl | rfl <;> decide
  · obtain ⟨a, b, c, d, e, rfl, h1, h2, h3, h4, h5⟩ := five h
    rcases low_is h1 with rfl | rfl <;> rcases low_is h2 with rfl | rfl <;> rcases low_is h3 with rfl | rfl <;> rcases low_is h4 with rfl | rfl <;> rcases low_is h5 with rfl | rfl <;> decide
  · obtain ⟨a, b, c, d, rfl, h1, h2, h3, h4⟩ := four h
    rcases low_is h1 with rfl | rfl <;> rcases low_is h2 with rfl | rfl <;> rcases low_is h3 with rfl | rfl <;> rcases low_is h4 with rfl | rfl <;> decide

theorem isB_word {l : List UInt8} (h : isB l = true) : wordL (l.map low) = true := by
  simp [isB] at h
  rcases h with e | e | e | e | e | e <;> subst e <;> decide
theorem isN_word {l : List UInt8} (h : isN l = true) : wordL (l.map low) = true := by
  simp [isN] at h
  rcases h with e | e | e <;> subst e <;> decide

theorem tag_eq (l : List UInt8) (hne : l ≠ []) : tag l = mtag l := by
  cases hw : wordL (l.map low) with
  | true => exact word_cases l hw
  | false =>
    have h1 : isB l = false := by
      cases e : isB l with
      | false => rfl
      | true => rw [isB_word e] at hw; cases hw
    have h2 : isN l = false := by
      cases e : isN l with
      | false => rfl
      | true => rw [isN_word e] at hw; cases hw
    unfold tag mtag
    rw [h1, h2, hw, canon_eq l hne]
    simp
end Go.Proofs.Qxb6001200a.Pt

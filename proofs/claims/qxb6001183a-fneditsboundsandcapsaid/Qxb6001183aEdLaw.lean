/-
  THE WALK OF THE LAW FnEditsBoundsAndCap out of its callees' contracts.
-/
import Derived.Test.Qxb6001183aEdCalls
namespace Go.Proofs.Qxb6001183a.Ed
open Go.RowKit Go.Deep

set_option maxHeartbeats 400000 in
/-- A string longer than 4096 bytes: the law says true at once. -/
theorem law_big (a b : ByteArray) (limit wider : Int) (w : World) (w0 : a.size ≤ maxLen) (w1 : b.size ≤ maxLen) (h : ¬ (a.size ≤ 4096 ∧ b.size ≤ 4096)) :
    Calls Try.prog 5 #[.string a, .string b, .int .i64 limit, .int .i64 wider] w fun e w' => e = .returned (.bool true) ∧ Below w.heap.size w w' := by
  unfold maxLen at w0 w1
  by_cases h1 : a.size ≤ 4096
  · have h2 : 4096 < b.size := by omega
    clear h
    go_enter Try.func5, Try.ntmps5
    go_wp2
    all_goals (go_ret; exact ⟨rfl, Below.refl _ _⟩)
  · have h2 : 4096 < a.size := by omega
    clear h
    go_enter Try.func5, Try.ntmps5
    go_wp2
    all_goals (go_ret; exact ⟨rfl, Below.refl _ _⟩)

/-- The length test says yes. -/
theorem zb_small (a b : ByteArray) (limit wider : Int) (w : World) (w0 : a.size ≤ 4096) (w1 : b.size ≤ 4096) :
    Calls Try.prog 11 #[.string a, .string b, .int .i64 limit, .int .i64 wider] w fun e w' => e = .returned (.bool true) ∧ w = w' := by
  go_enter Try.func11, Try.ntmps11
  go_wp2
  go_ret
  exact ⟨rfl, rfl⟩

/-- A limit below one is the answer. -/
theorem law_low (a b : ByteArray) (R S : List Int) (limit wider : Int) (w : World) (w0 : a.size ≤ 4096) (w1 : b.size ≤ 4096) (ha : R.length ≤ 4096) (hb : S.length ≤ 4096)
    (K1 K2 : World → Nat) (C1 C2 : World → Array Value) (g1 : Hid (Gives a R K1 C1)) (g2 : Hid (Gives b S K2 C2)) (hl : limit < 1) :
    Calls Try.prog 5 #[.string a, .string b, .int .i64 limit, .int .i64 wider] w fun e w' => e = .returned (.bool true) ∧ Below w.heap.size w w' := by
  have hv : Hid (limit = ans R S limit) := by unfold Hid ans; split <;> omega
  go_enter Try.func5, Try.ntmps5
  go_wp2_with fail
  refine (zb_small a b limit wider _ w0 w1).mono ?_
  rintro e w' ⟨rfl, rfl⟩
  go_wp2_with fail
  refine (zz_any a b R S limit limit _ ha hb K1 K2 C1 C2 g1 g2 hv).mono ?_
  rintro e w' ⟨rfl, hB⟩
  go_wp2
  go_ret
  exact ⟨rfl, hB⟩

/-- What the law asks of the numbers. -/
theorem ans_facts (R S : List Int) (limit wider : Int) (hl : ¬ limit < 1) :
    ∃ d d2 p q : Int, d = ans R S limit ∧ d2 = ans R S wider ∧ p ≤ d ∧ d ≤ q ∧ (limit ≤ wider → d = if d2 < limit then d2 else limit) ∧
      ((d == 0) = decide (R = S)) ∧
      (∀ df : Int, (df = (R.length : Int) - S.length ∨ df = (S.length : Int) - R.length) → 0 ≤ df → p = if df < limit then df else limit) ∧
      (∀ hi : Int, ((S.length ≤ R.length ∧ hi = R.length) ∨ (R.length < S.length ∧ hi = S.length)) → q = if hi < limit then hi else limit) := by
  have hge := D_ge R S
  have hmx := D_max R S
  have hz := D_zero R S
  refine ⟨ans R S limit, ans R S wider, min (max ((R.length : Int) - S.length) ((S.length : Int) - R.length)) limit, min (max (R.length : Int) (S.length : Int)) limit, rfl, rfl, ?_, ?_, ?_, ?_, ?_, ?_⟩
  · unfold ans; split <;> omega
  · unfold ans; split <;> omega
  · intro hw; unfold ans; split <;> split <;> split <;> omega
  · rw [Bool.eq_iff_iff]
    simp only [beq_iff_eq, decide_eq_true_eq]
    rw [← hz]
    unfold ans; split <;> omega
  · rintro df (h | h) h0 <;> split <;> omega
  · rintro hi (⟨h, e⟩ | ⟨h, e⟩) <;> split <;> omega

/-- runesEqual, whatever the lengths. -/
theorem req_all (R S : List Int) (v : Bool) (b1 b2 c1 c2 : Nat) (w : World) (hR : R.length ≤ 4096) (hS : S.length ≤ 4096) (hv : Hid (v = decide (R = S)))
    (h1 : ∀ i, i < R.length → w.cell? ⟨b1, i, none⟩ = some (.int .i32 (R.getD i 0))) (h2 : ∀ i, i < S.length → w.cell? ⟨b2, i, none⟩ = some (.int .i32 (S.getD i 0))) :
    Calls Try.prog 13 #[.slice (some ⟨b1, 0, none⟩) R.length c1, .slice (some ⟨b2, 0, none⟩) S.length c2] w fun e w' => e = .returned (.bool v) ∧ Below w.heap.size w w' := by
  rw [hv.out]
  by_cases hl : R.length = S.length
  · have := req_any R S S.length b1 b2 c1 c2 w hS hl rfl (fun i hi => h1 i (by omega)) h2
    rw [hl]
    refine this.mono ?_
    rintro e w' ⟨rfl, q, rfl⟩
    exact ⟨rfl, below_drewN (Below.refl _ _) _⟩
  · rw [decide_eq_false (fun e => hl (by rw [e]))]
    refine (req_len R S b1 b2 c1 c2 w hR hS (by simp; omega)).mono ?_
    rintro e w' ⟨rfl, q, rfl⟩
    exact ⟨rfl, below_drewN (Below.refl _ _) _⟩

set_option maxHeartbeats 1000000 in
theorem law_high (a b : ByteArray) (R S : List Int) (limit wider : Int) (w : World) (w0 : a.size ≤ 4096) (w1 : b.size ≤ 4096) (ha : R.length ≤ 4096) (hb : S.length ≤ 4096)
    (K1 K2 : World → Nat) (C1 C2 : World → Array Value) (g1 : Hid (Gives a R K1 C1)) (g2 : Hid (Gives b S K2 C2)) (hl : ¬ limit < 1) :
    Calls Try.prog 5 #[.string a, .string b, .int .i64 limit, .int .i64 wider] w fun e w' => e = .returned (.bool true) ∧ Below w.heap.size w w' := by
  obtain ⟨d, d2, p, q, hd, hd2, hp, hq, hw, he, hP, hQ⟩ := ans_facts R S limit wider hl
  have HD : Hid (d = ans R S limit) := hd
  have HD2 : Hid (d2 = ans R S wider) := hd2
  have HW : Hid (limit ≤ wider → d = if d2 < limit then d2 else limit) := hw
  have HP : Hid (∀ df : Int, (df = (R.length : Int) - S.length ∨ df = (S.length : Int) - R.length) → 0 ≤ df → p = if df < limit then df else limit) := hP
  have HQ : Hid (∀ hi : Int, ((S.length ≤ R.length ∧ hi = R.length) ∨ (R.length < S.length ∧ hi = S.length)) → q = if hi < limit then hi else limit) := hQ
  clear hd hd2 hw hP hQ
  obtain ⟨v, hv⟩ : ∃ v, v = decide (R = S) := ⟨_, rfl⟩
  have HV : Hid (v = decide (R = S)) := hv
  have hdv : (d == 0) = v := by rw [he, hv]
  clear he hv
  have hc1 := g1.out.1
  have hc2 := g2.out.1
  by_cases hwl : limit ≤ wider
  · by_cases hnm : R.length < S.length
    all_goals cases v
    all_goals
      skip
      go_enter Try.func5, Try.ntmps5
      go_wp2_with fail
      refine (zb_small a b limit wider _ w0 w1).mono ?_
      rintro e w' ⟨rfl, rfl⟩
      go_wp2_with fail
      refine (zz_any a b R S limit d _ ha hb K1 K2 C1 C2 g1 g2 HD).mono ?_
      rintro e w2 ⟨rfl, hB⟩
      go_wp2_with fail
      refine (min_any _ _ p _ ?_).mono ?_
      · exact HP.out _ (by omega) (by omega)
      rintro e w' ⟨rfl, rfl⟩
      go_wp2_with fail
      refine (min_any _ _ q _ ?_).mono ?_
      · exact HQ.out _ (by omega)
      rintro e w' ⟨rfl, rfl⟩
      go_wp2_with fail
      refine (req_all R S _ _ _ _ _ _ ha hb HV ?_ ?_).mono ?_
      · intro i hi
        rw [World.cell?_drew, World.cell?_drew, World.cell?_alloc_past _ _ _ (by simp), World.cell?_alloc_at _ _ _ _ rfl]
        exact g1.out.2 _ i hi
      · intro i hi
        rw [World.cell?_drew, World.cell?_drew, World.cell?_alloc_at _ _ _ _ (by simp)]
        exact g2.out.2 _ i hi
      rintro e w3 ⟨rfl, hB3⟩
      have hs2 := hB.size
      have hs3 := hB3.size
      simp only [World.size_drew, World.size_alloc] at hs3
      have HB3 : Hid (Below w.heap.size w w3) := ((((hB.alloc (by omega) _).alloc (by rw [World.size_alloc]; omega) _).drew).drew).trans (hB3.mono (by simp; omega))
      clear hB hB3 hc1 hc2
      go_wp2_with fail
      refine (zz_any a b R S wider d2 _ ha hb K1 K2 C1 C2 g1 g2 HD2).mono ?_
      rintro e w4 ⟨rfl, hB4⟩
      go_wp2_with fail
      refine (min_any _ _ d _ ?_).mono ?_
      · exact HW.out hwl
      rintro e w' ⟨rfl, rfl⟩
      go_wp2_with fail
      go_ret
      exact ⟨rfl, HB3.out.trans (hB4.mono (by omega))⟩
  · by_cases hnm : R.length < S.length
    all_goals cases v
    all_goals
      skip
      go_enter Try.func5, Try.ntmps5
      go_wp2_with fail
      refine (zb_small a b limit wider _ w0 w1).mono ?_
      rintro e w' ⟨rfl, rfl⟩
      go_wp2_with fail
      refine (zz_any a b R S limit d _ ha hb K1 K2 C1 C2 g1 g2 HD).mono ?_
      rintro e w2 ⟨rfl, hB⟩
      go_wp2_with fail
      refine (min_any _ _ p _ ?_).mono ?_
      · exact HP.out _ (by omega) (by omega)
      rintro e w' ⟨rfl, rfl⟩
      go_wp2_with fail
      refine (min_any _ _ q _ ?_).mono ?_
      · exact HQ.out _ (by omega)
      rintro e w' ⟨rfl, rfl⟩
      go_wp2_with fail
      refine (req_all R S _ _ _ _ _ _ ha hb HV ?_ ?_).mono ?_
      · intro i hi
        rw [World.cell?_drew, World.cell?_drew, World.cell?_alloc_past _ _ _ (by simp), World.cell?_alloc_at _ _ _ _ rfl]
        exact g1.out.2 _ i hi
      · intro i hi
        rw [World.cell?_drew, World.cell?_drew, World.cell?_alloc_at _ _ _ _ (by simp)]
        exact g2.out.2 _ i hi
      rintro e w3 ⟨rfl, hB3⟩
      have hs2 := hB.size
      have hs3 := hB3.size
      simp only [World.size_drew, World.size_alloc] at hs3
      have HB3 : Hid (Below w.heap.size w w3) := ((((hB.alloc (by omega) _).alloc (by rw [World.size_alloc]; omega) _).drew).drew).trans (hB3.mono (by simp; omega))
      clear hB hB3 hc1 hc2
      go_wp2_with fail
      go_ret
      exact ⟨rfl, HB3.out⟩
end Go.Proofs.Qxb6001183a.Ed

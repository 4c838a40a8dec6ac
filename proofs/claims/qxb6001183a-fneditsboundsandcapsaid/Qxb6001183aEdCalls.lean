/-
  CONTRACTS OF THE LAW's CALLEES: minInt, runesEqual, ZZEdits.
-/
import Derived.Test.Qxb6001183aEdWalk
namespace Go.Proofs.Qxb6001183a.Ed
open Go.RowKit Go.Deep

/-- minInt. -/
theorem min_any (x y v : Int) (w : World) (h : v = if x < y then x else y) :
    Calls Try.prog 12 #[.int .i64 x, .int .i64 y] w fun e w' => e = .returned (.int .i64 v) ∧ w = w' := by
  by_cases hlt : x < y
  · rw [if_pos hlt] at h
    subst h
    go_enter Try.func12, Try.ntmps12
    go_wp2
    go_ret
    exact ⟨rfl, rfl⟩
  · rw [if_neg hlt] at h
    subst h
    go_enter Try.func12, Try.ntmps12
    go_wp2
    go_ret
    exact ⟨rfl, rfl⟩

theorem ext_getD {R S : List Int} (hl : R.length = S.length) (h : ∀ t, t < R.length → R.getD t 0 = S.getD t 0) : R = S := by
  apply List.ext_getElem hl
  intro i h1 h2
  have := h i h1
  simpa [List.getD, h1, h2] using this

/-- runesEqual, the lengths differ. -/
theorem req_len (R S : List Int) (b1 b2 c1 c2 : Nat) (w : World) (_hR : R.length ≤ 4096) (_hS : S.length ≤ 4096) (hne : ((R.length : Int) != (S.length : Int)) = true) :
    Calls Try.prog 13 #[.slice (some ⟨b1, 0, none⟩) R.length c1, .slice (some ⟨b2, 0, none⟩) S.length c2] w fun e w' => e = .returned (.bool false) ∧ ∃ q, w' = w.drewN q := by
  go_enter Try.func13, Try.ntmps13
  go_wp2
  go_ret
  exact ⟨rfl, 0, rfl⟩

set_option maxHeartbeats 400000 in
/-- runesEqual, equal lengths. -/
theorem req_any (R S : List Int) (n b1 b2 c1 c2 : Nat) (w : World) (hn : n ≤ 4096) (HR : Hid (R.length = n)) (HS : Hid (S.length = n))
    (h1 : ∀ i, i < n → w.cell? ⟨b1, i, none⟩ = some (.int .i32 (R.getD i 0))) (h2 : ∀ i, i < n → w.cell? ⟨b2, i, none⟩ = some (.int .i32 (S.getD i 0))) :
    Calls Try.prog 13 #[.slice (some ⟨b1, 0, none⟩) n c1, .slice (some ⟨b2, 0, none⟩) n c2] w fun e w' => e = .returned (.bool (decide (R = S))) ∧ ∃ q, w' = w.drewN q := by
  have H1 : Hid (∀ i, i < n → w.cell? ⟨b1, i, none⟩ = some (.int .i32 (R.getD i 0))) := h1
  have H2 : Hid (∀ i, i < n → w.cell? ⟨b2, i, none⟩ = some (.int .i32 (S.getD i 0))) := h2
  clear h1 h2
  go_enter Try.func13, Try.ntmps13
  go_wp2
  go_loopw [5] (fun i wr => ∃ k : Nat, k ≤ n ∧ i = .int .i64 k ∧ Hid (∀ t, t < k → R.getD t 0 = S.getD t 0) ∧ ∃ q, wr = w.drewN q) (fun i _ => n - (intOf i).toNat)
  case atStart => exact ⟨0, Nat.zero_le _, rfl, fun t ht => absurd ht (Nat.not_lt_zero _), 0, rfl⟩
  case round =>
    obtain ⟨k, hk, rfl, hE, q, rfl⟩ := hrel
    by_cases hlt : k < n
    · have p1 : w.cell? ⟨b1, k, none⟩ = some (.int .i32 (R.getD k 0)) := H1.out k hlt
      have p2 : w.cell? ⟨b2, k, none⟩ = some (.int .i32 (S.getD k 0)) := H2.out k hlt
      obtain ⟨x, hx⟩ : ∃ x, x = R.getD k 0 := ⟨_, rfl⟩
      obtain ⟨y, hy⟩ : ∃ y, y = S.getD k 0 := ⟨_, rfl⟩
      rw [← hx] at p1
      rw [← hy] at p2
      have HX : Hid (x = R.getD k 0) := hx
      have HY : Hid (y = S.getD k 0) := hy
      clear hx hy
      by_cases hxy : x = y
      · have HE : Hid (x = y) := hxy
        have hne : (x != y) = false := by simpa using hxy
        clear hxy
        go_wp2
        go_quiet (fail)
        go_wp2
        go_roundw
        case rel => exact ⟨k + 1, by omega, by go_num, fun t ht => (by
          by_cases e : t = k
          · subst e; rw [← HX.out, ← HY.out]; exact HE.out
          · exact hE t (by omega)), _, rfl⟩
        case measure => simp [intOf]; omega
      · have hne : (x != y) = true := by simpa using hxy
        have hd : decide (R = S) = false := decide_eq_false (fun e => hxy (by rw [HX.out, HY.out, e]))
        clear hxy
        go_wp2
        go_quiet (fail)
        go_wp2
        go_ret
        exact ⟨by rw [hd]; rfl, q + nq, World.drewN_drewN _ _ _⟩
    · have hd : decide (R = S) = true := decide_eq_true (ext_getD (HR.out.trans HS.out.symm) (fun t ht => hE t (by have := HR.out; omega)))
      go_wp2
      go_ret
      exact ⟨by rw [hd]; rfl, q, rfl⟩

/-- What 'edits' answers. -/
def ans (R S : List Int) (limit : Int) : Int := if limit < (D R S R.length S.length : Int) then limit else (D R S R.length S.length : Int)

theorem D_ge (R S : List Int) : R.length ≤ D R S R.length S.length + S.length ∧ S.length ≤ D R S R.length S.length + R.length := dist_ge (fn R) (fn S) R.length S.length
theorem D_max (R S : List Int) : D R S R.length S.length ≤ max R.length S.length := dist_le_max (fn R) (fn S) R.length S.length
theorem D_zero (R S : List Int) : D R S R.length S.length = 0 ↔ R = S := by
  unfold D
  rw [dist_eq_zero]
  constructor
  · rintro ⟨h, ht⟩; exact ext_getD h ht
  · intro h; subst h; exact ⟨rfl, fun _ _ => rfl⟩

theorem edits_any (a b : ByteArray) (R S : List Int) (limit : Int) (w : World) (ha : R.length ≤ 4096) (hb : S.length ≤ 4096) (K1 K2 : World → Nat) (C1 C2 : World → Array Value)
    (g1 : Gives a R K1 C1) (g2 : Gives b S K2 C2) :
    Calls Try.prog 22 #[.string a, .string b, .int .i64 limit] w fun e w' => e = .returned (.int .i64 (ans R S limit)) ∧ Below w.heap.size w w' := by
  have hge := D_ge R S
  by_cases h1 : limit ≤ (R.length : Int) - S.length
  · have e : ans R S limit = limit := by unfold ans; split <;> omega
    rw [e]
    exact edits_far1 a b R S limit w ha hb K1 K2 C1 C2 g1 g2 h1
  · by_cases h2 : limit ≤ -((R.length : Int) - S.length)
    · have e : ans R S limit = limit := by unfold ans; split <;> omega
      rw [e]
      exact edits_far2 a b R S limit w ha hb K1 K2 C1 C2 g1 g2 h1 h2
    · exact edits_near a b R S limit w ha hb K1 K2 C1 C2 g1 g2 h1 h2

/-- ZZEdits. -/
theorem zz_any (a b : ByteArray) (R S : List Int) (limit v : Int) (w : World) (ha : R.length ≤ 4096) (hb : S.length ≤ 4096) (K1 K2 : World → Nat) (C1 C2 : World → Array Value)
    (g1 : Hid (Gives a R K1 C1)) (g2 : Hid (Gives b S K2 C2)) (hv : Hid (v = ans R S limit)) :
    Calls Try.prog 9 #[.string a, .string b, .int .i64 limit] w fun e w' => e = .returned (.int .i64 v) ∧ Below w.heap.size w w' := by
  go_enter Try.func9, Try.ntmps9
  go_wp2_with fail
  refine (edits_any a b R S limit _ ha hb K1 K2 C1 C2 g1.out g2.out).mono ?_
  rintro e w' ⟨rfl, hb'⟩
  rw [← hv.out]
  go_wp2
  go_ret
  exact ⟨rfl, hb'⟩
end Go.Proofs.Qxb6001183a.Ed

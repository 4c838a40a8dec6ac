/-
  THE WALK OF 'edits': the Go text computes 'Ed.capped' of 'Ed.dist'.
  The two conversions '[]rune(..)' are handed to the walk as facts over plain variables (K1, K2: the capacities; C1, C2: the rows' cells): with the model's own words there the kernel runs out.
-/
import Derived.Test.Qxb6001183aEdParts
namespace Go.Proofs.Qxb6001183a.Ed
open Go.RowKit Go.Deep

theorem info3 : (Try.prog.info? 3).map (fun i => (i.zero, i.size, i.bytes)) = some (some (.int .i64 0), 1, 8) := by kernel_rfl

/-- '[]rune(s)' gives the code points L. -/
def Gives (s : ByteArray) (L : List Int) (K : World → Nat) (C : World → Array Value) : Prop :=
  (∀ w, (convert 9 26 (.string s)).run Try.prog w = .ok (.slice (some ⟨w.heap.size, 0, none⟩) L.length (K w)) (w.alloc (.cells (C w) 21)).drew) ∧
  ∀ w i, i < L.length → (C w)[i]? = some (.int .i32 (L.getD i 0))

set_option maxHeartbeats 400000 in
theorem edits_far1 (a b : ByteArray) (R S : List Int) (limit : Int) (w : World) (ha : R.length ≤ 4096) (hb : S.length ≤ 4096) (K1 K2 : World → Nat) (C1 C2 : World → Array Value)
    (g1 : Gives a R K1 C1) (g2 : Gives b S K2 C2) (h1 : limit ≤ (R.length : Int) - S.length) :
    Calls Try.prog 22 #[.string a, .string b, .int .i64 limit] w fun e w' => e = .returned (.int .i64 limit) ∧ Below w.heap.size w w' := by
  have hc1 := g1.1
  have hc2 := g2.1
  clear g1 g2
  go_enter Try.func22, Try.ntmps22
  go_wp2
  go_ret
  exact ⟨rfl, ((((Below.refl _ _).alloc (Nat.le_refl _) _).alloc (by simp) _).drew).drew⟩

set_option maxHeartbeats 400000 in
theorem edits_far2 (a b : ByteArray) (R S : List Int) (limit : Int) (w : World) (ha : R.length ≤ 4096) (hb : S.length ≤ 4096) (K1 K2 : World → Nat) (C1 C2 : World → Array Value)
    (g1 : Gives a R K1 C1) (g2 : Gives b S K2 C2) (h1 : ¬ limit ≤ (R.length : Int) - S.length) (h2 : limit ≤ -((R.length : Int) - S.length)) :
    Calls Try.prog 22 #[.string a, .string b, .int .i64 limit] w fun e w' => e = .returned (.int .i64 limit) ∧ Below w.heap.size w w' := by
  have hc1 := g1.1
  have hc2 := g2.1
  clear g1 g2
  go_enter Try.func22, Try.ntmps22
  go_wp2
  go_ret
  exact ⟨rfl, ((((Below.refl _ _).alloc (Nat.le_refl _) _).alloc (by simp) _).drew).drew⟩

set_option maxHeartbeats 1000000 in
theorem edits_near (a b : ByteArray) (R S : List Int) (limit : Int) (w : World) (ha : R.length ≤ 4096) (hb : S.length ≤ 4096) (K1 K2 : World → Nat) (C1 C2 : World → Array Value)
    (g1 : Gives a R K1 C1) (g2 : Gives b S K2 C2) (h1 : ¬ limit ≤ (R.length : Int) - S.length) (h2 : ¬ limit ≤ -((R.length : Int) - S.length)) :
    Calls Try.prog 22 #[.string a, .string b, .int .i64 limit] w fun e w' => e = .returned (.int .i64 (if limit < (D R S R.length S.length : Int) then limit else (D R S R.length S.length : Int))) ∧ Below w.heap.size w w' := by
  have hc1 := g1.1
  have hc2 := g2.1
  have hst := fun u v => St.start w R S (C1 u) (C2 v) (g1.2 u) (g2.2 v)
  have HST := hst
  clear g1 g2 hst
  have hmk := run_make_row' (P := Try.prog) 33 3 (.int .i64 0) 8 Try.underlying33 info3 rfl .i64 .i64 (S.length + 1) (by omega) (by omega)
  have ec : ((S.length + 1 : Nat) : Int) = (S.length : Int) + 1 := by omega
  rw [ec] at hmk
  clear ec
  go_enter Try.func22, Try.ntmps22
  go_wp2
  go_loopw [41] (fun i wr => ∃ k : Nat, k ≤ S.length + 1 ∧ i = .int .i64 k ∧ St w wr R S (row0 k)) (fun i _ => S.length + 1 - (intOf i).toNat)
  case atStart => exact ⟨0, Nat.zero_le _, rfl, HST _ _⟩
  case round =>
    obtain ⟨k, hk, rfl, hS⟩ := hrel
    clear hc1 hc2 HST hmk
    by_cases hlt : k < S.length + 1
    · have q1 := hS.row.cell hlt
      have q2 := hS.row.frozen k
      have R1 := hS.row0_step
      clear hS
      go_wp2
      go_roundw
      case rel => exact ⟨k + 1, by omega, by go_num, R1⟩
      case measure => simp [intOf]; omega
    · have R0 := hS.row0_end (by omega)
      clear hS
      go_wp2
      clear hlt hk
      go_loopw [12] (fun i wr => ∃ k : Nat, k ≤ R.length ∧ i = .int .i64 ((k : Int) + 1) ∧ St w wr R S (rowA R S k)) (fun i _ => R.length + 1 - (intOf i).toNat)
      case atStart => exact ⟨0, Nat.zero_le _, rfl, R0⟩
      case round =>
        clear R0
        obtain ⟨k, hk, rfl, hS⟩ := hrel
        by_cases hlt : k < R.length
        · have q1 : wr.cell? ⟨w.heap.size + 1 + 1, 0, none⟩ = some (.int .i64 (D R S k 0 : Int)) := hS.row.cell (i := 0) (by omega)
          have q2 := hS.row.frozen 0
          have R1 := hS.rowB_start
          clear hS
          go_wp2
          go_loopw [13, 14] (fun g i wr => ∃ j : Nat, j ≤ S.length ∧ i = .int .i64 ((j : Int) + 1) ∧ g = .int .i64 (D R S k j : Int) ∧ St w wr R S (rowB R S k j)) (fun _ i _ => S.length + 1 - (intOf i).toNat)
          case atStart => exact ⟨0, Nat.zero_le _, rfl, rfl, R1⟩
          case round =>
            clear R1 q1 q2
            obtain ⟨j, hj, rfl, rfl, hS⟩ := hrel
            by_cases hjt : j < S.length
            · obtain ⟨p1, p2⟩ := hS.cellB_at hjt
              have p3 := hS.row.frozen (j + 1)
              have p4 := hS.r k hlt
              have p5 := hS.s j hjt
              have b1 := D_le R S k j (by omega) (by omega)
              have b2 := D_le R S k (j + 1) (by omega) (by omega)
              have b3 := D_le R S (k + 1) j (by omega) (by omega)
              have HS : Hid (St w wr R S (rowB R S k j)) := hS
              clear hS
              obtain ⟨x, hx⟩ : ∃ x, x = R.getD k 0 := ⟨_, rfl⟩
              obtain ⟨y, hy⟩ : ∃ y, y = S.getD j 0 := ⟨_, rfl⟩
              rw [← hx] at p4
              rw [← hy] at p5
              have HX : Hid (x = R.getD k 0) := hx
              have HY : Hid (y = S.getD j 0) := hy
              clear hx hy
              go_wp2
              go_quiet (fail)
              go_wp2
              all_goals go_region
              all_goals go_wp2
              all_goals
                go_roundw
                case rel =>
                  first
                  | (have hne : (x != y) = true := by assumption
                     have hn' : ¬ x = y := by simpa using hne
                     exact ⟨j + 1, by omega, by go_num, rfl, (HS.out.drewN _).rowB_step _ (by rw [← HX.out, ← HY.out, if_neg hn']) _ (least _ _ _)⟩)
                  | (have hne : (x != y) = false := by assumption
                     have hn' : x = y := by simpa using hne
                     exact ⟨j + 1, by omega, by go_num, rfl, (HS.out.drewN _).rowB_step _ (by rw [← HX.out, ← HY.out, if_pos hn', Int.add_zero]) _ (least _ _ _)⟩)
                case measure => simp [intOf]; omega
            · have R2 := hS.rowB_end (by omega)
              clear hS
              go_wp2
              go_roundw
              case rel => exact ⟨k + 1, by omega, by go_num, R2⟩
              case measure => simp [intOf]; omega
        · have hkR : k = R.length := by omega
          subst hkR
          have q1 : wr.cell? ⟨w.heap.size + 1 + 1, S.length, none⟩ = some (.int .i64 (D R S R.length S.length : Int)) := hS.row.cell (i := S.length) (by omega)
          have hB := hS.below
          clear hS
          go_wp2
          all_goals (go_ret; exact ⟨rfl, hB⟩)
end Go.Proofs.Qxb6001183a.Ed

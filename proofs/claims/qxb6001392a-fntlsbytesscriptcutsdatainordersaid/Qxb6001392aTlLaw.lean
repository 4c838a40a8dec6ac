/-
  THE WALK OF THE LAW FnTlsBytesScriptCutsDataInOrder.
-/
import Derived.Test.Qxb6001392aTlReader
namespace Go.Proofs.Qxb6001392a.Tl
open Go.RowKit Go.Deep
set_option linter.unusedVariables false

set_option maxHeartbeats 400000 in
theorem law_big (a0 a1 : Option Addr) (N M c0 c1 : Nat) (sh : Bool) (w : World) (hN : N ≤ maxLen) (hM : M ≤ maxLen) (h : 1048576 < N + 8 * M) :
    Calls Try.prog 3 #[.slice a0 N c0, .slice a1 M c1, .bool sh] w fun e w' => e = .returned (.bool true) ∧ Below w.heap.size w w' := by
  unfold maxLen at hN hM
  go_enter Try.func3, Try.ntmps3
  go_wp2
  all_goals (go_ret; exact ⟨rfl, Below.refl _ _⟩)

/-- The length test says yes. -/
theorem zb_yes (a0 a1 : Option Addr) (N M c0 c1 : Nat) (sh : Bool) (w : World) (h : N + 8 * M ≤ 1048576) : Calls Try.prog 5 #[.slice a0 N c0, .slice a1 M c1, .bool sh] w fun e w' => e = .returned (.bool true) ∧ w = w' := by
  go_enter Try.func5, Try.ntmps5
  go_wp2
  go_ret
  exact ⟨rfl, rfl⟩

/-- What holds at the second loop's head: nothing old has turned since the clones were made (w2); the reader lies in the next block: its rest is the data from p on; its mark. -/
structure St (w2 wr : World) (L : List Int) (p m : Nat) (a : Option Addr) (sh : Bool) : Prop where
  below : Below w2.heap.size w2 wr
  c0 : wr.cell? ⟨w2.heap.size, 0, none⟩ = some (.slice a m m)
  c1 : wr.cell? ⟨w2.heap.size, 1, none⟩ = some (.bool sh)
  f0 : wr.frozen? ⟨w2.heap.size, 0, none⟩ = false
  f1 : wr.frozen? ⟨w2.heap.size, 1, none⟩ = false
  len : (L.drop p).length = m
  rd : Rd .u8 w2 a (L.drop p)

theorem St.drewN {w2 wr : World} {L : List Int} {p m : Nat} {a : Option Addr} {sh : Bool} (h : St w2 wr L p m a sh) (q : Nat) : St w2 (wr.drewN q) L p m a sh :=
  ⟨below_drewN h.below q, h.c0, h.c1, h.f0, h.f1, h.len, h.rd⟩
theorem St.start (w2 : World) (L : List Int) (a : Option Addr) (N : Nat) (sh : Bool) (hl : L.length = N) (hr : Rd .u8 w2 a L) : St w2 (w2.alloc (.cells #[.slice a N N, .bool sh] 36)) L 0 N a sh :=
  ⟨(Below.refl _ _).alloc (Nat.le_refl _) _, by rw [World.cell?_alloc_at _ _ _ _ rfl]; rfl, by rw [World.cell?_alloc_at _ _ _ _ rfl]; rfl, World.frozen?_alloc_at _ _ _ _ rfl, World.frozen?_alloc_at _ _ _ _ rfl, by simpa using hl, by simpa using hr⟩
theorem St.refuse {w2 wr : World} {L : List Int} {p m : Nat} {a : Option Addr} {sh : Bool} (h : St w2 wr L p m a sh) : St w2 (wr.setCell ⟨w2.heap.size, 1, none⟩ (.bool true)) L p m a true :=
  ⟨h.below.setCell (Nat.le_refl _) _, by rw [World.cell?_setCell_other _ _ _ _ (by intro e; injection e with _ e2; cases e2)]; exact h.c0, World.cell?_setCell_same _ _ _ h.c1, by rw [World.frozen?_setCell]; exact h.f0, by rw [World.frozen?_setCell]; exact h.f1, h.len, h.rd⟩
theorem St.piece {w2 wr : World} {L : List Int} {p m n : Nat} {a a2 : Option Addr} {sh : Bool} (h : St w2 wr L p m a sh) (hr : Rd .u8 w2 a2 ((L.drop p).drop n)) : St w2 (wr.setCell ⟨w2.heap.size, 0, none⟩ (.slice a2 (m - n) (m - n))) L (p + n) (m - n) a2 sh :=
  ⟨h.below.setCell (Nat.le_refl _) _, World.cell?_setCell_same _ _ _ h.c0, by rw [World.cell?_setCell_other _ _ _ _ (by intro e; injection e with _ e2; cases e2)]; exact h.c1, by rw [World.frozen?_setCell]; exact h.f0, by rw [World.frozen?_setCell]; exact h.f1,
   by rw [← List.drop_drop, List.length_drop, h.len], by rw [← List.drop_drop]; exact hr⟩

theorem zt_refuse' (w2 wr : World) (L : List Int) (p m : Nat) (a : Option Addr) (sh : Bool) (y : Int) (hS : Hid (St w2 wr L p m a sh)) (hn : sh = true ∨ (m : Int) < y) :
    Calls Try.prog 9 #[.pointer (some ⟨w2.heap.size, 0, none⟩), .int .i64 y] wr fun e w' => e = .returned (.slice none 0 0) ∧ St w2 w' L p m a true := by
  refine (zt_refuse w2.heap.size y a m sh wr hS.out.c0 hS.out.c1 hS.out.f1 hn).mono ?_
  rintro e w' ⟨rfl, rfl⟩
  exact ⟨rfl, hS.out.refuse⟩
theorem zt_ok' (w2 wr : World) (L : List Int) (p m n : Nat) (a : Option Addr) (hS : Hid (St w2 wr L p m a false)) (hn : n ≤ m) :
    Calls Try.prog 9 #[.pointer (some ⟨w2.heap.size, 0, none⟩), .int .i64 (n : Int)] wr fun e w' => ∃ b1 b2, e = .returned (.slice b1 n m) ∧ St w2 w' L (p + n) (m - n) b2 false ∧ Rd .u8 w2 b1 ((L.drop p).take n) := by
  refine (zt_ok w2.heap.size n a m (L.drop p) w2 wr hS.out.c0 hS.out.c1 hS.out.f0 hn hS.out.len hS.out.rd).mono ?_
  rintro e w' ⟨b1, b2, rfl, rfl, h1, h2⟩
  exact ⟨b1, b2, rfl, hS.out.piece h2, h1⟩
theorem state' (w2 wr : World) (L : List Int) (p m : Nat) (a : Option Addr) (sh : Bool) (hS : Hid (St w2 wr L p m a sh)) :
    Calls Try.prog 10 #[.pointer (some ⟨w2.heap.size, 0, none⟩)] wr fun e w' => e = .returned (.tuple #[.slice a m m, .bool sh]) ∧ St w2 w' L p m a sh := by
  refine (state_any w2.heap.size sh a m m wr hS.out.c0 hS.out.c1).mono ?_
  rintro e w' ⟨rfl, q, rfl⟩
  exact ⟨rfl, hS.out.drewN q⟩
theorem same' (w2 wr : World) (L : List Int) (p m : Nat) (a : Option Addr) (sh : Bool) (hS : Hid (St w2 wr L p m a sh)) (b1 ad : Option Addr) (n N r c cD : Nat) (HN : Hid (L.length = N)) (hN : N ≤ 1048576) (hp : r + n ≤ N)
    (hr : Hid (Rd .u8 w2 b1 ((L.drop r).take n))) (hD : Hid (Rd .u8 w2 ad L)) :
    Calls Try.prog 11 #[.slice b1 n c, .slice ad N cD, .int .i64 r] wr fun e w' => e = .returned (.bool true) ∧ St w2 w' L p m a sh := by
  refine (same_any b1 ad L n N r c cD wr HN hN hp (hr.out.later hS.out.below) (hD.out.later hS.out.below)).mono ?_
  rintro e w' ⟨rfl, q, rfl⟩
  exact ⟨rfl, hS.out.drewN q⟩

set_option maxRecDepth 20000 in
set_option maxHeartbeats 2000000 in
theorem law_in (a0 a1 : Option Addr) (L Z : List Int) (N M cc0 cc1 : Nat) (sh0 : Bool) (w : World) (HN : Hid (L.length = N)) (HM : Hid (Z.length = M)) (h : N + 8 * M ≤ 1048576) (hr0 : Hid (Rd .u8 w a0 L)) (hr1 : Hid (Rd .i64 w a1 Z))
    (z0 : a0 = none → N = 0 ∧ cc0 = 0) (z1 : a1 = none → M = 0 ∧ cc1 = 0) :
    Calls Try.prog 3 #[.slice a0 N cc0, .slice a1 M cc1, .bool sh0] w fun e w' => e = .returned (.bool true) ∧ Below w.heap.size w w' := by
  have Z0 : Hid (a0 = none → N = 0 ∧ cc0 = 0) := z0
  have Z1 : Hid (a1 = none → M = 0 ∧ cc1 = 0) := z1
  clear z0 z1
  go_enter Try.func3, Try.ntmps3
  go_wp2_with fail
  refine (zb_yes a0 a1 N M cc0 cc1 sh0 _ h).mono ?_
  rintro e w' ⟨rfl, rfl⟩
  go_wp2_with fail
  go_loop [7] (fun i => ∃ k : Nat, k ≤ M ∧ i = .int .i64 k ∧ Hid (∀ t, t < k → 0 ≤ Z.getD t 0)) (fun i => M - (intOf i).toNat)
  case atStart => exact ⟨0, Nat.zero_le _, rfl, fun t ht => absurd ht (Nat.not_lt_zero _)⟩
  case round =>
    obtain ⟨k, hk, rfl, hE⟩ := hrel
    by_cases hlt : k < M
    · have hkl : k < Z.length := by rw [HM.out]; exact hlt
      obtain ⟨b, off, rfl, hc⟩ := hr1.out.at (by omega)
      have q1 := hc k hkl
      obtain ⟨y, hy⟩ : ∃ y, y = Z.getD k 0 := ⟨_, rfl⟩
      rw [← hy] at q1
      have HY : Hid (y = Z.getD k 0) := hy
      clear hc hy hkl
      by_cases hneg : y < 0
      · go_wp2_with fail
        go_ret
        exact ⟨rfl, Below.refl _ _⟩
      · have HE : Hid (∀ t, t < k + 1 → 0 ≤ Z.getD t 0) := fun t ht => by
          by_cases e : t = k
          · subst e; rw [← HY.out]; omega
          · exact hE t (by omega)
        go_wp2_with fail
        go_round
        case rel => exact ⟨k + 1, by omega, by go_num, HE⟩
        case measure => simp [intOf]; omega
    · have HP : Hid (∀ t, t < M → 0 ≤ Z.getD t 0) := fun t ht => hE t (by omega)
      clear hE
      go_wp2_with fail
      refine (cb_any a0 L N cc0 _ HN (by omega) hr0 Z0.out).mono ?_
      rintro e w1 ⟨x0, d0, rfl, o0, r0, B1⟩
      go_wp2_with fail
      refine (ci_any a1 Z M cc1 _ HM (by omega) (hr1.out.later B1) Z1.out).mono ?_
      rintro e w2 ⟨x1, d1, rfl, r1, B2⟩
      have hd0 : d0 = N := by
        rcases o0 with ⟨_, e1, e2⟩ | ⟨b, _, e⟩
        · rw [e1, e2]
        · exact e
      subst hd0
      have RD : Hid (Rd .u8 w2 x0 L) := r0.later B2
      have RZ : Hid (Rd .i64 w2 x1 Z) := r1
      have B02 : Hid (Below w.heap.size w w2) := B1.trans (B2.mono B1.size)
      clear r0 r1 o0 B1 B2
      go_wp2_with fail
      refine (new_any x0 _ _ sh0 _).mono ?_
      rintro e w3 ⟨rfl, rfl⟩
      have HST : Hid _ := St.start w2 L x0 d0 sh0 HN.out RD.out
      go_wp2_with fail
      go_loopw [9, 10, 11] (fun ps sv i wr => ∃ (j p m : Nat) (sh : Bool) (a : Option Addr), j ≤ M ∧ p + m ≤ d0 ∧ d0 ≤ p + m ∧ i = .int .i64 j ∧ ps = .int .i64 p ∧ sv = .bool sh ∧ St w2 wr L p m a sh) (fun _ _ i _ => M - (intOf i).toNat)
      case atStart => exact ⟨0, 0, d0, sh0, x0, Nat.zero_le _, by omega, by omega, rfl, rfl, rfl, HST.out⟩
      case round =>
        obtain ⟨j, p, m, sh, a, hj, hpm1, hpm2, rfl, rfl, rfl, hS⟩ := hrel
        clear HST
        have HS : Hid (St w2 wr L p m a sh) := hS
        by_cases hjt : j < M
        · have hjl : j < Z.length := by rw [HM.out]; exact hjt
          obtain ⟨b, off, rfl, hc⟩ := RZ.out.at (by omega)
          have q1 := hc j hjl
          have hpos := HP.out j hjt
          obtain ⟨y, hy⟩ : ∃ y, y = Z.getD j 0 := ⟨_, rfl⟩
          rw [← hy] at q1 hpos
          have QC : Hid (∀ wx, Below w2.heap.size w2 wx → wx.cell? ⟨b, off + j, none⟩ = some (.int .i64 y)) := fun wx hB => (hB.cell (p := ⟨b, off + j, none⟩) (World.block_lt_of_cell? _ _ q1)).trans q1
          have qr := QC.out wr hS.below
          clear hc hy hjl q1 hS
          by_cases href : sh = true ∨ (m : Int) < y
          · have href' : sh = true ∨ (sh = false ∧ (m : Int) < y ∧ decide ((d0 : Int) - (p : Int) < y) = true) := by
              cases sh with
              | true => exact Or.inl rfl
              | false =>
                have hlt' : (m : Int) < y := by simpa using href
                exact Or.inr ⟨rfl, hlt', decide_eq_true (by omega)⟩
            clear href
            rcases href' with rfl | ⟨rfl, hy, hdec⟩
            all_goals
              go_wp2_with fail
              refine (zt_refuse' w2 wr L p m a _ y HS ?_).mono ?_
              · first | exact Or.inl rfl | exact Or.inr hy
              rintro e wa ⟨rfl, Sa⟩
              clear HS qr
              have HSa : Hid (St w2 wa L p m a true) := Sa
              clear Sa
              go_wp2_with fail
              refine (state' w2 wa L p m a true HSa).mono ?_
              rintro e wb ⟨rfl, Sb⟩
              have qb := QC.out wb Sb.below
              have HSb : Hid (St w2 wb L p m a true) := Sb
              clear Sb HSa
              have hme : ((m : Int) != (d0 : Int) - (p : Int)) = false := by rw [bne_eq_false_iff_eq]; omega
              go_wp2_with fail
              go_roundw
              case rel => exact ⟨j + 1, p, m, true, a, by omega, hpm1, hpm2, by go_num, rfl, rfl, HSb.out⟩
              case measure => simp [intOf]; omega
          · obtain ⟨rfl, hym⟩ : sh = false ∧ y ≤ (m : Int) := by
              constructor
              · cases sh with
                | true => exact absurd (Or.inl rfl) href
                | false => rfl
              · exact Int.not_lt.1 (fun hlt => href (Or.inr hlt))
            clear href
            obtain ⟨n, rfl⟩ : ∃ n : Nat, y = (n : Int) := ⟨y.toNat, by omega⟩
            have hnm : n ≤ m := by omega
            go_wp2_with fail
            refine (zt_ok' w2 wr L p m n a HS hnm).mono ?_
            rintro e wa ⟨b1, b2, rfl, Sa, rp⟩
            have RP : Hid (Rd .u8 w2 b1 ((L.drop p).take n)) := rp
            have HSa : Hid (St w2 wa L (p + n) (m - n) b2 false) := Sa
            clear Sa rp HS qr
            go_wp2_with fail
            refine (state' w2 wa L (p + n) (m - n) b2 false HSa).mono ?_
            rintro e wb ⟨rfl, Sb⟩
            have qb := QC.out wb Sb.below
            have HSb : Hid (St w2 wb L (p + n) (m - n) b2 false) := Sb
            clear Sb HSa
            go_wp2_with fail
            refine (same' w2 wb L (p + n) (m - n) b2 false HSb b1 x0 n d0 p _ _ HN (by omega) (by omega) RP RD).mono ?_
            rintro e wc ⟨rfl, Sc⟩
            have HSc : Hid (St w2 wc L (p + n) (m - n) b2 false) := Sc
            clear Sc HSb qb
            have hme : (((m - n : Nat) : Int) != (d0 : Int) - ((p : Int) + (n : Int))) = false := by rw [bne_eq_false_iff_eq]; omega
            go_wp2_with fail
            go_roundw
            case rel => exact ⟨j + 1, p + n, m - n, false, b2, by omega, by omega, by omega, by go_num, by go_num, rfl, HSc.out⟩
            case measure => simp [intOf]; omega
        · clear hS
          go_wp2_with fail
          refine (state' w2 wr L p m a sh HS).mono ?_
          rintro e wb ⟨rfl, Sb⟩
          have HSb : Hid (St w2 wb L p m a sh) := Sb
          clear Sb
          have HR : Hid (Rd .u8 w2 a ((L.drop p).take m)) := HS.out.rd.take m
          have hme : ((m : Int) == (d0 : Int) - (p : Int)) = true := by rw [beq_iff_eq]; omega
          clear HS
          cases sh
          all_goals
            go_wp2_with fail
            refine (same' w2 wb L p m a _ HSb a x0 m d0 p _ _ HN (by omega) (by omega) HR RD).mono ?_
            rintro e wc ⟨rfl, Sc⟩
            have HB : Hid (Below w.heap.size w wc) := B02.out.trans (Sc.below.mono B02.out.size)
            clear Sc HSb HR
            go_wp2_with fail
            go_ret
            exact ⟨rfl, HB.out⟩
end Go.Proofs.Qxb6001392a.Tl

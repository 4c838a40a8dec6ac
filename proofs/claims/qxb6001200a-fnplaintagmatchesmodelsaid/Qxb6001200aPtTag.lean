/-
  plainTag's CONTRACT, WHOLE; ZZPlainTag's.
-/
import Derived.Test.Qxb6001200aPtWalk
import Derived.Lib.Strings
namespace Go.Proofs.Qxb6001200a.Pt
open Go.RowKit Go.Deep

theorem pt_w2 (w : World) : Calls Try.prog 12 #[.string ⟨#[84, 114, 117, 101]⟩] w fun e w' => e = .returned (.string ⟨#[33, 33, 98, 111, 111, 108]⟩) ∧ w = w' := by
  go_enter Try.func12, Try.ntmps12
  go_wp2
  go_ret
  exact ⟨rfl, rfl⟩
theorem pt_w3 (w : World) : Calls Try.prog 12 #[.string ⟨#[84, 82, 85, 69]⟩] w fun e w' => e = .returned (.string ⟨#[33, 33, 98, 111, 111, 108]⟩) ∧ w = w' := by
  go_enter Try.func12, Try.ntmps12
  go_wp2
  go_ret
  exact ⟨rfl, rfl⟩
theorem pt_w4 (w : World) : Calls Try.prog 12 #[.string ⟨#[102, 97, 108, 115, 101]⟩] w fun e w' => e = .returned (.string ⟨#[33, 33, 98, 111, 111, 108]⟩) ∧ w = w' := by
  go_enter Try.func12, Try.ntmps12
  go_wp2
  go_ret
  exact ⟨rfl, rfl⟩
theorem pt_w5 (w : World) : Calls Try.prog 12 #[.string ⟨#[70, 97, 108, 115, 101]⟩] w fun e w' => e = .returned (.string ⟨#[33, 33, 98, 111, 111, 108]⟩) ∧ w = w' := by
  go_enter Try.func12, Try.ntmps12
  go_wp2
  go_ret
  exact ⟨rfl, rfl⟩
theorem pt_w6 (w : World) : Calls Try.prog 12 #[.string ⟨#[70, 65, 76, 83, 69]⟩] w fun e w' => e = .returned (.string ⟨#[33, 33, 98, 111, 111, 108]⟩) ∧ w = w' := by
  go_enter Try.func12, Try.ntmps12
  go_wp2
  go_ret
  exact ⟨rfl, rfl⟩
theorem pt_w7 (w : World) : Calls Try.prog 12 #[.string ⟨#[110, 117, 108, 108]⟩] w fun e w' => e = .returned (.string ⟨#[33, 33, 110, 117, 108, 108]⟩) ∧ w = w' := by
  go_enter Try.func12, Try.ntmps12
  go_wp2
  go_ret
  exact ⟨rfl, rfl⟩
theorem pt_w8 (w : World) : Calls Try.prog 12 #[.string ⟨#[78, 117, 108, 108]⟩] w fun e w' => e = .returned (.string ⟨#[33, 33, 110, 117, 108, 108]⟩) ∧ w = w' := by
  go_enter Try.func12, Try.ntmps12
  go_wp2
  go_ret
  exact ⟨rfl, rfl⟩

theorem of_list {s : ByteArray} {l : List UInt8} (h : s.toList = l) : s = ⟨l.toArray⟩ := by
  rw [ByteArray.toList_eq] at h
  subst h
  cases s
  simp
theorem len_list (s : ByteArray) : s.toList.length = s.size := by rw [ByteArray.toList_eq]; rfl
theorem get_list (s : ByteArray) (t : Nat) (h : t < s.size) : s.toList[t]? = some s[t] := by
  rw [ByteArray.toList_eq]
  have h' : t < s.data.toList.length := by simpa using h
  rw [List.getElem?_eq_getElem h']
  rfl
theorem head_list (s : ByteArray) (h : 0 < s.size) : s.toList.headD 0 = s[0] := by
  have := get_list s 0 h
  cases hl : s.toList with
  | nil => rw [hl] at this; simp at this
  | cons c r => rw [hl] at this; simpa using this
theorem all_list (s : ByteArray) : s.toList.all dg = true ↔ ∀ t (h : t < s.size), 48 ≤ s[t].toNat ∧ s[t].toNat ≤ 57 := by
  rw [List.all_eq_true]
  constructor
  · intro hall t h
    have hm : s[t] ∈ s.toList := List.mem_of_getElem? (get_list s t h)
    simpa [dg] using hall _ hm
  · intro hall c hc
    obtain ⟨t, ht, e⟩ := List.getElem_of_mem hc
    rw [len_list] at ht
    have := get_list s t ht
    rw [List.getElem?_eq_getElem (by rw [len_list]; exact ht)] at this
    have e2 : c = s[t] := by rw [← e]; simpa using this
    subst e2
    simpa [dg] using hall t ht

theorem pt_any (s : ByteArray) (w : World) (hs : 0 < s.size) (hm : s.size ≤ maxLen) :
    Calls Try.prog 12 #[.string s] w fun e w' => e = .returned (.string ⟨(tag s.toList).toArray⟩) ∧ w = w' := by
  cases hb : isB s.toList with
  | true =>
    have ht : tag s.toList = [33, 33, 98, 111, 111, 108] := by simp [tag, hb]
    rw [ht]
    simp only [isB, Bool.or_eq_true, beq_iff_eq] at hb
    rcases hb with e | e | e | e | e | e
    · rw [of_list e]; exact pt_word1 w
    · rw [of_list e]; exact pt_w2 w
    · rw [of_list e]; exact pt_w3 w
    · rw [of_list e]; exact pt_w4 w
    · rw [of_list e]; exact pt_w5 w
    · rw [of_list e]; exact pt_w6 w
  | false =>
    cases hn : isN s.toList with
    | true =>
      have ht : tag s.toList = [33, 33, 110, 117, 108, 108] := by simp [tag, hb, hn]
      rw [ht]
      simp only [isN, Bool.or_eq_true, beq_iff_eq] at hn
      rcases hn with e | e | e
      · rw [of_list e]; exact pt_w7 w
      · rw [of_list e]; exact pt_w8 w
      · rw [of_list e]; exact pt_word9 w
    | false =>
      have hh := head_list s hs
      have hl := len_list s
      by_cases hd : 48 ≤ s[0].toNat ∧ s[0].toNat ≤ 57
      · have hdg : dg (s.toList.headD 0) = true := by rw [hh]; simpa [dg] using hd
        have ht : tag s.toList = if plainInt s.toList then [33, 33, 105, 110, 116] else [] := by simp only [tag, hb, hn, hdg]; simp
        rw [ht]
        by_cases h18 : 18 < s.size
        · have hp : plainInt s.toList = false := by simp [plainInt, hl]; omega
          rw [hp]
          exact pt_long s w h18 hm hb hn hd.1 hd.2
        · by_cases hz : 1 < s.size ∧ s[0] = 48
          · have hp : plainInt s.toList = false := by
              simp only [plainInt, hl, hh, hz.2, decide_eq_true hz.1]; simp
            rw [hp]
            exact pt_zero s w hz.1 (by omega) hb hn (by rw [hz.2]; rfl) hd.1 hd.2
          · have hp : plainInt s.toList = s.toList.all dg := by
              simp only [plainInt, hl, hh]
              rw [decide_eq_true (show s.size ≤ 18 by omega)]
              by_cases h1 : 1 < s.size
              · have : s[0] ≠ 48 := fun e => hz ⟨h1, e⟩
                simp [this]
              · simp [h1]
            rw [hp]
            refine pt_loop s _ w hs (by omega) hb hn hd.1 hd.2 ?_ ?_ ?_
            · by_cases h1 : 1 < s.size
              · right
                refine ⟨h1, ?_⟩
                have h48 : s[0] ≠ 48 := fun e => hz ⟨h1, e⟩
                have : s[0].toNat ≠ 48 := fun e => h48 (UInt8.toNat_inj.1 (by simpa using e))
                simp; omega
              · left; omega
            · intro hall
              rw [(all_list s).2 hall]
              rfl
            · intro hall
              have : s.toList.all dg = false := by
                cases e : s.toList.all dg with
                | false => rfl
                | true => exact absurd ((all_list s).1 e) hall
              rw [this]
              rfl
      · have hdg : dg (s.toList.headD 0) = false := by rw [hh]; simpa [dg] using hd
        have ht : tag s.toList = [33, 33, 115, 116, 114] := by simp only [tag, hb, hn, hdg]; simp
        rw [ht]
        exact pt_str s w hs hm hb hn (by omega)

/-- ZZPlainTag. -/
theorem zp_any (s : ByteArray) (t : List UInt8) (w : World) (hs : 0 < s.size) (hm : s.size ≤ maxLen) (ht : Hid (t = tag s.toList)) :
    Calls Try.prog 7 #[.string s] w fun e w' => e = .returned (.string ⟨t.toArray⟩) ∧ w = w' := by
  go_enter Try.func7, Try.ntmps7
  go_wp2_with fail
  refine (pt_any s _ hs hm).mono ?_
  rintro e w' ⟨rfl, rfl⟩
  rw [← ht.out]
  go_wp2
  go_ret
  exact ⟨rfl, rfl⟩
end Go.Proofs.Qxb6001200a.Pt

/-
  isFieldName and tokenByComplement: each answers fieldB.
-/
import Derived.Test.Qxb6617138aChars
namespace Go.Proofs.Qxb6617138a
open Go.RowKit

/-- One or more bytes, each a tchar. -/
def fieldB (l : List UInt8) : Bool := !l.isEmpty && l.all tcB

/-- Every byte of s before place k is a tchar. -/
def Good (s : ByteArray) (k : Nat) : Prop := ∀ j (h : j < s.size), j < k → tcB s[j] = true
theorem good_succ {s : ByteArray} {k : Nat} (h : Good s k) (hk : k < s.size) (hc : tcB s[k] = true) : Good s (k + 1) := by
  intro j hj hlt
  by_cases e : j = k
  · subst e; exact hc
  · exact h j hj (by omega)
theorem getElem_list (s : ByteArray) (k : Nat) (h : k < s.size) : s[k] = s.data.toList[k]'(by simpa using h) := by
  simp; rfl
theorem not_empty {s : ByteArray} (h : 0 < s.size) : s.data.toList.isEmpty = false := by
  rw [Lib.size_eq] at h
  cases hl : s.data.toList with
  | nil => rw [hl] at h; simp at h
  | cons _ _ => rfl
theorem good_end {s : ByteArray} {k : Nat} (h0 : 0 < s.size) (hk : ¬ k < s.size) (h : Good s k) : fieldB s.data.toList = true := by
  unfold fieldB
  rw [not_empty h0]
  simp only [Bool.not_false, Bool.true_and, List.all_eq_true]
  intro x hx
  obtain ⟨j, hj, rfl⟩ := List.getElem_of_mem hx
  have hj' : j < s.size := by simpa using hj
  have := h j hj' (by omega)
  rwa [getElem_list s j hj'] at this
theorem bad_at {s : ByteArray} {k : Nat} (hk : k < s.size) (hc : tcB s[k] = false) : fieldB s.data.toList = false := by
  rw [getElem_list s k hk] at hc
  unfold fieldB
  cases hall : s.data.toList.all tcB with
  | false => simp
  | true =>
    rw [List.all_eq_true] at hall
    have := hall _ (List.getElem_mem (show k < s.data.toList.length by simpa using hk))
    rw [this] at hc
    cases hc
theorem empty_false {s : ByteArray} (h : s.size = 0) : fieldB s.data.toList = false := by
  rw [Lib.size_eq] at h
  rw [List.eq_nil_of_length_eq_zero h]
  rfl

/-- The five classes of a byte, as the walk wants them. -/
theorem classes (c : UInt8) : (97 ≤ (c.toNat : Int) ∧ (c.toNat : Int) ≤ 122) ∨ (65 ≤ (c.toNat : Int) ∧ (c.toNat : Int) ≤ 90) ∨ (48 ≤ (c.toNat : Int) ∧ (c.toNat : Int) ≤ 57) ∨
    (alB c = false ∧ ((c.toNat : Int) < 48 ∨ (57 < (c.toNat : Int) ∧ (c.toNat : Int) < 65) ∨ (90 < (c.toNat : Int) ∧ (c.toNat : Int) < 97) ∨ 122 < (c.toNat : Int))) := by
  by_cases h1 : 97 ≤ (c.toNat : Int) ∧ (c.toNat : Int) ≤ 122
  · exact .inl h1
  by_cases h2 : 65 ≤ (c.toNat : Int) ∧ (c.toNat : Int) ≤ 90
  · exact .inr (.inl h2)
  by_cases h3 : 48 ≤ (c.toNat : Int) ∧ (c.toNat : Int) ≤ 57
  · exact .inr (.inr (.inl h3))
  · refine .inr (.inr (.inr ⟨?_, by omega⟩))
    simp [alB]
    omega
theorem tc_al {c : UInt8} (h : (97 ≤ (c.toNat : Int) ∧ (c.toNat : Int) ≤ 122) ∨ (65 ≤ (c.toNat : Int) ∧ (c.toNat : Int) ≤ 90) ∨ (48 ≤ (c.toNat : Int) ∧ (c.toNat : Int) ≤ 57)) : tcB c = true := by
  have : alB c = true := by simp [alB]; omega
  simp [tcB, this]
theorem sym_of {c : UInt8} (h : alB c = false) (ht : tcB c = true) : 0 ≤ Lib.indexByte syms c := by
  apply index_some
  simpa [tcB, h] using ht
theorem sym_not {c : UInt8} (ht : tcB c = false) : Lib.indexByte syms c = -1 := by
  apply index_none
  intro hm
  have : tcB c = true := by simp [tcB, hm]
  rw [this] at ht
  cases ht

set_option maxHeartbeats 4000000 in
/-- isFieldName at a string that is not empty. -/
theorem field_some (s : ByteArray) (t : Bool) (w : World) (hs : s.size ≤ 1048576) (h0 : 0 < s.size) (ht : Hid (fieldB s.data.toList = t)) :
    Calls Try.prog 14 #[.string s] w fun e w' => e = .returned (.bool t) ∧ w' = w := by
  have hne : s.toList.isEmpty = false := by rw [Lib.toList_data]; exact not_empty h0
  go_enter Try.func14, Try.ntmps14
  go_wp2
  go_loop [3] (fun i => ∃ k : Nat, k ≤ s.size ∧ i = .int .i64 k ∧ Hid (Good s k)) (fun i => s.size - (intOf i).toNat)
  case atStart => exact ⟨0, Nat.zero_le _, rfl, fun _ _ h => absurd h (by omega)⟩
  case round =>
    obtain ⟨k, hk, rfl, hc⟩ := hrel
    by_cases hlt : k < s.size
    · by_cases hg : tcB s[k] = true
      · have HN := hid (good_succ hc.out hlt hg)
        rcases classes s[k] with ⟨h1, h2⟩ | ⟨h1, h2⟩ | ⟨h1, h2⟩ | ⟨ha, h⟩
        · clear hg hc
          go_wp2
          go_round
          case rel => exact ⟨k + 1, by omega, by go_num, HN⟩
          case measure => simp [intOf]; omega
        · clear hg hc
          go_wp2
          go_round
          case rel => exact ⟨k + 1, by omega, by go_num, HN⟩
          case measure => simp [intOf]; omega
        · clear hg hc
          go_wp2
          go_round
          case rel => exact ⟨k + 1, by omega, by go_num, HN⟩
          case measure => simp [intOf]; omega
        · have hi := sym_of ha hg
          generalize hI : Lib.indexByte syms s[k] = i at hi
          have HI := hid hI
          clear hI hg hc ha
          rcases h with h | ⟨h, h'⟩ | ⟨h, h'⟩ | h
          all_goals
            go_wp2_with (go_at_call 17; refine (sym_to s[k] i _ HI.out).mono ?_; rintro e w' ⟨rfl, rfl⟩)
            go_round
            case rel => exact ⟨k + 1, by omega, by go_num, HN⟩
            case measure => simp [intOf]; omega
      · have hg' : tcB s[k] = false := by simpa using hg
        obtain rfl : t = false := by rw [← ht.out, bad_at hlt hg']
        rcases classes s[k] with h | h | h | ⟨ha, h⟩
        · exact absurd (tc_al (.inl h)) hg
        · exact absurd (tc_al (.inr (.inl h))) hg
        · exact absurd (tc_al (.inr (.inr h))) hg
        · have HI := hid (sym_not hg')
          clear hg hg' hc ha
          rcases h with h | ⟨h, h'⟩ | ⟨h, h'⟩ | h
          · go_wp2_with (go_at_call 17; refine (sym_to s[k] (-1) _ HI.out).mono ?_; rintro e w' ⟨rfl, rfl⟩)
            go_ret
            exact ⟨rfl, rfl⟩
          · have d57 : decide ((s[k].toNat : Int) ≤ 57) = false := by simp; omega
            go_wp2_with (go_at_call 17; refine (sym_to s[k] (-1) _ HI.out).mono ?_; rintro e w' ⟨rfl, rfl⟩)
            go_ret
            exact ⟨rfl, rfl⟩
          · have d57 : decide ((s[k].toNat : Int) ≤ 57) = false := by simp; omega
            have d90 : decide ((s[k].toNat : Int) ≤ 90) = false := by simp; omega
            go_wp2_with (go_at_call 17; refine (sym_to s[k] (-1) _ HI.out).mono ?_; rintro e w' ⟨rfl, rfl⟩)
            go_ret
            exact ⟨rfl, rfl⟩
          · have d57 : decide ((s[k].toNat : Int) ≤ 57) = false := by simp; omega
            have d90 : decide ((s[k].toNat : Int) ≤ 90) = false := by simp; omega
            have d122 : decide ((s[k].toNat : Int) ≤ 122) = false := by simp; omega
            go_wp2_with (go_at_call 17; refine (sym_to s[k] (-1) _ HI.out).mono ?_; rintro e w' ⟨rfl, rfl⟩)
            go_ret
            exact ⟨rfl, rfl⟩
    · obtain rfl : t = true := by rw [← ht.out, good_end h0 hlt hc.out]
      clear hc
      go_wp2
      go_ret
      exact ⟨rfl, rfl⟩

set_option maxHeartbeats 400000 in
/-- isFieldName at no byte. -/
theorem field_none (s : ByteArray) (w : World) (h0 : s.size = 0) :
    Calls Try.prog 14 #[.string s] w fun e w' => e = .returned (.bool false) ∧ w' = w := by
  have hne : s.toList.isEmpty = true := by
    rw [Lib.size_eq] at h0
    rw [Lib.toList_data, List.eq_nil_of_length_eq_zero h0]
    rfl
  clear h0
  go_enter Try.func14, Try.ntmps14
  go_wp2
  go_ret
  exact ⟨rfl, rfl⟩

/-- isFieldName. -/
theorem field_to (s : ByteArray) (t : Bool) (w : World) (hs : s.size ≤ 1048576) (ht : fieldB s.data.toList = t) :
    Calls Try.prog 14 #[.string s] w fun e w' => e = .returned (.bool t) ∧ w' = w := by
  by_cases h0 : 0 < s.size
  · exact field_some s t w hs h0 ht
  · have h0' : s.size = 0 := by omega
    obtain rfl : t = false := by rw [← ht, empty_false h0']
    exact field_none s w h0'

set_option maxHeartbeats 400000 in
/-- ZZisFieldName. -/
theorem zzfield_to (s : ByteArray) (t : Bool) (w : World) (hs : s.size ≤ 1048576) (ht : Hid (fieldB s.data.toList = t)) :
    Calls Try.prog 7 #[.string s] w fun e w' => e = .returned (.bool t) ∧ w' = w := by
  go_enter Try.func7, Try.ntmps7
  go_wp2_with (go_at_call 14; refine (field_to s t _ hs ht.out).mono ?_; rintro e w' ⟨rfl, rfl⟩)
  go_ret
  exact ⟨rfl, rfl⟩

set_option maxHeartbeats 2000000 in
/-- tokenByComplement at a string that is not empty. -/
theorem token_some (s : ByteArray) (t : Bool) (w : World) (hs : s.size ≤ 1048576) (h0 : 0 < s.size) (ht : Hid (fieldB s.data.toList = t)) :
    Calls Try.prog 8 #[.string s] w fun e w' => e = .returned (.bool t) ∧ w' = w := by
  have hz : ((s.size : Int) == 0) = false := beq_eq_false_iff_ne.2 (by omega)
  go_enter Try.func8, Try.ntmps8
  go_wp2
  go_loop [3] (fun i => ∃ k : Nat, k ≤ s.size ∧ i = .int .i64 k ∧ Hid (Good s k)) (fun i => s.size - (intOf i).toNat)
  case atStart => exact ⟨0, Nat.zero_le _, rfl, fun _ _ h => absurd h (by omega)⟩
  case round =>
    obtain ⟨k, hk, rfl, hc⟩ := hrel
    by_cases hlt : k < s.size
    · by_cases hg : tcB s[k] = true
      · have HN := hid (good_succ hc.out hlt hg)
        have HG := hid hg
        clear hg hc
        go_wp2_with (go_at_call 10; refine (tchar_to s[k] true _ HG.out).mono ?_; rintro e w' ⟨rfl, rfl⟩)
        go_round
        case rel => exact ⟨k + 1, by omega, by go_num, HN⟩
        case measure => simp [intOf]; omega
      · have hg' : tcB s[k] = false := by simpa using hg
        obtain rfl : t = false := by rw [← ht.out, bad_at hlt hg']
        have HG := hid hg'
        clear hg hg' hc
        go_wp2_with (go_at_call 10; refine (tchar_to s[k] false _ HG.out).mono ?_; rintro e w' ⟨rfl, rfl⟩)
        go_ret
        exact ⟨rfl, rfl⟩
    · obtain rfl : t = true := by rw [← ht.out, good_end h0 hlt hc.out]
      clear hc
      go_wp2
      go_ret
      exact ⟨rfl, rfl⟩

set_option maxHeartbeats 400000 in
/-- tokenByComplement at no byte. -/
theorem token_none (s : ByteArray) (w : World) (h0 : s.size = 0) :
    Calls Try.prog 8 #[.string s] w fun e w' => e = .returned (.bool false) ∧ w' = w := by
  have hz : ((s.size : Int) == 0) = true := beq_iff_eq.2 (by omega)
  clear h0
  go_enter Try.func8, Try.ntmps8
  go_wp2
  go_ret
  exact ⟨rfl, rfl⟩

/-- tokenByComplement. -/
theorem token_to (s : ByteArray) (t : Bool) (w : World) (hs : s.size ≤ 1048576) (ht : fieldB s.data.toList = t) :
    Calls Try.prog 8 #[.string s] w fun e w' => e = .returned (.bool t) ∧ w' = w := by
  by_cases h0 : 0 < s.size
  · exact token_some s t w hs h0 ht
  · have h0' : s.size = 0 := by omega
    obtain rfl : t = false := by rw [← ht, empty_false h0']
    exact token_none s w h0'

/-! ### The bounds on the lengths -/
set_option maxHeartbeats 400000 in
theorem bytes6_yes (s : ByteArray) (w : World) (hs : s.size ≤ 1048576) :
    Calls Try.prog 6 #[.string s] w fun e w' => e = .returned (.bool true) ∧ w' = w := by
  go_enter Try.func6, Try.ntmps6
  go_wp2
  all_goals
    go_ret
    exact ⟨rfl, rfl⟩
set_option maxHeartbeats 400000 in
theorem bytes6_no (s : ByteArray) (w : World) (hs : 1048576 < s.size) (hm : s.size ≤ maxLen) :
    Calls Try.prog 6 #[.string s] w fun e w' => e = .returned (.bool false) ∧ w' = w := by
  unfold maxLen at hm
  go_enter Try.func6, Try.ntmps6
  go_wp2
  all_goals
    go_ret
    exact ⟨rfl, rfl⟩
set_option maxHeartbeats 400000 in
theorem bytes9_yes (s : ByteArray) (c : Int) (w : World) (hs : s.size ≤ 1048576) :
    Calls Try.prog 9 #[.string s, .int .i64 c] w fun e w' => e = .returned (.bool true) ∧ w' = w := by
  go_enter Try.func9, Try.ntmps9
  go_wp2
  all_goals
    go_ret
    exact ⟨rfl, rfl⟩
set_option maxHeartbeats 400000 in
theorem bytes9_no (s : ByteArray) (c : Int) (w : World) (hs : 1048576 < s.size) (hm : s.size ≤ maxLen) :
    Calls Try.prog 9 #[.string s, .int .i64 c] w fun e w' => e = .returned (.bool false) ∧ w' = w := by
  unfold maxLen at hm
  go_enter Try.func9, Try.ntmps9
  go_wp2
  all_goals
    go_ret
    exact ⟨rfl, rfl⟩

end Go.Proofs.Qxb6617138a

/-
  THE WALK of FnIsFieldNameSplitsAtAnyCut.
-/
import Derived.Test.Qxb6617138aField
namespace Go.Proofs.Qxb6617138a
open Go.RowKit

theorem below_drewN {a w : World} (h : Below a.heap.size a w) (n : Nat) : Below a.heap.size a (w.drewN n) := ⟨h.os, h.tape, h.output, h.size, h.block⟩

set_option maxHeartbeats 2000000 in
/-- A cut in the midst. -/
theorem split_mid (s : ByteArray) (k : Nat) (t1 t2 u : Bool) (w : World) (hs : s.size ≤ 1048576) (h0 : 0 < k) (hk : k < s.size)
    (H : Hid (fieldB s.data.toList = (t1 && t2))) (H1 : Hid (fieldB (s.extract 0 k).data.toList = t1)) (H2 : Hid (fieldB (s.extract k s.size).data.toList = t2))
    (HU : Hid (fieldB (s.extract k (k + 1)).data.toList = u)) (HC : Hid (tcB s[k] = u)) :
    Calls Try.prog 4 #[.string s, .int .i64 k] w fun e w' => e = .returned (.bool true) ∧ Below w.heap.size w w' := by
  have hne : s.toList.isEmpty = false := by rw [Lib.toList_data]; exact not_empty (by omega)
  have hz : ((k : Int) == 0) = false := beq_eq_false_iff_ne.2 (by omega)
  have hl : ((k : Int) == (s.size : Int)) = false := beq_eq_false_iff_ne.2 (by omega)
  have b1 : (0 : Int) ≤ (k : Int) := by omega
  have b2 : (k : Int) < (s.size : Int) := by omega
  have b3 : (k : Int) + 1 ≤ (s.size : Int) := by omega
  have b4 : ((k : Int) + 1).toNat = k + 1 := by omega
  go_enter Try.func4, Try.ntmps4
  go_wp2_with fail
  refine (bytes9_yes s k _ hs).mono ?_
  rintro e w' ⟨rfl, rfl⟩
  go_wp2_with fail
  refine (zzfield_to s _ _ hs H).mono ?_
  rintro e w' ⟨rfl, rfl⟩
  go_wp2_with fail
  refine (zzfield_to (s.extract 0 k) _ _ (by simp; omega) H1).mono ?_
  rintro e w' ⟨rfl, rfl⟩
  go_wp2_with fail
  refine (zzfield_to (s.extract k s.size) _ _ (by simp; omega) H2).mono ?_
  rintro e w' ⟨rfl, rfl⟩
  cases t1 <;> cases t2
  all_goals
    go_wp2
    go_quiet ((first | (go_at_call 7; exact Calls.quiet_of_same (zzfield_to (s.extract k (k + 1)) u _ (by simp; omega) HU)) | (go_at_call 10; exact Calls.quiet_of_same (tchar_to s[k] u _ HC.out))))
    go_wp2
    go_ret
    exact ⟨rfl, below_drewN (Below.refl _ _) _⟩

set_option maxHeartbeats 2000000 in
/-- A cut at the head of a string that is not empty. -/
theorem split_head (s : ByteArray) (t u : Bool) (w : World) (hs : s.size ≤ 1048576) (hk : 0 < s.size)
    (H : Hid (fieldB s.data.toList = t))
    (HU : Hid (fieldB (s.extract 0 1).data.toList = u)) (HC : Hid (tcB s[0] = u)) :
    Calls Try.prog 4 #[.string s, .int .i64 0] w fun e w' => e = .returned (.bool true) ∧ Below w.heap.size w w' := by
  have hne : s.toList.isEmpty = false := by rw [Lib.toList_data]; exact not_empty (by omega)
  have hl : ((0 : Int) == (s.size : Int)) = false := beq_eq_false_iff_ne.2 (by omega)
  have b2 : (0 : Int) < (s.size : Int) := by omega
  have b3 : (1 : Int) ≤ (s.size : Int) := by omega
  go_enter Try.func4, Try.ntmps4
  go_wp2_with fail
  refine (bytes9_yes s 0 _ hs).mono ?_
  rintro e w' ⟨rfl, rfl⟩
  go_wp2_with fail
  refine (zzfield_to s _ _ hs H).mono ?_
  rintro e w' ⟨rfl, rfl⟩
  go_wp2_with fail
  refine (zzfield_to s _ _ hs H).mono ?_
  rintro e w' ⟨rfl, rfl⟩
  cases t
  all_goals
    go_wp2
    go_quiet ((first | (go_at_call 7; exact Calls.quiet_of_same (zzfield_to (s.extract 0 1) u _ (by simp; omega) HU)) | (go_at_call 10; exact Calls.quiet_of_same (tchar_to s[0] u _ HC.out))))
    go_wp2
    go_ret
    exact ⟨rfl, below_drewN (Below.refl _ _) _⟩

set_option maxHeartbeats 2000000 in
/-- A cut at the end of a string that is not empty. -/
theorem split_end (s : ByteArray) (t : Bool) (w : World) (hs : s.size ≤ 1048576) (hk : 0 < s.size)
    (H : Hid (fieldB s.data.toList = t)) :
    Calls Try.prog 4 #[.string s, .int .i64 s.size] w fun e w' => e = .returned (.bool true) ∧ Below w.heap.size w w' := by
  have hne : s.toList.isEmpty = false := by rw [Lib.toList_data]; exact not_empty (by omega)
  have hz : ((s.size : Int) == 0) = false := beq_eq_false_iff_ne.2 (by omega)
  go_enter Try.func4, Try.ntmps4
  go_wp2_with fail
  refine (bytes9_yes s s.size _ hs).mono ?_
  rintro e w' ⟨rfl, rfl⟩
  go_wp2_with fail
  refine (zzfield_to s _ _ hs H).mono ?_
  rintro e w' ⟨rfl, rfl⟩
  go_wp2_with fail
  refine (zzfield_to s _ _ hs H).mono ?_
  rintro e w' ⟨rfl, rfl⟩
  cases t
  all_goals
    go_wp2
    go_ret
    exact ⟨rfl, Below.refl _ _⟩

set_option maxHeartbeats 2000000 in
/-- No byte. -/
theorem split_none (s : ByteArray) (w : World) (h0 : s.size = 0) :
    Calls Try.prog 4 #[.string s, .int .i64 0] w fun e w' => e = .returned (.bool true) ∧ Below w.heap.size w w' := by
  have hne : s.toList.isEmpty = true := by
    rw [Lib.size_eq] at h0
    rw [Lib.toList_data, List.eq_nil_of_length_eq_zero h0]
    rfl
  have H := hid (empty_false h0)
  go_enter Try.func4, Try.ntmps4
  go_wp2_with fail
  refine (bytes9_yes s 0 _ (by omega)).mono ?_
  rintro e w' ⟨rfl, rfl⟩
  go_wp2_with fail
  refine (zzfield_to s _ _ (by omega) H).mono ?_
  rintro e w' ⟨rfl, rfl⟩
  go_wp2
  go_ret
  exact ⟨rfl, Below.refl _ _⟩

set_option maxHeartbeats 1000000 in
/-- The string is too long. -/
theorem split_long (s : ByteArray) (c : Int) (w : World) (hs : 1048576 < s.size) (hm : s.size ≤ maxLen) :
    Calls Try.prog 4 #[.string s, .int .i64 c] w fun e w' => e = .returned (.bool true) ∧ Below w.heap.size w w' := by
  go_enter Try.func4, Try.ntmps4
  go_wp2_with (go_at_call 9; refine (bytes9_no s c _ hs hm).mono ?_; rintro e w' ⟨rfl, rfl⟩)
  go_ret
  exact ⟨rfl, Below.refl _ _⟩
set_option maxHeartbeats 1000000 in
/-- The cut lies ahead of the string. -/
theorem split_neg (s : ByteArray) (c : Int) (w : World) (hs : s.size ≤ 1048576) (hc : c < 0) :
    Calls Try.prog 4 #[.string s, .int .i64 c] w fun e w' => e = .returned (.bool true) ∧ Below w.heap.size w w' := by
  go_enter Try.func4, Try.ntmps4
  go_wp2_with (go_at_call 9; refine (bytes9_yes s c _ hs).mono ?_; rintro e w' ⟨rfl, rfl⟩)
  go_ret
  exact ⟨rfl, Below.refl _ _⟩
set_option maxHeartbeats 1000000 in
/-- The cut lies behind it. -/
theorem split_far (s : ByteArray) (c : Int) (w : World) (hs : s.size ≤ 1048576) (h0 : 0 ≤ c) (hc : (s.size : Int) < c) :
    Calls Try.prog 4 #[.string s, .int .i64 c] w fun e w' => e = .returned (.bool true) ∧ Below w.heap.size w w' := by
  go_enter Try.func4, Try.ntmps4
  go_wp2_with (go_at_call 9; refine (bytes9_yes s c _ hs).mono ?_; rintro e w' ⟨rfl, rfl⟩)
  go_ret
  exact ⟨rfl, Below.refl _ _⟩

/-! ### The plain law -/
theorem field_split (l : List UInt8) (k : Nat) (h0 : 0 < k) (hk : k < l.length) : fieldB l = (fieldB (l.take k) && fieldB (l.drop k)) := by
  have e1 : l.isEmpty = false := by cases l; simp at hk; rfl
  have e2 : (l.take k).isEmpty = false := by
    cases hl : l.take k with
    | nil => have := congrArg List.length hl; rw [List.length_take, List.length_nil] at this; omega
    | cons _ _ => rfl
  have e3 : (l.drop k).isEmpty = false := by
    cases hl : l.drop k with
    | nil => have := congrArg List.length hl; simp at this; omega
    | cons _ _ => rfl
  unfold fieldB
  rw [e1, e2, e3]
  simp only [Bool.not_false, Bool.true_and]
  rw [← List.all_append, List.take_append_drop]
theorem field_one (c : UInt8) : fieldB [c] = tcB c := by simp [fieldB]
theorem extract_one (s : ByteArray) (k : Nat) (hk : k < s.size) : (s.extract k (k + 1)).data.toList = [s[k]] := by
  rw [Lib.extract_data, getElem_list s k hk]
  have hk' : k < s.data.toList.length := by rw [← Lib.size_eq]; exact hk
  rw [List.drop_eq_getElem_cons hk', show k + 1 - k = 1 by omega]
  rfl
/-- THE WALK, whatever the input. -/
theorem split_walk (s : ByteArray) (c : Int) (w : World) (hm : s.size ≤ maxLen) :
    Calls Try.prog 4 #[.string s, .int .i64 c] w fun e w' => e = .returned (.bool true) ∧ Below w.heap.size w w' := by
  by_cases hs : s.size ≤ 1048576
  · by_cases hc : c < 0
    · exact split_neg s c w hs hc
    by_cases hf : (s.size : Int) < c
    · exact split_far s c w hs (by omega) hf
    obtain ⟨k, rfl⟩ := Int.eq_ofNat_of_zero_le (show 0 ≤ c by omega)
    by_cases h0 : s.size = 0
    · obtain rfl : k = 0 := by omega
      exact split_none s w h0
    have hk0 : 0 < s.size := by omega
    by_cases hz : k = 0
    · subst hz
      exact split_head s _ _ w hs hk0 rfl rfl (hid (by rw [extract_one s 0 hk0, field_one]))
    by_cases hl : k = s.size
    · subst hl
      exact split_end s _ w hs hk0 rfl
    · have hk : k < s.size := by omega
      refine split_mid s k _ _ _ w hs (by omega) hk ?_ rfl rfl rfl (hid (by rw [extract_one s k hk, field_one]))
      rw [Lib.extract_to_end, Lib.extract_data, field_split s.data.toList k (by omega) (by rw [← Lib.size_eq]; exact hk)]
      rfl
  · exact split_long s c w (by omega) hm

end Go.Proofs.Qxb6617138a

/-
  THE LEAVES of the road of FnAfterValueReadsAsOneSchemeByte: small functions over bytes, each by a contract of its own.
-/
import Derived.Test.Qxb6617142aRows
import Derived.WalkKit
import Derived.WalkSpells
import Derived.Lib.Bytealg
namespace Go.Proofs.Qxb6617142a
open Go.RowKit

/-- An ASCII letter or digit. -/
def Alnum (b : Int) : Prop := (97 ≤ b ∧ b ≤ 122) ∨ (65 ≤ b ∧ b ≤ 90) ∨ (48 ≤ b ∧ b ≤ 57)

set_option maxHeartbeats 400000 in
/-- isASCIILetterOrDigit at a letter or digit. -/
theorem letter_yes (b : Int) (w : World) (h : Alnum b) :
    Calls Try.prog 5 #[.int .u8 b] w fun e w' => e = .returned (.bool true) ∧ w' = w := by
  unfold Alnum at h
  rcases h with h | h | h
  all_goals
    obtain ⟨h1, h2⟩ := h
    go_enter Try.func5, Try.ntmps5
    go_wp2
    all_goals
      go_ret
      exact ⟨by simp, rfl⟩

set_option maxHeartbeats 400000 in
/-- isASCIILetterOrDigit elsewhere. -/
theorem letter_no (b : Int) (w : World) (h : ¬ Alnum b) :
    Calls Try.prog 5 #[.int .u8 b] w fun e w' => e = .returned (.bool false) ∧ w' = w := by
  unfold Alnum at h
  have h1 : b < 97 ∨ 122 < b := by omega
  have h2 : b < 65 ∨ 90 < b := by omega
  have h3 : b < 48 ∨ 57 < b := by omega
  clear h
  have H1 : Hid _ := h1; have H2 : Hid _ := h2; have H3 : Hid _ := h3
  clear h1 h2 h3
  go_enter Try.func5, Try.ntmps5
  go_wp2
  all_goals
    have h1 := H1.out; have h2 := H2.out; have h3 := H3.out
    first
      | (exfalso; omega)
      | (go_ret
         exact ⟨by simp; try omega, rfl⟩)

set_option maxHeartbeats 400000 in
/-- isASCIIAlnum at a letter or digit. -/
theorem alnum_yes (b : Int) (w : World) (h : Alnum b) :
    Calls Try.prog 12 #[.int .u8 b] w fun e w' => e = .returned (.bool true) ∧ w' = w := by
  unfold Alnum at h
  rcases h with h | h | h
  all_goals
    obtain ⟨h1, h2⟩ := h
    go_enter Try.func12, Try.ntmps12
    go_wp2
    all_goals
      go_ret
      exact ⟨by simp, rfl⟩

set_option maxHeartbeats 400000 in
/-- isSchemeByte at a letter or digit. -/
theorem scheme_yes (b : Int) (w : World) (h : Alnum b) :
    Calls Try.prog 17 #[.int .u8 b] w fun e w' => e = .returned (.bool true) ∧ w' = w := by
  go_enter Try.func17, Try.ntmps17
  go_wp2_with (go_at_call 12; refine (alnum_yes b _ h).mono ?_; rintro e w' ⟨rfl, rfl⟩)
  all_goals
    go_ret
    exact ⟨rfl, rfl⟩

set_option maxHeartbeats 400000 in
/-- keepsScheme at a letter or digit. -/
theorem keeps_yes (b : Int) (w : World) (h : Alnum b) :
    Calls Try.prog 14 #[.int .u8 b] w fun e w' => e = .returned (.bool true) ∧ w' = w := by
  have h0 : 32 < b := by unfold Alnum at h; omega
  have H : Hid _ := h; clear h
  go_enter Try.func14, Try.ntmps14
  go_wp2_with (go_at_call 17; refine (scheme_yes b _ H.out).mono ?_; rintro e w' ⟨rfl, rfl⟩)
  all_goals
    go_ret
    exact ⟨rfl, rfl⟩

set_option maxHeartbeats 400000 in
/-- isHTMLSpace at a byte from '0' on. -/
theorem space_no (b : Int) (w : World) (h : 48 ≤ b) :
    Calls Try.prog 15 #[.int .u8 b] w fun e w' => e = .returned (.bool false) ∧ w' = w := by
  have h1 : (b == 32) = false := beq_eq_false_iff_ne.2 (by omega)
  have h2 : (b == 9) = false := beq_eq_false_iff_ne.2 (by omega)
  have h3 : (b == 10) = false := beq_eq_false_iff_ne.2 (by omega)
  have h4 : (b == 12) = false := beq_eq_false_iff_ne.2 (by omega)
  have h5 : (b == 13) = false := beq_eq_false_iff_ne.2 (by omega)
  go_enter Try.func15, Try.ntmps15
  go_wp2
  all_goals
    go_ret
    exact ⟨by simp, rfl⟩

/-- The part of the list behind a byte that is neither a space nor a delimiter. -/
def listNext (l : Int) : Int := if l = 1 ∨ l = 2 ∨ l = 3 ∨ l = 4 then 3 else l

set_option maxHeartbeats 1000000 in
/-- listPart.next at a byte from '0' on. -/
theorem list_any (l b : Int) (w : World) (h : 48 ≤ b) :
    Calls Try.prog 11 #[.int .u8 l, .int .u8 b] w fun e w' => e = .returned (.int .u8 (listNext l)) ∧ w' = w := by
  have h1 : (b == 44) = false := beq_eq_false_iff_ne.2 (by omega)
  have h2 : (b == 40) = false := beq_eq_false_iff_ne.2 (by omega)
  have h3 : (b == 41) = false := beq_eq_false_iff_ne.2 (by omega)
  go_enter Try.func11, Try.ntmps11
  go_wp2_with (go_at_call 15; refine (space_no b _ h).mono ?_; rintro e w' ⟨rfl, rfl⟩)
  all_goals
    go_ret
    exact ⟨by simp_all [listNext], rfl⟩

end Go.Proofs.Qxb6617142a

/-
  BYTES: the two ways to tell a tchar; the functions over one byte; strings.IndexByte.
-/
import Derived.Test.Qxb6617138aRows
import Derived.WalkKit
import Derived.WalkSpells
import Derived.Lib.Bytealg
import Derived.Lib.IndexBytes
import Derived.Deep.QuietTactic
import Derived.BigQuiet
namespace Go.Proofs.Qxb6617138a
open Go.RowKit

theorem hid {p : Prop} (h : p) : Hid p := h

/-- The signs of a token that are no letters or digits. -/
def syms : List UInt8 := [33, 35, 36, 37, 38, 39, 42, 43, 45, 46, 94, 95, 96, 124, 126]
/-- RFC 9110's delimiters. -/
def dels : List Int := [34, 40, 41, 44, 47, 58, 59, 60, 61, 62, 63, 64, 91, 92, 93, 123, 125]
/-- An ASCII letter or digit. -/
def alB (c : UInt8) : Bool := (97 ≤ c.toNat && c.toNat ≤ 122) || (65 ≤ c.toNat && c.toNat ≤ 90) || (48 ≤ c.toNat && c.toNat ≤ 57)
/-- A tchar, as isFieldName tells it. -/
def tcB (c : UInt8) : Bool := alB c || syms.contains c
/-- A visible ASCII character that is no delimiter. -/
def tcC (c : UInt8) : Bool := (33 ≤ c.toNat && c.toNat ≤ 126) && !dels.contains (c.toNat : Int)

theorem tc_all : ∀ n : Nat, n < 256 → tcC (UInt8.ofNat n) = tcB (UInt8.ofNat n) := by decide +kernel
/-- THE PLAIN LAW: the two are one. -/
theorem tc_same (c : UInt8) : tcC c = tcB c := by
  have h := tc_all c.toNat c.toNat_lt
  rwa [UInt8.ofNat_toNat] at h

/-! ### isDelimiter -/
set_option maxHeartbeats 1000000 in
theorem del_yes (b : Int) (w : World) (h : b ∈ dels) :
    Calls Try.prog 15 #[.int .u8 b] w fun e w' => e = .returned (.bool true) ∧ w' = w := by
  simp only [dels, List.mem_cons, List.not_mem_nil, or_false] at h
  rcases h with rfl | rfl | rfl | rfl | rfl | rfl | rfl | rfl | rfl | rfl | rfl | rfl | rfl | rfl | rfl | rfl | rfl
  all_goals
    go_enter Try.func15, Try.ntmps15
    go_wp2
    go_ret
    exact ⟨rfl, rfl⟩

set_option maxHeartbeats 1000000 in
theorem del_no (b : Int) (w : World) (h : b ∉ dels) :
    Calls Try.prog 15 #[.int .u8 b] w fun e w' => e = .returned (.bool false) ∧ w' = w := by
  have h34 : (b == 34) = false := beq_eq_false_iff_ne.2 fun e => h (by rw [e]; decide)
  have h40 : (b == 40) = false := beq_eq_false_iff_ne.2 fun e => h (by rw [e]; decide)
  have h41 : (b == 41) = false := beq_eq_false_iff_ne.2 fun e => h (by rw [e]; decide)
  have h44 : (b == 44) = false := beq_eq_false_iff_ne.2 fun e => h (by rw [e]; decide)
  have h47 : (b == 47) = false := beq_eq_false_iff_ne.2 fun e => h (by rw [e]; decide)
  have h58 : (b == 58) = false := beq_eq_false_iff_ne.2 fun e => h (by rw [e]; decide)
  have h59 : (b == 59) = false := beq_eq_false_iff_ne.2 fun e => h (by rw [e]; decide)
  have h60 : (b == 60) = false := beq_eq_false_iff_ne.2 fun e => h (by rw [e]; decide)
  have h61 : (b == 61) = false := beq_eq_false_iff_ne.2 fun e => h (by rw [e]; decide)
  have h62 : (b == 62) = false := beq_eq_false_iff_ne.2 fun e => h (by rw [e]; decide)
  have h63 : (b == 63) = false := beq_eq_false_iff_ne.2 fun e => h (by rw [e]; decide)
  have h64 : (b == 64) = false := beq_eq_false_iff_ne.2 fun e => h (by rw [e]; decide)
  have h91 : (b == 91) = false := beq_eq_false_iff_ne.2 fun e => h (by rw [e]; decide)
  have h92 : (b == 92) = false := beq_eq_false_iff_ne.2 fun e => h (by rw [e]; decide)
  have h93 : (b == 93) = false := beq_eq_false_iff_ne.2 fun e => h (by rw [e]; decide)
  have h123 : (b == 123) = false := beq_eq_false_iff_ne.2 fun e => h (by rw [e]; decide)
  have h125 : (b == 125) = false := beq_eq_false_iff_ne.2 fun e => h (by rw [e]; decide)
  clear h
  go_enter Try.func15, Try.ntmps15
  go_wp2
  go_ret
  exact ⟨rfl, rfl⟩

/-! ### isTcharByComplement -/
set_option maxHeartbeats 1000000 in
theorem tchar_low (b : Int) (w : World) (h : b < 33) :
    Calls Try.prog 10 #[.int .u8 b] w fun e w' => e = .returned (.bool false) ∧ w' = w := by
  go_enter Try.func10, Try.ntmps10
  go_wp2
  go_ret
  exact ⟨rfl, rfl⟩
set_option maxHeartbeats 1000000 in
theorem tchar_high (b : Int) (w : World) (h : 126 < b) :
    Calls Try.prog 10 #[.int .u8 b] w fun e w' => e = .returned (.bool false) ∧ w' = w := by
  go_enter Try.func10, Try.ntmps10
  go_wp2
  go_ret
  exact ⟨rfl, rfl⟩
set_option maxHeartbeats 1000000 in
theorem tchar_del (b : Int) (w : World) (h1 : 33 ≤ b) (h2 : b ≤ 126) (h : Hid (b ∈ dels)) :
    Calls Try.prog 10 #[.int .u8 b] w fun e w' => e = .returned (.bool false) ∧ w' = w := by
  go_enter Try.func10, Try.ntmps10
  go_wp2_with (go_at_call 15; refine (del_yes b _ h.out).mono ?_; rintro e w' ⟨rfl, rfl⟩)
  go_ret
  exact ⟨rfl, rfl⟩
set_option maxHeartbeats 1000000 in
theorem tchar_yes (b : Int) (w : World) (h1 : 33 ≤ b) (h2 : b ≤ 126) (h : Hid (b ∉ dels)) :
    Calls Try.prog 10 #[.int .u8 b] w fun e w' => e = .returned (.bool true) ∧ w' = w := by
  go_enter Try.func10, Try.ntmps10
  go_wp2_with (go_at_call 15; refine (del_no b _ h.out).mono ?_; rintro e w' ⟨rfl, rfl⟩)
  go_ret
  exact ⟨rfl, rfl⟩
/-- isTcharByComplement, in one statement. -/
theorem tchar_to (c : UInt8) (t : Bool) (w : World) (h : tcB c = t) :
    Calls Try.prog 10 #[.int .u8 (c.toNat : Int)] w fun e w' => e = .returned (.bool t) ∧ w' = w := by
  rw [← tc_same] at h
  subst h
  by_cases h1 : c.toNat < 33
  · have e : tcC c = false := by simp [tcC]; omega
    rw [e]
    exact tchar_low _ w (by omega)
  by_cases h2 : 126 < c.toNat
  · have e : tcC c = false := by simp [tcC]; omega
    rw [e]
    exact tchar_high _ w (by omega)
  by_cases h3 : (c.toNat : Int) ∈ dels
  · have e : tcC c = false := by simp [tcC, h3]
    rw [e]
    exact tchar_del _ w (by omega) (by omega) h3
  · have e : tcC c = true := by simp [tcC, h3]; omega
    rw [e]
    exact tchar_yes _ w (by omega) (by omega) h3

/-! ### strings.IndexByte -/
set_option maxHeartbeats 1000000 in
set_option maxRecDepth 100000 in
theorem lite_IndexByte (s : ByteArray) (c : Int) (w : World) :
    Calls Try.prog 18 #[.string s, .int .u8 c] w fun e w' => e = .returned (.int .i64 (Lib.indexByte s.data.toList c.toNat.toUInt8)) ∧ w' = w := by
  go_enter Try.func18, Try.ntmps18
  go_wp2
  rw [run_callFunc_extern Try.func19 (by kernel_rfl) (by kernel_rfl) (by kernel_rfl) (e := Extern.BytealgIndexByte.indexByte) (by kernel_rfl), Lib.run_indexByteString]
  simp only [Result.andThen]
  rw [Oper.upon_value]
  go_wp2
  go_ret
  exact ⟨rfl, rfl⟩
set_option maxHeartbeats 1000000 in
theorem IndexByte_any (s : ByteArray) (c : Int) (w : World) :
    Calls Try.prog 17 #[.string s, .int .u8 c] w fun e w' => e = .returned (.int .i64 (Lib.indexByte s.data.toList c.toNat.toUInt8)) ∧ w' = w := by
  go_enter Try.func17, Try.ntmps17
  go_wp2_with (go_at_call 18; refine (lite_IndexByte _ _ _).mono ?_; rintro e w' ⟨rfl, rfl⟩)
  go_ret
  exact ⟨rfl, rfl⟩
theorem index_none (l : List UInt8) (c : UInt8) (h : c ∉ l) : Lib.indexByte l c = -1 := by
  induction l with
  | nil => rfl
  | cons x l ih =>
    have hx : (x == c) = false := beq_eq_false_iff_ne.2 fun e => h (by rw [e]; exact List.mem_cons_self ..)
    have hr := ih fun hm => h (List.mem_cons_of_mem _ hm)
    unfold Lib.indexByte
    simp [hx, hr]
theorem index_some (l : List UInt8) (c : UInt8) (h : c ∈ l) : 0 ≤ Lib.indexByte l c := by
  induction l with
  | nil => cases h
  | cons x l ih =>
    unfold Lib.indexByte
    by_cases hx : x = c
    · simp [hx]
    · have hm : c ∈ l := by
        rcases List.mem_cons.1 h with h | h
        · exact absurd h.symm hx
        · exact h
      have h0 := ih hm
      have h1 : (x == c) = false := beq_eq_false_iff_ne.2 hx
      have h2 : (Lib.indexByte l c == -1) = false := beq_eq_false_iff_ne.2 (by omega)
      simp only [h1, h2, Bool.false_eq_true, if_false]
      omega
theorem toUInt8_back (c : UInt8) : (c.toNat : Int).toNat.toUInt8 = c := by simp
/-- strings.IndexByte over the signs. -/
theorem sym_to (c : UInt8) (i : Int) (w : World) (h : Lib.indexByte syms c = i) :
    Calls Try.prog 17 #[.string ⟨#[33, 35, 36, 37, 38, 39, 42, 43, 45, 46, 94, 95, 96, 124, 126]⟩, .int .u8 (c.toNat : Int)] w fun e w' => e = .returned (.int .i64 i) ∧ w' = w := by
  have := IndexByte_any ⟨#[33, 35, 36, 37, 38, 39, 42, 43, 45, 46, 94, 95, 96, 124, 126]⟩ (c.toNat : Int) w
  rw [toUInt8_back] at this
  subst h
  exact this

end Go.Proofs.Qxb6617138a

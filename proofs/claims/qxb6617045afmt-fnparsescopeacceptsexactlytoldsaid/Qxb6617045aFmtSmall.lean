/-
  THE SMALL FUNCTIONS of the road: the laws' own loops over a string, and strings.Cut at a slash.
-/
import Derived.Test.Qxb6617045aFmtRows
import Derived.WalkKit
import Derived.WalkSpells
import Derived.Lib.Bytealg
import Derived.Lib.IndexBytes
import Derived.Deep.QuietTactic
import Derived.BigQuiet
namespace Go.Proofs.Qxb6617045aFmt
open Go.RowKit

/-- The string whose bytes are l. -/
def S (l : List UInt8) : ByteArray := ⟨l.toArray⟩
theorem S_toList (l : List UInt8) : (S l).data.toList = l := rfl
theorem S_size (l : List UInt8) : (S l).size = l.length := rfl
theorem S_of (s : ByteArray) : S s.data.toList = s := by obtain ⟨⟨l⟩⟩ := s; rfl
theorem S_inj {a b : List UInt8} (h : S a = S b) : a = b := by rw [← S_toList a, ← S_toList b, h]

/-- No byte of s before place k is a slash. -/
def Clean (s : ByteArray) (k : Nat) : Prop := ∀ j (h : j < s.size), j < k → (s[j].toNat : Int) ≠ 47

theorem clean_succ {s : ByteArray} {k : Nat} (h : Clean s k) (hk : k < s.size) (hne : ¬ (s[k].toNat : Int) = 47) : Clean s (k + 1) := by
  intro j hj hlt
  by_cases e : j = k
  · subst e; exact hne
  · exact h j hj (by omega)

theorem getElem_list (s : ByteArray) (k : Nat) (h : k < s.size) : s[k] = s.data.toList[k]'(by simpa using h) := by
  simp; rfl

theorem toNat_int_eq {x : UInt8} : ((x.toNat : Int) = 47) ↔ x = 47 := by
  constructor
  · intro h
    have : x.toNat = 47 := by omega
    exact UInt8.toNat_inj.1 this
  · rintro rfl; rfl

theorem clean_end {s : ByteArray} {k : Nat} (hk : k ≤ s.size) (hn : ¬ k < s.size) (h : Clean s k) : 47 ∉ s.data.toList := by
  intro hm
  obtain ⟨j, hj, e⟩ := List.getElem_of_mem hm
  have hj' : j < s.size := by simpa using hj
  have := h j hj' (by omega)
  rw [getElem_list s j hj', e] at this
  exact this rfl

theorem slash_mem {s : ByteArray} {k : Nat} (hk : k < s.size) (h : (s[k].toNat : Int) = 47) : 47 ∈ s.data.toList := by
  rw [toNat_int_eq, getElem_list s k hk] at h
  rw [← h]
  exact List.getElem_mem _

set_option maxHeartbeats 400000 in
/-- hasSlashE1: yes. -/
theorem has_yes (s : ByteArray) (w : World) (hs : s.size ≤ 1048576) (h : Hid (47 ∈ s.data.toList)) :
    Calls Tryf.prog 6 #[.string s] w fun e w' => e = .returned (.bool true) ∧ w' = w := by
  go_enter Tryf.func6, Tryf.ntmps6
  go_wp2
  go_loop [3] (fun i => ∃ k : Nat, k ≤ s.size ∧ i = .int .i64 k ∧ Hid (Clean s k)) (fun i => s.size - (intOf i).toNat)
  case atStart => exact ⟨0, Nat.zero_le _, rfl, fun _ _ h => absurd h (by omega)⟩
  case round =>
    obtain ⟨k, hk, rfl, hc⟩ := hrel
    by_cases hlt : k < s.size
    · by_cases he : (s[k].toNat : Int) = 47
      · have he' : ((s[k].toNat : Int) == 47) = true := by simpa using he
        clear he
        go_wp2
        go_ret
        exact ⟨rfl, rfl⟩
      · have he' : ((s[k].toNat : Int) == 47) = false := by simpa using he
        have HE : Hid _ := he
        clear he
        go_wp2
        go_round
        case rel => exact ⟨k + 1, by omega, by go_num, clean_succ hc.out hlt HE.out⟩
        case measure => simp [intOf]; omega
    · exact absurd h.out (clean_end hk hlt hc.out)

set_option maxHeartbeats 400000 in
/-- hasSlashE1: no. -/
theorem has_no (s : ByteArray) (w : World) (hs : s.size ≤ 1048576) (h : Hid (47 ∉ s.data.toList)) :
    Calls Tryf.prog 6 #[.string s] w fun e w' => e = .returned (.bool false) ∧ w' = w := by
  go_enter Tryf.func6, Tryf.ntmps6
  go_wp2
  go_loop [3] (fun i => ∃ k : Nat, k ≤ s.size ∧ i = .int .i64 k) (fun i => s.size - (intOf i).toNat)
  case atStart => exact ⟨0, Nat.zero_le _, rfl⟩
  case round =>
    obtain ⟨k, hk, rfl⟩ := hrel
    by_cases hlt : k < s.size
    · have he : ¬ (s[k].toNat : Int) = 47 := fun he => absurd (slash_mem hlt he) h.out
      have he' : ((s[k].toNat : Int) == 47) = false := by simpa using he
      clear he
      go_wp2
      go_round
      case rel => exact ⟨k + 1, by omega, by go_num⟩
      case measure => simp [intOf]; omega
    · go_wp2
      go_ret
      exact ⟨rfl, rfl⟩

/-- How many slashes. -/
def cnt (l : List UInt8) : Int := (l.count 47 : Nat)
theorem cnt_le (l : List UInt8) : 0 ≤ cnt l ∧ cnt l ≤ l.length := by
  unfold cnt
  have := List.count_le_length (a := (47 : UInt8)) (l := l)
  omega
theorem take_snoc (s : ByteArray) (k : Nat) (h : k < s.size) : s.data.toList.take (k + 1) = s.data.toList.take k ++ [s[k]] := by
  rw [List.take_succ_eq_append_getElem (by simpa using h)]; rfl
theorem cnt_yes (s : ByteArray) (k : Nat) (h : k < s.size) (he : (s[k].toNat : Int) = 47) : cnt (s.data.toList.take (k + 1)) = cnt (s.data.toList.take k) + 1 := by
  rw [take_snoc s k h, toNat_int_eq.1 he]
  unfold cnt
  simp
theorem cnt_no (s : ByteArray) (k : Nat) (h : k < s.size) (he : ¬ (s[k].toNat : Int) = 47) : cnt (s.data.toList.take (k + 1)) = cnt (s.data.toList.take k) := by
  rw [take_snoc s k h]
  unfold cnt
  have : s[k] ≠ 47 := fun e => he (toNat_int_eq.2 e)
  simp [this]

theorem ret_int {k : IntKind} {a b : Int} (h : a = b) : Ending.returned (.int k a) = .returned (.int k b) := by rw [h]

set_option maxHeartbeats 400000 in
/-- countSlashE1. -/
theorem count_any (s : ByteArray) (w : World) (hs : s.size ≤ 1048576) :
    Calls Tryf.prog 10 #[.string s] w fun e w' => e = .returned (.int .i64 (cnt s.data.toList)) ∧ w' = w := by
  go_enter Tryf.func10, Tryf.ntmps10
  go_wp2
  go_loop [3, 4] (fun n i => ∃ k : Nat, k ≤ s.size ∧ i = .int .i64 k ∧ n = .int .i64 (cnt (s.data.toList.take k))) (fun _ i => s.size - (intOf i).toNat)
  case atStart => exact ⟨0, Nat.zero_le _, rfl, rfl⟩
  case round =>
    obtain ⟨k, hk, rfl, rfl⟩ := hrel
    have hd := cnt_le (s.data.toList.take k)
    have hl : (s.data.toList.take k).length ≤ k := List.length_take_le _ _
    by_cases hlt : k < s.size
    · by_cases he : (s[k].toNat : Int) = 47
      · have HS : Hid _ := cnt_yes s k hlt he
        have he' : ((s[k].toNat : Int) == 47) = true := by simpa using he
        clear he
        go_wp2
        go_round
        case rel => exact ⟨k + 1, by omega, by go_num, by rw [HS.out]⟩
        case measure => simp [intOf]; omega
      · have HS : Hid _ := cnt_no s k hlt he
        have he' : ((s[k].toNat : Int) == 47) = false := by simpa using he
        clear he
        go_wp2
        go_round
        case rel => exact ⟨k + 1, by omega, by go_num, by rw [HS.out]⟩
        case measure => simp [intOf]; omega
    · go_wp2
      go_ret
      exact ⟨ret_int (by rw [List.take_of_length_le (by simp; omega)]), rfl⟩

/-! ### strings.Cut at a slash -/
set_option maxHeartbeats 1000000 in
set_option maxRecDepth 100000 in
theorem lite_IndexByte (s : ByteArray) (c : Int) (w : World) :
    Calls Tryf.prog 19 #[.string s, .int .u8 c] w fun e w' => e = .returned (.int .i64 (Lib.indexByte s.data.toList c.toNat.toUInt8)) ∧ w' = w := by
  go_enter Tryf.func19, Tryf.ntmps19
  go_wp2
  rw [run_callFunc_extern Tryf.func23 (by kernel_rfl) (by kernel_rfl) (by kernel_rfl) (e := Extern.BytealgIndexByte.indexByte) (by kernel_rfl), Lib.run_indexByteString]
  simp only [Result.andThen]
  rw [Oper.upon_value]
  go_wp2
  go_ret
  exact ⟨rfl, rfl⟩

set_option maxHeartbeats 2000000 in
set_option maxRecDepth 100000 in
theorem lite_Index (s : ByteArray) (w : World) :
    Calls Tryf.prog 18 #[.string s, .string ⟨#[47]⟩] w fun e w' => e = .returned (.int .i64 (Lib.indexByte s.data.toList 47)) ∧ w' = w := by
  go_enter Tryf.func18, Tryf.ntmps18
  go_wp2_with (go_at_call 19; refine (lite_IndexByte _ _ _).mono ?_; rintro e w' ⟨rfl, rfl⟩)
  · have h : ([47] == s.toList) = true := by assumption
    go_ret
    refine ⟨?_, rfl⟩
    have e : s.data.toList = [47] := by rw [← Lib.toList_data]; exact (beq_iff_eq.1 h).symm
    rw [e]
    simp [Lib.indexByte]
  · go_ret
    exact ⟨rfl, rfl⟩

end Go.Proofs.Qxb6617045aFmt

/-
  THE LIBRARY's FUNCTIONS on the road: bytes.LastIndexByte, bytes.Count at one byte, utf8.RuneCount; and zzEq. (RuneCount's two walks follow the shelf's own, at this program's numbers.)
-/
import Derived.Test.Qxb6618944aLen
import Derived.Lib.Bytes
import Derived.Lib.BytesEntry
import Derived.Laws.Externs
import Derived.Shelf.Bytes.SlCountOne
import Derived.Laws.RangeAny
import Derived.Laws.RangeString
import Derived.Laws.BytesArg
import Derived.Deep.QuietTactic
import Derived.BigQuiet
namespace Go.Proofs.Qxb6618944a
open Go.RowKit

/-! ### bytes.LastIndexByte at a newline -/
set_option maxHeartbeats 1000000 in
theorem lastIn_none (b o cap : Nat) (l : List UInt8) (w : World) (hs : l.length ≤ 1048576) (hrow : Hid (Row w b o l)) (h : Hid (∀ k, k < l.length → nb l k ≠ 10)) :
    Calls Try.prog 21 #[.slice (some ⟨b, o, none⟩) l.length cap, .int .u8 10] w fun e w' => e = .returned (.int .i64 (-1)) ∧ w' = w := by
  go_enter Try.func21, Try.ntmps21
  go_wp2
  go_loop [5] (fun x => ∃ k : Nat, k ≤ l.length ∧ x = .int .i64 ((k : Int) - 1)) (fun x => (intOf x + 1).toNat)
  case atStart => exact ⟨l.length, by omega, rfl⟩
  case round =>
    obtain ⟨k, hk, rfl⟩ := hrel
    by_cases h0 : k = 0
    · subst h0
      go_wp2
      go_ret
      exact ⟨rfl, rfl⟩
    · obtain ⟨k, rfl⟩ : ∃ k', k = k' + 1 := ⟨k - 1, by omega⟩
      have hlt : k < l.length := by omega
      have c0 := hrow.out k hlt
      have hn := h.out k hlt
      have hb : ((nb l k : Int) == 10) = false := beq_eq_false_iff_ne.2 (by omega)
      have g0 : (k : Int) < (l.length : Int) := by omega
      clear hn
      generalize nb l k = b0 at *
      go_wp2
      go_round
      case rel => exact ⟨k, by omega, by go_num⟩
      case measure => simp [intOf]

set_option maxHeartbeats 1000000 in
theorem lastIn_at (b o cap j : Nat) (l : List UInt8) (w : World) (hs : l.length ≤ 1048576) (hrow : Hid (Row w b o l)) (hj : j < l.length) (h10 : Hid (nb l j = 10)) (h : Hid (∀ k, j < k → k < l.length → nb l k ≠ 10)) :
    Calls Try.prog 21 #[.slice (some ⟨b, o, none⟩) l.length cap, .int .u8 10] w fun e w' => e = .returned (.int .i64 j) ∧ w' = w := by
  go_enter Try.func21, Try.ntmps21
  go_wp2
  go_loop [5] (fun x => ∃ k : Nat, j < k ∧ k ≤ l.length ∧ x = .int .i64 ((k : Int) - 1)) (fun x => (intOf x + 1).toNat)
  case atStart => exact ⟨l.length, hj, by omega, rfl⟩
  case round =>
    obtain ⟨k, hjk, hk, rfl⟩ := hrel
    obtain ⟨k, rfl⟩ : ∃ k', k = k' + 1 := ⟨k - 1, by omega⟩
    have hlt : k < l.length := by omega
    have c0 := hrow.out k hlt
    have g0 : (k : Int) < (l.length : Int) := by omega
    by_cases e : k = j
    · subst e
      have hb : ((nb l k : Int) == 10) = true := by rw [h10.out]; rfl
      clear h10
      generalize nb l k = b0 at *
      go_wp2
      go_ret
      exact ⟨rfl, rfl⟩
    · have hn := h.out k (by omega) hlt
      have hb : ((nb l k : Int) == 10) = false := beq_eq_false_iff_ne.2 (by omega)
      clear hn
      generalize nb l k = b0 at *
      go_wp2
      go_round
      case rel => exact ⟨k, by omega, by omega, by go_num⟩
      case measure => simp [intOf]

set_option maxHeartbeats 1000000 in
theorem last_none (b o cap : Nat) (l : List UInt8) (w : World) (hs : l.length ≤ 1048576) (hrow : Hid (Row w b o l)) (h : Hid (∀ k, k < l.length → nb l k ≠ 10)) :
    Calls Try.prog 17 #[.slice (some ⟨b, o, none⟩) l.length cap, .int .u8 10] w fun e w' => e = .returned (.int .i64 (-1)) ∧ w' = w := by
  go_enter Try.func17, Try.ntmps17
  go_wp2_with (go_at_call 21; refine (lastIn_none b o cap l _ hs hrow h).mono ?_; rintro e w' ⟨rfl, rfl⟩)
  go_ret
  exact ⟨rfl, rfl⟩
set_option maxHeartbeats 1000000 in
theorem last_at (b o cap j : Nat) (l : List UInt8) (w : World) (hs : l.length ≤ 1048576) (hrow : Hid (Row w b o l)) (hj : j < l.length) (h10 : Hid (nb l j = 10)) (h : Hid (∀ k, j < k → k < l.length → nb l k ≠ 10)) :
    Calls Try.prog 17 #[.slice (some ⟨b, o, none⟩) l.length cap, .int .u8 10] w fun e w' => e = .returned (.int .i64 j) ∧ w' = w := by
  go_enter Try.func17, Try.ntmps17
  go_wp2_with (go_at_call 21; refine (lastIn_at b o cap j l _ hs hrow hj h10 h).mono ?_; rintro e w' ⟨rfl, rfl⟩)
  go_ret
  exact ⟨rfl, rfl⟩

/-! ### bytes.Count at one byte -/
/-- The bytes as numbers. -/
def nums (l : List UInt8) : List Int := l.map fun x => (x.toNat : Int)
theorem nums_length (l : List UInt8) : (nums l).length = l.length := by simp [nums]
theorem nums_getD (l : List UInt8) (i : Nat) : (nums l).getD i 0 = (nb l i : Int) := by
  unfold nums nb
  simp only [List.getD, List.getElem?_map]
  cases l[i]? <;> rfl
theorem nums_bytes (l : List UInt8) : Lib.bytesOf (nums l) = l := by
  induction l with
  | nil => rfl
  | cons x l ih =>
    unfold Lib.bytesOf nums at *
    simp only [List.map_cons, ih]
    simp
set_option maxHeartbeats 2000000 in
set_option maxRecDepth 100000 in
theorem count_at (b o cap b2 : Nat) (l : List UInt8) (w : World) (hrow : Hid (Row w b o l)) (hc2 : w.cell? ⟨b2, 0, none⟩ = some (.int .u8 10)) :
    Calls Try.prog 18 #[.slice (some ⟨b, o, none⟩) l.length cap, .slice (some ⟨b2, 0, none⟩) 1 1] w fun e w' => e = .returned (.int .i64 (l.count 10 : Nat)) ∧ w' = w := by
  have hr := Lib.run_countSlice (P := Try.prog) w b o l.length cap (nums l) (nums_length l) (fun i hi => by rw [hrow.out i hi, nums_getD]) 10
  rw [nums_bytes] at hr
  have HR := hid hr
  clear hr
  go_enter Try.func18, Try.ntmps18
  go_wp2
  rw [run_callFunc_extern Try.func22 (by kernel_rfl) (by kernel_rfl) (by kernel_rfl) (e := Extern.BytealgCount.count) (by kernel_rfl), HR.out]
  simp only [Result.andThen]
  rw [Oper.upon_value]
  go_wp2
  go_ret
  exact ⟨rfl, rfl⟩

/-! ### utf8.RuneCount -/
set_option maxHeartbeats 4000000 in
set_option maxRecDepth 1000000 in
theorem runesIn (s : ByteArray) (w : World) (hs : s.size < 9223372036854775807) :
    Calls Try.prog 24 #[.string s] w fun e w' => e = .returned (.int .i64 (Lib.runeCount s : Nat)) ∧ ∃ pos, w' = w.iter s pos := by
  go_enter Try.func24, Try.ntmps24
  go_wp2
  go_loopw [2] (fun n w' => ∃ (pos b acc : Nat), w' = w.iter s pos ∧ n = .int .i64 acc ∧ acc + Lib.runeCountFrom s b pos = Lib.runeCount s ∧ s.size ≤ pos + b ∧ acc ≤ pos) (fun _ w' => s.size - w'.iterPos w.heap.size)
  case atStart => exact ⟨0, s.size, 0, rfl, rfl, by simp [Lib.runeCount], by omega, Nat.le_refl _⟩
  case round =>
    obtain ⟨pos, b, acc, rfl, rfl, hc, hb, ha⟩ := hrel
    by_cases hp : pos < s.size
    · have hnx : ∀ ty, (Instr.next (.pointer (some ⟨w.heap.size, 0, none⟩)) true ty).run Try.prog (w.iter s pos) = _ := fun ty => run_next_any w s pos ty hp
      have hwd := Lib.decode_width_pos s pos hp
      go_wp2
      go_roundw
      case rel =>
        cases b with
        | zero => omega
        | succ b =>
          refine ⟨pos + (Utf8.decode s pos).2, b, acc + 1, rfl, by go_num, ?_, by omega, by omega⟩
          rw [← hc]
          simp [Lib.runeCountFrom, hp]
          omega
      case measure =>
        simp
        omega
    · have hnx : ∀ ty, (Instr.next (.pointer (some ⟨w.heap.size, 0, none⟩)) true ty).run Try.prog (w.iter s pos) = _ := fun ty => run_next_end w s pos ty hp
      go_wp2
      go_ret
      rw [Lib.runeCountFrom_end s b pos hp, Nat.add_zero] at hc
      subst hc
      exact ⟨rfl, _, rfl⟩

end Go.Proofs.Qxb6618944a

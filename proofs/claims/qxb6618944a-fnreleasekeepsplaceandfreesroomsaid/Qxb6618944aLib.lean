/-
  THE LIBRARY's FUNCTIONS on the road: bytes.LastIndexByte, bytes.Count at one byte, utf8.RuneCountInString.
-/
import Derived.Test.Qxb6618944aLen
import Derived.Lib.Bytes
import Derived.Lib.BytesEntry
import Derived.Laws.Externs
import Derived.Shelf.Bytes.SlCountOne
import Derived.Laws.RangeAny
import Derived.Laws.RangeString
import Derived.Laws.BytesArg
import Derived.Deep.QuietTactic
import Derived.BigQuiet
namespace Go.Proofs.Qxb6618944a
open Go.RowKit

/-! ### bytes.LastIndexByte at a newline -/
set_option maxHeartbeats 1000000 in
theorem lastIn_none (b o cap : Nat) (l : List UInt8) (w : World) (hs : l.length ≤ 1048576) (hrow : Hid (Row w b o l)) (h : Hid (∀ k, k < l.length → nb l k ≠ 10)) :
    Calls Try.prog 21 #[.slice (some ⟨b, o, none⟩) l.length cap, .int .u8 10] w fun e w' => e = .returned (.int .i64 (-1)) ∧ w' = w := by
  go_enter Try.func21, Try.ntmps21
  go_wp2
  go_loop [5] (fun x => ∃ k : Nat, k ≤ l.length ∧ x = .int .i64 ((k : Int) - 1)) (fun x => (intOf x + 1).toNat)
  case atStart => exact ⟨l.length, by omega, rfl⟩
  case round =>
    obtain ⟨k, hk, rfl⟩ := hrel
    by_cases h0 : k = 0
    · subst h0
      go_wp2
      go_ret
      exact ⟨rfl, rfl⟩
    · obtain ⟨k, rfl⟩ : ∃ k', k = k' + 1 := ⟨k - 1, by omega⟩
      have hlt : k < l.length := by omega
      have c0 := hrow.out k hlt
      have hn := h.out k hlt
      have hb : ((nb l k : Int) == 10) = false := beq_eq_false_iff_ne.2 (by omega)
      have g0 : (k : Int) < (l.length : Int) := by omega
      clear hn
      generalize nb l k = b0 at *
      go_wp2
      go_round
      case rel => exact ⟨k, by omega, by go_num⟩
      case measure => simp [intOf]

set_option maxHeartbeats 1000000 in
theorem lastIn_at (b o cap j : Nat) (l : List UInt8) (w : World) (hs : l.length ≤ 1048576) (hrow : Hid (Row w b o l)) (hj : j < l.length) (h10 : Hid (nb l j = 10)) (h : Hid (∀ k, j < k → k < l.length → nb l k ≠ 10)) :
    Calls Try.prog 21 #[.slice (some ⟨b, o, none⟩) l.length cap, .int .u8 10] w fun e w' => e = .returned (.int .i64 j) ∧ w' = w := by
  go_enter Try.func21, Try.ntmps21
  go_wp2
  go_loop [5] (fun x => ∃ k : Nat, j < k ∧ k ≤ l.length ∧ x = .int .i64 ((k : Int) - 1)) (fun x => (intOf x + 1).toNat)
  case atStart => exact ⟨l.length, hj, by omega, rfl⟩
  case round =>
    obtain ⟨k, hjk, hk, rfl⟩ := hrel
    obtain ⟨k, rfl⟩ : ∃ k', k = k' + 1 := ⟨k - 1, by omega⟩
    have hlt : k < l.length := by omega
    have c0 := hrow.out k hlt
    have g0 : (k : Int) < (l.length : Int) := by omega
    by_cases e : k = j
    · subst e
      have hb : ((nb l k : Int) == 10) = true := by rw [h10.out]; rfl
      clear h10
      generalize nb l k = b0 at *
      go_wp2
      go_ret
      exact ⟨rfl, rfl⟩
    · have hn := h.out k (by omega) hlt
      have hb : ((nb l k : Int) == 10) = false := beq_eq_false_iff_ne.2 (by omega)
      clear hn
      generalize nb l k = b0 at *
      go_wp2
      go_round
      case rel => exact ⟨k, by omega, by omega, by go_num⟩
      case measure => simp [intOf]

set_option maxHeartbeats 1000000 in
theorem last_none (b o cap : Nat) (l : List UInt8) (w : World) (hs : l.length ≤ 1048576) (hrow : Hid (Row w b o l)) (h : Hid (∀ k, k < l.length → nb l k ≠ 10)) :
    Calls Try.prog 17 #[.slice (some ⟨b, o, none⟩) l.length cap, .int .u8 10] w fun e w' => e = .returned (.int .i64 (-1)) ∧ w' = w := by
  go_enter Try.func17, Try.ntmps17
  go_wp2_with (go_at_call 21; refine (lastIn_none b o cap l _ hs hrow h).mono ?_; rintro e w' ⟨rfl, rfl⟩)
  go_ret
  exact ⟨rfl, rfl⟩
set_option maxHeartbeats 1000000 in
theorem last_at (b o cap j : Nat) (l : List UInt8) (w : World) (hs : l.length ≤ 1048576) (hrow : Hid (Row w b o l)) (hj : j < l.length) (h10 : Hid (nb l j = 10)) (h : Hid (∀ k, j < k → k < l.length → nb l k ≠ 10)) :
    Calls Try.prog 17 #[.slice (some ⟨b, o, none⟩) l.length cap, .int .u8 10] w fun e w' => e = .returned (.int .i64 j) ∧ w' = w := by
  go_enter Try.func17, Try.ntmps17
  go_wp2_with (go_at_call 21; refine (lastIn_at b o cap j l _ hs hrow hj h10 h).mono ?_; rintro e w' ⟨rfl, rfl⟩)
  go_ret
  exact ⟨rfl, rfl⟩

/-! ### bytes.Count at one byte -/
/-- The bytes as numbers. -/
def nums (l : List UInt8) : List Int := l.map fun x => (x.toNat : Int)
theorem nums_length (l : List UInt8) : (nums l).length = l.length := by simp [nums]
theorem nums_getD (l : List UInt8) (i : Nat) : (nums l).getD i 0 = (nb l i : Int) := by
  unfold nums nb
  simp only [List.getD, List.getElem?_map]
  cases l[i]? <;> rfl
theorem nums_bytes (l : List UInt8) : Lib.bytesOf (nums l) = l := by
  induction l with
  | nil => rfl
  | cons x l ih =>
    unfold Lib.bytesOf nums at *
    simp only [List.map_cons, ih]
    simp
set_option maxHeartbeats 2000000 in
set_option maxRecDepth 100000 in
theorem count_at (b o cap b2 : Nat) (l : List UInt8) (w : World) (hrow : Hid (Row w b o l)) (hc2 : w.cell? ⟨b2, 0, none⟩ = some (.int .u8 10)) :
    Calls Try.prog 18 #[.slice (some ⟨b, o, none⟩) l.length cap, .slice (some ⟨b2, 0, none⟩) 1 1] w fun e w' => e = .returned (.int .i64 (l.count 10 : Nat)) ∧ w' = w := by
  have hr := Lib.run_countSlice (P := Try.prog) w b o l.length cap (nums l) (nums_length l) (fun i hi => by rw [hrow.out i hi, nums_getD]) 10
  rw [nums_bytes] at hr
  have HR := hid hr
  clear hr
  go_enter Try.func18, Try.ntmps18
  go_wp2
  rw [run_callFunc_extern Try.func22 (by kernel_rfl) (by kernel_rfl) (by kernel_rfl) (e := Extern.BytealgCount.count) (by kernel_rfl), HR.out]
  simp only [Result.andThen]
  rw [Oper.upon_value]
  go_wp2
  go_ret
  exact ⟨rfl, rfl⟩

/-! ### utf8.RuneCountInString -/
/-- One character on. -/
theorem rc_next (l : List UInt8) (k : Nat) (h : k < l.length) : rcFrom l l.length k = 1 + rcFrom l l.length (k + wd l k) := by
  have hw := wd_pos l k h
  obtain ⟨f, hf⟩ : ∃ f, l.length = f + 1 := ⟨l.length - 1, by omega⟩
  have e : rcFrom l l.length k = rcFrom l (f + 1) k := by rw [hf]
  rw [e, rc_step l f k h, rc_fuel l f l.length (k + wd l k) (by omega) (by omega)]
theorem rc_start (l : List UInt8) : rcFrom l l.length 0 = Lib.runeCount (S l) := rfl

set_option maxHeartbeats 2000000 in
set_option maxRecDepth 100000 in
/-- It counts the characters; behind it lies the iterator's block. -/
theorem runesIn (l : List UInt8) (w : World) (hl : l.length ≤ 1048576) :
    Calls Try.prog 24 #[.string (S l)] w fun e w' => e = .returned (.int .i64 (Lib.runeCount (S l) : Nat)) ∧ ∃ k, w' = w.iter (S l) k := by
  have hz : (S l).size = l.length := rfl
  have HZ := hid hz
  clear hz
  obtain ⟨r, hr⟩ : ∃ r, Lib.runeCount (S l) = r := ⟨_, rfl⟩
  rw [hr]
  have HS := hid ((rc_start l).trans hr)
  clear hr
  go_enter Try.func24, Try.ntmps24
  go_wp2
  go_loopw [2] (fun n wr => ∃ k c : Nat, k ≤ l.length ∧ c ≤ k ∧ n = .int .i64 c ∧ wr = w.iter (S l) k ∧ Hid (c + rcFrom l l.length k = r)) (fun _ wr => l.length - wr.iterPos w.heap.size)
  case atStart => exact ⟨0, 0, Nat.zero_le _, Nat.le_refl _, rfl, rfl, hid (by rw [Nat.zero_add]; exact HS.out)⟩
  case round =>
    obtain ⟨k, c, hk, hc, rfl, rfl, hq⟩ := hrel
    by_cases hlt : k < l.length
    · have hnx := fun ty => run_next_any (P := Try.prog) w (S l) k ty (by rw [HZ.out]; exact hlt)
      have ht := (wd_tail l k hlt).1
      have hp := wd_pos l k hlt
      have HQ : Hid (c + 1 + rcFrom l l.length (k + wd l k) = r) := hid (by have := hq.out; rw [rc_next l k hlt] at this; omega)
      have hwd : (Utf8.decode (S l) k).2 = wd l k := rfl
      rw [hwd] at hnx
      clear hwd hq
      generalize wd l k = d at *
      go_wp2
      go_roundw
      case rel => exact ⟨k + d, c + 1, by omega, by omega, by go_num, rfl, HQ⟩
      case measure => simp; omega
    · have hnx := fun ty => run_next_end (P := Try.prog) w (S l) k ty (by rw [HZ.out]; exact hlt)
      obtain rfl : c = r := by have := hq.out; rw [rc_end l _ k hlt] at this; omega
      go_wp2
      go_ret
      exact ⟨rfl, _, rfl⟩

end Go.Proofs.Qxb6618944a

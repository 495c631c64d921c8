/-
  zzRuneLen hands back the width of the character.
-/
import Derived.Test.Qxb6618944aPlain
import Derived.WalkKit
import Derived.WalkSpells
namespace Go.Proofs.Qxb6618944a
open Go.RowKit

theorem hid {p : Prop} (h : p) : Hid p := h
theorem ret_int {k : IntKind} {a b : Int} (h : a = b) : Ending.returned (.int k a) = .returned (.int k b) := by rw [h]
/-- The cells from ⟨b, o⟩ on hold the bytes l. -/
def Row (w : World) (b o : Nat) (l : List UInt8) : Prop := ∀ j, j < l.length → w.cell? ⟨b, o + j, none⟩ = some (.int .u8 (nb l j : Int))

set_option maxHeartbeats 1000000 in
set_option maxRecDepth 100000 in
theorem len_ascii (b o cap i : Nat) (l : List UInt8) (w : World) (hi : i < l.length) (hrow : Hid (Row w b o l)) (h : nb l i < 128) :
    Calls Try.prog 20 #[.slice (some ⟨b, o, none⟩) l.length cap, .int .i64 i] w fun e w' => e = .returned (.int .i64 (wd l i : Nat)) ∧ w' = w := by
  have c0 := hrow.out i hi
  have HW := hid (wd_one l i (by omega))
  generalize nb l i = b0 at *
  have g0 : (i : Int) < (l.length : Int) := by omega
  go_enter Try.func20, Try.ntmps20
  go_wp2
  go_ret
  exact ⟨ret_int (by rw [HW.out]; rfl), rfl⟩

set_option maxHeartbeats 1000000 in
set_option maxRecDepth 100000 in
theorem len_odd (b o cap i : Nat) (l : List UInt8) (w : World) (hi : i < l.length) (hrow : Hid (Row w b o l)) (h0 : 128 ≤ nb l i) (h : nb l i < 194 ∨ 244 < nb l i) :
    Calls Try.prog 20 #[.slice (some ⟨b, o, none⟩) l.length cap, .int .i64 i] w fun e w' => e = .returned (.int .i64 (wd l i : Nat)) ∧ w' = w := by
  have c0 := hrow.out i hi
  have HW := hid (wd_one l i h)
  generalize nb l i = b0 at *
  have g0 : (i : Int) < (l.length : Int) := by omega
  have q1 : ((b0 : Int) == 224) = false := beq_eq_false_iff_ne.2 (by omega)
  have q2 : ((b0 : Int) == 237) = false := beq_eq_false_iff_ne.2 (by omega)
  have q3 : ((b0 : Int) == 240) = false := beq_eq_false_iff_ne.2 (by omega)
  have q4 : ((b0 : Int) == 244) = false := beq_eq_false_iff_ne.2 (by omega)
  rcases h with h | h
  · go_enter Try.func20, Try.ntmps20
    go_wp2
    go_ret
    exact ⟨ret_int (by rw [HW.out]; rfl), rfl⟩
  · have d1 : decide ((b0 : Int) ≤ 223) = false := by simp; omega
    have d2 : decide ((b0 : Int) ≤ 239) = false := by simp; omega
    have d3 : decide ((b0 : Int) ≤ 243) = false := by simp; omega
    go_enter Try.func20, Try.ntmps20
    go_wp2
    go_ret
    exact ⟨ret_int (by rw [HW.out]; rfl), rfl⟩

set_option maxHeartbeats 2000000 in
set_option maxRecDepth 100000 in
theorem len_C2 (b o cap i : Nat) (l : List UInt8) (w : World) (hi : i < l.length) (hs : l.length ≤ 1048576) (hrow : Hid (Row w b o l)) (h : 194 ≤ nb l i ∧ nb l i < 224) :
    Calls Try.prog 20 #[.slice (some ⟨b, o, none⟩) l.length cap, .int .i64 i] w fun e w' => e = .returned (.int .i64 (wd l i : Nat)) ∧ w' = w := by
  have c0 := hrow.out i hi
  have HW := hid (wd_C2 l i hi h)
  have g0 : (i : Int) < (l.length : Int) := by omega
  have e1 : ((i : Int) + 1).toNat = i + 1 := by omega
  have e2 : ((i : Int) + 2).toNat = i + 2 := by omega
  have e3 : ((i : Int) + 3).toNat = i + 3 := by omega
  generalize nb l i = b0 at *
  obtain ⟨r1, r2⟩ := h
  by_cases hn : l.length - i < 2
  · have hn' : (l.length : Int) - (i : Int) < 2 := by omega
    go_enter Try.func20, Try.ntmps20
    go_wp2
    go_ret
    exact ⟨ret_int (by rw [HW.out]; simp [slen, hn]), rfl⟩
  have hn' : 2 ≤ (l.length : Int) - (i : Int) := by omega
  have dn : decide ((l.length : Int) - (i : Int) < 2) = false := by simp; omega
  have c1 := hrow.out (i + 1) (by omega)
  have l1 := nb_lt l (i + 1)
  have g1 : (i : Int) + 1 < (l.length : Int) := by omega
  generalize nb l (i + 1) = b1 at *
  generalize nb l (i + 2) = b2 at *
  generalize nb l (i + 3) = b3 at *
  by_cases h1 : b1 < 128
  · have t1 : decide ((b1 : Int) < 128) = true := by simp; omega
    go_enter Try.func20, Try.ntmps20
    go_wp2
    go_ret
    exact ⟨ret_int (by rw [HW.out]; simp [slen, hn, h1]), rfl⟩
  have t1 : decide ((b1 : Int) < 128) = false := by simp; omega
  by_cases h2 : 191 < b1
  · have t2 : decide ((191 : Int) < (b1 : Int)) = true := by simp; omega
    go_enter Try.func20, Try.ntmps20
    go_wp2
    go_ret
    exact ⟨ret_int (by rw [HW.out]; simp [slen, hn, h2]), rfl⟩
  have t2 : decide ((191 : Int) < (b1 : Int)) = false := by simp; omega
  go_enter Try.func20, Try.ntmps20
  go_wp2
  go_loop [9] (fun x => ∃ k : Nat, 2 ≤ k ∧ k ≤ 2 ∧ x = .int .i64 k) (fun x => 2 - (intOf x).toNat)
  case atStart => exact ⟨2, by omega, by omega, rfl⟩
  case round =>
    obtain ⟨k, hk1, hk2, rfl⟩ := hrel
    obtain rfl : k = 2 := by omega
    go_wp2
    go_ret
    exact ⟨ret_int (by rw [HW.out]; simp [slen, hn, h1, h2]), rfl⟩

set_option maxHeartbeats 2000000 in
set_option maxRecDepth 100000 in
theorem len_E0 (b o cap i : Nat) (l : List UInt8) (w : World) (hi : i < l.length) (hs : l.length ≤ 1048576) (hrow : Hid (Row w b o l)) (h : nb l i = 224) :
    Calls Try.prog 20 #[.slice (some ⟨b, o, none⟩) l.length cap, .int .i64 i] w fun e w' => e = .returned (.int .i64 (wd l i : Nat)) ∧ w' = w := by
  have c0 := hrow.out i hi
  have HW := hid (wd_E0 l i hi h)
  have g0 : (i : Int) < (l.length : Int) := by omega
  have e1 : ((i : Int) + 1).toNat = i + 1 := by omega
  have e2 : ((i : Int) + 2).toNat = i + 2 := by omega
  have e3 : ((i : Int) + 3).toNat = i + 3 := by omega
  rw [h] at c0
  clear h
  by_cases hn : l.length - i < 3
  · have hn' : (l.length : Int) - (i : Int) < 3 := by omega
    go_enter Try.func20, Try.ntmps20
    go_wp2
    go_ret
    exact ⟨ret_int (by rw [HW.out]; simp [slen, hn]), rfl⟩
  have hn' : 3 ≤ (l.length : Int) - (i : Int) := by omega
  have dn : decide ((l.length : Int) - (i : Int) < 3) = false := by simp; omega
  have c1 := hrow.out (i + 1) (by omega)
  have l1 := nb_lt l (i + 1)
  have g1 : (i : Int) + 1 < (l.length : Int) := by omega
  have c2 := hrow.out (i + 2) (by omega)
  have l2 := nb_lt l (i + 2)
  have g2 : (i : Int) + 2 < (l.length : Int) := by omega
  generalize nb l (i + 1) = b1 at *
  generalize nb l (i + 2) = b2 at *
  generalize nb l (i + 3) = b3 at *
  by_cases h1 : b1 < 160
  · have t1 : decide ((b1 : Int) < 160) = true := by simp; omega
    go_enter Try.func20, Try.ntmps20
    go_wp2
    go_ret
    exact ⟨ret_int (by rw [HW.out]; simp [slen, hn, h1]), rfl⟩
  have t1 : decide ((b1 : Int) < 160) = false := by simp; omega
  by_cases h2 : 191 < b1
  · have t2 : decide ((191 : Int) < (b1 : Int)) = true := by simp; omega
    go_enter Try.func20, Try.ntmps20
    go_wp2
    go_ret
    exact ⟨ret_int (by rw [HW.out]; simp [slen, hn, h2]), rfl⟩
  have t2 : decide ((191 : Int) < (b1 : Int)) = false := by simp; omega
  by_cases h3 : b2 < 128
  · have t3 : decide ((b2 : Int) < 128) = true := by simp; omega
    go_enter Try.func20, Try.ntmps20
    go_wp2
    go_loop [9] (fun x => ∃ k : Nat, 2 ≤ k ∧ k ≤ 2 ∧ x = .int .i64 k) (fun x => 2 - (intOf x).toNat)
    case atStart => exact ⟨2, by omega, by omega, rfl⟩
    case round =>
      obtain ⟨k, hk1, hk2, rfl⟩ := hrel
      obtain rfl : k = 2 := by omega
      go_wp2
      go_ret
      exact ⟨ret_int (by rw [HW.out]; simp [slen, hn, h1, h2, h3]), rfl⟩
  have t3 : decide ((b2 : Int) < 128) = false := by simp; omega
  by_cases h4 : 191 < b2
  · have t4 : decide ((191 : Int) < (b2 : Int)) = true := by simp; omega
    go_enter Try.func20, Try.ntmps20
    go_wp2
    go_loop [9] (fun x => ∃ k : Nat, 2 ≤ k ∧ k ≤ 2 ∧ x = .int .i64 k) (fun x => 2 - (intOf x).toNat)
    case atStart => exact ⟨2, by omega, by omega, rfl⟩
    case round =>
      obtain ⟨k, hk1, hk2, rfl⟩ := hrel
      obtain rfl : k = 2 := by omega
      go_wp2
      go_ret
      exact ⟨ret_int (by rw [HW.out]; simp [slen, hn, h1, h2, h4]), rfl⟩
  have t4 : decide ((191 : Int) < (b2 : Int)) = false := by simp; omega
  go_enter Try.func20, Try.ntmps20
  go_wp2
  go_loop [9] (fun x => ∃ k : Nat, 2 ≤ k ∧ k ≤ 3 ∧ x = .int .i64 k) (fun x => 3 - (intOf x).toNat)
  case atStart => exact ⟨2, by omega, by omega, rfl⟩
  case round =>
    obtain ⟨k, hk1, hk2, rfl⟩ := hrel
    have e : k = 2 ∨ k = 3 := by omega
    rcases e with rfl | rfl
    · go_wp2
      go_round
      case rel => exact ⟨3, by omega, by omega, by go_num⟩
      case measure => simp [intOf]
    · go_wp2
      go_ret
      exact ⟨ret_int (by rw [HW.out]; simp [slen, hn, h1, h2, h3, h4]), rfl⟩

set_option maxHeartbeats 2000000 in
set_option maxRecDepth 100000 in
theorem len_ED (b o cap i : Nat) (l : List UInt8) (w : World) (hi : i < l.length) (hs : l.length ≤ 1048576) (hrow : Hid (Row w b o l)) (h : nb l i = 237) :
    Calls Try.prog 20 #[.slice (some ⟨b, o, none⟩) l.length cap, .int .i64 i] w fun e w' => e = .returned (.int .i64 (wd l i : Nat)) ∧ w' = w := by
  have c0 := hrow.out i hi
  have HW := hid (wd_ED l i hi h)
  have g0 : (i : Int) < (l.length : Int) := by omega
  have e1 : ((i : Int) + 1).toNat = i + 1 := by omega
  have e2 : ((i : Int) + 2).toNat = i + 2 := by omega
  have e3 : ((i : Int) + 3).toNat = i + 3 := by omega
  rw [h] at c0
  clear h
  by_cases hn : l.length - i < 3
  · have hn' : (l.length : Int) - (i : Int) < 3 := by omega
    go_enter Try.func20, Try.ntmps20
    go_wp2
    go_ret
    exact ⟨ret_int (by rw [HW.out]; simp [slen, hn]), rfl⟩
  have hn' : 3 ≤ (l.length : Int) - (i : Int) := by omega
  have dn : decide ((l.length : Int) - (i : Int) < 3) = false := by simp; omega
  have c1 := hrow.out (i + 1) (by omega)
  have l1 := nb_lt l (i + 1)
  have g1 : (i : Int) + 1 < (l.length : Int) := by omega
  have c2 := hrow.out (i + 2) (by omega)
  have l2 := nb_lt l (i + 2)
  have g2 : (i : Int) + 2 < (l.length : Int) := by omega
  generalize nb l (i + 1) = b1 at *
  generalize nb l (i + 2) = b2 at *
  generalize nb l (i + 3) = b3 at *
  by_cases h1 : b1 < 128
  · have t1 : decide ((b1 : Int) < 128) = true := by simp; omega
    go_enter Try.func20, Try.ntmps20
    go_wp2
    go_ret
    exact ⟨ret_int (by rw [HW.out]; simp [slen, hn, h1]), rfl⟩
  have t1 : decide ((b1 : Int) < 128) = false := by simp; omega
  by_cases h2 : 159 < b1
  · have t2 : decide ((159 : Int) < (b1 : Int)) = true := by simp; omega
    go_enter Try.func20, Try.ntmps20
    go_wp2
    go_ret
    exact ⟨ret_int (by rw [HW.out]; simp [slen, hn, h2]), rfl⟩
  have t2 : decide ((159 : Int) < (b1 : Int)) = false := by simp; omega
  by_cases h3 : b2 < 128
  · have t3 : decide ((b2 : Int) < 128) = true := by simp; omega
    go_enter Try.func20, Try.ntmps20
    go_wp2
    go_loop [9] (fun x => ∃ k : Nat, 2 ≤ k ∧ k ≤ 2 ∧ x = .int .i64 k) (fun x => 2 - (intOf x).toNat)
    case atStart => exact ⟨2, by omega, by omega, rfl⟩
    case round =>
      obtain ⟨k, hk1, hk2, rfl⟩ := hrel
      obtain rfl : k = 2 := by omega
      go_wp2
      go_ret
      exact ⟨ret_int (by rw [HW.out]; simp [slen, hn, h1, h2, h3]), rfl⟩
  have t3 : decide ((b2 : Int) < 128) = false := by simp; omega
  by_cases h4 : 191 < b2
  · have t4 : decide ((191 : Int) < (b2 : Int)) = true := by simp; omega
    go_enter Try.func20, Try.ntmps20
    go_wp2
    go_loop [9] (fun x => ∃ k : Nat, 2 ≤ k ∧ k ≤ 2 ∧ x = .int .i64 k) (fun x => 2 - (intOf x).toNat)
    case atStart => exact ⟨2, by omega, by omega, rfl⟩
    case round =>
      obtain ⟨k, hk1, hk2, rfl⟩ := hrel
      obtain rfl : k = 2 := by omega
      go_wp2
      go_ret
      exact ⟨ret_int (by rw [HW.out]; simp [slen, hn, h1, h2, h4]), rfl⟩
  have t4 : decide ((191 : Int) < (b2 : Int)) = false := by simp; omega
  go_enter Try.func20, Try.ntmps20
  go_wp2
  go_loop [9] (fun x => ∃ k : Nat, 2 ≤ k ∧ k ≤ 3 ∧ x = .int .i64 k) (fun x => 3 - (intOf x).toNat)
  case atStart => exact ⟨2, by omega, by omega, rfl⟩
  case round =>
    obtain ⟨k, hk1, hk2, rfl⟩ := hrel
    have e : k = 2 ∨ k = 3 := by omega
    rcases e with rfl | rfl
    · go_wp2
      go_round
      case rel => exact ⟨3, by omega, by omega, by go_num⟩
      case measure => simp [intOf]
    · go_wp2
      go_ret
      exact ⟨ret_int (by rw [HW.out]; simp [slen, hn, h1, h2, h3, h4]), rfl⟩

set_option maxHeartbeats 2000000 in
set_option maxRecDepth 100000 in
theorem len_E1 (b o cap i : Nat) (l : List UInt8) (w : World) (hi : i < l.length) (hs : l.length ≤ 1048576) (hrow : Hid (Row w b o l)) (h : (225 ≤ nb l i ∧ nb l i < 237) ∨ (238 ≤ nb l i ∧ nb l i < 240)) :
    Calls Try.prog 20 #[.slice (some ⟨b, o, none⟩) l.length cap, .int .i64 i] w fun e w' => e = .returned (.int .i64 (wd l i : Nat)) ∧ w' = w := by
  have c0 := hrow.out i hi
  have HW := hid (wd_E1 l i hi h)
  have g0 : (i : Int) < (l.length : Int) := by omega
  have e1 : ((i : Int) + 1).toNat = i + 1 := by omega
  have e2 : ((i : Int) + 2).toNat = i + 2 := by omega
  have e3 : ((i : Int) + 3).toNat = i + 3 := by omega
  generalize nb l i = b0 at *
  have q1 : ((b0 : Int) == 224) = false := beq_eq_false_iff_ne.2 (by omega)
  have q2 : ((b0 : Int) == 237) = false := beq_eq_false_iff_ne.2 (by omega)
  have r1 : (225 : Int) ≤ (b0 : Int) := by omega
  have r2 : (b0 : Int) ≤ 239 := by omega
  have d1 : decide ((b0 : Int) ≤ 223) = false := by simp; omega
  clear h
  by_cases hn : l.length - i < 3
  · have hn' : (l.length : Int) - (i : Int) < 3 := by omega
    go_enter Try.func20, Try.ntmps20
    go_wp2
    go_ret
    exact ⟨ret_int (by rw [HW.out]; simp [slen, hn]), rfl⟩
  have hn' : 3 ≤ (l.length : Int) - (i : Int) := by omega
  have dn : decide ((l.length : Int) - (i : Int) < 3) = false := by simp; omega
  have c1 := hrow.out (i + 1) (by omega)
  have l1 := nb_lt l (i + 1)
  have g1 : (i : Int) + 1 < (l.length : Int) := by omega
  have c2 := hrow.out (i + 2) (by omega)
  have l2 := nb_lt l (i + 2)
  have g2 : (i : Int) + 2 < (l.length : Int) := by omega
  generalize nb l (i + 1) = b1 at *
  generalize nb l (i + 2) = b2 at *
  generalize nb l (i + 3) = b3 at *
  by_cases h1 : b1 < 128
  · have t1 : decide ((b1 : Int) < 128) = true := by simp; omega
    go_enter Try.func20, Try.ntmps20
    go_wp2
    go_ret
    exact ⟨ret_int (by rw [HW.out]; simp [slen, hn, h1]), rfl⟩
  have t1 : decide ((b1 : Int) < 128) = false := by simp; omega
  by_cases h2 : 191 < b1
  · have t2 : decide ((191 : Int) < (b1 : Int)) = true := by simp; omega
    go_enter Try.func20, Try.ntmps20
    go_wp2
    go_ret
    exact ⟨ret_int (by rw [HW.out]; simp [slen, hn, h2]), rfl⟩
  have t2 : decide ((191 : Int) < (b1 : Int)) = false := by simp; omega
  by_cases h3 : b2 < 128
  · have t3 : decide ((b2 : Int) < 128) = true := by simp; omega
    go_enter Try.func20, Try.ntmps20
    go_wp2
    go_loop [9] (fun x => ∃ k : Nat, 2 ≤ k ∧ k ≤ 2 ∧ x = .int .i64 k) (fun x => 2 - (intOf x).toNat)
    case atStart => exact ⟨2, by omega, by omega, rfl⟩
    case round =>
      obtain ⟨k, hk1, hk2, rfl⟩ := hrel
      obtain rfl : k = 2 := by omega
      go_wp2
      go_ret
      exact ⟨ret_int (by rw [HW.out]; simp [slen, hn, h1, h2, h3]), rfl⟩
  have t3 : decide ((b2 : Int) < 128) = false := by simp; omega
  by_cases h4 : 191 < b2
  · have t4 : decide ((191 : Int) < (b2 : Int)) = true := by simp; omega
    go_enter Try.func20, Try.ntmps20
    go_wp2
    go_loop [9] (fun x => ∃ k : Nat, 2 ≤ k ∧ k ≤ 2 ∧ x = .int .i64 k) (fun x => 2 - (intOf x).toNat)
    case atStart => exact ⟨2, by omega, by omega, rfl⟩
    case round =>
      obtain ⟨k, hk1, hk2, rfl⟩ := hrel
      obtain rfl : k = 2 := by omega
      go_wp2
      go_ret
      exact ⟨ret_int (by rw [HW.out]; simp [slen, hn, h1, h2, h4]), rfl⟩
  have t4 : decide ((191 : Int) < (b2 : Int)) = false := by simp; omega
  go_enter Try.func20, Try.ntmps20
  go_wp2
  go_loop [9] (fun x => ∃ k : Nat, 2 ≤ k ∧ k ≤ 3 ∧ x = .int .i64 k) (fun x => 3 - (intOf x).toNat)
  case atStart => exact ⟨2, by omega, by omega, rfl⟩
  case round =>
    obtain ⟨k, hk1, hk2, rfl⟩ := hrel
    have e : k = 2 ∨ k = 3 := by omega
    rcases e with rfl | rfl
    · go_wp2
      go_round
      case rel => exact ⟨3, by omega, by omega, by go_num⟩
      case measure => simp [intOf]
    · go_wp2
      go_ret
      exact ⟨ret_int (by rw [HW.out]; simp [slen, hn, h1, h2, h3, h4]), rfl⟩

set_option maxHeartbeats 2000000 in
set_option maxRecDepth 100000 in
theorem len_F0 (b o cap i : Nat) (l : List UInt8) (w : World) (hi : i < l.length) (hs : l.length ≤ 1048576) (hrow : Hid (Row w b o l)) (h : nb l i = 240) :
    Calls Try.prog 20 #[.slice (some ⟨b, o, none⟩) l.length cap, .int .i64 i] w fun e w' => e = .returned (.int .i64 (wd l i : Nat)) ∧ w' = w := by
  have c0 := hrow.out i hi
  have HW := hid (wd_F0 l i hi h)
  have g0 : (i : Int) < (l.length : Int) := by omega
  have e1 : ((i : Int) + 1).toNat = i + 1 := by omega
  have e2 : ((i : Int) + 2).toNat = i + 2 := by omega
  have e3 : ((i : Int) + 3).toNat = i + 3 := by omega
  rw [h] at c0
  clear h
  by_cases hn : l.length - i < 4
  · have hn' : (l.length : Int) - (i : Int) < 4 := by omega
    go_enter Try.func20, Try.ntmps20
    go_wp2
    go_ret
    exact ⟨ret_int (by rw [HW.out]; simp [slen, hn]), rfl⟩
  have hn' : 4 ≤ (l.length : Int) - (i : Int) := by omega
  have dn : decide ((l.length : Int) - (i : Int) < 4) = false := by simp; omega
  have c1 := hrow.out (i + 1) (by omega)
  have l1 := nb_lt l (i + 1)
  have g1 : (i : Int) + 1 < (l.length : Int) := by omega
  have c2 := hrow.out (i + 2) (by omega)
  have l2 := nb_lt l (i + 2)
  have g2 : (i : Int) + 2 < (l.length : Int) := by omega
  have c3 := hrow.out (i + 3) (by omega)
  have l3 := nb_lt l (i + 3)
  have g3 : (i : Int) + 3 < (l.length : Int) := by omega
  generalize nb l (i + 1) = b1 at *
  generalize nb l (i + 2) = b2 at *
  generalize nb l (i + 3) = b3 at *
  by_cases h1 : b1 < 144
  · have t1 : decide ((b1 : Int) < 144) = true := by simp; omega
    go_enter Try.func20, Try.ntmps20
    go_wp2
    go_ret
    exact ⟨ret_int (by rw [HW.out]; simp [slen, hn, h1]), rfl⟩
  have t1 : decide ((b1 : Int) < 144) = false := by simp; omega
  by_cases h2 : 191 < b1
  · have t2 : decide ((191 : Int) < (b1 : Int)) = true := by simp; omega
    go_enter Try.func20, Try.ntmps20
    go_wp2
    go_ret
    exact ⟨ret_int (by rw [HW.out]; simp [slen, hn, h2]), rfl⟩
  have t2 : decide ((191 : Int) < (b1 : Int)) = false := by simp; omega
  by_cases h3 : b2 < 128
  · have t3 : decide ((b2 : Int) < 128) = true := by simp; omega
    go_enter Try.func20, Try.ntmps20
    go_wp2
    go_loop [9] (fun x => ∃ k : Nat, 2 ≤ k ∧ k ≤ 2 ∧ x = .int .i64 k) (fun x => 2 - (intOf x).toNat)
    case atStart => exact ⟨2, by omega, by omega, rfl⟩
    case round =>
      obtain ⟨k, hk1, hk2, rfl⟩ := hrel
      obtain rfl : k = 2 := by omega
      go_wp2
      go_ret
      exact ⟨ret_int (by rw [HW.out]; simp [slen, hn, h1, h2, h3]), rfl⟩
  have t3 : decide ((b2 : Int) < 128) = false := by simp; omega
  by_cases h4 : 191 < b2
  · have t4 : decide ((191 : Int) < (b2 : Int)) = true := by simp; omega
    go_enter Try.func20, Try.ntmps20
    go_wp2
    go_loop [9] (fun x => ∃ k : Nat, 2 ≤ k ∧ k ≤ 2 ∧ x = .int .i64 k) (fun x => 2 - (intOf x).toNat)
    case atStart => exact ⟨2, by omega, by omega, rfl⟩
    case round =>
      obtain ⟨k, hk1, hk2, rfl⟩ := hrel
      obtain rfl : k = 2 := by omega
      go_wp2
      go_ret
      exact ⟨ret_int (by rw [HW.out]; simp [slen, hn, h1, h2, h4]), rfl⟩
  have t4 : decide ((191 : Int) < (b2 : Int)) = false := by simp; omega
  by_cases h5 : b3 < 128
  · have t5 : decide ((b3 : Int) < 128) = true := by simp; omega
    go_enter Try.func20, Try.ntmps20
    go_wp2
    go_loop [9] (fun x => ∃ k : Nat, 2 ≤ k ∧ k ≤ 3 ∧ x = .int .i64 k) (fun x => 3 - (intOf x).toNat)
    case atStart => exact ⟨2, by omega, by omega, rfl⟩
    case round =>
      obtain ⟨k, hk1, hk2, rfl⟩ := hrel
      have e : k = 2 ∨ k = 3 := by omega
      rcases e with rfl | rfl
      · go_wp2
        go_round
        case rel => exact ⟨3, by omega, by omega, by go_num⟩
        case measure => simp [intOf]
      · go_wp2
        go_ret
        exact ⟨ret_int (by rw [HW.out]; simp [slen, hn, h1, h2, h3, h4, h5]), rfl⟩
  have t5 : decide ((b3 : Int) < 128) = false := by simp; omega
  by_cases h6 : 191 < b3
  · have t6 : decide ((191 : Int) < (b3 : Int)) = true := by simp; omega
    go_enter Try.func20, Try.ntmps20
    go_wp2
    go_loop [9] (fun x => ∃ k : Nat, 2 ≤ k ∧ k ≤ 3 ∧ x = .int .i64 k) (fun x => 3 - (intOf x).toNat)
    case atStart => exact ⟨2, by omega, by omega, rfl⟩
    case round =>
      obtain ⟨k, hk1, hk2, rfl⟩ := hrel
      have e : k = 2 ∨ k = 3 := by omega
      rcases e with rfl | rfl
      · go_wp2
        go_round
        case rel => exact ⟨3, by omega, by omega, by go_num⟩
        case measure => simp [intOf]
      · go_wp2
        go_ret
        exact ⟨ret_int (by rw [HW.out]; simp [slen, hn, h1, h2, h3, h4, h6]), rfl⟩
  have t6 : decide ((191 : Int) < (b3 : Int)) = false := by simp; omega
  go_enter Try.func20, Try.ntmps20
  go_wp2
  go_loop [9] (fun x => ∃ k : Nat, 2 ≤ k ∧ k ≤ 4 ∧ x = .int .i64 k) (fun x => 4 - (intOf x).toNat)
  case atStart => exact ⟨2, by omega, by omega, rfl⟩
  case round =>
    obtain ⟨k, hk1, hk2, rfl⟩ := hrel
    have e : k = 2 ∨ k = 3 ∨ k = 4 := by omega
    rcases e with rfl | rfl | rfl
    · go_wp2
      go_round
      case rel => exact ⟨3, by omega, by omega, by go_num⟩
      case measure => simp [intOf]
    · go_wp2
      go_round
      case rel => exact ⟨4, by omega, by omega, by go_num⟩
      case measure => simp [intOf]
    · go_wp2
      go_ret
      exact ⟨ret_int (by rw [HW.out]; simp [slen, hn, h1, h2, h3, h4, h5, h6]), rfl⟩

set_option maxHeartbeats 2000000 in
set_option maxRecDepth 100000 in
theorem len_F1 (b o cap i : Nat) (l : List UInt8) (w : World) (hi : i < l.length) (hs : l.length ≤ 1048576) (hrow : Hid (Row w b o l)) (h : 241 ≤ nb l i ∧ nb l i < 244) :
    Calls Try.prog 20 #[.slice (some ⟨b, o, none⟩) l.length cap, .int .i64 i] w fun e w' => e = .returned (.int .i64 (wd l i : Nat)) ∧ w' = w := by
  have c0 := hrow.out i hi
  have HW := hid (wd_F1 l i hi h)
  have g0 : (i : Int) < (l.length : Int) := by omega
  have e1 : ((i : Int) + 1).toNat = i + 1 := by omega
  have e2 : ((i : Int) + 2).toNat = i + 2 := by omega
  have e3 : ((i : Int) + 3).toNat = i + 3 := by omega
  generalize nb l i = b0 at *
  have q1 : ((b0 : Int) == 224) = false := beq_eq_false_iff_ne.2 (by omega)
  have q2 : ((b0 : Int) == 237) = false := beq_eq_false_iff_ne.2 (by omega)
  have q3 : ((b0 : Int) == 240) = false := beq_eq_false_iff_ne.2 (by omega)
  have d1 : decide ((b0 : Int) ≤ 223) = false := by simp; omega
  have d2 : decide ((b0 : Int) ≤ 239) = false := by simp; omega
  obtain ⟨r1, r2⟩ := h
  by_cases hn : l.length - i < 4
  · have hn' : (l.length : Int) - (i : Int) < 4 := by omega
    go_enter Try.func20, Try.ntmps20
    go_wp2
    go_ret
    exact ⟨ret_int (by rw [HW.out]; simp [slen, hn]), rfl⟩
  have hn' : 4 ≤ (l.length : Int) - (i : Int) := by omega
  have dn : decide ((l.length : Int) - (i : Int) < 4) = false := by simp; omega
  have c1 := hrow.out (i + 1) (by omega)
  have l1 := nb_lt l (i + 1)
  have g1 : (i : Int) + 1 < (l.length : Int) := by omega
  have c2 := hrow.out (i + 2) (by omega)
  have l2 := nb_lt l (i + 2)
  have g2 : (i : Int) + 2 < (l.length : Int) := by omega
  have c3 := hrow.out (i + 3) (by omega)
  have l3 := nb_lt l (i + 3)
  have g3 : (i : Int) + 3 < (l.length : Int) := by omega
  generalize nb l (i + 1) = b1 at *
  generalize nb l (i + 2) = b2 at *
  generalize nb l (i + 3) = b3 at *
  by_cases h1 : b1 < 128
  · have t1 : decide ((b1 : Int) < 128) = true := by simp; omega
    go_enter Try.func20, Try.ntmps20
    go_wp2
    go_ret
    exact ⟨ret_int (by rw [HW.out]; simp [slen, hn, h1]), rfl⟩
  have t1 : decide ((b1 : Int) < 128) = false := by simp; omega
  by_cases h2 : 191 < b1
  · have t2 : decide ((191 : Int) < (b1 : Int)) = true := by simp; omega
    go_enter Try.func20, Try.ntmps20
    go_wp2
    go_ret
    exact ⟨ret_int (by rw [HW.out]; simp [slen, hn, h2]), rfl⟩
  have t2 : decide ((191 : Int) < (b1 : Int)) = false := by simp; omega
  by_cases h3 : b2 < 128
  · have t3 : decide ((b2 : Int) < 128) = true := by simp; omega
    go_enter Try.func20, Try.ntmps20
    go_wp2
    go_loop [9] (fun x => ∃ k : Nat, 2 ≤ k ∧ k ≤ 2 ∧ x = .int .i64 k) (fun x => 2 - (intOf x).toNat)
    case atStart => exact ⟨2, by omega, by omega, rfl⟩
    case round =>
      obtain ⟨k, hk1, hk2, rfl⟩ := hrel
      obtain rfl : k = 2 := by omega
      go_wp2
      go_ret
      exact ⟨ret_int (by rw [HW.out]; simp [slen, hn, h1, h2, h3]), rfl⟩
  have t3 : decide ((b2 : Int) < 128) = false := by simp; omega
  by_cases h4 : 191 < b2
  · have t4 : decide ((191 : Int) < (b2 : Int)) = true := by simp; omega
    go_enter Try.func20, Try.ntmps20
    go_wp2
    go_loop [9] (fun x => ∃ k : Nat, 2 ≤ k ∧ k ≤ 2 ∧ x = .int .i64 k) (fun x => 2 - (intOf x).toNat)
    case atStart => exact ⟨2, by omega, by omega, rfl⟩
    case round =>
      obtain ⟨k, hk1, hk2, rfl⟩ := hrel
      obtain rfl : k = 2 := by omega
      go_wp2
      go_ret
      exact ⟨ret_int (by rw [HW.out]; simp [slen, hn, h1, h2, h4]), rfl⟩
  have t4 : decide ((191 : Int) < (b2 : Int)) = false := by simp; omega
  by_cases h5 : b3 < 128
  · have t5 : decide ((b3 : Int) < 128) = true := by simp; omega
    go_enter Try.func20, Try.ntmps20
    go_wp2
    go_loop [9] (fun x => ∃ k : Nat, 2 ≤ k ∧ k ≤ 3 ∧ x = .int .i64 k) (fun x => 3 - (intOf x).toNat)
    case atStart => exact ⟨2, by omega, by omega, rfl⟩
    case round =>
      obtain ⟨k, hk1, hk2, rfl⟩ := hrel
      have e : k = 2 ∨ k = 3 := by omega
      rcases e with rfl | rfl
      · go_wp2
        go_round
        case rel => exact ⟨3, by omega, by omega, by go_num⟩
        case measure => simp [intOf]
      · go_wp2
        go_ret
        exact ⟨ret_int (by rw [HW.out]; simp [slen, hn, h1, h2, h3, h4, h5]), rfl⟩
  have t5 : decide ((b3 : Int) < 128) = false := by simp; omega
  by_cases h6 : 191 < b3
  · have t6 : decide ((191 : Int) < (b3 : Int)) = true := by simp; omega
    go_enter Try.func20, Try.ntmps20
    go_wp2
    go_loop [9] (fun x => ∃ k : Nat, 2 ≤ k ∧ k ≤ 3 ∧ x = .int .i64 k) (fun x => 3 - (intOf x).toNat)
    case atStart => exact ⟨2, by omega, by omega, rfl⟩
    case round =>
      obtain ⟨k, hk1, hk2, rfl⟩ := hrel
      have e : k = 2 ∨ k = 3 := by omega
      rcases e with rfl | rfl
      · go_wp2
        go_round
        case rel => exact ⟨3, by omega, by omega, by go_num⟩
        case measure => simp [intOf]
      · go_wp2
        go_ret
        exact ⟨ret_int (by rw [HW.out]; simp [slen, hn, h1, h2, h3, h4, h6]), rfl⟩
  have t6 : decide ((191 : Int) < (b3 : Int)) = false := by simp; omega
  go_enter Try.func20, Try.ntmps20
  go_wp2
  go_loop [9] (fun x => ∃ k : Nat, 2 ≤ k ∧ k ≤ 4 ∧ x = .int .i64 k) (fun x => 4 - (intOf x).toNat)
  case atStart => exact ⟨2, by omega, by omega, rfl⟩
  case round =>
    obtain ⟨k, hk1, hk2, rfl⟩ := hrel
    have e : k = 2 ∨ k = 3 ∨ k = 4 := by omega
    rcases e with rfl | rfl | rfl
    · go_wp2
      go_round
      case rel => exact ⟨3, by omega, by omega, by go_num⟩
      case measure => simp [intOf]
    · go_wp2
      go_round
      case rel => exact ⟨4, by omega, by omega, by go_num⟩
      case measure => simp [intOf]
    · go_wp2
      go_ret
      exact ⟨ret_int (by rw [HW.out]; simp [slen, hn, h1, h2, h3, h4, h5, h6]), rfl⟩

set_option maxHeartbeats 2000000 in
set_option maxRecDepth 100000 in
theorem len_F4 (b o cap i : Nat) (l : List UInt8) (w : World) (hi : i < l.length) (hs : l.length ≤ 1048576) (hrow : Hid (Row w b o l)) (h : nb l i = 244) :
    Calls Try.prog 20 #[.slice (some ⟨b, o, none⟩) l.length cap, .int .i64 i] w fun e w' => e = .returned (.int .i64 (wd l i : Nat)) ∧ w' = w := by
  have c0 := hrow.out i hi
  have HW := hid (wd_F4 l i hi h)
  have g0 : (i : Int) < (l.length : Int) := by omega
  have e1 : ((i : Int) + 1).toNat = i + 1 := by omega
  have e2 : ((i : Int) + 2).toNat = i + 2 := by omega
  have e3 : ((i : Int) + 3).toNat = i + 3 := by omega
  rw [h] at c0
  clear h
  by_cases hn : l.length - i < 4
  · have hn' : (l.length : Int) - (i : Int) < 4 := by omega
    go_enter Try.func20, Try.ntmps20
    go_wp2
    go_ret
    exact ⟨ret_int (by rw [HW.out]; simp [slen, hn]), rfl⟩
  have hn' : 4 ≤ (l.length : Int) - (i : Int) := by omega
  have dn : decide ((l.length : Int) - (i : Int) < 4) = false := by simp; omega
  have c1 := hrow.out (i + 1) (by omega)
  have l1 := nb_lt l (i + 1)
  have g1 : (i : Int) + 1 < (l.length : Int) := by omega
  have c2 := hrow.out (i + 2) (by omega)
  have l2 := nb_lt l (i + 2)
  have g2 : (i : Int) + 2 < (l.length : Int) := by omega
  have c3 := hrow.out (i + 3) (by omega)
  have l3 := nb_lt l (i + 3)
  have g3 : (i : Int) + 3 < (l.length : Int) := by omega
  generalize nb l (i + 1) = b1 at *
  generalize nb l (i + 2) = b2 at *
  generalize nb l (i + 3) = b3 at *
  by_cases h1 : b1 < 128
  · have t1 : decide ((b1 : Int) < 128) = true := by simp; omega
    go_enter Try.func20, Try.ntmps20
    go_wp2
    go_ret
    exact ⟨ret_int (by rw [HW.out]; simp [slen, hn, h1]), rfl⟩
  have t1 : decide ((b1 : Int) < 128) = false := by simp; omega
  by_cases h2 : 143 < b1
  · have t2 : decide ((143 : Int) < (b1 : Int)) = true := by simp; omega
    go_enter Try.func20, Try.ntmps20
    go_wp2
    go_ret
    exact ⟨ret_int (by rw [HW.out]; simp [slen, hn, h2]), rfl⟩
  have t2 : decide ((143 : Int) < (b1 : Int)) = false := by simp; omega
  by_cases h3 : b2 < 128
  · have t3 : decide ((b2 : Int) < 128) = true := by simp; omega
    go_enter Try.func20, Try.ntmps20
    go_wp2
    go_loop [9] (fun x => ∃ k : Nat, 2 ≤ k ∧ k ≤ 2 ∧ x = .int .i64 k) (fun x => 2 - (intOf x).toNat)
    case atStart => exact ⟨2, by omega, by omega, rfl⟩
    case round =>
      obtain ⟨k, hk1, hk2, rfl⟩ := hrel
      obtain rfl : k = 2 := by omega
      go_wp2
      go_ret
      exact ⟨ret_int (by rw [HW.out]; simp [slen, hn, h1, h2, h3]), rfl⟩
  have t3 : decide ((b2 : Int) < 128) = false := by simp; omega
  by_cases h4 : 191 < b2
  · have t4 : decide ((191 : Int) < (b2 : Int)) = true := by simp; omega
    go_enter Try.func20, Try.ntmps20
    go_wp2
    go_loop [9] (fun x => ∃ k : Nat, 2 ≤ k ∧ k ≤ 2 ∧ x = .int .i64 k) (fun x => 2 - (intOf x).toNat)
    case atStart => exact ⟨2, by omega, by omega, rfl⟩
    case round =>
      obtain ⟨k, hk1, hk2, rfl⟩ := hrel
      obtain rfl : k = 2 := by omega
      go_wp2
      go_ret
      exact ⟨ret_int (by rw [HW.out]; simp [slen, hn, h1, h2, h4]), rfl⟩
  have t4 : decide ((191 : Int) < (b2 : Int)) = false := by simp; omega
  by_cases h5 : b3 < 128
  · have t5 : decide ((b3 : Int) < 128) = true := by simp; omega
    go_enter Try.func20, Try.ntmps20
    go_wp2
    go_loop [9] (fun x => ∃ k : Nat, 2 ≤ k ∧ k ≤ 3 ∧ x = .int .i64 k) (fun x => 3 - (intOf x).toNat)
    case atStart => exact ⟨2, by omega, by omega, rfl⟩
    case round =>
      obtain ⟨k, hk1, hk2, rfl⟩ := hrel
      have e : k = 2 ∨ k = 3 := by omega
      rcases e with rfl | rfl
      · go_wp2
        go_round
        case rel => exact ⟨3, by omega, by omega, by go_num⟩
        case measure => simp [intOf]
      · go_wp2
        go_ret
        exact ⟨ret_int (by rw [HW.out]; simp [slen, hn, h1, h2, h3, h4, h5]), rfl⟩
  have t5 : decide ((b3 : Int) < 128) = false := by simp; omega
  by_cases h6 : 191 < b3
  · have t6 : decide ((191 : Int) < (b3 : Int)) = true := by simp; omega
    go_enter Try.func20, Try.ntmps20
    go_wp2
    go_loop [9] (fun x => ∃ k : Nat, 2 ≤ k ∧ k ≤ 3 ∧ x = .int .i64 k) (fun x => 3 - (intOf x).toNat)
    case atStart => exact ⟨2, by omega, by omega, rfl⟩
    case round =>
      obtain ⟨k, hk1, hk2, rfl⟩ := hrel
      have e : k = 2 ∨ k = 3 := by omega
      rcases e with rfl | rfl
      · go_wp2
        go_round
        case rel => exact ⟨3, by omega, by omega, by go_num⟩
        case measure => simp [intOf]
      · go_wp2
        go_ret
        exact ⟨ret_int (by rw [HW.out]; simp [slen, hn, h1, h2, h3, h4, h6]), rfl⟩
  have t6 : decide ((191 : Int) < (b3 : Int)) = false := by simp; omega
  go_enter Try.func20, Try.ntmps20
  go_wp2
  go_loop [9] (fun x => ∃ k : Nat, 2 ≤ k ∧ k ≤ 4 ∧ x = .int .i64 k) (fun x => 4 - (intOf x).toNat)
  case atStart => exact ⟨2, by omega, by omega, rfl⟩
  case round =>
    obtain ⟨k, hk1, hk2, rfl⟩ := hrel
    have e : k = 2 ∨ k = 3 ∨ k = 4 := by omega
    rcases e with rfl | rfl | rfl
    · go_wp2
      go_round
      case rel => exact ⟨3, by omega, by omega, by go_num⟩
      case measure => simp [intOf]
    · go_wp2
      go_round
      case rel => exact ⟨4, by omega, by omega, by go_num⟩
      case measure => simp [intOf]
    · go_wp2
      go_ret
      exact ⟨ret_int (by rw [HW.out]; simp [slen, hn, h1, h2, h3, h4, h5, h6]), rfl⟩

end Go.Proofs.Qxb6618944a

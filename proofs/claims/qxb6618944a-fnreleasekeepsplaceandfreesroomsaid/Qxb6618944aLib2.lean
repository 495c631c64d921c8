/-
  utf8.RuneCount over a slice; zzEq.
-/
import Derived.Test.Qxb6618944aLib
namespace Go.Proofs.Qxb6618944a
open Go.RowKit

theorem below_iter (w : World) (t : ByteArray) (pos : Nat) : Below w.heap.size w (w.iter t pos) :=
  (Below.refl _ w).alloc (Nat.le_refl _) _

theorem strOfNums_bytes (t : ByteArray) : strOfNums (t.data.toList.map fun x => (x.toNat : Int)) = t := by
  cases t with
  | mk d =>
    have h : ∀ l : List UInt8, l.map ((fun n : Int => UInt8.ofNat n.toNat) ∘ fun x : UInt8 => (x.toNat : Int)) = l := by
      intro l
      induction l with
      | nil => rfl
      | cons x r ih => simp [ih]
    simp [strOfNums, h]

theorem rc_split (l : List UInt8) (k : Nat) (hk : k ≤ l.length) (ha : ∀ j, j < k → nb l j < 128) : Lib.runeCount (S l) = k + Lib.runeCount (S (l.drop k)) := by
  have h := Lib.runeCount_split (S l) k hk fun j hj => by rw [get_nb]; exact ha j hj
  have e : S (l.drop k) = (S l).extract k (S l).size := by
    rw [← S_of ((S l).extract k (S l).size), Lib.extract_to_end, S_toList]
  rw [e]
  exact h

set_option maxHeartbeats 2000000 in
set_option maxRecDepth 1000000 in
/-- utf8.RuneCount at an address. -/
theorem runes_at (b o cap : Nat) (l : List UInt8) (w : World) (hcap : l.length ≤ cap) (hs : l.length ≤ 1048576) (hrow : Hid (Row w b o l)) :
    Calls Try.prog 19 #[.slice (some ⟨b, o, none⟩) l.length cap] w fun e w' => e = .returned (.int .i64 (Lib.runeCount (S l) : Nat)) ∧ Below w.heap.size w w' := by
  go_enter Try.func19, Try.ntmps19
  go_wp2
  go_loop [4] (fun n => ∃ k : Nat, k ≤ l.length ∧ n = .int .i64 k ∧ Hid (∀ j, j < k → nb l j < 128)) (fun n => l.length - (intOf n).toNat)
  case atStart => exact ⟨0, Nat.zero_le _, rfl, fun j hj => absurd hj (Nat.not_lt_zero _)⟩
  case round =>
    obtain ⟨k, hk, rfl, hasc⟩ := hrel
    by_cases hlt : k < l.length
    · have hcell := hrow.out k hlt
      have hltz : (k : Int) < (l.length : Int) := by omega
      by_cases ha : nb l k < 128
      · have HN : Hid (∀ j, j < k + 1 → nb l j < 128) := fun j hj => by
          by_cases hjk : j < k
          · exact hasc.out j hjk
          · have e : j = k := by omega
            subst e
            exact ha
        generalize nb l k = y at *
        have haz : ¬ ((y : Int) ≥ 128) := by omega
        go_wp2
        go_round
        case rel => exact ⟨k + 1, by omega, by go_num, HN⟩
        case measure => simp [intOf]; omega
      · have hne : cap ≠ k := by omega
        have hcv : ∀ c, (convert 22 9 (.slice (some ⟨b, o + k, none⟩) (l.length - k) c)).run Try.prog w = .ok (.string (S (l.drop k))) w := fun c => by
          have := run_convert_bytes_arg (P := Try.prog) w 22 5 Try.underlying22 Try.underlying5 b (o + k) (l.length - k) c (nums (l.drop k))
            (by rw [nums_length, List.length_drop])
            (fun i hi => by
              rw [Nat.add_assoc, hrow.out (k + i) (by omega), nums_getD]
              unfold nb
              rw [List.getD, List.getD, List.getElem?_drop])
            9 Try.underlying9
          rw [this]
          have e := strOfNums_bytes (S (l.drop k))
          rw [S_toList] at e
          exact congrArg (fun x => Result.ok (Value.string x) w) e
        have HC := hid (rc_split l k (by omega) hasc.out)
        have hle := Lib.runeCount_le (S (l.drop k))
        rw [S_size, List.length_drop] at hle
        have HR := hid (runesIn (S (l.drop k)) w (by rw [S_size, List.length_drop]; omega))
        generalize nb l k = y at *
        generalize Lib.runeCount (S (l.drop k)) = c at *
        have haz : (y : Int) ≥ 128 := by omega
        go_wp2_with (go_at_call 24; refine HR.out.mono ?_; rintro e w' ⟨rfl, pos, rfl⟩)
        go_ret
        refine ⟨ret_int (by rw [HC.out]; omega), below_iter _ _ _⟩
    · have hkk : k = l.length := by omega
      have HC := hid (rc_split l k hk hasc.out)
      subst hkk
      go_wp2
      go_ret
      refine ⟨ret_int ?_, Below.refl _ _⟩
      rw [HC.out, List.drop_length]
      rfl

set_option maxHeartbeats 1000000 in
/-- utf8.RuneCount at no byte. -/
theorem runes_none (q : Option Addr) (cap : Nat) (w : World) :
    Calls Try.prog 19 #[.slice q 0 cap] w fun e w' => e = .returned (.int .i64 0) ∧ Below w.heap.size w w' := by
  go_enter Try.func19, Try.ntmps19
  go_wp2
  go_loop [4] (fun n => n = .int .i64 0) (fun _ => 0)
  case atStart => exact rfl
  case round =>
    obtain rfl := hrel
    go_wp2
    go_ret
    exact ⟨rfl, Below.refl _ _⟩

/-! ### zzEq of two slices that hold the same bytes -/
set_option maxHeartbeats 1000000 in
theorem eq_at (b1 o1 c1 b2 o2 c2 : Nat) (l : List UInt8) (w : World) (hs : l.length ≤ 1048576) (h1 : Hid (Row w b1 o1 l)) (h2 : Hid (Row w b2 o2 l)) :
    Calls Try.prog 13 #[.slice (some ⟨b1, o1, none⟩) l.length c1, .slice (some ⟨b2, o2, none⟩) l.length c2] w fun e w' => e = .returned (.bool true) ∧ ∃ n, w' = w.drewN n := by
  go_enter Try.func13, Try.ntmps13
  go_wp2
  go_loopw [5] (fun x wr => ∃ k : Nat, k ≤ l.length ∧ x = .int .i64 k ∧ ∃ n, wr = w.drewN n) (fun x _ => l.length - (intOf x).toNat)
  case atStart => exact ⟨0, Nat.zero_le _, rfl, 0, rfl⟩
  case round =>
    obtain ⟨k, hk, rfl, n, rfl⟩ := hrel
    by_cases hlt : k < l.length
    · have d1 := h1.out k hlt
      have d2 := h2.out k hlt
      have g0 : (k : Int) < (l.length : Int) := by omega
      generalize nb l k = y at *
      go_wp2
      go_quiet (fail)
      go_wp2
      exact ⟨⟨k + 1, by omega, by go_num, _, rfl⟩, by simp [intOf]; omega⟩
    · go_wp2
      go_ret
      exact ⟨rfl, _, rfl⟩

set_option maxHeartbeats 1000000 in
theorem eq_none (q1 q2 : Option Addr) (c1 c2 : Nat) (w : World) :
    Calls Try.prog 13 #[.slice q1 0 c1, .slice q2 0 c2] w fun e w' => e = .returned (.bool true) ∧ ∃ n, w' = w.drewN n := by
  go_enter Try.func13, Try.ntmps13
  go_wp2
  go_loop [5] (fun x => x = .int .i64 0) (fun _ => 0)
  case atStart => exact rfl
  case round =>
    obtain rfl := hrel
    go_wp2
    go_ret
    exact ⟨rfl, 0, rfl⟩

end Go.Proofs.Qxb6618944a

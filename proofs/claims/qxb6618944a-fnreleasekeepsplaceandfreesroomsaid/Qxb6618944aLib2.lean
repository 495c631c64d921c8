/-
  utf8.RuneCount over a slice; zzEq.
-/
import Derived.Test.Qxb6618944aLib
namespace Go.Proofs.Qxb6618944a
open Go.RowKit

theorem below_iter (w : World) (t : ByteArray) (pos : Nat) : Below w.heap.size w (w.iter t pos) :=
  (Below.refl _ w).alloc (Nat.le_refl _) _

theorem str_nums (l : List UInt8) : strOfNums (nums l) = S l := by
  have h : (nums l).map (fun n : Int => UInt8.ofNat n.toNat) = l := by
    induction l with
    | nil => rfl
    | cons x l ih =>
      unfold nums at *
      simp only [List.map_cons, ih]
      simp
  unfold strOfNums S
  rw [h]

set_option maxHeartbeats 2000000 in
set_option maxRecDepth 100000 in
/-- utf8.RuneCount at an address: byte by byte over ASCII, then RuneCountInString over the rest. -/
theorem runes_at (b o cap : Nat) (l : List UInt8) (w : World) (hcap : l.length ≤ cap) (hs : l.length ≤ 1048576) (hrow : Hid (Row w b o l)) :
    Calls Try.prog 19 #[.slice (some ⟨b, o, none⟩) l.length cap] w fun e w' => e = .returned (.int .i64 (Lib.runeCount (S l) : Nat)) ∧ Below w.heap.size w w' := by
  obtain ⟨r, hr⟩ : ∃ r, Lib.runeCount (S l) = r := ⟨_, rfl⟩
  rw [hr]
  have HS := hid ((rc_start l).trans hr)
  clear hr
  go_enter Try.func19, Try.ntmps19
  go_wp2
  go_loop [4] (fun n => ∃ k : Nat, k ≤ l.length ∧ n = .int .i64 k ∧ Hid (k + rcFrom l l.length k = r)) (fun n => l.length - (intOf n).toNat)
  case atStart => exact ⟨0, Nat.zero_le _, rfl, hid (by rw [Nat.zero_add]; exact HS.out)⟩
  case round =>
    obtain ⟨k, hk, rfl, hq⟩ := hrel
    by_cases hlt : k < l.length
    · have hcell := hrow.out k hlt
      have g0 : (k : Int) < (l.length : Int) := by omega
      by_cases ha : nb l k < 128
      · have HQ : Hid (k + 1 + rcFrom l l.length (k + 1) = r) := hid (by have := hq.out; rw [rc_next l k hlt, wd_one l k (by omega)] at this; omega)
        clear hq
        generalize nb l k = y at *
        have haz : ¬ ((y : Int) ≥ 128) := by omega
        go_wp2
        go_round
        case rel => exact ⟨k + 1, by omega, by go_num, HQ⟩
        case measure => simp [intOf]; omega
      · have hne : cap ≠ k := by omega
        have hcv : ∀ c, (convert 22 9 (.slice (some ⟨b, o + k, none⟩) (l.length - k) c)).run Try.prog w = .ok (.string (S (l.drop k))) w := fun c => by
          rw [← str_nums]
          refine run_convert_bytes_arg (P := Try.prog) w 22 5 Try.underlying22 Try.underlying5 b (o + k) (l.length - k) c (nums (l.drop k)) (by rw [nums_length, List.length_drop]) (fun i hi => ?_) 9 Try.underlying9
          rw [Nat.add_assoc, hrow.out (k + i) (by omega), nums_getD]
          unfold nb
          rw [List.getD, List.getD, List.getElem?_drop]
        have HR := hid (runesIn (l.drop k) w (by rw [List.length_drop]; omega))
        have HQ : Hid (k + Lib.runeCount (S (l.drop k)) = r) := hid (by rw [rc_drop]; exact hq.out)
        have hle := Lib.runeCount_le (S (l.drop k))
        rw [S_size, List.length_drop] at hle
        clear hq
        generalize nb l k = y at *
        generalize Lib.runeCount (S (l.drop k)) = c at *
        have haz : (y : Int) ≥ 128 := by omega
        go_wp2_with (go_at_call 24; refine HR.out.mono ?_; rintro e w' ⟨rfl, pos, rfl⟩)
        go_ret
        refine ⟨ret_int (by have := HQ.out; omega), below_iter _ _ _⟩
    · obtain rfl : k = r := by have := hq.out; rw [rc_end l _ k hlt] at this; omega
      go_wp2
      go_ret
      exact ⟨rfl, Below.refl _ _⟩

set_option maxHeartbeats 1000000 in
/-- utf8.RuneCount at no byte. -/
theorem runes_none (q : Option Addr) (cap : Nat) (w : World) :
    Calls Try.prog 19 #[.slice q 0 cap] w fun e w' => e = .returned (.int .i64 0) ∧ Below w.heap.size w w' := by
  go_enter Try.func19, Try.ntmps19
  go_wp2
  go_loop [4] (fun n => n = .int .i64 0) (fun _ => 0)
  case atStart => exact rfl
  case round =>
    obtain rfl := hrel
    go_wp2
    go_ret
    exact ⟨rfl, Below.refl _ _⟩

/-! ### zzEq of two slices that hold the same bytes -/
set_option maxHeartbeats 1000000 in
theorem eq_at (b1 o1 c1 b2 o2 c2 : Nat) (l : List UInt8) (w : World) (hs : l.length ≤ 1048576) (h1 : Hid (Row w b1 o1 l)) (h2 : Hid (Row w b2 o2 l)) :
    Calls Try.prog 13 #[.slice (some ⟨b1, o1, none⟩) l.length c1, .slice (some ⟨b2, o2, none⟩) l.length c2] w fun e w' => e = .returned (.bool true) ∧ ∃ n, w' = w.drewN n := by
  go_enter Try.func13, Try.ntmps13
  go_wp2
  go_loopw [5] (fun x wr => ∃ k : Nat, k ≤ l.length ∧ x = .int .i64 k ∧ ∃ n, wr = w.drewN n) (fun x _ => l.length - (intOf x).toNat)
  case atStart => exact ⟨0, Nat.zero_le _, rfl, 0, rfl⟩
  case round =>
    obtain ⟨k, hk, rfl, n, rfl⟩ := hrel
    by_cases hlt : k < l.length
    · have d1 := h1.out k hlt
      have d2 := h2.out k hlt
      have g0 : (k : Int) < (l.length : Int) := by omega
      generalize nb l k = y at *
      go_wp2
      go_quiet (fail)
      go_wp2
      exact ⟨⟨k + 1, by omega, by go_num, _, rfl⟩, by simp [intOf]; omega⟩
    · go_wp2
      go_ret
      exact ⟨rfl, _, rfl⟩

set_option maxHeartbeats 1000000 in
theorem eq_none (q1 q2 : Option Addr) (c1 c2 : Nat) (w : World) :
    Calls Try.prog 13 #[.slice q1 0 c1, .slice q2 0 c2] w fun e w' => e = .returned (.bool true) ∧ ∃ n, w' = w.drewN n := by
  go_enter Try.func13, Try.ntmps13
  go_wp2
  go_loop [5] (fun x => x = .int .i64 0) (fun _ => 0)
  case atStart => exact rfl
  case round =>
    obtain rfl := hrel
    go_wp2
    go_ret
    exact ⟨rfl, 0, rfl⟩

end Go.Proofs.Qxb6618944a

/-
  THE LAW's WALK, the other ways.
-/
import Derived.Test.Qxb6617142aLaw
namespace Go.Proofs.Qxb6617142a
open Go.RowKit

set_option maxHeartbeats 4000000 in
set_option maxRecDepth 100000 in
/-- Behind a refresh's url and its sign. -/
theorem law_eq_true (v n t l b : Int) (s : ByteArray) (im : Bool) (c0 c1 c2 c3 c4 c5 c6 : Int) (w : World) (hs : s.size ≤ 1048576) (hb : Alnum b) (hb0 : Hid (0 ≤ b)) (hb1 : Hid (b ≤ 255)) (h5 : (l == 5) = false) (h6 : (l == 6) = false)
    (l' : Int) (hL : Hid (avL l = l')) (hL' : Hid (avL l' = l')) (hd : Hid (descB l = false)) (hd' : Hid (descB l' = false)) :
    Calls Try.prog 3 #[.int .u8 10, .string s, .int .u8 v, .bool im, .int .u8 n, .agg #[.int .u8 c0, .int .u8 c1, .int .u8 c2, .int .u8 c3, .int .u8 c4, .int .u8 c5, .int .u8 c6], .int .u8 t, .bool true, .int .u8 l, .int .u8 b] w fun e w' =>
      e = .returned (.bool true) ∧ Below w.heap.size w w' := by
  have hd59 : decide ((1048576 : Int) < (s.size : Int)) = false := by simp; omega
  have h48 : 48 ≤ b := by unfold Alnum at hb; omega
  have en := fun w => eq_name c0 c1 c2 c3 c4 c5 c6 w
  go_enter Try.func3, Try.ntmps3
  go_wp2_with (first
    | (go_at_call 4; refine (bytes_yes 10 v n t _ b s im true c0 c1 c2 c3 c4 c5 c6 _ hs).mono ?_; rintro e w' ⟨rfl, rfl⟩)
    | (go_at_call 5; refine (letter_yes b _ hb).mono ?_; rintro e w' ⟨rfl, rfl⟩))
  go_loop [21] (fun i => ∃ k : Nat, k ≤ s.size ∧ i = .int .i64 k ∧ Hid (Clean s b k)) (fun i => s.size - (intOf i).toNat)
  case atStart => exact ⟨0, Nat.zero_le _, rfl, fun _ _ h => absurd h (by omega)⟩
  case round =>
    obtain ⟨k, hk, rfl, hc⟩ := hrel
    by_cases hlt : k < s.size
    · by_cases he : (s[k].toNat : Int) = b
      · have he' : ((s[k].toNat : Int) == b) = true := by simpa using he
        have HE : Hid _ := he
        clear he
        go_wp2
        go_ret
        exact ⟨rfl, ((Below.refl _ _).alloc (Nat.le_refl _) _).alloc (by simp) _⟩
      · have he' : ((s[k].toNat : Int) == b) = false := by simpa using he
        have HE : Hid _ := he
        clear he
        go_wp2
        go_round
        case rel => exact ⟨k + 1, by omega, by go_num, clean_succ hc.out hlt HE.out⟩
        case measure => simp [intOf]; omega
    · have hi : Hid (Lib.indexByte s.data.toList b.toNat.toUInt8 = -1) := clean_index hb0.out hb1.out (clean_done hk hlt hc.out)
      clear hc
      go_wp2_with fail
      refine (zzafter_to 10 v n t l s im true c0 c1 c2 c3 c4 c5 c6 2 1 l' true _ (avP_start hd.out rfl) (avV_start hd.out rfl) (avO_start hd.out rfl) hL.out).mono ?_
      rintro e w' ⟨rfl, rfl⟩
      go_wp2_with fail
      refine (zzafter_to 2 1 n t l' s im true c0 c1 c2 c3 c4 c5 c6 2 1 l' true _ (avP_else rfl) (avV_else rfl) (avO_two hd'.out) hL'.out).mono ?_
      rintro e w' ⟨rfl, rfl⟩
      go_wp2_with (first
        | (go_at_call 7; refine (zzpart_to 1 b s 2 _ hb hi rfl).mono ?_; rintro e w' ⟨rfl, rfl⟩)
        | (go_at_call 8; refine (zzlist_to l b l' _ h48 (avL_list hd.out hL.out)).mono ?_; rintro e w' ⟨rfl, rfl⟩))
      go_ret
      exact ⟨rfl, by repeat (first | exact Below.refl _ _ | apply Below.drew | apply below_alloc)⟩

set_option maxHeartbeats 4000000 in
set_option maxRecDepth 100000 in
/-- Behind a refresh's url and its sign. -/
theorem law_eq_false (v n t l b : Int) (s : ByteArray) (im : Bool) (c0 c1 c2 c3 c4 c5 c6 : Int) (w : World) (hs : s.size ≤ 1048576) (hb : Alnum b) (hb0 : Hid (0 ≤ b)) (hb1 : Hid (b ≤ 255)) (h5 : (l == 5) = false) (h6 : (l == 6) = false)
    (l' : Int) (hL : Hid (avL l = l')) (hL' : Hid (avL l' = l')) (hd : Hid (descB l = false)) (hd' : Hid (descB l' = false)) :
    Calls Try.prog 3 #[.int .u8 10, .string s, .int .u8 v, .bool im, .int .u8 n, .agg #[.int .u8 c0, .int .u8 c1, .int .u8 c2, .int .u8 c3, .int .u8 c4, .int .u8 c5, .int .u8 c6], .int .u8 t, .bool false, .int .u8 l, .int .u8 b] w fun e w' =>
      e = .returned (.bool true) ∧ Below w.heap.size w w' := by
  have hd59 : decide ((1048576 : Int) < (s.size : Int)) = false := by simp; omega
  have h48 : 48 ≤ b := by unfold Alnum at hb; omega
  have en := fun w => eq_name c0 c1 c2 c3 c4 c5 c6 w
  go_enter Try.func3, Try.ntmps3
  go_wp2_with (first
    | (go_at_call 4; refine (bytes_yes 10 v n t _ b s im false c0 c1 c2 c3 c4 c5 c6 _ hs).mono ?_; rintro e w' ⟨rfl, rfl⟩)
    | (go_at_call 5; refine (letter_yes b _ hb).mono ?_; rintro e w' ⟨rfl, rfl⟩))
  go_loop [21] (fun i => ∃ k : Nat, k ≤ s.size ∧ i = .int .i64 k ∧ Hid (Clean s b k)) (fun i => s.size - (intOf i).toNat)
  case atStart => exact ⟨0, Nat.zero_le _, rfl, fun _ _ h => absurd h (by omega)⟩
  case round =>
    obtain ⟨k, hk, rfl, hc⟩ := hrel
    by_cases hlt : k < s.size
    · by_cases he : (s[k].toNat : Int) = b
      · have he' : ((s[k].toNat : Int) == b) = true := by simpa using he
        have HE : Hid _ := he
        clear he
        go_wp2
        go_ret
        exact ⟨rfl, ((Below.refl _ _).alloc (Nat.le_refl _) _).alloc (by simp) _⟩
      · have he' : ((s[k].toNat : Int) == b) = false := by simpa using he
        have HE : Hid _ := he
        clear he
        go_wp2
        go_round
        case rel => exact ⟨k + 1, by omega, by go_num, clean_succ hc.out hlt HE.out⟩
        case measure => simp [intOf]; omega
    · have hi : Hid (Lib.indexByte s.data.toList b.toNat.toUInt8 = -1) := clean_index hb0.out hb1.out (clean_done hk hlt hc.out)
      clear hc
      go_wp2_with fail
      refine (zzafter_to 10 v n t l s im false c0 c1 c2 c3 c4 c5 c6 2 1 l' true _ (avP_start hd.out rfl) (avV_start hd.out rfl) (avO_start hd.out rfl) hL.out).mono ?_
      rintro e w' ⟨rfl, rfl⟩
      go_wp2_with fail
      refine (zzafter_to 2 1 n t l' s im true c0 c1 c2 c3 c4 c5 c6 2 1 l' true _ (avP_else rfl) (avV_else rfl) (avO_two hd'.out) hL'.out).mono ?_
      rintro e w' ⟨rfl, rfl⟩
      go_wp2_with (first
        | (go_at_call 7; refine (zzpart_to 1 b s 2 _ hb hi rfl).mono ?_; rintro e w' ⟨rfl, rfl⟩)
        | (go_at_call 8; refine (zzlist_to l b l' _ h48 (avL_list hd.out hL.out)).mono ?_; rintro e w' ⟨rfl, rfl⟩))
      go_ret
      exact ⟨rfl, by repeat (first | exact Below.refl _ _ | apply Below.drew | apply below_alloc)⟩

set_option maxHeartbeats 4000000 in
set_option maxRecDepth 100000 in
/-- In the scheme. -/
theorem law_scheme_true (v n t l b : Int) (s : ByteArray) (im : Bool) (c0 c1 c2 c3 c4 c5 c6 : Int) (w : World) (hs : s.size ≤ 1048576) (hb : Alnum b) (hb0 : Hid (0 ≤ b)) (hb1 : Hid (b ≤ 255)) (h5 : (l == 5) = false) (h6 : (l == 6) = false)
    (l' : Int) (hL : Hid (avL l = l')) (hL' : Hid (avL l' = l')) (hd : Hid (descB l = false)) (hd' : Hid (descB l' = false)) :
    Calls Try.prog 3 #[.int .u8 2, .string s, .int .u8 v, .bool im, .int .u8 n, .agg #[.int .u8 c0, .int .u8 c1, .int .u8 c2, .int .u8 c3, .int .u8 c4, .int .u8 c5, .int .u8 c6], .int .u8 t, .bool true, .int .u8 l, .int .u8 b] w fun e w' =>
      e = .returned (.bool true) ∧ Below w.heap.size w w' := by
  have hd59 : decide ((1048576 : Int) < (s.size : Int)) = false := by simp; omega
  have h48 : 48 ≤ b := by unfold Alnum at hb; omega
  have en := fun w => eq_name c0 c1 c2 c3 c4 c5 c6 w
  go_enter Try.func3, Try.ntmps3
  go_wp2_with (first
    | (go_at_call 4; refine (bytes_yes 2 v n t _ b s im true c0 c1 c2 c3 c4 c5 c6 _ hs).mono ?_; rintro e w' ⟨rfl, rfl⟩)
    | (go_at_call 5; refine (letter_yes b _ hb).mono ?_; rintro e w' ⟨rfl, rfl⟩))
  go_loop [21] (fun i => ∃ k : Nat, k ≤ s.size ∧ i = .int .i64 k ∧ Hid (Clean s b k)) (fun i => s.size - (intOf i).toNat)
  case atStart => exact ⟨0, Nat.zero_le _, rfl, fun _ _ h => absurd h (by omega)⟩
  case round =>
    obtain ⟨k, hk, rfl, hc⟩ := hrel
    by_cases hlt : k < s.size
    · by_cases he : (s[k].toNat : Int) = b
      · have he' : ((s[k].toNat : Int) == b) = true := by simpa using he
        have HE : Hid _ := he
        clear he
        go_wp2
        go_ret
        exact ⟨rfl, ((Below.refl _ _).alloc (Nat.le_refl _) _).alloc (by simp) _⟩
      · have he' : ((s[k].toNat : Int) == b) = false := by simpa using he
        have HE : Hid _ := he
        clear he
        go_wp2
        go_round
        case rel => exact ⟨k + 1, by omega, by go_num, clean_succ hc.out hlt HE.out⟩
        case measure => simp [intOf]; omega
    · have hi : Hid (Lib.indexByte s.data.toList b.toNat.toUInt8 = -1) := clean_index hb0.out hb1.out (clean_done hk hlt hc.out)
      clear hc
      go_wp2_with fail
      refine (zzafter_to 2 v n t l s im true c0 c1 c2 c3 c4 c5 c6 2 v l' true _ (avP_else rfl) (avV_else rfl) (avO_two hd.out) hL.out).mono ?_
      rintro e w' ⟨rfl, rfl⟩
      go_wp2_with fail
      refine (zzafter_to 2 v n t l' s im true c0 c1 c2 c3 c4 c5 c6 2 v l' true _ (avP_else rfl) (avV_else rfl) (avO_two hd'.out) hL'.out).mono ?_
      rintro e w' ⟨rfl, rfl⟩
      go_wp2_with (first
        | (go_at_call 7; refine (zzpart_to 2 b s 2 _ hb hi rfl).mono ?_; rintro e w' ⟨rfl, rfl⟩)
        | (go_at_call 8; refine (zzlist_to l b l' _ h48 (avL_list hd.out hL.out)).mono ?_; rintro e w' ⟨rfl, rfl⟩))
      go_ret
      exact ⟨rfl, by repeat (first | exact Below.refl _ _ | apply Below.drew | apply below_alloc)⟩

set_option maxHeartbeats 4000000 in
set_option maxRecDepth 100000 in
/-- In the scheme. -/
theorem law_scheme_false (v n t l b : Int) (s : ByteArray) (im : Bool) (c0 c1 c2 c3 c4 c5 c6 : Int) (w : World) (hs : s.size ≤ 1048576) (hb : Alnum b) (hb0 : Hid (0 ≤ b)) (hb1 : Hid (b ≤ 255)) (h5 : (l == 5) = false) (h6 : (l == 6) = false)
    (l' : Int) (hL : Hid (avL l = l')) (hL' : Hid (avL l' = l')) (hd : Hid (descB l = false)) (hd' : Hid (descB l' = false)) :
    Calls Try.prog 3 #[.int .u8 2, .string s, .int .u8 v, .bool im, .int .u8 n, .agg #[.int .u8 c0, .int .u8 c1, .int .u8 c2, .int .u8 c3, .int .u8 c4, .int .u8 c5, .int .u8 c6], .int .u8 t, .bool false, .int .u8 l, .int .u8 b] w fun e w' =>
      e = .returned (.bool true) ∧ Below w.heap.size w w' := by
  have hd59 : decide ((1048576 : Int) < (s.size : Int)) = false := by simp; omega
  have h48 : 48 ≤ b := by unfold Alnum at hb; omega
  have en := fun w => eq_name c0 c1 c2 c3 c4 c5 c6 w
  go_enter Try.func3, Try.ntmps3
  go_wp2_with (first
    | (go_at_call 4; refine (bytes_yes 2 v n t _ b s im false c0 c1 c2 c3 c4 c5 c6 _ hs).mono ?_; rintro e w' ⟨rfl, rfl⟩)
    | (go_at_call 5; refine (letter_yes b _ hb).mono ?_; rintro e w' ⟨rfl, rfl⟩))
  go_loop [21] (fun i => ∃ k : Nat, k ≤ s.size ∧ i = .int .i64 k ∧ Hid (Clean s b k)) (fun i => s.size - (intOf i).toNat)
  case atStart => exact ⟨0, Nat.zero_le _, rfl, fun _ _ h => absurd h (by omega)⟩
  case round =>
    obtain ⟨k, hk, rfl, hc⟩ := hrel
    by_cases hlt : k < s.size
    · by_cases he : (s[k].toNat : Int) = b
      · have he' : ((s[k].toNat : Int) == b) = true := by simpa using he
        have HE : Hid _ := he
        clear he
        go_wp2
        go_ret
        exact ⟨rfl, ((Below.refl _ _).alloc (Nat.le_refl _) _).alloc (by simp) _⟩
      · have he' : ((s[k].toNat : Int) == b) = false := by simpa using he
        have HE : Hid _ := he
        clear he
        go_wp2
        go_round
        case rel => exact ⟨k + 1, by omega, by go_num, clean_succ hc.out hlt HE.out⟩
        case measure => simp [intOf]; omega
    · have hi : Hid (Lib.indexByte s.data.toList b.toNat.toUInt8 = -1) := clean_index hb0.out hb1.out (clean_done hk hlt hc.out)
      clear hc
      go_wp2_with fail
      refine (zzafter_to 2 v n t l s im false c0 c1 c2 c3 c4 c5 c6 2 v l' true _ (avP_else rfl) (avV_else rfl) (avO_two hd.out) hL.out).mono ?_
      rintro e w' ⟨rfl, rfl⟩
      go_wp2_with fail
      refine (zzafter_to 2 v n t l' s im true c0 c1 c2 c3 c4 c5 c6 2 v l' true _ (avP_else rfl) (avV_else rfl) (avO_two hd'.out) hL'.out).mono ?_
      rintro e w' ⟨rfl, rfl⟩
      go_wp2_with (first
        | (go_at_call 7; refine (zzpart_to 2 b s 2 _ hb hi rfl).mono ?_; rintro e w' ⟨rfl, rfl⟩)
        | (go_at_call 8; refine (zzlist_to l b l' _ h48 (avL_list hd.out hL.out)).mono ?_; rintro e w' ⟨rfl, rfl⟩))
      go_ret
      exact ⟨rfl, by repeat (first | exact Below.refl _ _ | apply Below.drew | apply below_alloc)⟩

set_option maxHeartbeats 4000000 in
set_option maxRecDepth 100000 in
/-- Elsewhere. -/
theorem law_else_true (p v n t l b : Int) (s : ByteArray) (im : Bool) (c0 c1 c2 c3 c4 c5 c6 : Int) (w : World) (hs : s.size ≤ 1048576) (hb : Alnum b) (hb0 : Hid (0 ≤ b)) (hb1 : Hid (b ≤ 255)) (h5 : (l == 5) = false) (h6 : (l == 6) = false)
    (l' : Int) (hL : Hid (avL l = l')) (hL' : Hid (avL l' = l')) (hd : Hid (descB l = false)) (q1 : (p == 1) = false) (q10 : (p == 10) = false) (q2 : (p == 2) = false) (qs : Hid (startB p = false)) (qn : Hid (partNext p = p)) :
    Calls Try.prog 3 #[.int .u8 p, .string s, .int .u8 v, .bool im, .int .u8 n, .agg #[.int .u8 c0, .int .u8 c1, .int .u8 c2, .int .u8 c3, .int .u8 c4, .int .u8 c5, .int .u8 c6], .int .u8 t, .bool true, .int .u8 l, .int .u8 b] w fun e w' =>
      e = .returned (.bool true) ∧ Below w.heap.size w w' := by
  have hd59 : decide ((1048576 : Int) < (s.size : Int)) = false := by simp; omega
  have h48 : 48 ≤ b := by unfold Alnum at hb; omega
  have en := fun w => eq_name c0 c1 c2 c3 c4 c5 c6 w
  go_enter Try.func3, Try.ntmps3
  go_wp2_with (first
    | (go_at_call 4; refine (bytes_yes p v n t _ b s im true c0 c1 c2 c3 c4 c5 c6 _ hs).mono ?_; rintro e w' ⟨rfl, rfl⟩)
    | (go_at_call 5; refine (letter_yes b _ hb).mono ?_; rintro e w' ⟨rfl, rfl⟩))
  go_loop [21] (fun i => ∃ k : Nat, k ≤ s.size ∧ i = .int .i64 k ∧ Hid (Clean s b k)) (fun i => s.size - (intOf i).toNat)
  case atStart => exact ⟨0, Nat.zero_le _, rfl, fun _ _ h => absurd h (by omega)⟩
  case round =>
    obtain ⟨k, hk, rfl, hc⟩ := hrel
    by_cases hlt : k < s.size
    · by_cases he : (s[k].toNat : Int) = b
      · have he' : ((s[k].toNat : Int) == b) = true := by simpa using he
        have HE : Hid _ := he
        clear he
        go_wp2
        go_ret
        exact ⟨rfl, ((Below.refl _ _).alloc (Nat.le_refl _) _).alloc (by simp) _⟩
      · have he' : ((s[k].toNat : Int) == b) = false := by simpa using he
        have HE : Hid _ := he
        clear he
        go_wp2
        go_round
        case rel => exact ⟨k + 1, by omega, by go_num, clean_succ hc.out hlt HE.out⟩
        case measure => simp [intOf]; omega
    · have hi : Hid (Lib.indexByte s.data.toList b.toNat.toUInt8 = -1) := clean_index hb0.out hb1.out (clean_done hk hlt hc.out)
      clear hc
      go_wp2_with fail
      refine (zzafter_to p v n t l s im true c0 c1 c2 c3 c4 c5 c6 p v l' true _ (avP_else qs.out) (avV_else qs.out) (avO_else qs.out q2) hL.out).mono ?_
      rintro e w' ⟨rfl, rfl⟩
      go_wp2_with fail
      refine (zzafter_to p v n t l' s im true c0 c1 c2 c3 c4 c5 c6 p v l' true _ (avP_else qs.out) (avV_else qs.out) (avO_else qs.out q2) hL'.out).mono ?_
      rintro e w' ⟨rfl, rfl⟩
      go_wp2_with (first
        | (go_at_call 7; refine (zzpart_to p b s p _ hb hi qn.out).mono ?_; rintro e w' ⟨rfl, rfl⟩)
        | (go_at_call 8; refine (zzlist_to l b l' _ h48 (avL_list hd.out hL.out)).mono ?_; rintro e w' ⟨rfl, rfl⟩))
      go_ret
      exact ⟨rfl, by repeat (first | exact Below.refl _ _ | apply Below.drew | apply below_alloc)⟩

set_option maxHeartbeats 4000000 in
set_option maxRecDepth 100000 in
/-- Elsewhere. -/
theorem law_else_false (p v n t l b : Int) (s : ByteArray) (im : Bool) (c0 c1 c2 c3 c4 c5 c6 : Int) (w : World) (hs : s.size ≤ 1048576) (hb : Alnum b) (hb0 : Hid (0 ≤ b)) (hb1 : Hid (b ≤ 255)) (h5 : (l == 5) = false) (h6 : (l == 6) = false)
    (l' : Int) (hL : Hid (avL l = l')) (hL' : Hid (avL l' = l')) (hd : Hid (descB l = false)) (q1 : (p == 1) = false) (q10 : (p == 10) = false) (q2 : (p == 2) = false) (qs : Hid (startB p = false)) (qn : Hid (partNext p = p)) :
    Calls Try.prog 3 #[.int .u8 p, .string s, .int .u8 v, .bool im, .int .u8 n, .agg #[.int .u8 c0, .int .u8 c1, .int .u8 c2, .int .u8 c3, .int .u8 c4, .int .u8 c5, .int .u8 c6], .int .u8 t, .bool false, .int .u8 l, .int .u8 b] w fun e w' =>
      e = .returned (.bool true) ∧ Below w.heap.size w w' := by
  have hd59 : decide ((1048576 : Int) < (s.size : Int)) = false := by simp; omega
  have h48 : 48 ≤ b := by unfold Alnum at hb; omega
  have en := fun w => eq_name c0 c1 c2 c3 c4 c5 c6 w
  go_enter Try.func3, Try.ntmps3
  go_wp2_with (first
    | (go_at_call 4; refine (bytes_yes p v n t _ b s im false c0 c1 c2 c3 c4 c5 c6 _ hs).mono ?_; rintro e w' ⟨rfl, rfl⟩)
    | (go_at_call 5; refine (letter_yes b _ hb).mono ?_; rintro e w' ⟨rfl, rfl⟩))
  go_loop [21] (fun i => ∃ k : Nat, k ≤ s.size ∧ i = .int .i64 k ∧ Hid (Clean s b k)) (fun i => s.size - (intOf i).toNat)
  case atStart => exact ⟨0, Nat.zero_le _, rfl, fun _ _ h => absurd h (by omega)⟩
  case round =>
    obtain ⟨k, hk, rfl, hc⟩ := hrel
    by_cases hlt : k < s.size
    · by_cases he : (s[k].toNat : Int) = b
      · have he' : ((s[k].toNat : Int) == b) = true := by simpa using he
        have HE : Hid _ := he
        clear he
        go_wp2
        go_ret
        exact ⟨rfl, ((Below.refl _ _).alloc (Nat.le_refl _) _).alloc (by simp) _⟩
      · have he' : ((s[k].toNat : Int) == b) = false := by simpa using he
        have HE : Hid _ := he
        clear he
        go_wp2
        go_round
        case rel => exact ⟨k + 1, by omega, by go_num, clean_succ hc.out hlt HE.out⟩
        case measure => simp [intOf]; omega
    · have hi : Hid (Lib.indexByte s.data.toList b.toNat.toUInt8 = -1) := clean_index hb0.out hb1.out (clean_done hk hlt hc.out)
      clear hc
      go_wp2_with fail
      refine (zzafter_to p v n t l s im false c0 c1 c2 c3 c4 c5 c6 p v l' false _ (avP_else qs.out) (avV_else qs.out) (avO_else qs.out q2) hL.out).mono ?_
      rintro e w' ⟨rfl, rfl⟩
      go_wp2_with fail
      refine (zzafter_to p v n t l' s im false c0 c1 c2 c3 c4 c5 c6 p v l' false _ (avP_else qs.out) (avV_else qs.out) (avO_else qs.out q2) hL'.out).mono ?_
      rintro e w' ⟨rfl, rfl⟩
      go_wp2_with (first
        | (go_at_call 7; refine (zzpart_to p b s p _ hb hi qn.out).mono ?_; rintro e w' ⟨rfl, rfl⟩)
        | (go_at_call 8; refine (zzlist_to l b l' _ h48 (avL_list hd.out hL.out)).mono ?_; rintro e w' ⟨rfl, rfl⟩))
      go_ret
      exact ⟨rfl, by repeat (first | exact Below.refl _ _ | apply Below.drew | apply below_alloc)⟩

end Go.Proofs.Qxb6617142a

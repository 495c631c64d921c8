/-
  THE WALK of FnParseScopeAcceptsExactly: it returns true.
-/
import Derived.Test.Qxb6617045aFmtInv
namespace Go.Proofs.Qxb6617045aFmt
open Go.RowKit Go.Extern.Stop Go.Stop Go.Extern

theorem tail_bytes : (⟨#[47, 97, 119, 115, 52, 95, 114, 101, 113, 117, 101, 115, 116]⟩ : ByteArray).data.toList = 47 :: T := rfl
theorem tail_size : (⟨#[47, 97, 119, 115, 52, 95, 114, 101, 113, 117, 101, 115, 116]⟩ : ByteArray).size = 13 := rfl

/-- endsWithE1 at the tail of a scope: yes. -/
theorem tail_yes (l x : List UInt8) (w : World) (h : l = x ++ 47 :: T) (hs : l.length ≤ 1048576) :
    Calls Tryf.prog 11 #[.string (S l), .string ⟨#[47, 97, 119, 115, 52, 95, 114, 101, 113, 117, 101, 115, 116]⟩] w fun e w' => e = .returned (.bool true) ∧ ∃ n, w' = w.drewN n :=
  ends_yes (S l) ⟨#[47, 97, 119, 115, 52, 95, 114, 101, 113, 117, 101, 115, 116]⟩ x.length w (by rw [tail_size, S_size, h]; simp [T_len]) (by rw [S_size]; exact hs) (by rw [S_toList, tail_bytes, h]; exact List.drop_left)

/-- and no. -/
theorem tail_no (l : List UInt8) (w : World) (h : ¬ ∃ x, l = x ++ 47 :: T) (hs : l.length ≤ 1048576) :
    Calls Tryf.prog 11 #[.string (S l), .string ⟨#[47, 97, 119, 115, 52, 95, 114, 101, 113, 117, 101, 115, 116]⟩] w fun e w' => e = .returned (.bool false) ∧ ∃ n, w' = w.drewN n := by
  by_cases hz : l.length < 13
  · exact ends_short (S l) ⟨#[47, 97, 119, 115, 52, 95, 114, 101, 113, 117, 101, 115, 116]⟩ w (by rw [tail_size, S_size]; exact hz)
  · refine ends_no (S l) ⟨#[47, 97, 119, 115, 52, 95, 114, 101, 113, 117, 101, 115, 116]⟩ (l.length - 13) w (by rw [tail_size, S_size]; omega) (by rw [S_size]; exact hs) fun e => h ⟨l.take (l.length - 13), ?_⟩
    rw [S_toList, tail_bytes] at e
    rw [← e]
    exact (List.take_append_drop _ _).symm

set_option maxHeartbeats 1000000 in
/-- The text is too long. -/
theorem acc_long (a : ByteArray) (w : World) (hs : 1048576 < a.size) (hm : a.size ≤ maxLen) :
    Calls Tryf.prog 4 #[.string a] w fun e w' => e = .returned (.bool true) ∧ Below w.heap.size w w' := by
  go_enter Tryf.func4, Tryf.ntmps4
  go_wp2_with (go_at_call 9; refine (bytes1_no a _ hs hm).mono ?_; rintro e w' ⟨rfl, rfl⟩)
  go_ret
  exact ⟨rfl, Below.refl _ _⟩

set_option maxHeartbeats 2000000 in
/-- Not three slashes. -/
theorem acc_count (F : Interp) (l : List UInt8) (w : World) (hF : F.answers w.tape) (hs : l.length ≤ 1048576) (hc : (cnt l == 3) = false) (hr : Hid (Refused l)) :
    Calls Tryf.prog 4 #[.string (S l)] w fun e w' => e = .returned (.bool true) ∧ Below w.heap.size w w' := by
  have z : (S l).size ≤ 1048576 := hs
  have hb := cnt_le l
  go_enter Tryf.func4, Tryf.ntmps4
  go_wp2_with fail
  refine (bytes1_yes (S l) _ z).mono ?_
  rintro e w' ⟨rfl, rfl⟩
  go_wp2_with fail
  refine (count_any (S l) _ z).mono ?_
  rintro e w' ⟨rfl, rfl⟩
  rw [S_toList]
  go_wp2_with fail
  refine (parse_refused F l _ (by exact hF) (by omega) hr.out).mono ?_
  rintro e w3 ⟨a, rfl, hb3⟩
  have HB3 := hid hb3
  clear hb3
  go_wp2
  go_ret
  exact ⟨rfl, below_alloc HB3.out _⟩

set_option maxHeartbeats 2000000 in
/-- Three slashes, another tail. -/
theorem acc_tail (F : Interp) (l : List UInt8) (w : World) (hF : F.answers w.tape) (hs : l.length ≤ 1048576) (hc : (cnt l == 3) = true) (ht : Hid (¬ ∃ x, l = x ++ 47 :: T)) (hr : Hid (Refused l)) :
    Calls Tryf.prog 4 #[.string (S l)] w fun e w' => e = .returned (.bool true) ∧ Below w.heap.size w w' := by
  have z : (S l).size ≤ 1048576 := hs
  have hb := cnt_le l
  go_enter Tryf.func4, Tryf.ntmps4
  go_wp2_with fail
  refine (bytes1_yes (S l) _ z).mono ?_
  rintro e w' ⟨rfl, rfl⟩
  go_wp2_with fail
  refine (count_any (S l) _ z).mono ?_
  rintro e w' ⟨rfl, rfl⟩
  rw [S_toList]
  go_wp2_with fail
  refine (tail_no l _ ht.out hs).mono ?_
  rintro e w1 ⟨rfl, n, rfl⟩
  go_wp2_with fail
  refine (parse_refused F l _ (by exact hF) (by omega) hr.out).mono ?_
  rintro e w3 ⟨a, rfl, hb3⟩
  have HB3 := hid hb3
  clear hb3
  go_wp2
  go_ret
  exact ⟨rfl, below_alloc ((below_drewN (Below.refl _ _) n).trans HB3.out) _⟩

set_option maxHeartbeats 2000000 in
/-- A scope. -/
theorem acc_scope (d r v : List UInt8) (w : World) (hs : (text d r v).length ≤ 1048576) (hc : (cnt (text d r v) == 3) = true) (hd : Hid (47 ∉ d)) (hr : Hid (47 ∉ r)) (hv : Hid (47 ∉ v)) :
    Calls Tryf.prog 4 #[.string (S (text d r v))] w fun e w' => e = .returned (.bool true) ∧ Below w.heap.size w w' := by
  have z : (S (text d r v)).size ≤ 1048576 := hs
  have hb := cnt_le (text d r v)
  have hl := text_length d r v
  have h1 : d.length + r.length + v.length ≤ 1048576 := by omega
  clear hl
  have z1 : (S d).size ≤ 1048576 := by rw [S_size]; omega
  have z2 : (S r).size ≤ 1048576 := by rw [S_size]; omega
  have z3 : (S v).size ≤ 1048576 := by rw [S_size]; omega
  go_enter Tryf.func4, Tryf.ntmps4
  go_wp2_with fail
  refine (bytes1_yes (S (text d r v)) _ z).mono ?_
  rintro e w' ⟨rfl, rfl⟩
  go_wp2_with fail
  refine (count_any (S (text d r v)) _ z).mono ?_
  rintro e w' ⟨rfl, rfl⟩
  rw [S_toList]
  go_wp2_with fail
  refine (tail_yes (text d r v) (d ++ 47 :: (r ++ 47 :: v)) _ (by simp [text]) hs).mono ?_
  rintro e w1 ⟨rfl, n, rfl⟩
  go_wp2_with fail
  refine (parse_ok d r v _ hd.out hr.out hv.out (by omega)).mono ?_
  rintro e w3 ⟨rfl, hb3⟩
  have HB3 := hid hb3
  clear hb3
  go_wp2_with fail
  refine (has_no (S d) _ z1 hd.out).mono ?_
  rintro e w4 ⟨rfl, h4⟩
  subst h4
  go_wp2_with fail
  refine (has_no (S r) _ z2 hr.out).mono ?_
  rintro e w5 ⟨rfl, h5⟩
  subst h5
  go_wp2_with fail
  refine (has_no (S v) _ z3 hv.out).mono ?_
  rintro e w6 ⟨rfl, h6⟩
  subst h6
  go_wp2_with fail
  refine (string_any d r v _ (by omega)).mono ?_
  rintro e w7 ⟨rfl, hb7⟩
  have HB7 := hid hb7
  clear hb7
  go_wp2
  go_ret
  refine ⟨by simp, ?_⟩
  exact below_two (below_drewN (Below.refl _ _) n) HB3.out ((below_alloc (Below.refl _ _) _).trans (HB7.out.mono (by simp)))

/-- THE WALK, whatever the input. -/
theorem acc_walk (F : Interp) (a : ByteArray) (w : World) (hF : F.answers w.tape) (hm : a.size ≤ maxLen) :
    Calls Tryf.prog 4 #[.string a] w fun e w' => e = .returned (.bool true) ∧ Below w.heap.size w w' := by
  by_cases hs : a.size ≤ 1048576
  · rw [← S_of a]
    have z : a.data.toList.length ≤ 1048576 := by rw [← Lib.size_eq]; exact hs
    generalize a.data.toList = l at *
    by_cases hc : l.count 47 = 3
    · have hc' : (cnt l == 3) = true := by unfold cnt; rw [hc]; rfl
      by_cases hx : ∃ x, l = x ++ 47 :: T
      · obtain ⟨x, hx⟩ := hx
        obtain ⟨d, r, v, rfl, hd, hr, hv⟩ := accept_text hc hx
        exact acc_scope d r v w z hc' hd hr hv
      · exact acc_tail F l w hF z hc' hx (refuse_text fun h => hx h.2)
    · have hc' : (cnt l == 3) = false := beq_eq_false_iff_ne.2 (by unfold cnt; omega)
      exact acc_count F l w hF z hc' (refuse_text fun h => hc h.1)
  · exact acc_long a w (by omega) hm

end Go.Proofs.Qxb6617045aFmt

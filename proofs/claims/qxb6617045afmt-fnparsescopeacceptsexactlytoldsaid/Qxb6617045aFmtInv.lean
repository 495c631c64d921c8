/-
  THE WALK of FnParseScopeInvertsString: it returns true.
-/
import Derived.Test.Qxb6617045aFmtPlain
namespace Go.Proofs.Qxb6617045aFmt
open Go.RowKit Go.Extern.Stop Go.Stop Go.Extern

/-- Is the text one that ParseScope refuses? -/
def Refused (l : List UInt8) : Prop := 47 ∉ l ∨ (∃ d r, l = d ++ 47 :: r ∧ 47 ∉ d ∧ 47 ∉ r) ∨ (∃ d r v, l = d ++ 47 :: (r ++ 47 :: v) ∧ 47 ∉ d ∧ 47 ∉ r ∧ 47 ∉ v) ∨
    ∃ d r v t, l = d ++ 47 :: (r ++ 47 :: (v ++ 47 :: t)) ∧ 47 ∉ d ∧ 47 ∉ r ∧ 47 ∉ v ∧ t ≠ T

theorem parse_refused (F : Interp) (l : List UInt8) (w : World) (hF : F.answers w.tape) (hl : l.length ≤ 4190000) (h : Refused l) :
    Calls Tryf.prog 8 #[.string (S l)] w fun e w' =>
      ∃ a, e = .returned (.tuple #[.agg #[.string ⟨#[]⟩, .string ⟨#[]⟩, .string ⟨#[]⟩], .iface 43 (.pointer (some a))]) ∧ Below w.heap.size w w' := by
  rcases h with h | ⟨d, r, rfl, hd, hr⟩ | ⟨d, r, v, rfl, hd, hr, hv⟩ | ⟨d, r, v, t, rfl, hd, hr, hv, ht⟩
  · exact parse_none F l w hF h
  · exact parse_one F d r w hF hd hr (by simp at hl; omega)
  · exact parse_two F d r v w hF hd hr hv (by simp at hl; omega)
  · exact parse_other F d r v t w hF hd hr hv (by simp at hl; omega) ht

theorem below_two {w0 w1 w2 w3 : World} (h1 : Below w0.heap.size w0 w1) (h2 : Below w1.heap.size w1 w2) (h3 : Below w2.heap.size w2 w3) : Below w0.heap.size w0 w3 :=
  (h1.trans (h2.mono h1.size)).trans (h3.mono (Nat.le_trans h1.size h2.size))

theorem unclean_refused (d r v : List UInt8) (h : ¬ (47 ∉ d ∧ 47 ∉ r ∧ 47 ∉ v)) : Refused (text d r v) :=
  .inr (.inr (.inr (text_unclean d r v h)))

set_option maxHeartbeats 1000000 in
/-- The strings are too long together. -/
theorem inv_long (a b c : ByteArray) (w : World) (hs : 1048576 < a.size + b.size + c.size) (h1 : a.size ≤ maxLen) (h2 : b.size ≤ maxLen) (h3 : c.size ≤ maxLen) :
    Calls Tryf.prog 3 #[.string a, .string b, .string c] w fun e w' => e = .returned (.bool true) ∧ Below w.heap.size w w' := by
  go_enter Tryf.func3, Tryf.ntmps3
  go_wp2_with (go_at_call 5; refine (bytes3_no a b c _ hs h1 h2 h3).mono ?_; rintro e w' ⟨rfl, rfl⟩)
  go_ret
  exact ⟨rfl, Below.refl _ _⟩

set_option maxHeartbeats 1000000 in
/-- One of them is too long by itself. -/
theorem inv_one (a b c : ByteArray) (w : World) (hs : a.size + b.size + c.size ≤ 1048576) (h : 262144 < a.size ∨ 262144 < b.size ∨ 262144 < c.size) :
    Calls Tryf.prog 3 #[.string a, .string b, .string c] w fun e w' => e = .returned (.bool true) ∧ Below w.heap.size w w' := by
  by_cases g1 : 262144 < a.size
  · clear h
    go_enter Tryf.func3, Tryf.ntmps3
    go_wp2_with (go_at_call 5; refine (bytes3_yes a b c _ hs).mono ?_; rintro e w' ⟨rfl, rfl⟩)
    go_ret
    exact ⟨rfl, Below.refl _ _⟩
  by_cases g2 : 262144 < b.size
  · clear h
    go_enter Tryf.func3, Tryf.ntmps3
    go_wp2_with (go_at_call 5; refine (bytes3_yes a b c _ hs).mono ?_; rintro e w' ⟨rfl, rfl⟩)
    go_ret
    exact ⟨rfl, Below.refl _ _⟩
  · have g3 : 262144 < c.size := by omega
    clear h
    go_enter Tryf.func3, Tryf.ntmps3
    go_wp2_with (go_at_call 5; refine (bytes3_yes a b c _ hs).mono ?_; rintro e w' ⟨rfl, rfl⟩)
    go_ret
    exact ⟨rfl, Below.refl _ _⟩

set_option maxHeartbeats 2000000 in
/-- No part holds a slash. -/
theorem inv_clean (d r v : List UInt8) (w : World) (h1 : d.length ≤ 262144) (h2 : r.length ≤ 262144) (h3 : v.length ≤ 262144) (hs : d.length + r.length + v.length ≤ 1048576)
    (hd : Hid (47 ∉ d)) (hr : Hid (47 ∉ r)) (hv : Hid (47 ∉ v)) :
    Calls Tryf.prog 3 #[.string (S d), .string (S r), .string (S v)] w fun e w' => e = .returned (.bool true) ∧ Below w.heap.size w w' := by
  have z1 : (S d).size ≤ 262144 := h1
  have z2 : (S r).size ≤ 262144 := h2
  have z3 : (S v).size ≤ 262144 := h3
  go_enter Tryf.func3, Tryf.ntmps3
  go_wp2_with fail
  refine (bytes3_yes (S d) (S r) (S v) _ hs).mono ?_
  rintro e w' ⟨rfl, rfl⟩
  go_wp2_with fail
  refine (has_no (S d) _ (by omega) hd.out).mono ?_
  rintro e w' ⟨rfl, rfl⟩
  go_wp2_with fail
  refine (has_no (S r) _ (by omega) hr.out).mono ?_
  rintro e w' ⟨rfl, rfl⟩
  go_wp2_with fail
  refine (has_no (S v) _ (by omega) hv.out).mono ?_
  rintro e w' ⟨rfl, rfl⟩
  go_wp2_with fail
  refine (string_any d r v _ (by omega)).mono ?_
  rintro e w2 ⟨rfl, hb2⟩
  have HB2 := hid hb2
  clear hb2
  go_wp2_with fail
  refine (parse_ok d r v _ hd.out hr.out hv.out (by omega)).mono ?_
  rintro e w3 ⟨rfl, hb3⟩
  have HB3 := hid hb3
  clear hb3
  go_wp2
  go_ret
  exact ⟨rfl, below_alloc (below_two ((Below.refl _ _).alloc (Nat.le_refl _) _) HB2.out HB3.out) _⟩

set_option maxHeartbeats 2000000 in
/-- The date holds one. -/
theorem inv_date (F : Interp) (d r v : List UInt8) (w : World) (hF : F.answers w.tape) (h1 : d.length ≤ 262144) (h2 : r.length ≤ 262144) (h3 : v.length ≤ 262144) (hs : d.length + r.length + v.length ≤ 1048576)
    (hd : Hid (47 ∈ d)) (hu : Hid (Refused (text d r v))) :
    Calls Tryf.prog 3 #[.string (S d), .string (S r), .string (S v)] w fun e w' => e = .returned (.bool true) ∧ Below w.heap.size w w' := by
  have z1 : (S d).size ≤ 262144 := h1
  have z2 : (S r).size ≤ 262144 := h2
  have z3 : (S v).size ≤ 262144 := h3
  have hl : (text d r v).length ≤ 4190000 := by rw [text_length]; omega
  go_enter Tryf.func3, Tryf.ntmps3
  go_wp2_with fail
  refine (bytes3_yes (S d) (S r) (S v) _ hs).mono ?_
  rintro e w' ⟨rfl, rfl⟩
  go_wp2_with fail
  refine (has_yes (S d) _ (by omega) hd.out).mono ?_
  rintro e w' ⟨rfl, rfl⟩
  go_wp2_with fail
  refine (string_any d r v _ (by omega)).mono ?_
  rintro e w2 ⟨rfl, hb2⟩
  have HB2 := hid hb2
  clear hb2
  go_wp2_with fail
  refine (parse_refused F (text d r v) _ (by rw [HB2.out.tape]; exact hF) hl hu.out).mono ?_
  rintro e w3 ⟨a, rfl, hb3⟩
  have HB3 := hid hb3
  clear hb3
  go_wp2
  go_ret
  exact ⟨rfl, below_alloc (below_two ((Below.refl _ _).alloc (Nat.le_refl _) _) HB2.out HB3.out) _⟩

set_option maxHeartbeats 2000000 in
/-- The region holds one. -/
theorem inv_region (F : Interp) (d r v : List UInt8) (w : World) (hF : F.answers w.tape) (h1 : d.length ≤ 262144) (h2 : r.length ≤ 262144) (h3 : v.length ≤ 262144) (hs : d.length + r.length + v.length ≤ 1048576)
    (hd : Hid (47 ∉ d)) (hr : Hid (47 ∈ r)) (hu : Hid (Refused (text d r v))) :
    Calls Tryf.prog 3 #[.string (S d), .string (S r), .string (S v)] w fun e w' => e = .returned (.bool true) ∧ Below w.heap.size w w' := by
  have z1 : (S d).size ≤ 262144 := h1
  have z2 : (S r).size ≤ 262144 := h2
  have z3 : (S v).size ≤ 262144 := h3
  have hl : (text d r v).length ≤ 4190000 := by rw [text_length]; omega
  go_enter Tryf.func3, Tryf.ntmps3
  go_wp2_with fail
  refine (bytes3_yes (S d) (S r) (S v) _ hs).mono ?_
  rintro e w' ⟨rfl, rfl⟩
  go_wp2_with fail
  refine (has_no (S d) _ (by omega) hd.out).mono ?_
  rintro e w' ⟨rfl, rfl⟩
  go_wp2_with fail
  refine (has_yes (S r) _ (by omega) hr.out).mono ?_
  rintro e w' ⟨rfl, rfl⟩
  go_wp2_with fail
  refine (string_any d r v _ (by omega)).mono ?_
  rintro e w2 ⟨rfl, hb2⟩
  have HB2 := hid hb2
  clear hb2
  go_wp2_with fail
  refine (parse_refused F (text d r v) _ (by rw [HB2.out.tape]; exact hF) hl hu.out).mono ?_
  rintro e w3 ⟨a, rfl, hb3⟩
  have HB3 := hid hb3
  clear hb3
  go_wp2
  go_ret
  exact ⟨rfl, below_alloc (below_two ((Below.refl _ _).alloc (Nat.le_refl _) _) HB2.out HB3.out) _⟩

set_option maxHeartbeats 2000000 in
/-- The service holds one. -/
theorem inv_service (F : Interp) (d r v : List UInt8) (w : World) (hF : F.answers w.tape) (h1 : d.length ≤ 262144) (h2 : r.length ≤ 262144) (h3 : v.length ≤ 262144) (hs : d.length + r.length + v.length ≤ 1048576)
    (hd : Hid (47 ∉ d)) (hr : Hid (47 ∉ r)) (hv : Hid (47 ∈ v)) (hu : Hid (Refused (text d r v))) :
    Calls Tryf.prog 3 #[.string (S d), .string (S r), .string (S v)] w fun e w' => e = .returned (.bool true) ∧ Below w.heap.size w w' := by
  have z1 : (S d).size ≤ 262144 := h1
  have z2 : (S r).size ≤ 262144 := h2
  have z3 : (S v).size ≤ 262144 := h3
  have hl : (text d r v).length ≤ 4190000 := by rw [text_length]; omega
  go_enter Tryf.func3, Tryf.ntmps3
  go_wp2_with fail
  refine (bytes3_yes (S d) (S r) (S v) _ hs).mono ?_
  rintro e w' ⟨rfl, rfl⟩
  go_wp2_with fail
  refine (has_no (S d) _ (by omega) hd.out).mono ?_
  rintro e w' ⟨rfl, rfl⟩
  go_wp2_with fail
  refine (has_no (S r) _ (by omega) hr.out).mono ?_
  rintro e w' ⟨rfl, rfl⟩
  go_wp2_with fail
  refine (has_yes (S v) _ (by omega) hv.out).mono ?_
  rintro e w' ⟨rfl, rfl⟩
  go_wp2_with fail
  refine (string_any d r v _ (by omega)).mono ?_
  rintro e w2 ⟨rfl, hb2⟩
  have HB2 := hid hb2
  clear hb2
  go_wp2_with fail
  refine (parse_refused F (text d r v) _ (by rw [HB2.out.tape]; exact hF) hl hu.out).mono ?_
  rintro e w3 ⟨a, rfl, hb3⟩
  have HB3 := hid hb3
  clear hb3
  go_wp2
  go_ret
  exact ⟨rfl, below_alloc (below_two ((Below.refl _ _).alloc (Nat.le_refl _) _) HB2.out HB3.out) _⟩

/-- THE WALK, whatever the input. -/
theorem inv_walk (F : Interp) (a b c : ByteArray) (w : World) (hF : F.answers w.tape) (h1 : a.size ≤ maxLen) (h2 : b.size ≤ maxLen) (h3 : c.size ≤ maxLen) :
    Calls Tryf.prog 3 #[.string a, .string b, .string c] w fun e w' => e = .returned (.bool true) ∧ Below w.heap.size w w' := by
  by_cases hs : a.size + b.size + c.size ≤ 1048576
  · by_cases hg : 262144 < a.size ∨ 262144 < b.size ∨ 262144 < c.size
    · exact inv_one a b c w hs hg
    · rw [← S_of a, ← S_of b, ← S_of c]
      have z1 : a.data.toList.length ≤ 262144 := by rw [← Lib.size_eq]; omega
      have z2 : b.data.toList.length ≤ 262144 := by rw [← Lib.size_eq]; omega
      have z3 : c.data.toList.length ≤ 262144 := by rw [← Lib.size_eq]; omega
      have zs : a.data.toList.length + b.data.toList.length + c.data.toList.length ≤ 1048576 := by rw [← Lib.size_eq, ← Lib.size_eq, ← Lib.size_eq]; omega
      by_cases ha : 47 ∈ a.data.toList
      · exact inv_date F _ _ _ w hF z1 z2 z3 zs ha (unclean_refused _ _ _ fun h => h.1 ha)
      by_cases hb : 47 ∈ b.data.toList
      · exact inv_region F _ _ _ w hF z1 z2 z3 zs ha hb (unclean_refused _ _ _ fun h => h.2.1 hb)
      by_cases hc : 47 ∈ c.data.toList
      · exact inv_service F _ _ _ w hF z1 z2 z3 zs ha hb hc (unclean_refused _ _ _ fun h => h.2.2 hc)
      · exact inv_clean _ _ _ w z1 z2 z3 zs ha hb hc
  · exact inv_long a b c w (by omega) h1 h2 h3

end Go.Proofs.Qxb6617045aFmt

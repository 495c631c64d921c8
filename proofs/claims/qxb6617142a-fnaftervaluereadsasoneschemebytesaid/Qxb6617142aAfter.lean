/-
  afterValue, over the block that ZZAfterValue has just made.
-/
import Derived.Test.Qxb6617142aParts
namespace Go.Proofs.Qxb6617142a
open Go.RowKit

/-- The block of a urlContext. -/
abbrev uc (p : Int) (s : ByteArray) (v : Int) (im : Bool) (n c0 c1 c2 c3 c4 c5 c6 t : Int) (o : Bool) (l : Int) : Obj :=
  .cells #[.int .u8 p, .string s, .int .u8 v, .bool im, .int .u8 n, .int .u8 c0, .int .u8 c1, .int .u8 c2, .int .u8 c3, .int .u8 c4, .int .u8 c5, .int .u8 c6, .int .u8 t, .bool o, .int .u8 l] 36

set_option maxHeartbeats 1000000 in
/-- In the descriptors. -/
theorem after_desc (p v n t l : Int) (s : ByteArray) (im o : Bool) (c0 c1 c2 c3 c4 c5 c6 : Int) (H : Nat) (w : World) (hH : w.heap.size = H) (hl : l = 5 ∨ l = 6) :
    Calls Try.prog 9 #[.pointer (some ⟨H, 0, none⟩)] (w.alloc (uc p s v im n c0 c1 c2 c3 c4 c5 c6 t o l)) fun e w' =>
      e = .returned (.tuple #[]) ∧ w' = w.alloc (uc p s v im n c0 c1 c2 c3 c4 c5 c6 t o l) := by
  subst hH
  rcases hl with rfl | rfl
  all_goals
    go_enter Try.func9, Try.ntmps9
    go_wp2
    exact bodyPost_ret (results_none rfl _ _ _) rfl ⟨rfl, rfl⟩

set_option maxHeartbeats 1000000 in
/-- At the start of the URL. -/
theorem after_start (p v n t l : Int) (s : ByteArray) (im o : Bool) (c0 c1 c2 c3 c4 c5 c6 : Int) (H : Nat) (w : World) (hH : w.heap.size = H) (h5 : (l == 5) = false) (h6 : (l == 6) = false) (hp : p = 1 ∨ p = 10) :
    Calls Try.prog 9 #[.pointer (some ⟨H, 0, none⟩)] (w.alloc (uc p s v im n c0 c1 c2 c3 c4 c5 c6 t o l)) fun e w' =>
      e = .returned (.tuple #[]) ∧ w' = w.alloc (uc 2 s 1 im n c0 c1 c2 c3 c4 c5 c6 t true (listNext l)) := by
  subst hH
  rcases hp with rfl | rfl
  all_goals
    go_enter Try.func9, Try.ntmps9
    go_wp2_with (go_at_call 11; refine (list_any l 95 _ (by decide)).mono ?_; rintro e w' ⟨rfl, rfl⟩)
    go_end0
    exact ⟨rfl, rfl⟩

set_option maxHeartbeats 1000000 in
/-- In the scheme. -/
theorem after_scheme (v n t l : Int) (s : ByteArray) (im o : Bool) (c0 c1 c2 c3 c4 c5 c6 : Int) (H : Nat) (w : World) (hH : w.heap.size = H) (h5 : (l == 5) = false) (h6 : (l == 6) = false) :
    Calls Try.prog 9 #[.pointer (some ⟨H, 0, none⟩)] (w.alloc (uc 2 s v im n c0 c1 c2 c3 c4 c5 c6 t o l)) fun e w' =>
      e = .returned (.tuple #[]) ∧ w' = w.alloc (uc 2 s v im n c0 c1 c2 c3 c4 c5 c6 t true (listNext l)) := by
  subst hH
  go_enter Try.func9, Try.ntmps9
  go_wp2_with (go_at_call 11; refine (list_any l 95 _ (by decide)).mono ?_; rintro e w' ⟨rfl, rfl⟩)
  go_end0
  exact ⟨rfl, rfl⟩

set_option maxHeartbeats 1000000 in
/-- Elsewhere. -/
theorem after_else (p v n t l : Int) (s : ByteArray) (im o : Bool) (c0 c1 c2 c3 c4 c5 c6 : Int) (H : Nat) (w : World) (hH : w.heap.size = H) (h5 : (l == 5) = false) (h6 : (l == 6) = false)
    (h1 : (p == 1) = false) (h2 : (p == 10) = false) (h3 : (p == 2) = false) :
    Calls Try.prog 9 #[.pointer (some ⟨H, 0, none⟩)] (w.alloc (uc p s v im n c0 c1 c2 c3 c4 c5 c6 t o l)) fun e w' =>
      e = .returned (.tuple #[]) ∧ w' = w.alloc (uc p s v im n c0 c1 c2 c3 c4 c5 c6 t o (listNext l)) := by
  subst hH
  go_enter Try.func9, Try.ntmps9
  go_wp2_with (go_at_call 11; refine (list_any l 95 _ (by decide)).mono ?_; rintro e w' ⟨rfl, rfl⟩)
  go_end0
  exact ⟨rfl, rfl⟩

/-! ### What one value leaves, as plain functions -/
def descB (l : Int) : Bool := l == 5 || l == 6
def startB (p : Int) : Bool := p == 1 || p == 10
/-- the part -/
def avP (p l : Int) : Int := if descB l = true then p else if startB p = true then 2 else p
/-- the verdict -/
def avV (p v l : Int) : Int := if descB l = true then v else if startB p = true then 1 else v
/-- is the value's scheme open? -/
def avO (p : Int) (o : Bool) (l : Int) : Bool := if descB l = true then o else if (startB p || p == 2) = true then true else o
/-- the list's part -/
def avL (l : Int) : Int := if descB l = true then l else listNext l

/-- afterValue, in one statement. -/
theorem after_any (p v n t l : Int) (s : ByteArray) (im o : Bool) (c0 c1 c2 c3 c4 c5 c6 : Int) (H : Nat) (w : World) (hH : w.heap.size = H) :
    Calls Try.prog 9 #[.pointer (some ⟨H, 0, none⟩)] (w.alloc (uc p s v im n c0 c1 c2 c3 c4 c5 c6 t o l)) fun e w' =>
      e = .returned (.tuple #[]) ∧ w' = w.alloc (uc (avP p l) s (avV p v l) im n c0 c1 c2 c3 c4 c5 c6 t (avO p o l) (avL l)) := by
  by_cases hl : l = 5 ∨ l = 6
  · have hd : descB l = true := by simpa [descB] using hl
    simp only [avP, avV, avO, avL, hd, if_true]
    exact after_desc p v n t l s im o c0 c1 c2 c3 c4 c5 c6 H w hH hl
  · have h5 : (l == 5) = false := beq_eq_false_iff_ne.2 (by omega)
    have h6 : (l == 6) = false := beq_eq_false_iff_ne.2 (by omega)
    have hd : descB l = false := by simp [descB, h5, h6]
    by_cases hp : p = 1 ∨ p = 10
    · have hs : startB p = true := by simpa [startB] using hp
      simp only [avP, avV, avO, avL, hd, hs, Bool.true_or, if_true, Bool.false_eq_true, if_false]
      exact after_start p v n t l s im o c0 c1 c2 c3 c4 c5 c6 H w hH h5 h6 hp
    · have h1 : (p == 1) = false := beq_eq_false_iff_ne.2 (by omega)
      have h2 : (p == 10) = false := beq_eq_false_iff_ne.2 (by omega)
      have hs : startB p = false := by simp [startB, h1, h2]
      by_cases h3 : p = 2
      · subst h3
        simp only [avP, avV, avO, avL, hd, hs, Bool.false_or, beq_self_eq_true, if_true, Bool.false_eq_true, if_false]
        exact after_scheme v n t l s im o c0 c1 c2 c3 c4 c5 c6 H w hH h5 h6
      · have h3 : (p == 2) = false := beq_eq_false_iff_ne.2 h3
        simp only [avP, avV, avO, avL, hd, hs, h3, Bool.false_or, Bool.false_eq_true, if_false]
        exact after_else p v n t l s im o c0 c1 c2 c3 c4 c5 c6 H w hH h5 h6 h1 h2 h3

end Go.Proofs.Qxb6617142a

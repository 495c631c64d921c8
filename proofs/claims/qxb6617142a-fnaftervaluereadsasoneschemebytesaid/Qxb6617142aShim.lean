/-
  ZZAfterValue.
-/
import Derived.Test.Qxb6617142aAfter
namespace Go.Proofs.Qxb6617142a
open Go.RowKit

set_option maxHeartbeats 4000000 in
theorem zzafter_any (p v n t l : Int) (s : ByteArray) (im o : Bool) (c0 c1 c2 c3 c4 c5 c6 : Int) (w : World) :
    Calls Try.prog 6 #[.int .u8 p, .string s, .int .u8 v, .bool im, .int .u8 n, .agg #[.int .u8 c0, .int .u8 c1, .int .u8 c2, .int .u8 c3, .int .u8 c4, .int .u8 c5, .int .u8 c6], .int .u8 t, .bool o, .int .u8 l] w fun e w' =>
      e = .returned (.tuple #[.int .u8 (avP p l), .string s, .int .u8 (avV p v l), .bool im, .int .u8 n, .agg #[.int .u8 c0, .int .u8 c1, .int .u8 c2, .int .u8 c3, .int .u8 c4, .int .u8 c5, .int .u8 c6], .int .u8 t, .bool (avO p o l), .int .u8 (avL l)]) ∧
        w' = (((w.alloc (.cells #[.int .u8 c0, .int .u8 c1, .int .u8 c2, .int .u8 c3, .int .u8 c4, .int .u8 c5, .int .u8 c6] 22)).alloc (.cells #[.int .u8 c0, .int .u8 c1, .int .u8 c2, .int .u8 c3, .int .u8 c4, .int .u8 c5, .int .u8 c6] 22)).alloc (uc (avP p l) s (avV p v l) im n c0 c1 c2 c3 c4 c5 c6 t (avO p o l) (avL l))).drew := by
  go_enter Try.func6, Try.ntmps6
  go_wp2_with (go_at_call 9; refine (after_any p v n t l s im o c0 c1 c2 c3 c4 c5 c6 _ _ (by simp)).mono ?_; rintro e w' ⟨rfl, rfl⟩)
  generalize hP : avP p l = p', hV : avV p v l = v', hO : avO p o l = o', hL : avL l = l'
  have HP : Hid _ := hP
  have HV : Hid _ := hV
  have HO : Hid _ := hO
  have HL : Hid _ := hL
  clear hP hV hO hL
  go_region_held3 (fun w' => w'.cell? ⟨w.heap.size + 1 + 1, 0, none⟩ = some (.int .u8 p') ∧ w'.cell? ⟨w.heap.size + 1 + 1, 1, none⟩ = some (.string s) ∧ w'.cell? ⟨w.heap.size + 1 + 1, 2, none⟩ = some (.int .u8 v') ∧
      w'.cell? ⟨w.heap.size + 1 + 1, 3, none⟩ = some (.bool im) ∧ w'.cell? ⟨w.heap.size + 1 + 1, 4, none⟩ = some (.int .u8 n) ∧ w'.cell? ⟨w.heap.size + 1 + 1, 5, none⟩ = some (.int .u8 c0) ∧ w'.cell? ⟨w.heap.size + 1 + 1, 6, none⟩ = some (.int .u8 c1) ∧
      w'.cell? ⟨w.heap.size + 1 + 1, 7, none⟩ = some (.int .u8 c2) ∧ w'.cell? ⟨w.heap.size + 1 + 1, 8, none⟩ = some (.int .u8 c3) ∧ w'.cell? ⟨w.heap.size + 1 + 1, 9, none⟩ = some (.int .u8 c4) ∧ w'.cell? ⟨w.heap.size + 1 + 1, 10, none⟩ = some (.int .u8 c5) ∧
      w'.cell? ⟨w.heap.size + 1 + 1, 11, none⟩ = some (.int .u8 c6) ∧ w'.cell? ⟨w.heap.size + 1 + 1, 12, none⟩ = some (.int .u8 t) ∧ w'.cell? ⟨w.heap.size + 1 + 1, 13, none⟩ = some (.bool o') ∧ w'.cell? ⟨w.heap.size + 1 + 1, 14, none⟩ = some (.int .u8 l')) (simp [go_sem]) (fail)
  rename_i hHeld
  clear hHeld
  go_wp2
  refine bodyPost_ret (v := .tuple #[.int .u8 p', .string s, .int .u8 v', .bool im, .int .u8 n, .agg #[.int .u8 c0, .int .u8 c1, .int .u8 c2, .int .u8 c3, .int .u8 c4, .int .u8 c5, .int .u8 c6], .int .u8 t, .bool o', .int .u8 l']) (by simp [results, Try.results6, go_sem]) rfl ⟨by rw [HP.out, HV.out, HO.out, HL.out], ?_⟩
  rw [HP.out, HV.out, HO.out, HL.out]

/-- The same, with what it leaves under names. -/
theorem zzafter_to (p v n t l : Int) (s : ByteArray) (im o : Bool) (c0 c1 c2 c3 c4 c5 c6 : Int) (p' v' l' : Int) (o' : Bool) (w : World)
    (hP : avP p l = p') (hV : avV p v l = v') (hO : avO p o l = o') (hL : avL l = l') :
    Calls Try.prog 6 #[.int .u8 p, .string s, .int .u8 v, .bool im, .int .u8 n, .agg #[.int .u8 c0, .int .u8 c1, .int .u8 c2, .int .u8 c3, .int .u8 c4, .int .u8 c5, .int .u8 c6], .int .u8 t, .bool o, .int .u8 l] w fun e w' =>
      e = .returned (.tuple #[.int .u8 p', .string s, .int .u8 v', .bool im, .int .u8 n, .agg #[.int .u8 c0, .int .u8 c1, .int .u8 c2, .int .u8 c3, .int .u8 c4, .int .u8 c5, .int .u8 c6], .int .u8 t, .bool o', .int .u8 l']) ∧
        w' = (((w.alloc (.cells #[.int .u8 c0, .int .u8 c1, .int .u8 c2, .int .u8 c3, .int .u8 c4, .int .u8 c5, .int .u8 c6] 22)).alloc (.cells #[.int .u8 c0, .int .u8 c1, .int .u8 c2, .int .u8 c3, .int .u8 c4, .int .u8 c5, .int .u8 c6] 22)).alloc (uc p' s v' im n c0 c1 c2 c3 c4 c5 c6 t o' l')).drew := by
  subst hP hV hO hL
  exact zzafter_any p v n t l s im o c0 c1 c2 c3 c4 c5 c6 w

set_option maxHeartbeats 1000000 in
/-- The bound on the lengths holds. -/
theorem bytes_yes (p v n t l b : Int) (s : ByteArray) (im o : Bool) (c0 c1 c2 c3 c4 c5 c6 : Int) (w : World) (hs : s.size ≤ 1048576) :
    Calls Try.prog 4 #[.int .u8 p, .string s, .int .u8 v, .bool im, .int .u8 n, .agg #[.int .u8 c0, .int .u8 c1, .int .u8 c2, .int .u8 c3, .int .u8 c4, .int .u8 c5, .int .u8 c6], .int .u8 t, .bool o, .int .u8 l, .int .u8 b] w fun e w' =>
      e = .returned (.bool true) ∧ w' = w.alloc (.cells #[.int .u8 c0, .int .u8 c1, .int .u8 c2, .int .u8 c3, .int .u8 c4, .int .u8 c5, .int .u8 c6] 22) := by
  go_enter Try.func4, Try.ntmps4
  go_wp2
  all_goals
    go_ret
    exact ⟨rfl, rfl⟩

set_option maxHeartbeats 1000000 in
/-- It does not. -/
theorem bytes_no (p v n t l b : Int) (s : ByteArray) (im o : Bool) (c0 c1 c2 c3 c4 c5 c6 : Int) (w : World) (hs : 1048576 < s.size) (hm : s.size ≤ maxLen) :
    Calls Try.prog 4 #[.int .u8 p, .string s, .int .u8 v, .bool im, .int .u8 n, .agg #[.int .u8 c0, .int .u8 c1, .int .u8 c2, .int .u8 c3, .int .u8 c4, .int .u8 c5, .int .u8 c6], .int .u8 t, .bool o, .int .u8 l, .int .u8 b] w fun e w' =>
      e = .returned (.bool false) ∧ w' = w.alloc (.cells #[.int .u8 c0, .int .u8 c1, .int .u8 c2, .int .u8 c3, .int .u8 c4, .int .u8 c5, .int .u8 c6] 22) := by
  unfold maxLen at hm
  go_enter Try.func4, Try.ntmps4
  go_wp2
  all_goals
    go_ret
    exact ⟨rfl, rfl⟩
end Go.Proofs.Qxb6617142a

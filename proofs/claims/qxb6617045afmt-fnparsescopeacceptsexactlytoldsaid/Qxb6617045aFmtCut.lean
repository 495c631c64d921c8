/-
  strings.Cut at a slash; endsWithE1; the bounds on the lengths.
-/
import Derived.Test.Qxb6617045aFmtSmall
namespace Go.Proofs.Qxb6617045aFmt
open Go.RowKit

set_option maxHeartbeats 1000000 in
theorem liteCut_core (s : ByteArray) (i : Nat) (w : World) (hi : Hid (Lib.indexByte s.data.toList 47 = (i : Int))) (hlt : (i : Int) < (s.size : Int)) (hs : (s.size : Int) ≤ 4194304) :
    Calls Tryf.prog 15 #[.string s, .string ⟨#[47]⟩] w fun e w' => e = .returned (.tuple #[.string (s.extract 0 i), .string (s.extract (i + 1) s.size), .bool true]) ∧ ∃ n, w' = w.drewN n := by
  have h0 : (0 : Int) ≤ (i : Int) := by omega
  have h1 : ((i : Int) + 1).toNat = i + 1 := by omega
  go_enter Tryf.func15, Tryf.ntmps15
  go_wp2_with (go_at_call 18; refine (lite_Index s _).mono ?_; rintro e w' ⟨rfl, rfl⟩; rw [hi.out])
  go_quiet (fail)
  go_wp2
  go_ret3
  exact ⟨rfl, _, rfl⟩

set_option maxHeartbeats 1000000 in
theorem liteCut_none (s : ByteArray) (w : World) (hi : Hid (Lib.indexByte s.data.toList 47 = -1)) :
    Calls Tryf.prog 15 #[.string s, .string ⟨#[47]⟩] w fun e w' => e = .returned (.tuple #[.string s, .string ⟨#[]⟩, .bool false]) ∧ ∃ n, w' = w.drewN n := by
  go_enter Tryf.func15, Tryf.ntmps15
  go_wp2_with (go_at_call 18; refine (lite_Index s _).mono ?_; rintro e w' ⟨rfl, rfl⟩; rw [hi.out])
  go_ret3
  exact ⟨rfl, 0, rfl⟩

theorem index_head (a b : List UInt8) (h : 47 ∉ a) : Lib.indexByte (a ++ 47 :: b) 47 = (a.length : Int) := by
  induction a with
  | nil => simp [Lib.indexByte]
  | cons x a ih =>
    have hx : (x == 47) = false := beq_eq_false_iff_ne.2 fun e => h (by rw [e]; exact List.mem_cons_self ..)
    have ha : 47 ∉ a := fun hm => h (List.mem_cons_of_mem _ hm)
    have h1 : ((a.length : Int) == -1) = false := beq_eq_false_iff_ne.2 (by omega)
    rw [List.cons_append]
    unfold Lib.indexByte
    simp only [hx, ih ha, h1, Bool.false_eq_true, if_false, List.length_cons]
    omega
theorem index_none (l : List UInt8) (h : 47 ∉ l) : Lib.indexByte l 47 = -1 := by
  induction l with
  | nil => rfl
  | cons x l ih =>
    have hx : (x == 47) = false := beq_eq_false_iff_ne.2 fun e => h (by rw [e]; exact List.mem_cons_self ..)
    have ha : 47 ∉ l := fun hm => h (List.mem_cons_of_mem _ hm)
    unfold Lib.indexByte
    simp [hx, ih ha]
theorem S_head (a b : List UInt8) : (S (a ++ 47 :: b)).extract 0 a.length = S a := by
  rw [← S_of ((S (a ++ 47 :: b)).extract 0 a.length), Lib.extract_data, S_toList]
  simp
theorem S_tail (a b : List UInt8) : (S (a ++ 47 :: b)).extract (a.length + 1) (S (a ++ 47 :: b)).size = S b := by
  rw [← S_of ((S (a ++ 47 :: b)).extract (a.length + 1) (S (a ++ 47 :: b)).size), Lib.extract_to_end, S_toList]
  simp

/-- internal/stringslite.Cut at a slash that is there. -/
theorem liteCut_yes (a b : List UInt8) (w : World) (h : 47 ∉ a) (hs : a.length + b.length ≤ 4194303) :
    Calls Tryf.prog 15 #[.string (S (a ++ 47 :: b)), .string ⟨#[47]⟩] w fun e w' => e = .returned (.tuple #[.string (S a), .string (S b), .bool true]) ∧ ∃ n, w' = w.drewN n := by
  have hz : (S (a ++ 47 :: b)).size = a.length + b.length + 1 := by rw [S_size]; simp; omega
  have := liteCut_core (S (a ++ 47 :: b)) a.length w (by rw [S_toList]; exact index_head a b h) (by omega) (by omega)
  rwa [S_head, S_tail] at this
/-- and at one that is not. -/
theorem liteCut_no (l : List UInt8) (w : World) (h : 47 ∉ l) :
    Calls Tryf.prog 15 #[.string (S l), .string ⟨#[47]⟩] w fun e w' => e = .returned (.tuple #[.string (S l), .string ⟨#[]⟩, .bool false]) ∧ ∃ n, w' = w.drewN n :=
  liteCut_none (S l) w (by rw [S_toList]; exact index_none l h)

set_option maxHeartbeats 1000000 in
/-- strings.Cut at a slash that is there. -/
theorem cut_yes (a b : List UInt8) (w : World) (h : 47 ∉ a) (hs : a.length + b.length ≤ 4194303) :
    Calls Tryf.prog 13 #[.string (S (a ++ 47 :: b)), .string ⟨#[47]⟩] w fun e w' => e = .returned (.tuple #[.string (S a), .string (S b), .bool true]) ∧ ∃ n, w' = w.drewN n := by
  go_enter Tryf.func13, Tryf.ntmps13
  go_wp2_with (go_at_call 15; refine (liteCut_yes a b _ h hs).mono ?_; rintro e w' ⟨rfl, n, rfl⟩)
  go_ret3
  exact ⟨rfl, _, rfl⟩

set_option maxHeartbeats 1000000 in
/-- and at one that is not. -/
theorem cut_no (l : List UInt8) (w : World) (h : 47 ∉ l) :
    Calls Tryf.prog 13 #[.string (S l), .string ⟨#[47]⟩] w fun e w' => e = .returned (.tuple #[.string (S l), .string ⟨#[]⟩, .bool false]) ∧ ∃ n, w' = w.drewN n := by
  go_enter Tryf.func13, Tryf.ntmps13
  go_wp2_with (go_at_call 15; refine (liteCut_no l _ h).mono ?_; rintro e w' ⟨rfl, n, rfl⟩)
  go_ret3
  exact ⟨rfl, _, rfl⟩

/-! ### endsWithE1 -/
/-- t's bytes before place k are s's from off on. -/
def Same (s t : ByteArray) (off k : Nat) : Prop := ∀ j (h1 : off + j < s.size) (h2 : j < t.size), j < k → (s[off + j].toNat : Int) = (t[j].toNat : Int)
theorem same_succ {s t : ByteArray} {off k : Nat} (h : Same s t off k) (h1 : off + k < s.size) (h2 : k < t.size) (he : (s[off + k].toNat : Int) = (t[k].toNat : Int)) : Same s t off (k + 1) := by
  intro j h1' h2' hlt
  by_cases e : j = k
  · subst e; exact he
  · exact h j h1' h2' (by omega)
theorem same_end {s t : ByteArray} {off : Nat} (ho : off + t.size = s.size) (h : Same s t off t.size) : s.data.toList.drop off = t.data.toList := by
  apply List.ext_getElem
  · rw [List.length_drop, ← Lib.size_eq, ← Lib.size_eq]; omega
  · intro j h1 h2
    have h2' : j < t.size := by rw [Lib.size_eq]; exact h2
    have := h j (by omega) h2' h2'
    rw [getElem_list, getElem_list] at this
    rw [List.getElem_drop]
    exact UInt8.toNat_inj.1 (by omega)
theorem same_of {s t : ByteArray} {off : Nat} (h : s.data.toList.drop off = t.data.toList) (k : Nat) (h1 : off + k < s.size) (h2 : k < t.size) : (s[off + k].toNat : Int) = (t[k].toNat : Int) := by
  rw [getElem_list, getElem_list]
  have e : (s.data.toList.drop off)[k]? = t.data.toList[k]? := by rw [h]
  rw [List.getElem?_drop] at e
  rw [Lib.size_eq] at h1 h2
  rw [List.getElem?_eq_getElem h1, List.getElem?_eq_getElem h2] at e
  injection e with e
  rw [e]

set_option maxHeartbeats 1000000 in
/-- endsWithE1: t is longer. -/
theorem ends_short (s t : ByteArray) (w : World) (h : s.size < t.size) :
    Calls Tryf.prog 11 #[.string s, .string t] w fun e w' => e = .returned (.bool false) ∧ ∃ n, w' = w.drewN n := by
  go_enter Tryf.func11, Tryf.ntmps11
  go_wp2
  go_ret
  exact ⟨rfl, 0, rfl⟩

set_option maxHeartbeats 1000000 in
/-- endsWithE1: yes. -/
theorem ends_yes (s t : ByteArray) (off : Nat) (w : World) (ho : off + t.size = s.size) (hs : s.size ≤ 1048576) (h : Hid (s.data.toList.drop off = t.data.toList)) :
    Calls Tryf.prog 11 #[.string s, .string t] w fun e w' => e = .returned (.bool true) ∧ ∃ n, w' = w.drewN n := by
  have h1 : (t.size : Int) ≤ (s.size : Int) := by omega
  have h2 : (s.size : Int) - (t.size : Int) = (off : Int) := by omega
  have hd : decide ((s.size : Int) < (t.size : Int)) = false := by simp; omega
  have HO : Hid _ := ho
  clear ho
  have h5 : (off : Int) ≤ 1048576 := by have := HO.out; omega
  go_enter Tryf.func11, Tryf.ntmps11
  go_wp2
  go_loopw [6] (fun i wr => ∃ k : Nat, k ≤ t.size ∧ i = .int .i64 k ∧ ∃ n, wr = w.drewN n) (fun i _ => t.size - (intOf i).toNat)
  case atStart => exact ⟨0, Nat.zero_le _, rfl, 0, rfl⟩
  case round =>
    obtain ⟨k, hk, rfl, n, rfl⟩ := hrel
    by_cases hlt : k < t.size
    · have he := same_of h.out k (by have := HO.out; omega) hlt
      have he' : (((s[off + k]'(by have := HO.out; omega)).toNat : Int) != (t[k].toNat : Int)) = false := by rw [he]; simp
      have b1 : (0 : Int) ≤ (off : Int) + (k : Int) := by omega
      have b2 : (off : Int) + (k : Int) < (s.size : Int) := by have := HO.out; omega
      have b3 : (k : Int) < (t.size : Int) := by omega
      have b4 : ((off : Int) + (k : Int)).toNat = off + k := by omega
      clear he
      go_wp2
      go_quiet (fail)
      go_wp2
      exact ⟨⟨k + 1, by omega, by go_num, _, rfl⟩, by simp [intOf]; omega⟩
    · go_wp2
      go_ret
      exact ⟨rfl, _, rfl⟩

set_option maxHeartbeats 1000000 in
/-- endsWithE1: no. -/
theorem ends_no (s t : ByteArray) (off : Nat) (w : World) (ho : off + t.size = s.size) (hs : s.size ≤ 1048576) (h : Hid (s.data.toList.drop off ≠ t.data.toList)) :
    Calls Tryf.prog 11 #[.string s, .string t] w fun e w' => e = .returned (.bool false) ∧ ∃ n, w' = w.drewN n := by
  have h1 : (t.size : Int) ≤ (s.size : Int) := by omega
  have h2 : (s.size : Int) - (t.size : Int) = (off : Int) := by omega
  have HO : Hid _ := ho
  clear ho
  have h5 : (off : Int) ≤ 1048576 := by have := HO.out; omega
  go_enter Tryf.func11, Tryf.ntmps11
  go_wp2
  go_loopw [6] (fun i wr => ∃ k : Nat, k ≤ t.size ∧ i = .int .i64 k ∧ Hid (Same s t off k) ∧ ∃ n, wr = w.drewN n) (fun i _ => t.size - (intOf i).toNat)
  case atStart => exact ⟨0, Nat.zero_le _, rfl, fun _ _ _ h => absurd h (by omega), 0, rfl⟩
  case round =>
    obtain ⟨k, hk, rfl, hc, n, rfl⟩ := hrel
    by_cases hlt : k < t.size
    · have b0 : off + k < s.size := by have := HO.out; omega
      have b1 : (0 : Int) ≤ (off : Int) + (k : Int) := by omega
      have b2 : (off : Int) + (k : Int) < (s.size : Int) := by omega
      have b3 : (k : Int) < (t.size : Int) := by omega
      have b4 : ((off : Int) + (k : Int)).toNat = off + k := by omega
      by_cases he : (s[off + k].toNat : Int) = (t[k].toNat : Int)
      · have he' : ((s[off + k].toNat : Int) != (t[k].toNat : Int)) = false := by rw [he]; simp
        have HE : Hid _ := same_succ hc.out b0 hlt he
        clear he
        go_wp2
        go_quiet (fail)
        go_wp2
        exact ⟨⟨k + 1, by omega, by go_num, HE, _, rfl⟩, by simp [intOf]; omega⟩
      · have he' : ((s[off + k].toNat : Int) != (t[k].toNat : Int)) = true := bne_iff_ne.2 he
        clear he
        go_wp2
        go_quiet (fail)
        go_wp2
        go_ret
        exact ⟨rfl, _, World.drewN_drewN _ _ _⟩
    · exfalso
      have e : k = t.size := by omega
      have hc' := hc.out
      rw [e] at hc'
      exact h.out (same_end HO.out hc')

/-! ### The bounds on the lengths -/
set_option maxHeartbeats 1000000 in
theorem bytes1_yes (s : ByteArray) (w : World) (hs : s.size ≤ 1048576) :
    Calls Tryf.prog 9 #[.string s] w fun e w' => e = .returned (.bool true) ∧ w' = w := by
  go_enter Tryf.func9, Tryf.ntmps9
  go_wp2
  all_goals
    go_ret
    exact ⟨rfl, rfl⟩
set_option maxHeartbeats 1000000 in
theorem bytes1_no (s : ByteArray) (w : World) (hs : 1048576 < s.size) (hm : s.size ≤ maxLen) :
    Calls Tryf.prog 9 #[.string s] w fun e w' => e = .returned (.bool false) ∧ w' = w := by
  unfold maxLen at hm
  go_enter Tryf.func9, Tryf.ntmps9
  go_wp2
  all_goals
    go_ret
    exact ⟨rfl, rfl⟩
set_option maxHeartbeats 1000000 in
/-- Of three strings: whatever it answers, and yes only within the bound. -/
theorem bytes3_yes (a b c : ByteArray) (w : World) (hs : a.size + b.size + c.size ≤ 1048576) :
    Calls Tryf.prog 5 #[.string a, .string b, .string c] w fun e w' => e = .returned (.bool true) ∧ w' = w := by
  go_enter Tryf.func5, Tryf.ntmps5
  go_wp2
  all_goals
    go_ret
    exact ⟨rfl, rfl⟩
set_option maxHeartbeats 1000000 in
theorem bytes3_no (a b c : ByteArray) (w : World) (hs : 1048576 < a.size + b.size + c.size) (h1 : a.size ≤ maxLen) (h2 : b.size ≤ maxLen) (h3 : c.size ≤ maxLen) :
    Calls Tryf.prog 5 #[.string a, .string b, .string c] w fun e w' => e = .returned (.bool false) ∧ w' = w := by
  unfold maxLen at h1 h2 h3
  by_cases g1 : 1048576 < a.size
  · go_enter Tryf.func5, Tryf.ntmps5
    go_wp2
    go_ret
    exact ⟨rfl, rfl⟩
  by_cases g2 : 1048576 < b.size
  · go_enter Tryf.func5, Tryf.ntmps5
    go_wp2
    go_ret
    exact ⟨rfl, rfl⟩
  by_cases g3 : 1048576 < a.size + b.size
  · go_enter Tryf.func5, Tryf.ntmps5
    go_wp2
    go_ret
    exact ⟨rfl, rfl⟩
  by_cases g4 : 1048576 < c.size
  · go_enter Tryf.func5, Tryf.ntmps5
    go_wp2
    go_ret
    exact ⟨rfl, rfl⟩
  · go_enter Tryf.func5, Tryf.ntmps5
    go_wp2
    go_ret
    exact ⟨rfl, rfl⟩

end Go.Proofs.Qxb6617045aFmt

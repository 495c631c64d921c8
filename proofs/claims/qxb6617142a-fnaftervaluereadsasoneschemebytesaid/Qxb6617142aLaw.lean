/-
  THE LAW's WALK: FnAfterValueReadsAsOneSchemeByte returns true.
-/
import Derived.Test.Qxb6617142aShim
namespace Go.Proofs.Qxb6617142a
open Go.RowKit

theorem below_alloc {a w : World} (h : Below a.heap.size a w) (o : Obj) : Below a.heap.size a (w.alloc o) := h.alloc h.size o

/-- No byte of s before place k is b. -/
def Clean (s : ByteArray) (b : Int) (k : Nat) : Prop := ∀ j (h : j < s.size), j < k → (s[j].toNat : Int) ≠ b

theorem clean_succ {s : ByteArray} {b : Int} {k : Nat} (h : Clean s b k) (hk : k < s.size) (hne : ¬ (s[k].toNat : Int) = b) : Clean s b (k + 1) := by
  intro j hj hlt
  by_cases e : j = k
  · subst e; exact hne
  · exact h j hj (by omega)

theorem clean_done {s : ByteArray} {b : Int} {k : Nat} (hk : k ≤ s.size) (hn : ¬ k < s.size) (h : Clean s b k) : Clean s b s.size := by
  have e : k = s.size := by omega
  rw [← e]
  exact h

theorem indexByte_none (l : List UInt8) (c : UInt8) (h : ∀ x ∈ l, x ≠ c) : Lib.indexByte l c = -1 := by
  induction l with
  | nil => rfl
  | cons x l ih =>
    have hx : (x == c) = false := beq_eq_false_iff_ne.2 (h x (List.mem_cons_self ..))
    have hr := ih fun y hy => h y (List.mem_cons_of_mem _ hy)
    unfold Lib.indexByte
    simp [hx, hr]

theorem clean_index {s : ByteArray} {b : Int} (h0 : 0 ≤ b) (h1 : b ≤ 255) (h : Clean s b s.size) : Lib.indexByte s.data.toList b.toNat.toUInt8 = -1 := by
  apply indexByte_none
  intro x hx hxc
  obtain ⟨j, hj, rfl⟩ := List.getElem_of_mem hx
  have hj' : j < s.size := by simpa using hj
  apply h j hj' hj'
  have e : s[j] = s.data.toList[j] := by simp; rfl
  rw [e, hxc]
  have : b.toNat.toUInt8.toNat = b.toNat := by simp [Nat.toUInt8]; omega
  omega

/-- '==' of a name with itself. -/
theorem eq_name (c0 c1 c2 c3 c4 c5 c6 : Int) (w : World) :
    (Op.equalIn 10000 22 (.agg #[.int .u8 c0, .int .u8 c1, .int .u8 c2, .int .u8 c3, .int .u8 c4, .int .u8 c5, .int .u8 c6]) (.agg #[.int .u8 c0, .int .u8 c1, .int .u8 c2, .int .u8 c3, .int .u8 c4, .int .u8 c5, .int .u8 c6])).run Try.prog w = .ok true w := by
  have u5 := Try.underlying5
  have a5 := Try.isAgg5
  have z5 := Try.sizeOf5
  rw [show (10000 : Nat) = 9999 + 1 from rfl, Op.equalIn]
  simp only [Sem.run_bind, run_underlying Try.underlying22, Result.andThen_ok]
  simp only [Std.Legacy.Range.forIn_eq_forIn_range', Std.Legacy.Range.size, Nat.sub_zero, Nat.add_sub_cancel, Nat.div_one, List.range'_succ, List.range'_zero, List.forIn_cons, List.forIn_nil]
  go_simp

set_option maxHeartbeats 4000000 in
set_option maxRecDepth 100000 in
/-- In the descriptors or their parentheses. -/
theorem law_desc (p v n t l b : Int) (s : ByteArray) (im o : Bool) (c0 c1 c2 c3 c4 c5 c6 : Int) (w : World) (hs : s.size ≤ 1048576) (hb : Alnum b) (hl : l = 5 ∨ l = 6) :
    Calls Try.prog 3 #[.int .u8 p, .string s, .int .u8 v, .bool im, .int .u8 n, .agg #[.int .u8 c0, .int .u8 c1, .int .u8 c2, .int .u8 c3, .int .u8 c4, .int .u8 c5, .int .u8 c6], .int .u8 t, .bool o, .int .u8 l, .int .u8 b] w fun e w' =>
      e = .returned (.bool true) ∧ Below w.heap.size w w' := by
  have hd59 : decide ((1048576 : Int) < (s.size : Int)) = false := by simp; omega
  have en := fun w => eq_name c0 c1 c2 c3 c4 c5 c6 w
  rcases hl with rfl | rfl
  all_goals
    go_enter Try.func3, Try.ntmps3
    go_wp2_with (first
      | (go_at_call 4; refine (bytes_yes p v n t _ b s im o c0 c1 c2 c3 c4 c5 c6 _ hs).mono ?_; rintro e w' ⟨rfl, rfl⟩)
      | (go_at_call 5; refine (letter_yes b _ hb).mono ?_; rintro e w' ⟨rfl, rfl⟩))
    go_loop [21] (fun i => ∃ k : Nat, k ≤ s.size ∧ i = .int .i64 k ∧ Hid (Clean s b k)) (fun i => s.size - (intOf i).toNat)
    case atStart => exact ⟨0, Nat.zero_le _, rfl, fun _ _ h => absurd h (by omega)⟩
    case round =>
      obtain ⟨k, hk, rfl, hc⟩ := hrel
      by_cases hlt : k < s.size
      · by_cases he : (s[k].toNat : Int) = b
        · have he' : ((s[k].toNat : Int) == b) = true := by simpa using he
          have HE : Hid _ := he
          clear he
          go_wp2
          go_ret
          exact ⟨rfl, ((Below.refl _ _).alloc (Nat.le_refl _) _).alloc (by simp) _⟩
        · have he' : ((s[k].toNat : Int) == b) = false := by simpa using he
          have HE : Hid _ := he
          clear he
          go_wp2
          go_round
          case rel => exact ⟨k + 1, by omega, by go_num, clean_succ hc.out hlt HE.out⟩
          case measure => simp [intOf]; omega
      · go_wp2_with (go_at_call 6; refine (zzafter_to p v n t _ s im o c0 c1 c2 c3 c4 c5 c6 p v _ o _ (by rfl) (by rfl) (by rfl) (by rfl)).mono ?_; rintro e w' ⟨rfl, rfl⟩)
        go_ret
        exact ⟨rfl, by repeat (first | exact Below.refl _ _ | apply Below.drew | apply below_alloc)⟩
theorem avL_list {l l' : Int} (hd : descB l = false) (h : avL l = l') : listNext l = l' := by
  rw [← h]; simp [avL, hd]
theorem zzpart_to (u b : Int) (s : ByteArray) (u' : Int) (w : World) (h : Alnum b) (hn : Hid (Lib.indexByte s.data.toList b.toNat.toUInt8 = -1)) (hu : partNext u = u') :
    Calls Try.prog 7 #[.int .u8 u, .int .u8 b, .string s] w fun e w' => e = .returned (.int .u8 u') ∧ w' = w := by
  subst hu; exact zzpart_any u b s w h hn
theorem zzlist_to (l b l' : Int) (w : World) (h : 48 ≤ b) (hl : listNext l = l') :
    Calls Try.prog 8 #[.int .u8 l, .int .u8 b] w fun e w' => e = .returned (.int .u8 l') ∧ w' = w := by
  subst hl; exact zzlist_any l b w h
theorem avP_start {p l : Int} (hd : descB l = false) (h : startB p = true) : avP p l = 2 := by simp [avP, hd, h]
theorem avV_start {p v l : Int} (hd : descB l = false) (h : startB p = true) : avV p v l = 1 := by simp [avV, hd, h]
theorem avO_start {p l : Int} {o : Bool} (hd : descB l = false) (h : startB p = true) : avO p o l = true := by simp [avO, hd, h]
theorem avP_else {p l : Int} (h : startB p = false) : avP p l = p := by simp [avP, h]
theorem avV_else {p v l : Int} (h : startB p = false) : avV p v l = v := by simp [avV, h]
theorem avO_two {l : Int} {o : Bool} (hd : descB l = false) : avO 2 o l = true := by simp [avO, hd, startB]
theorem avO_else {p l : Int} {o : Bool} (h : startB p = false) (h2 : (p == 2) = false) : avO p o l = o := by
  unfold avO; rw [h, h2]; simp

set_option maxHeartbeats 4000000 in
set_option maxRecDepth 100000 in
/-- At the start of the URL. -/
theorem law_start_true (v n t l b : Int) (s : ByteArray) (im : Bool) (c0 c1 c2 c3 c4 c5 c6 : Int) (w : World) (hs : s.size ≤ 1048576) (hb : Alnum b) (hb0 : Hid (0 ≤ b)) (hb1 : Hid (b ≤ 255)) (h5 : (l == 5) = false) (h6 : (l == 6) = false)
    (l' : Int) (hL : Hid (avL l = l')) (hL' : Hid (avL l' = l')) (hd : Hid (descB l = false)) (hd' : Hid (descB l' = false)) :
    Calls Try.prog 3 #[.int .u8 1, .string s, .int .u8 v, .bool im, .int .u8 n, .agg #[.int .u8 c0, .int .u8 c1, .int .u8 c2, .int .u8 c3, .int .u8 c4, .int .u8 c5, .int .u8 c6], .int .u8 t, .bool true, .int .u8 l, .int .u8 b] w fun e w' =>
      e = .returned (.bool true) ∧ Below w.heap.size w w' := by
  have hd59 : decide ((1048576 : Int) < (s.size : Int)) = false := by simp; omega
  have h48 : 48 ≤ b := by unfold Alnum at hb; omega
  have en := fun w => eq_name c0 c1 c2 c3 c4 c5 c6 w
  go_enter Try.func3, Try.ntmps3
  go_wp2_with (first
    | (go_at_call 4; refine (bytes_yes 1 v n t _ b s im true c0 c1 c2 c3 c4 c5 c6 _ hs).mono ?_; rintro e w' ⟨rfl, rfl⟩)
    | (go_at_call 5; refine (letter_yes b _ hb).mono ?_; rintro e w' ⟨rfl, rfl⟩))
  go_loop [21] (fun i => ∃ k : Nat, k ≤ s.size ∧ i = .int .i64 k ∧ Hid (Clean s b k)) (fun i => s.size - (intOf i).toNat)
  case atStart => exact ⟨0, Nat.zero_le _, rfl, fun _ _ h => absurd h (by omega)⟩
  case round =>
    obtain ⟨k, hk, rfl, hc⟩ := hrel
    by_cases hlt : k < s.size
    · by_cases he : (s[k].toNat : Int) = b
      · have he' : ((s[k].toNat : Int) == b) = true := by simpa using he
        have HE : Hid _ := he
        clear he
        go_wp2
        go_ret
        exact ⟨rfl, ((Below.refl _ _).alloc (Nat.le_refl _) _).alloc (by simp) _⟩
      · have he' : ((s[k].toNat : Int) == b) = false := by simpa using he
        have HE : Hid _ := he
        clear he
        go_wp2
        go_round
        case rel => exact ⟨k + 1, by omega, by go_num, clean_succ hc.out hlt HE.out⟩
        case measure => simp [intOf]; omega
    · have hi : Hid (Lib.indexByte s.data.toList b.toNat.toUInt8 = -1) := clean_index hb0.out hb1.out (clean_done hk hlt hc.out)
      clear hc
      go_wp2_with fail
      refine (zzafter_to 1 v n t l s im true c0 c1 c2 c3 c4 c5 c6 2 1 l' true _ (avP_start hd.out rfl) (avV_start hd.out rfl) (avO_start hd.out rfl) hL.out).mono ?_
      rintro e w' ⟨rfl, rfl⟩
      go_wp2_with fail
      refine (zzafter_to 2 1 n t l' s im true c0 c1 c2 c3 c4 c5 c6 2 1 l' true _ (avP_else rfl) (avV_else rfl) (avO_two hd'.out) hL'.out).mono ?_
      rintro e w' ⟨rfl, rfl⟩
      go_wp2_with (first
        | (go_at_call 7; refine (zzpart_to 1 b s 2 _ hb hi rfl).mono ?_; rintro e w' ⟨rfl, rfl⟩)
        | (go_at_call 8; refine (zzlist_to l b l' _ h48 (avL_list hd.out hL.out)).mono ?_; rintro e w' ⟨rfl, rfl⟩))
      go_ret
      exact ⟨rfl, by repeat (first | exact Below.refl _ _ | apply Below.drew | apply below_alloc)⟩

set_option maxHeartbeats 4000000 in
set_option maxRecDepth 100000 in
/-- At the start of the URL. -/
theorem law_start_false (v n t l b : Int) (s : ByteArray) (im : Bool) (c0 c1 c2 c3 c4 c5 c6 : Int) (w : World) (hs : s.size ≤ 1048576) (hb : Alnum b) (hb0 : Hid (0 ≤ b)) (hb1 : Hid (b ≤ 255)) (h5 : (l == 5) = false) (h6 : (l == 6) = false)
    (l' : Int) (hL : Hid (avL l = l')) (hL' : Hid (avL l' = l')) (hd : Hid (descB l = false)) (hd' : Hid (descB l' = false)) :
    Calls Try.prog 3 #[.int .u8 1, .string s, .int .u8 v, .bool im, .int .u8 n, .agg #[.int .u8 c0, .int .u8 c1, .int .u8 c2, .int .u8 c3, .int .u8 c4, .int .u8 c5, .int .u8 c6], .int .u8 t, .bool false, .int .u8 l, .int .u8 b] w fun e w' =>
      e = .returned (.bool true) ∧ Below w.heap.size w w' := by
  have hd59 : decide ((1048576 : Int) < (s.size : Int)) = false := by simp; omega
  have h48 : 48 ≤ b := by unfold Alnum at hb; omega
  have en := fun w => eq_name c0 c1 c2 c3 c4 c5 c6 w
  go_enter Try.func3, Try.ntmps3
  go_wp2_with (first
    | (go_at_call 4; refine (bytes_yes 1 v n t _ b s im false c0 c1 c2 c3 c4 c5 c6 _ hs).mono ?_; rintro e w' ⟨rfl, rfl⟩)
    | (go_at_call 5; refine (letter_yes b _ hb).mono ?_; rintro e w' ⟨rfl, rfl⟩))
  go_loop [21] (fun i => ∃ k : Nat, k ≤ s.size ∧ i = .int .i64 k ∧ Hid (Clean s b k)) (fun i => s.size - (intOf i).toNat)
  case atStart => exact ⟨0, Nat.zero_le _, rfl, fun _ _ h => absurd h (by omega)⟩
  case round =>
    obtain ⟨k, hk, rfl, hc⟩ := hrel
    by_cases hlt : k < s.size
    · by_cases he : (s[k].toNat : Int) = b
      · have he' : ((s[k].toNat : Int) == b) = true := by simpa using he
        have HE : Hid _ := he
        clear he
        go_wp2
        go_ret
        exact ⟨rfl, ((Below.refl _ _).alloc (Nat.le_refl _) _).alloc (by simp) _⟩
      · have he' : ((s[k].toNat : Int) == b) = false := by simpa using he
        have HE : Hid _ := he
        clear he
        go_wp2
        go_round
        case rel => exact ⟨k + 1, by omega, by go_num, clean_succ hc.out hlt HE.out⟩
        case measure => simp [intOf]; omega
    · have hi : Hid (Lib.indexByte s.data.toList b.toNat.toUInt8 = -1) := clean_index hb0.out hb1.out (clean_done hk hlt hc.out)
      clear hc
      go_wp2_with fail
      refine (zzafter_to 1 v n t l s im false c0 c1 c2 c3 c4 c5 c6 2 1 l' true _ (avP_start hd.out rfl) (avV_start hd.out rfl) (avO_start hd.out rfl) hL.out).mono ?_
      rintro e w' ⟨rfl, rfl⟩
      go_wp2_with fail
      refine (zzafter_to 2 1 n t l' s im true c0 c1 c2 c3 c4 c5 c6 2 1 l' true _ (avP_else rfl) (avV_else rfl) (avO_two hd'.out) hL'.out).mono ?_
      rintro e w' ⟨rfl, rfl⟩
      go_wp2_with (first
        | (go_at_call 7; refine (zzpart_to 1 b s 2 _ hb hi rfl).mono ?_; rintro e w' ⟨rfl, rfl⟩)
        | (go_at_call 8; refine (zzlist_to l b l' _ h48 (avL_list hd.out hL.out)).mono ?_; rintro e w' ⟨rfl, rfl⟩))
      go_ret
      exact ⟨rfl, by repeat (first | exact Below.refl _ _ | apply Below.drew | apply below_alloc)⟩

end Go.Proofs.Qxb6617142a

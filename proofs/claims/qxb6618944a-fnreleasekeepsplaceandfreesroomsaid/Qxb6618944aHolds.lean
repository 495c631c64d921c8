/-
  zzHoldsPlace.
-/
import Derived.Test.Qxb6618944aRelease
import Derived.Test.Qxb6618944aPlace
namespace Go.Proofs.Qxb6618944a
open Go.RowKit

/-- A slice that came in holds the bytes l: where there is a byte it has an address, with its cells. -/
def DataAt (w : World) (a : Option Addr) (l : List UInt8) : Prop := 0 < l.length → ∃ b o, a = some ⟨b, o, none⟩ ∧ Row w b o l
theorem DataAt.drewN {w : World} {a : Option Addr} {l : List UInt8} (h : DataAt w a l) (n : Nat) : DataAt (w.drewN n) a l := h

/-- The address of 's[k:]', whatever s. -/
def cutO (a : Option Addr) (k cap : Nat) : Option Addr := if cap = k then a else a.map (·.add k)
theorem from_any (W : World) (a : Option Addr) (n cap k : Nat) (hk : k ≤ n) :
    (Instr.slice 22 (.slice a n cap) (some (.int .i64 (k : Int))) none none).run Try.prog W = .ok (.slice (cutO a k cap) (n - k) (cap - k)) W := by
  have ht' : Try.prog.underlying 22 = some (.slice (Try.prog.elem 22)) := by rw [elem22]; exact Try.underlying22
  rw [run_slice_l W 22 _ _ _ ht' .i64 _ (by omega) (by omega), elem22, size5]
  simp [Result.andThen, sliced, cutO]
theorem add_zero' (x : Addr) : x.add 0 = x := by simp [Addr.add]
theorem to_any (W : World) (a : Option Addr) (n cap k : Nat) (hk : k ≤ cap) :
    (Instr.slice 22 (.slice a n cap) none (some (.int .i64 (k : Int))) none).run Try.prog W = .ok (.slice a k cap) W := by
  have ht' : Try.prog.underlying 22 = some (.slice (Try.prog.elem 22)) := by rw [elem22]; exact Try.underlying22
  rw [run_slice_h W 22 _ _ _ ht' .i64 _ (by omega) (by omega), elem22, size5]
  cases a with
  | none => simp [Result.andThen, sliced]
  | some x => simp [Result.andThen, sliced, add_zero']

/-- zzEq of what lies behind two places, where the bytes are the same. -/
theorem eq_cut (g p hc at' cap0 n c1 c2 : Nat) (a0 : Option Addr) (L M : List UInt8) (w : World) (hM : M.length ≤ hc) (hL : L.length ≤ cap0) (hs : L.length ≤ 1048576) (hn : n = L.length - at') (hsame : M.drop p = L.drop at')
    (hrow : Row w g 0 M) (hd : DataAt w a0 L) :
    Calls Try.prog 13 #[.slice (some (cutA g p hc)) n c1, .slice (cutO a0 at' cap0) n c2] w fun e w' => e = .returned (.bool true) ∧ ∃ n, w' = w.drewN n := by
  subst hn
  by_cases h : at' < L.length
  · obtain ⟨b, o, rfl, hr⟩ := hd (by omega)
    have hl : (M.drop p).length = (L.drop at').length := by rw [hsame]
    rw [List.length_drop, List.length_drop] at hl
    have e1 : cutO (some ⟨b, o, none⟩) at' cap0 = some ⟨b, o + at', none⟩ := by
      unfold cutO
      rw [if_neg (by omega)]
      simp only [Option.map_some, Addr.add]
      split <;> simp_all
    rw [cutA_eq g p hc (by omega), e1]
    have r1 : Row w g p (L.drop at') := by
      have := hrow.drop p
      rwa [Nat.zero_add, hsame] at this
    have := eq_at g p c1 b (o + at') c2 (L.drop at') w (by rw [List.length_drop]; omega) r1 (hr.drop at')
    rwa [List.length_drop] at this
  · rw [show L.length - at' = 0 by omega]
    exact eq_none _ _ _ _ w

/-- zzPlaceAfter over the head of a slice that came in. -/
theorem after_head (at' cap0 : Nat) (a0 : Option Addr) (L : List UInt8) (ln cl : Int) (q : Int × Int) (w : World) (ha : at' ≤ L.length) (hs : L.length ≤ 1048576) (h1 : 0 ≤ ln) (h2 : ln ≤ 1073741824) (h3 : 0 ≤ cl) (h4 : cl ≤ 1073741824)
    (hd : DataAt w a0 L) (hq : placeL (L.take at') ln cl = q) :
    Calls Try.prog 14 #[.int .i64 ln, .int .i64 cl, .slice a0 at' cap0] w fun e w' => e = .returned (.tuple #[.int .i64 q.1, .int .i64 q.2]) ∧ w' = w := by
  by_cases h : 0 < at'
  · obtain ⟨b, o, rfl, hr⟩ := hd (by omega)
    have := after_at b o cap0 (L.take at') ln cl q w (by rw [List.length_take]; omega) (hr.take at') h1 h2 h3 h4 hq
    rwa [List.length_take, Nat.min_eq_left ha] at this
  · obtain rfl : at' = 0 := by omega
    subst hq
    exact after_none a0 cap0 ln cl w

/-- zzPlaceAfter over the head of the scanner's own text. -/
theorem after_own (g p hc : Nat) (M : List UInt8) (ln cl : Int) (q : Int × Int) (w : World) (ha : p ≤ M.length) (hs : M.length ≤ 1048576) (hrow : Row w g 0 M) (h : (0 ≤ ln ∧ ln ≤ 1073741824 ∧ 0 ≤ cl ∧ cl ≤ 1073741824) ∨ p = 0) (hq : placeL (M.take p) ln cl = q) :
    Calls Try.prog 14 #[.int .i64 ln, .int .i64 cl, .slice (some ⟨g, 0, none⟩) p hc] w fun e w' => e = .returned (.tuple #[.int .i64 q.1, .int .i64 q.2]) ∧ w' = w := by
  by_cases hp : p = 0
  · subst hp hq
    exact after_none _ hc ln cl w
  · obtain ⟨h1, h2, h3, h4⟩ : 0 ≤ ln ∧ ln ≤ 1073741824 ∧ 0 ≤ cl ∧ cl ≤ 1073741824 := by
      rcases h with h | h
      · exact h
      · exact absurd h hp
    have := after_at g 0 hc (M.take p) ln cl q w (by rw [List.length_take]; omega) (hrow.take p) h1 h2 h3 h4 hq
    rwa [List.length_take, Nat.min_eq_left ha] at this

/-! ### The accessors -/
set_option maxHeartbeats 400000 in
theorem get_line (sb : Nat) (x : Int) (w : World) (c : w.cell? ⟨sb, 6, none⟩ = some (.int .i64 x)) : Calls Try.prog 15 #[.pointer (some ⟨sb, 0, none⟩)] w fun e w' => e = .returned (.int .i64 x) ∧ w' = w := by
  go_enter Try.func15, Try.ntmps15
  go_wp2
  go_ret
  exact ⟨rfl, rfl⟩
set_option maxHeartbeats 400000 in
theorem get_column (sb : Nat) (x : Int) (w : World) (c : w.cell? ⟨sb, 7, none⟩ = some (.int .i64 x)) : Calls Try.prog 16 #[.pointer (some ⟨sb, 0, none⟩)] w fun e w' => e = .returned (.int .i64 x) ∧ w' = w := by
  go_enter Try.func16, Try.ntmps16
  go_wp2
  go_ret
  exact ⟨rfl, rfl⟩

theorem quiet_of {P : Program} {f : FuncId} {args : Array Value} {w : World} {n : Nat} {v : Value} (h : Calls P f args (w.drewN n) fun e w' => e = .returned v ∧ ∃ m, w' = (w.drewN n).drewN m) :
    Calls P f args (w.drewN n) fun e w'' => e = .returned v ∧ ∃ m, w'' = w.drewN m :=
  h.mono fun _ _ ⟨he, m, hm⟩ => ⟨he, n + m, by rw [hm]; exact World.drewN_drewN _ _ _⟩

set_option maxHeartbeats 4000000 in
set_option maxRecDepth 100000 in
/-- zzHoldsPlace. -/
theorem holds_any (sb g p hl hc pos cap0 : Nat) (room : Int) (a0 : Option Addr) (L M : List UInt8) (ln cl ln' cl' rl rl' : Int) (q : Int × Int) (len : Nat) (w : World)
    (c0 : w.cell? ⟨sb, 0, none⟩ = some (.slice (some ⟨g, 0, none⟩) hl hc)) (c1 : w.cell? ⟨sb, 1, none⟩ = some (.int .i64 (p : Int))) (c6 : w.cell? ⟨sb, 6, none⟩ = some (.int .i64 ln')) (c7 : w.cell? ⟨sb, 7, none⟩ = some (.int .i64 cl')) (c8 : w.cell? ⟨sb, 8, none⟩ = some (.int .i64 rl'))
    (hM : Hid (M.length = hl)) (hL : Hid (L.length = len)) (hph : p ≤ hl) (hhc : hl ≤ hc) (hpl : pos ≤ len) (hlc : len ≤ cap0) (hs : len ≤ 1048576) (hhs : hl ≤ 1048576) (hsame : Hid (M.drop p = L.drop pos)) (hrow : Hid (Row w g 0 M)) (hd : Hid (DataAt w a0 L))
    (h1 : 0 ≤ ln) (h2 : ln ≤ 1073741824) (h3 : 0 ≤ cl) (h4 : cl ≤ 1073741824) (h5 : 0 ≤ rl) (h6 : rl ≤ 1073741824) (hrl : Hid (rl' + p = rl + pos)) (hrl0 : 0 ≤ rl') (hrl1 : rl' ≤ 1074790400) (hbd : Hid ((0 ≤ ln' ∧ ln' ≤ 1073741824 ∧ 0 ≤ cl' ∧ cl' ≤ 1073741824) ∨ p = 0))
    (hq : Hid (placeL (L.take pos) ln cl = q)) (hq' : Hid (placeL (M.take p) ln' cl' = q)) (hroom : p = 0 ∨ 2 * (p : Int) < room) :
    Calls Try.prog 7 #[.pointer (some ⟨sb, 0, none⟩), .slice a0 len cap0, .int .i64 pos, .int .i64 room, .int .i64 ln, .int .i64 cl, .int .i64 rl] w fun e w' => e = .returned (.bool true) ∧ ∃ n, w' = w.drewN n := by
  have hz : ((rl' + (p : Int)) != (rl + (pos : Int))) = false := by rw [hrl.out]; simp
  obtain ⟨n, hn⟩ : ∃ n, n = len - pos := ⟨_, rfl⟩
  have hn' : n = hl - p := by
    have := congrArg List.length hsame.out
    rw [List.length_drop, List.length_drop, hM.out, hL.out] at this
    omega
  have s1 : ∀ W, (Instr.slice 22 (.slice (some ⟨g, 0, none⟩) hl hc) (some (.int .i64 (p : Int))) none none).run Try.prog W = .ok (.slice (some (cutA g p hc)) n (hc - p)) W := fun W => by rw [hn']; exact slice_from W g hl hc p hph
  have s2 : ∀ W, (Instr.slice 22 (.slice a0 len cap0) (some (.int .i64 (pos : Int))) none none).run Try.prog W = .ok (.slice (cutO a0 pos cap0) n (cap0 - pos)) W := fun W => by rw [hn]; exact from_any W a0 len cap0 pos hpl
  have s3 : ∀ W, (Instr.slice 22 (.slice a0 len cap0) none (some (.int .i64 (pos : Int))) none).run Try.prog W = .ok (.slice a0 pos cap0) W := fun W => to_any W a0 len cap0 pos (by omega)
  have s4 : ∀ W, (Instr.slice 22 (.slice (some ⟨g, 0, none⟩) hl hc) none (some (.int .i64 (p : Int))) none).run Try.prog W = .ok (.slice (some ⟨g, 0, none⟩) p hc) W := fun W => slice_to W g hl hc p (by omega)
  have HN := hid hn
  clear hn hn'
  have b1 : decide ((hl : Int) < (p : Int)) = false := by simp; omega
  go_enter Try.func7, Try.ntmps7
  have HE : Hid (∀ W : World, Row W g 0 M → DataAt W a0 L → Calls Try.prog 13 #[.slice (some (cutA g p hc)) n (hc - p), .slice (cutO a0 pos cap0) n (cap0 - pos)] W fun e w' => e = .returned (.bool true) ∧ ∃ n, w' = W.drewN n) := fun W hr hda => eq_cut g p hc pos cap0 n _ _ a0 L M W (by rw [hM.out]; exact hhc) (by rw [hL.out]; exact hlc) (by rw [hL.out]; exact hs) (by rw [hL.out]; exact HN.out) hsame.out hr hda
  have HA : Hid (∀ W : World, DataAt W a0 L → Calls Try.prog 14 #[.int .i64 ln, .int .i64 cl, .slice a0 pos cap0] W fun e w' => e = .returned (.tuple #[.int .i64 q.1, .int .i64 q.2]) ∧ w' = W) := fun W hda => after_head pos cap0 a0 L ln cl q W (by rw [hL.out]; exact hpl) (by rw [hL.out]; exact hs) h1 h2 h3 h4 hda hq.out
  have HO : Hid (∀ W : World, Row W g 0 M → Calls Try.prog 14 #[.int .i64 ln', .int .i64 cl', .slice (some ⟨g, 0, none⟩) p hc] W fun e w' => e = .returned (.tuple #[.int .i64 q.1, .int .i64 q.2]) ∧ w' = W) := fun W hr => after_own g p hc M ln' cl' q W (by rw [hM.out]; exact hph) (by rw [hM.out]; exact hhs) hr hbd.out hq'.out
  go_wp2
  go_quiet ((go_at_call 13; exact quiet_of (HE.out _ hrow.out hd.out)))
  go_wp2_with fail
  refine (HA.out _ (by exact hd.out)).mono ?_
  rintro e w2 ⟨rfl, h2'⟩
  subst h2'
  go_wp2
  have d6 : (w.drewN nq).cell? ⟨sb, 6, none⟩ = some (.int .i64 ln') := c6
  have d7 : (w.drewN nq).cell? ⟨sb, 7, none⟩ = some (.int .i64 cl') := c7
  have hrow2 : Hid (Row (w.drewN nq) g 0 M) := hrow.out
  have hfin : Hid (∀ n, ∃ k, (w.drewN nq).drewN n = w.drewN k) := fun n => ⟨nq + n, World.drewN_drewN _ _ _⟩
  generalize w.drewN nq = W2 at d6 d7 hrow2 hfin ⊢
  go_quiet ((first | (go_at_call 15; exact Calls.quiet_of_same (get_line sb ln' _ d6)) | (go_at_call 16; exact Calls.quiet_of_same (get_column sb cl' _ d7)) | (go_at_call 14; exact Calls.quiet_of_same (HO.out _ hrow2.out))))
  have qq1 : (q.1 != q.1) = false := by simp
  have qq2 : (q.2 != q.2) = false := by simp
  rcases hroom with rfl | hroom
  · go_wp2
    go_ret
    exact ⟨by simp, hfin.out _⟩
  · by_cases hp0 : p = 0
    · subst hp0
      go_wp2
      go_ret
      exact ⟨by simp, hfin.out _⟩
    · have e0 : ((p : Int) == 0) = false := beq_eq_false_iff_ne.2 (by omega)
      go_wp2
      go_ret
      exact ⟨by simp, hfin.out _⟩

end Go.Proofs.Qxb6618944a

/-
  Scanner.place.
-/
import Derived.Test.Qxb6618944aLib2
namespace Go.Proofs.Qxb6618944a
open Go.RowKit

theorem Row.below {w w' : World} {b o : Nat} {l : List UInt8} (h : Row w b o l) (hb : Below w.heap.size w w') : Row w' b o l := fun j hj => by
  have hc := h j hj
  have hlt : b < w.heap.size := World.block_lt_of_cell? w ⟨b, o + j, none⟩ hc
  rw [hb.cell (p := ⟨b, o + j, none⟩) hlt]
  exact hc
theorem Row.drop {w : World} {b o : Nat} {l : List UInt8} (h : Row w b o l) (k : Nat) : Row w b (o + k) (l.drop k) := fun j hj => by
  rw [List.length_drop] at hj
  rw [Nat.add_assoc, h (k + j) (by omega)]
  unfold nb
  rw [List.getD, List.getD, List.getElem?_drop]
theorem Row.take {w : World} {b o : Nat} {l : List UInt8} (h : Row w b o l) (k : Nat) : Row w b o (l.take k) := fun j hj => by
  rw [List.length_take] at hj
  rw [h j (by omega)]
  unfold nb
  rw [List.getD, List.getD, List.getElem?_take_of_lt (by omega)]

theorem Row.drewN {w : World} {b o : Nat} {l : List UInt8} (h : Row w b o l) (n : Nat) : Hid (Row (w.drewN n) b o l) := h
theorem below_drewN {a w : World} (h : Below a.heap.size a w) (n : Nat) : Below a.heap.size a (w.drewN n) := ⟨h.os, h.tape, h.output, h.size, h.block⟩

/-- The address of 's[k:]' of a slice at the head of block g: where nothing is left of the capacity it stays. -/
def cutA (g k cap : Nat) : Addr := if cap = k then ⟨g, 0, none⟩ else ⟨g, k, none⟩
theorem cutA_eq (g k cap : Nat) (h : k < cap) : cutA g k cap = ⟨g, k, none⟩ := by
  unfold cutA
  rw [if_neg (by omega)]
theorem elem22 : Try.prog.elem 22 = 5 := by simp [Program.elem, Try.underlying22]
theorem size5 (w : World) : (Go.sizeOf 5).run Try.prog w = .ok 1 w := by simp
theorem slice_from (W : World) (g n cap k : Nat) (hk : k ≤ n) :
    (Instr.slice 22 (.slice (some ⟨g, 0, none⟩) n cap) (some (.int .i64 (k : Int))) none none).run Try.prog W = .ok (.slice (some (cutA g k cap)) (n - k) (cap - k)) W := by
  have ht' : Try.prog.underlying 22 = some (.slice (Try.prog.elem 22)) := by rw [elem22]; exact Try.underlying22
  rw [run_slice_l W 22 _ _ _ ht' .i64 _ (by omega) (by omega), elem22, size5]
  unfold cutA
  by_cases h0 : cap = k
  · simp [Result.andThen, sliced, h0]
  · by_cases h1 : k = 0
    · subst h1; simp [Result.andThen, sliced, Addr.add, h0]
    · simp [Result.andThen, sliced, Addr.add, h0, h1]

/-- utf8.RuneCount behind place k. -/
theorem runes_cut (g cap k n c : Nat) (l : List UInt8) (w : World) (hl : l.length ≤ cap) (hs : l.length ≤ 1048576) (hn : n = l.length - k) (hc : c = cap - k) (hrow : Row w g 0 l) :
    Calls Try.prog 19 #[.slice (some (cutA g k cap)) n c] w fun e w' => e = .returned (.int .i64 (Lib.runeCount (S (l.drop k)) : Nat)) ∧ Below w.heap.size w w' := by
  subst hn hc
  by_cases h : k < l.length
  · rw [cutA_eq g k cap (by omega)]
    have := runes_at g k (cap - k) (l.drop k) w (by rw [List.length_drop]; omega) (by rw [List.length_drop]; omega) (by have := hrow.drop k; rwa [Nat.zero_add] at this)
    rwa [List.length_drop] at this
  · rw [List.drop_of_length_le (by omega), show l.length - k = 0 by omega]
    exact runes_none _ _ w

set_option maxHeartbeats 2000000 in
set_option maxRecDepth 100000 in
/-- place, where no newline has been read. -/
theorem scan_none (sb g len cap : Nat) (l : List UInt8) (ln cl : Int) (w : World)
    (c0 : w.cell? ⟨sb, 0, none⟩ = some (.slice (some ⟨g, 0, none⟩) len cap)) (c1 : w.cell? ⟨sb, 1, none⟩ = some (.int .i64 (l.length : Int))) (c6 : w.cell? ⟨sb, 6, none⟩ = some (.int .i64 ln)) (c7 : w.cell? ⟨sb, 7, none⟩ = some (.int .i64 cl))
    (hl : l.length ≤ len) (hlc : len ≤ cap) (hs : len ≤ 1048576) (h3 : 0 ≤ cl) (h4 : cl ≤ 1073741824) (hrow : Hid (Row w g 0 l)) (hno : Hid (∀ k, k < l.length → nb l k ≠ 10)) (rc : Nat) (hrc : Hid (Lib.runeCount (S l) = rc)) :
    Calls Try.prog 9 #[.pointer (some ⟨sb, 0, none⟩)] w fun e w' => e = .returned (.tuple #[.int .i64 ln, .int .i64 (cl + (rc : Nat))]) ∧ Below w.heap.size w w' := by
  have b1 : (l.length : Int) ≤ (cap : Int) := by omega
  have hle := Lib.runeCount_le (S l)
  rw [S_size, hrc.out] at hle
  go_enter Try.func9, Try.ntmps9
  go_wp2
  go_quiet (fail)
  go_wp2
  go_quiet (fail)
  go_wp2_with fail
  refine (last_none g 0 cap l _ (by omega) (Row.drewN hrow.out _) hno).mono ?_
  rintro e w1 ⟨rfl, h1'⟩
  subst h1'
  go_wp2_with fail
  refine (runes_at g 0 cap l _ (by omega) (by omega) (Row.drewN hrow.out _)).mono ?_
  rintro e w2 ⟨rfl, hb2⟩
  have HB := hid hb2
  clear hb2
  rw [hrc.out]
  go_wp2
  go_ret2
  exact ⟨rfl, (below_drewN (Below.refl _ _) _).trans HB.out⟩

theorem count_le (l : List UInt8) : l.count 10 ≤ l.length := List.count_le_length

set_option maxHeartbeats 2000000 in
set_option maxRecDepth 100000 in
/-- place, where the last newline that has been read stands at j. -/
theorem scan_last (sb g len cap j : Nat) (l : List UInt8) (ln cl : Int) (w : World)
    (c0 : w.cell? ⟨sb, 0, none⟩ = some (.slice (some ⟨g, 0, none⟩) len cap)) (c1 : w.cell? ⟨sb, 1, none⟩ = some (.int .i64 (l.length : Int))) (c6 : w.cell? ⟨sb, 6, none⟩ = some (.int .i64 ln)) (c7 : w.cell? ⟨sb, 7, none⟩ = some (.int .i64 cl))
    (hl : l.length ≤ len) (hlc : len ≤ cap) (hs : len ≤ 1048576) (h1 : 0 ≤ ln) (h2 : ln ≤ 1073741824) (hrow : Hid (Row w g 0 l)) (hj : j < l.length) (h10 : Hid (nb l j = 10)) (hlast : Hid (∀ k, j < k → k < l.length → nb l k ≠ 10)) (rc ct : Nat) (hrc : Hid (Lib.runeCount (S (l.drop (j + 1))) = rc)) (hct : Hid (l.count 10 = ct)) :
    Calls Try.prog 9 #[.pointer (some ⟨sb, 0, none⟩)] w fun e w' => e = .returned (.tuple #[.int .i64 (ln + (ct : Nat)), .int .i64 (1 + (rc : Nat))]) ∧ Below w.heap.size w w' := by
  have b1 : (l.length : Int) ≤ (cap : Int) := by omega
  have hle := Lib.runeCount_le (S (l.drop (j + 1)))
  rw [S_size, List.length_drop, hrc.out] at hle
  have hcl := count_le l
  rw [hct.out] at hcl
  have ad : ∀ (W : World) (n : Nat) (o : Obj), (W.drewN n).alloc o = (W.alloc o).drewN n := fun _ _ _ => rfl
  have hsl : ∀ W, (Instr.slice 22 (.slice (some ⟨g, 0, none⟩) l.length cap) (some (.int .i64 ((j : Int) + 1))) none none).run Try.prog W = .ok (.slice (some (cutA g (j + 1) cap)) (l.length - (j + 1)) (cap - (j + 1))) W := fun W => by
    have := slice_from W g l.length cap (j + 1) (by omega)
    rwa [show ((j + 1 : Nat) : Int) = (j : Int) + 1 by omega] at this
  go_enter Try.func9, Try.ntmps9
  go_wp2
  go_quiet (fail)
  go_wp2
  go_quiet (fail)
  go_wp2_with fail
  refine (last_at g 0 cap j l _ (by omega) (Row.drewN hrow.out _) hj h10 hlast).mono ?_
  rintro e w1 ⟨rfl, h1'⟩
  subst h1'
  go_wp2_with fail
  refine (count_at g 0 cap w.heap.size l _ (Row.drewN (hrow.out.below ((Below.refl _ w).alloc (Nat.le_refl _) _)) _) (by simp [go_sem])).mono ?_
  rintro e w2 ⟨rfl, h2'⟩
  subst h2'
  rw [hct.out]
  go_wp2
  go_quiet (fail)
  go_wp2_with fail
  refine (runes_cut g cap (j + 1) _ _ l _ (by omega) (by omega) rfl rfl (Row.drewN (hrow.out.below ((Below.refl _ w).alloc (Nat.le_refl _) _)) _)).mono ?_
  rintro e w3 ⟨rfl, hb3⟩
  have HB := hid hb3
  clear hb3
  rw [hrc.out]
  go_wp2
  go_ret2
  exact ⟨rfl, (below_drewN ((Below.refl _ w).alloc (Nat.le_refl _) _) _).trans (HB.out.mono (by simp))⟩

/-- The place of the last newline, if there is one. -/
theorem last_nl (l : List UInt8) : (∀ k, k < l.length → nb l k ≠ 10) ∨ ∃ j, j < l.length ∧ nb l j = 10 ∧ ∀ k, j < k → k < l.length → nb l k ≠ 10 := by
  have key : ∀ n, n ≤ l.length → (∀ k, k < n → nb l k ≠ 10) ∨ ∃ j, j < n ∧ nb l j = 10 ∧ ∀ k, j < k → k < n → nb l k ≠ 10 := by
    intro n
    induction n with
    | zero => intro _; exact .inl fun k hk => absurd hk (by omega)
    | succ n ih =>
      intro hn
      by_cases h : nb l n = 10
      · exact .inr ⟨n, by omega, h, fun k h1 h2 => by omega⟩
      · rcases ih (by omega) with h1 | ⟨j, h1, h2, h3⟩
        · refine .inl fun k hk => ?_
          by_cases e : k = n
          · rw [e]; exact h
          · exact h1 k (by omega)
        · refine .inr ⟨j, by omega, h2, fun k h4 h5 => ?_⟩
          by_cases e : k = n
          · rw [e]; exact h
          · exact h3 k h4 (by omega)
  exact key l.length (Nat.le_refl _)

/-- place answers as zzPlaceAfter does over what has been read. -/
theorem scan_any (sb g len cap : Nat) (l : List UInt8) (n : Nat) (hn : l.length = n) (ln cl : Int) (p : Int × Int) (w : World)
    (c0 : w.cell? ⟨sb, 0, none⟩ = some (.slice (some ⟨g, 0, none⟩) len cap)) (c1 : w.cell? ⟨sb, 1, none⟩ = some (.int .i64 (n : Int))) (c6 : w.cell? ⟨sb, 6, none⟩ = some (.int .i64 ln)) (c7 : w.cell? ⟨sb, 7, none⟩ = some (.int .i64 cl))
    (hl : n ≤ len) (hlc : len ≤ cap) (hs : len ≤ 1048576) (h1 : 0 ≤ ln) (h2 : ln ≤ 1073741824) (h3 : 0 ≤ cl) (h4 : cl ≤ 1073741824) (hrow : Row w g 0 l) (hp : placeL l ln cl = p) :
    Calls Try.prog 9 #[.pointer (some ⟨sb, 0, none⟩)] w fun e w' => e = .returned (.tuple #[.int .i64 p.1, .int .i64 p.2]) ∧ Below w.heap.size w w' := by
  subst hn hp
  rcases last_nl l with h | ⟨j, hj, h10, hlast⟩
  · rw [place_is_none l ln cl h]
    exact scan_none sb g len cap l ln cl w c0 c1 c6 c7 hl hlc hs h3 h4 hrow h _ rfl
  · rw [place_is_last l ln cl j hj h10 hlast]
    exact scan_last sb g len cap j l ln cl w c0 c1 c6 c7 hl hlc hs h1 h2 hrow hj h10 hlast _ _ rfl rfl

end Go.Proofs.Qxb6618944a

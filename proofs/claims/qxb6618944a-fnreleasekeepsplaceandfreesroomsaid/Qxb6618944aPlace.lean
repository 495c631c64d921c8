/-
  zzPlaceAfter.
-/
import Derived.Test.Qxb6618944aLen
namespace Go.Proofs.Qxb6618944a
open Go.RowKit

/-- zzRuneLen, in one statement. -/
theorem len_any (b o cap i : Nat) (l : List UInt8) (w : World) (hi : i < l.length) (hs : l.length ≤ 1048576) (hrow : Hid (Row w b o l)) :
    Calls Try.prog 20 #[.slice (some ⟨b, o, none⟩) l.length cap, .int .i64 i] w fun e w' => e = .returned (.int .i64 (wd l i : Nat)) ∧ w' = w := by
  by_cases h0 : nb l i < 128
  · exact len_ascii b o cap i l w hi hrow h0
  by_cases h1 : nb l i < 194 ∨ 244 < nb l i
  · exact len_odd b o cap i l w hi hrow (by omega) h1
  by_cases h2 : nb l i < 224
  · exact len_C2 b o cap i l w hi hs hrow (by omega)
  by_cases h3 : nb l i = 224
  · exact len_E0 b o cap i l w hi hs hrow h3
  by_cases h4 : nb l i = 237
  · exact len_ED b o cap i l w hi hs hrow h4
  by_cases h5 : nb l i < 240
  · exact len_E1 b o cap i l w hi hs hrow (by omega)
  by_cases h6 : nb l i = 240
  · exact len_F0 b o cap i l w hi hs hrow h6
  by_cases h7 : nb l i < 244
  · exact len_F1 b o cap i l w hi hs hrow (by omega)
  · exact len_F4 b o cap i l w hi hs hrow (by omega)

theorem place_nl (l : List UInt8) (f i : Nat) (ln cl : Int) (hi : i < l.length) (h : nb l i = 10) : placeFrom l (f + 1) i ln cl = placeFrom l f (i + 1) (ln + 1) 1 := by
  rw [placeFrom, if_pos hi, if_pos h]
theorem place_ch (l : List UInt8) (f i : Nat) (ln cl : Int) (hi : i < l.length) (h : nb l i ≠ 10) : placeFrom l (f + 1) i ln cl = placeFrom l f (i + wd l i) ln (cl + 1) := by
  rw [placeFrom, if_pos hi, if_neg h]
theorem place_end (l : List UInt8) (f i : Nat) (ln cl : Int) (hi : ¬ i < l.length) : placeFrom l f i ln cl = (ln, cl) := by
  cases f with
  | zero => rfl
  | succ f => rw [placeFrom, if_neg hi]

set_option maxHeartbeats 2000000 in
set_option maxRecDepth 100000 in
/-- zzPlaceAfter at an address. -/
theorem after_at (b o cap : Nat) (l : List UInt8) (ln0 cl0 : Int) (p : Int × Int) (w : World) (hs : l.length ≤ 1048576) (hrow : Hid (Row w b o l)) (h1 : 0 ≤ ln0) (h2 : ln0 ≤ 1073741824) (h3 : 0 ≤ cl0) (h4 : cl0 ≤ 1073741824)
    (hp : Hid (placeL l ln0 cl0 = p)) :
    Calls Try.prog 14 #[.int .i64 ln0, .int .i64 cl0, .slice (some ⟨b, o, none⟩) l.length cap] w fun e w' => e = .returned (.tuple #[.int .i64 p.1, .int .i64 p.2]) ∧ w' = w := by
  go_enter Try.func14, Try.ntmps14
  go_wp2
  go_loop [0, 1, 8] (fun x y z => ∃ (k f : Nat) (ln cl : Int), k ≤ l.length ∧ l.length - k ≤ f ∧ x = .int .i64 ln ∧ y = .int .i64 cl ∧ z = .int .i64 k ∧ Hid (placeFrom l f k ln cl = p) ∧ 0 ≤ ln ∧ ln ≤ 1073741824 + (k : Int) ∧ 0 ≤ cl ∧ cl ≤ 1073741825 + (k : Int)) (fun _ _ z => l.length - (intOf z).toNat)
  case atStart => exact ⟨0, l.length, ln0, cl0, by omega, by omega, rfl, rfl, rfl, hp, h1, by omega, h3, by omega⟩
  case round =>
    obtain ⟨k, f, ln, cl, hk, hf, rfl, rfl, rfl, hq, a1, a2, a3, a4⟩ := hrel
    by_cases hlt : k < l.length
    · have c0 := hrow.out k hlt
      have g0 : (k : Int) < (l.length : Int) := by omega
      obtain ⟨f, rfl⟩ : ∃ f', f = f' + 1 := ⟨f - 1, by omega⟩
      by_cases hn : nb l k = 10
      · have HQ : Hid (placeFrom l f (k + 1) (ln + 1) 1 = p) := by rw [← place_nl l f k ln cl hlt hn]; exact hq
        have hb : ((nb l k : Int) == 10) = true := by rw [hn]; rfl
        clear hq hn
        generalize nb l k = b0 at *
        go_wp2
        go_round
        case rel => exact ⟨k + 1, f, ln + 1, 1, by omega, by omega, rfl, rfl, by go_num, HQ, by omega, by omega, by omega, by omega⟩
        case measure => simp [intOf]; omega
      · have HQ : Hid (placeFrom l f (k + wd l k) ln (cl + 1) = p) := by rw [← place_ch l f k ln cl hlt hn]; exact hq
        have hb : ((nb l k : Int) == 10) = false := beq_eq_false_iff_ne.2 (by omega)
        have hw := wd_pos l k hlt
        have ht := (wd_tail l k hlt).1
        have HC := hid (len_any b o cap k l)
        clear hq hn
        generalize nb l k = b0 at *
        generalize wd l k = d at *
        go_wp2_with (go_at_call 20; refine (HC.out _ hlt hs hrow).mono ?_; rintro e w' ⟨rfl, rfl⟩)
        go_round
        case rel => exact ⟨k + d, f, ln, cl + 1, by omega, by omega, rfl, rfl, by go_num, HQ, by omega, by omega, by omega, by omega⟩
        case measure => simp [intOf]; omega
    · have e : (ln, cl) = p := by rw [← place_end l f k ln cl hlt]; exact hq.out
      subst e
      go_wp2
      go_ret2
      exact ⟨rfl, rfl⟩

set_option maxHeartbeats 2000000 in
set_option maxRecDepth 100000 in
/-- zzPlaceAfter at no byte. -/
theorem after_none (q : Option Addr) (cap : Nat) (ln0 cl0 : Int) (w : World) :
    Calls Try.prog 14 #[.int .i64 ln0, .int .i64 cl0, .slice q 0 cap] w fun e w' => e = .returned (.tuple #[.int .i64 ln0, .int .i64 cl0]) ∧ w' = w := by
  go_enter Try.func14, Try.ntmps14
  go_wp2
  go_loop [0, 1, 8] (fun x y z => x = .int .i64 ln0 ∧ y = .int .i64 cl0 ∧ z = .int .i64 0) (fun _ _ _ => 0)
  case atStart => exact ⟨rfl, rfl, rfl⟩
  case round =>
    obtain ⟨rfl, rfl, rfl⟩ := hrel
    go_wp2
    go_ret2
    exact ⟨rfl, rfl⟩

end Go.Proofs.Qxb6618944a

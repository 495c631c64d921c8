/-
  THE PLAIN LAWS: widths of characters, lines and columns: no Go in sight.
-/
import Derived.Test.Qxb6618944aRows
import Derived.Lib.RuneCountTail
import Derived.Lib.DecodeNEq
import Derived.Lib.IndexBytes
namespace Go.Proofs.Qxb6618944a
open Go.Lib

/-- The string whose bytes are l. -/
def S (l : List UInt8) : ByteArray := ⟨l.toArray⟩
theorem S_toList (l : List UInt8) : (S l).data.toList = l := rfl
theorem S_size (l : List UInt8) : (S l).size = l.length := rfl
theorem S_of (s : ByteArray) : S s.data.toList = s := by obtain ⟨⟨l⟩⟩ := s; rfl
/-- Byte j as a number; 0 beyond the end. -/
def nb (l : List UInt8) (j : Nat) : Nat := (l.getD j 0).toNat
theorem nb_lt (l : List UInt8) (j : Nat) : nb l j < 256 := UInt8.toNat_lt _
theorem get_nb (l : List UInt8) (j : Nat) : ((S l).get! j).toNat = nb l j := by
  rw [← getD_get!', S_toList]; rfl
/-- The width of the character at i. -/
def wd (l : List UInt8) (i : Nat) : Nat := (Utf8.decode (S l) i).2
theorem wd_eq (l : List UInt8) (i : Nat) : wd l i = (decodeN (l.length - i) (nb l i) (nb l (i + 1)) (nb l (i + 2)) (nb l (i + 3))).2 := by
  unfold wd
  rw [decode_at, get_nb, get_nb, get_nb, get_nb, S_size]
theorem wd_pos (l : List UInt8) (i : Nat) (h : i < l.length) : 1 ≤ wd l i := decode_width_pos (S l) i h

/-- What zzRuneLen hands back behind its switch. -/
def slen (n b1 b2 b3 sz lo hi : Nat) : Nat :=
  if n < sz then 1 else if b1 < lo ∨ hi < b1 then 1 else if sz ≤ 2 then 2 else if b2 < 128 ∨ 191 < b2 then 1 else if sz ≤ 3 then 3 else if b3 < 128 ∨ 191 < b3 then 1 else 4
theorem slow_snd (n b0 b1 b2 b3 sz lo hi : Nat) : (slowN n b0 b1 b2 b3 sz lo hi).2 = slen n b1 b2 b3 sz lo hi := by
  unfold slowN slen
  repeat' split
  all_goals rfl

theorem wd_one (l : List UInt8) (i : Nat) (h : nb l i < 194 ∨ 244 < nb l i) : wd l i = 1 := by
  rw [wd_eq]
  have h0 := nb_lt l i; have h1 := nb_lt l (i + 1); have h2 := nb_lt l (i + 2); have h3 := nb_lt l (i + 3)
  generalize nb l i = b0 at *
  generalize nb l (i + 1) = b1 at *
  generalize nb l (i + 2) = b2 at *
  generalize nb l (i + 3) = b3 at *
  unfold decodeN
  repeat' split
  all_goals first | rfl | (exfalso; omega)

theorem wd_C2 (l : List UInt8) (i : Nat) (hi : i < l.length) (h : 194 ≤ nb l i ∧ nb l i < 224) : wd l i = slen (l.length - i) (nb l (i + 1)) (nb l (i + 2)) (nb l (i + 3)) 2 128 191 := by
  rw [wd_eq, ← slow_C2 _ _ _ _ _ (by omega) (nb_lt _ _) (nb_lt _ _) (nb_lt _ _) h, slow_snd]
theorem wd_E0 (l : List UInt8) (i : Nat) (hi : i < l.length) (h : nb l i = 224) : wd l i = slen (l.length - i) (nb l (i + 1)) (nb l (i + 2)) (nb l (i + 3)) 3 160 191 := by
  rw [wd_eq, ← slow_E0 _ _ _ _ _ (by omega) (nb_lt _ _) (nb_lt _ _) (nb_lt _ _) h, slow_snd]
theorem wd_E1 (l : List UInt8) (i : Nat) (hi : i < l.length) (h : (225 ≤ nb l i ∧ nb l i < 237) ∨ (238 ≤ nb l i ∧ nb l i < 240)) : wd l i = slen (l.length - i) (nb l (i + 1)) (nb l (i + 2)) (nb l (i + 3)) 3 128 191 := by
  rw [wd_eq, ← slow_E1 _ _ _ _ _ (by omega) (nb_lt _ _) (nb_lt _ _) (nb_lt _ _) h, slow_snd]
theorem wd_ED (l : List UInt8) (i : Nat) (hi : i < l.length) (h : nb l i = 237) : wd l i = slen (l.length - i) (nb l (i + 1)) (nb l (i + 2)) (nb l (i + 3)) 3 128 159 := by
  rw [wd_eq, ← slow_ED _ _ _ _ _ (by omega) (nb_lt _ _) (nb_lt _ _) (nb_lt _ _) h, slow_snd]
theorem wd_F0 (l : List UInt8) (i : Nat) (hi : i < l.length) (h : nb l i = 240) : wd l i = slen (l.length - i) (nb l (i + 1)) (nb l (i + 2)) (nb l (i + 3)) 4 144 191 := by
  rw [wd_eq, ← slow_F0 _ _ _ _ _ (by omega) (nb_lt _ _) (nb_lt _ _) (nb_lt _ _) h, slow_snd]
theorem wd_F1 (l : List UInt8) (i : Nat) (hi : i < l.length) (h : 241 ≤ nb l i ∧ nb l i < 244) : wd l i = slen (l.length - i) (nb l (i + 1)) (nb l (i + 2)) (nb l (i + 3)) 4 128 191 := by
  rw [wd_eq, ← slow_F1 _ _ _ _ _ (by omega) (nb_lt _ _) (nb_lt _ _) (nb_lt _ _) h, slow_snd]
theorem wd_F4 (l : List UInt8) (i : Nat) (hi : i < l.length) (h : nb l i = 244) : wd l i = slen (l.length - i) (nb l (i + 1)) (nb l (i + 2)) (nb l (i + 3)) 4 128 143 := by
  rw [wd_eq, ← slow_F4 _ _ _ _ _ (by omega) (nb_lt _ _) (nb_lt _ _) (nb_lt _ _) h, slow_snd]

/-- A character takes no more than what is left, and behind its first byte come bytes from 128 on alone. -/
theorem wd_tail (l : List UInt8) (i : Nat) (hi : i < l.length) : i + wd l i ≤ l.length ∧ ∀ j, i < j → j < i + wd l i → 128 ≤ nb l j := by
  have key : ∀ n b1 b2 b3 sz lo hi', 128 ≤ lo → 2 ≤ sz → 1 ≤ n → slen n b1 b2 b3 sz lo hi' ≤ n ∧ (2 ≤ slen n b1 b2 b3 sz lo hi' → 128 ≤ b1) ∧ (3 ≤ slen n b1 b2 b3 sz lo hi' → 128 ≤ b2) ∧ (4 ≤ slen n b1 b2 b3 sz lo hi' → 128 ≤ b3) ∧ slen n b1 b2 b3 sz lo hi' ≤ 4 := by
    intro n b1 b2 b3 sz lo hi' h1 h2 h3
    unfold slen
    repeat' split
    all_goals omega
  have done : ∀ sz lo hi', 128 ≤ lo → 2 ≤ sz → wd l i = slen (l.length - i) (nb l (i + 1)) (nb l (i + 2)) (nb l (i + 3)) sz lo hi' → i + wd l i ≤ l.length ∧ ∀ j, i < j → j < i + wd l i → 128 ≤ nb l j := by
    intro sz lo hi' h1 hz he
    have k := key (l.length - i) (nb l (i + 1)) (nb l (i + 2)) (nb l (i + 3)) sz lo hi' h1 hz (by omega)
    rw [← he] at k
    refine ⟨by omega, fun j h2 h3 => ?_⟩
    have : j = i + 1 ∨ j = i + 2 ∨ j = i + 3 := by omega
    rcases this with rfl | rfl | rfl
    · exact k.2.1 (by omega)
    · exact k.2.2.1 (by omega)
    · exact k.2.2.2.1 (by omega)
  by_cases h0 : nb l i < 194 ∨ 244 < nb l i
  · rw [wd_one l i h0]
    exact ⟨by omega, fun j h1 h2 => by omega⟩
  by_cases h1 : nb l i < 224
  · exact done _ _ _ (by omega) (by omega) (wd_C2 l i hi (by omega))
  by_cases h2 : nb l i = 224
  · exact done _ _ _ (by omega) (by omega) (wd_E0 l i hi h2)
  by_cases h3 : nb l i = 237
  · exact done _ _ _ (by omega) (by omega) (wd_ED l i hi h3)
  by_cases h4 : nb l i < 240
  · exact done _ _ _ (by omega) (by omega) (wd_E1 l i hi (by omega))
  by_cases h5 : nb l i = 240
  · exact done _ _ _ (by omega) (by omega) (wd_F0 l i hi h5)
  by_cases h6 : nb l i < 244
  · exact done _ _ _ (by omega) (by omega) (wd_F1 l i hi (by omega))
  · exact done _ _ _ (by omega) (by omega) (wd_F4 l i hi (by omega))

/-! ### Lines and columns -/
/-- zzPlaceAfter from place i on, by at most 'fuel' characters. -/
def placeFrom (l : List UInt8) : Nat → Nat → Int → Int → Int × Int
  | 0, _, ln, cl => (ln, cl)
  | f + 1, i, ln, cl => if i < l.length then (if nb l i = 10 then placeFrom l f (i + 1) (ln + 1) 1 else placeFrom l f (i + wd l i) ln (cl + 1)) else (ln, cl)
/-- zzPlaceAfter. -/
def placeL (l : List UInt8) (ln cl : Int) : Int × Int := placeFrom l l.length 0 ln cl
/-- How many newlines stand from place i on. -/
def nlFrom (l : List UInt8) (i : Nat) : Nat := (l.drop i).count 10
/-- How many characters. -/
def rcFrom (l : List UInt8) (f i : Nat) : Nat := runeCountFrom (S l) f i

theorem nb_getElem (l : List UInt8) (i : Nat) (h : i < l.length) : nb l i = l[i].toNat := by
  simp [nb, List.getD, List.getElem?_eq_getElem h]
theorem nl_at (l : List UInt8) (i : Nat) (h : i < l.length) (h10 : nb l i = 10) : nlFrom l i = nlFrom l (i + 1) + 1 := by
  unfold nlFrom
  have e : l[i] = 10 := by
    rw [nb_getElem l i h] at h10
    exact UInt8.toNat_inj.1 h10
  rw [List.drop_eq_getElem_cons h, e, List.count_cons_self]
theorem nl_not (l : List UInt8) (i : Nat) (h : i < l.length) (h10 : nb l i ≠ 10) : nlFrom l i = nlFrom l (i + 1) := by
  unfold nlFrom
  have e : l[i] ≠ 10 := by
    intro e
    apply h10
    rw [nb_getElem l i h, e]
    rfl
  rw [List.drop_eq_getElem_cons h, List.count_cons_of_ne e]
theorem nl_skip (l : List UInt8) : ∀ k i, i + k ≤ l.length → (∀ j, i ≤ j → j < i + k → nb l j ≠ 10) → nlFrom l i = nlFrom l (i + k)
  | 0, i, _, _ => by simp
  | k + 1, i, hk, h => by
    rw [nl_not l i (by omega) (h i (by omega) (by omega)), nl_skip l k (i + 1) (by omega) fun j h1 h2 => h j (by omega) (by omega)]
    congr 1
    omega
theorem nl_end (l : List UInt8) (i : Nat) (h : l.length ≤ i) : nlFrom l i = 0 := by
  unfold nlFrom
  rw [List.drop_of_length_le h]
  rfl

theorem rc_step (l : List UInt8) (f i : Nat) (h : i < l.length) : rcFrom l (f + 1) i = 1 + rcFrom l f (i + wd l i) := by
  unfold rcFrom
  rw [runeCountFrom, if_pos (by rw [S_size]; exact h)]
  rfl
theorem rc_end (l : List UInt8) (f i : Nat) (h : ¬ i < l.length) : rcFrom l f i = 0 := runeCountFrom_end (S l) f i h

/-- No newline is left: the line stays, the column counts the characters. -/
theorem place_none (l : List UInt8) : ∀ f i ln cl, (∀ j, i ≤ j → j < l.length → nb l j ≠ 10) → placeFrom l f i ln cl = (ln, cl + rcFrom l f i)
  | 0, i, ln, cl, _ => by simp [placeFrom, rcFrom, runeCountFrom]
  | f + 1, i, ln, cl, h => by
    by_cases hi : i < l.length
    · unfold placeFrom
      rw [if_pos hi, if_neg (h i (by omega) hi), place_none l f (i + wd l i) ln (cl + 1) (fun j h1 h2 => h j (by omega) h2), rc_step l f i hi]
      congr 1
      omega
    · unfold placeFrom
      rw [if_neg hi, rc_end l (f + 1) i hi]
      simp

/-- More fuel than bytes are left turns nothing. -/
theorem rc_fuel (l : List UInt8) (f g i : Nat) (hf : l.length - i ≤ f) (hg : l.length - i ≤ g) : rcFrom l f i = rcFrom l g i := fuel_enough (S l) f g i hf hg

/-- The last newline stands at j: the lines count the newlines, the column the characters behind it. -/
theorem place_last (l : List UInt8) (j : Nat) (hj : j < l.length) (h10 : nb l j = 10) (hlast : ∀ k, j < k → k < l.length → nb l k ≠ 10) :
    ∀ f i ln cl, i ≤ j → l.length - i ≤ f → placeFrom l f i ln cl = (ln + (nlFrom l i : Nat), (1 : Int) + (rcFrom l l.length (j + 1) : Nat))
  | 0, i, ln, cl, h1, h2 => by omega
  | f + 1, i, ln, cl, h1, h2 => by
    have hi : i < l.length := by omega
    unfold placeFrom
    rw [if_pos hi]
    by_cases hn : nb l i = 10
    · rw [if_pos hn, nl_at l i hi hn]
      by_cases e : i = j
      · subst e
        rw [place_none l f (i + 1) _ _ (fun k h3 h4 => hlast k (by omega) h4), rc_fuel l f l.length (i + 1) (by omega) (by omega)]
        have z : nlFrom l (i + 1) = 0 := by
          by_cases hz : i + 1 ≤ l.length
          · rw [nl_skip l (l.length - (i + 1)) (i + 1) (by omega) (fun k h3 h4 => hlast k (by omega) (by omega)), nl_end l _ (by omega)]
          · exact nl_end l _ (by omega)
        rw [z]
        congr 1
      · rw [place_last l j hj h10 hlast f (i + 1) _ _ (by omega) (by omega)]
        congr 1
        omega
    · rw [if_neg hn]
      have hw := wd_pos l i hi
      have ht := wd_tail l i hi
      have hle : i + wd l i ≤ j := by
        have hne : i ≠ j := fun e => hn (by rw [e]; exact h10)
        by_cases h3 : j < i + wd l i
        · have := ht.2 j (by omega) h3
          omega
        · omega
      rw [place_last l j hj h10 hlast f (i + wd l i) _ _ hle (by omega)]
      congr 2
      rw [nl_skip l (wd l i) i ht.1 fun k h3 h4 => ?_]
      by_cases e : k = i
      · rw [e]; exact hn
      · have := ht.2 k (by omega) h4
        omega

/-- RuneCount of what lies behind place n. -/
theorem rc_drop (l : List UInt8) (n : Nat) : runeCount (S (l.drop n)) = rcFrom l l.length n := by
  have e : S (l.drop n) = (S l).extract n (S l).size := by
    rw [← S_of ((S l).extract n (S l).size), extract_to_end, S_toList]
  unfold runeCount rcFrom
  rw [e, tail_count, Nat.add_zero, tail_size, S_size]
  exact fuel_enough (S l) _ _ n (by rw [S_size]; omega) (by rw [S_size]; omega)

theorem place_is_none (l : List UInt8) (ln cl : Int) (h : ∀ k, k < l.length → nb l k ≠ 10) : placeL l ln cl = (ln, cl + (runeCount (S l) : Nat)) := by
  unfold placeL
  rw [place_none l _ _ _ _ fun j _ h2 => h j h2]
  rfl
theorem place_is_last (l : List UInt8) (ln cl : Int) (j : Nat) (hj : j < l.length) (h10 : nb l j = 10) (hlast : ∀ k, j < k → k < l.length → nb l k ≠ 10) :
    placeL l ln cl = (ln + (l.count 10 : Nat), (1 : Int) + (runeCount (S (l.drop (j + 1))) : Nat)) := by
  unfold placeL
  rw [place_last l j hj h10 hlast _ _ _ _ (Nat.zero_le _) (by omega), rc_drop]
  rfl

end Go.Proofs.Qxb6618944a

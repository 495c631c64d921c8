/-
  THE PLAIN LAWS on texts with slashes: no Go in sight.
-/
import Derived.Test.Qxb6617045aFmtAppend
namespace Go.Proofs.Qxb6617045aFmt

theorem split_slash (l : List UInt8) (h : 47 ∈ l) : ∃ a b, l = a ++ 47 :: b ∧ 47 ∉ a := by
  induction l with
  | nil => cases h
  | cons x l ih =>
    by_cases e : x = 47
    · exact ⟨[], l, by simp [e], by simp⟩
    · have hm : 47 ∈ l := by
        rcases List.mem_cons.1 h with h | h
        · exact absurd h.symm e
        · exact h
      obtain ⟨a, b, rfl, ha⟩ := ih hm
      refine ⟨x :: a, b, rfl, fun hx => ?_⟩
      rcases List.mem_cons.1 hx with h | h
      · exact e h.symm
      · exact ha h

theorem count_clean {a : List UInt8} (h : 47 ∉ a) : a.count 47 = 0 := List.count_eq_zero.2 h
theorem clean_count {a : List UInt8} (h : a.count 47 = 0) : 47 ∉ a := List.count_eq_zero.1 h
theorem T_clean : 47 ∉ T := by decide
theorem T_len : T.length = 12 := rfl

/-- The five kinds of texts. -/
theorem kinds (l : List UInt8) : 47 ∉ l ∨ (∃ d r, l = d ++ 47 :: r ∧ 47 ∉ d ∧ 47 ∉ r) ∨ (∃ d r v, l = d ++ 47 :: (r ++ 47 :: v) ∧ 47 ∉ d ∧ 47 ∉ r ∧ 47 ∉ v) ∨
    ∃ d r v t, l = d ++ 47 :: (r ++ 47 :: (v ++ 47 :: t)) ∧ 47 ∉ d ∧ 47 ∉ r ∧ 47 ∉ v := by
  by_cases h1 : 47 ∈ l
  · obtain ⟨d, l1, rfl, hd⟩ := split_slash l h1
    by_cases h2 : 47 ∈ l1
    · obtain ⟨r, l2, rfl, hr⟩ := split_slash l1 h2
      by_cases h3 : 47 ∈ l2
      · obtain ⟨v, t, rfl, hv⟩ := split_slash l2 h3
        exact .inr (.inr (.inr ⟨d, r, v, t, rfl, hd, hr, hv⟩))
      · exact .inr (.inr (.inl ⟨d, r, l2, rfl, hd, hr, h3⟩))
    · exact .inr (.inl ⟨d, l1, rfl, hd, h2⟩)
  · exact .inl h1

/-- How many slashes Scope.String writes. -/
theorem count_text (d r v : List UInt8) : (text d r v).count 47 = d.count 47 + r.count 47 + v.count 47 + 3 := by
  simp [text, count_clean T_clean]
  omega

/-- Where a part holds a slash, the text is no scope: three clean parts, and another rest. -/
theorem text_unclean (d r v : List UInt8) (h : ¬ (47 ∉ d ∧ 47 ∉ r ∧ 47 ∉ v)) : ∃ d' r' v' t, text d r v = d' ++ 47 :: (r' ++ 47 :: (v' ++ 47 :: t)) ∧ 47 ∉ d' ∧ 47 ∉ r' ∧ 47 ∉ v' ∧ t ≠ T := by
  have hc : 4 ≤ (text d r v).count 47 := by
    rw [count_text]
    by_cases h1 : d.count 47 = 0
    · by_cases h2 : r.count 47 = 0
      · by_cases h3 : v.count 47 = 0
        · exact absurd ⟨clean_count h1, clean_count h2, clean_count h3⟩ h
        · omega
      · omega
    · omega
  rcases kinds (text d r v) with h1 | ⟨a, b, e, ha, hb⟩ | ⟨a, b, c, e, ha, hb, hcc⟩ | ⟨a, b, c, t, e, ha, hb, hcc⟩
  · rw [count_clean h1] at hc; omega
  · rw [e] at hc; simp [count_clean ha, count_clean hb] at hc
  · rw [e] at hc; simp [count_clean ha, count_clean hb, count_clean hcc] at hc
  · refine ⟨a, b, c, t, e, ha, hb, hcc, fun ht => ?_⟩
    rw [e, ht] at hc
    simp [count_clean ha, count_clean hb, count_clean hcc, count_clean T_clean] at hc

theorem text_length (d r v : List UInt8) : (text d r v).length = d.length + r.length + v.length + 15 := by
  simp [text, T_len]; omega

/-- A text of three slashes that ends in a slash and T is a scope. -/
theorem accept_text {l : List UInt8} (h3 : l.count 47 = 3) {x : List UInt8} (hx : l = x ++ 47 :: T) : ∃ d r v, l = text d r v ∧ 47 ∉ d ∧ 47 ∉ r ∧ 47 ∉ v := by
  have hc : x.count 47 = 2 := by
    rw [hx] at h3
    simp [count_clean T_clean] at h3
    omega
  rcases kinds x with h1 | ⟨a, b, e, ha, hb⟩ | ⟨a, b, c, e, ha, hb, hcc⟩ | ⟨a, b, c, t, e, ha, hb, hcc⟩
  · rw [count_clean h1] at hc; omega
  · rw [e] at hc; simp [count_clean ha, count_clean hb] at hc
  · exact ⟨a, b, c, by rw [hx, e]; simp [text], ha, hb, hcc⟩
  · rw [e] at hc; simp [count_clean ha, count_clean hb, count_clean hcc] at hc

/-- Every other text is refused: by one of four ways. -/
theorem refuse_text {l : List UInt8} (h : ¬ (l.count 47 = 3 ∧ ∃ x, l = x ++ 47 :: T)) : 47 ∉ l ∨ (∃ d r, l = d ++ 47 :: r ∧ 47 ∉ d ∧ 47 ∉ r) ∨ (∃ d r v, l = d ++ 47 :: (r ++ 47 :: v) ∧ 47 ∉ d ∧ 47 ∉ r ∧ 47 ∉ v) ∨
    ∃ d r v t, l = d ++ 47 :: (r ++ 47 :: (v ++ 47 :: t)) ∧ 47 ∉ d ∧ 47 ∉ r ∧ 47 ∉ v ∧ t ≠ T := by
  rcases kinds l with h1 | h1 | h1 | ⟨d, r, v, t, e, hd, hr, hv⟩
  · exact .inl h1
  · exact .inr (.inl h1)
  · exact .inr (.inr (.inl h1))
  · refine .inr (.inr (.inr ⟨d, r, v, t, e, hd, hr, hv, fun ht => h ?_⟩))
    subst ht
    refine ⟨?_, d ++ 47 :: (r ++ 47 :: v), by rw [e]; simp⟩
    rw [e]
    simp [count_clean hd, count_clean hr, count_clean hv, count_clean T_clean]

end Go.Proofs.Qxb6617045aFmt

/-
  THE STATEMENT: FnAfterValueReadsAsOneSchemeByte.
-/
import Derived.Test.Qxb6617142aLaw2
import Derived.ProofKit
import Derived.OpenShut
import Derived.ShutString
import Derived.ChangeOld
namespace Go.Proofs.Qxb6617142a.fnAfterValueReadsAsOneSchemeByte
open Go.ChangeShapes Go.WideShapes Go.ChangeAt Go.RowKit
open Go.ChangeMaps (open_string shut_string)

theorem own : ownKnob Try.prog.godebug = none := by kernel_rfl
theorem cells5 : Try.prog.cellsOf 5 = 1 := by kernel_rfl
theorem cells22 : Try.prog.cellsOf 22 = 7 := by kernel_rfl

set_option maxHeartbeats 4000000 in
set_option maxRecDepth 100000 in
/-- The string is too long. -/
theorem law_long (p v n t l b : Int) (s : ByteArray) (im o : Bool) (c0 c1 c2 c3 c4 c5 c6 : Int) (w : World) (hs : 1048576 < s.size) (hm : s.size ≤ maxLen) :
    Calls Try.prog 3 #[.int .u8 p, .string s, .int .u8 v, .bool im, .int .u8 n, .agg #[.int .u8 c0, .int .u8 c1, .int .u8 c2, .int .u8 c3, .int .u8 c4, .int .u8 c5, .int .u8 c6], .int .u8 t, .bool o, .int .u8 l, .int .u8 b] w fun e w' =>
      e = .returned (.bool true) ∧ Below w.heap.size w w' := by
  go_enter Try.func3, Try.ntmps3
  go_wp2_with (go_at_call 4; refine (bytes_no p v n t l b s im o c0 c1 c2 c3 c4 c5 c6 _ hs hm).mono ?_; rintro e w' ⟨rfl, rfl⟩)
  go_ret
  exact ⟨rfl, by repeat (first | exact Below.refl _ _ | apply Below.drew | apply below_alloc)⟩

set_option maxHeartbeats 4000000 in
set_option maxRecDepth 100000 in
/-- The byte is no letter or digit. -/
theorem law_other (p v n t l b : Int) (s : ByteArray) (im o : Bool) (c0 c1 c2 c3 c4 c5 c6 : Int) (w : World) (hs : s.size ≤ 1048576) (hb : Hid (¬ Alnum b)) :
    Calls Try.prog 3 #[.int .u8 p, .string s, .int .u8 v, .bool im, .int .u8 n, .agg #[.int .u8 c0, .int .u8 c1, .int .u8 c2, .int .u8 c3, .int .u8 c4, .int .u8 c5, .int .u8 c6], .int .u8 t, .bool o, .int .u8 l, .int .u8 b] w fun e w' =>
      e = .returned (.bool true) ∧ Below w.heap.size w w' := by
  go_enter Try.func3, Try.ntmps3
  go_wp2_with (first
    | (go_at_call 4; refine (bytes_yes p v n t l b s im o c0 c1 c2 c3 c4 c5 c6 _ hs).mono ?_; rintro e w' ⟨rfl, rfl⟩)
    | (go_at_call 5; refine (letter_no b _ hb.out).mono ?_; rintro e w' ⟨rfl, rfl⟩))
  go_ret
  exact ⟨rfl, by repeat (first | exact Below.refl _ _ | apply Below.drew | apply below_alloc)⟩

theorem listNext_desc {l : Int} (h : descB l = false) : descB (listNext l) = false := by
  unfold listNext
  split
  · rfl
  · exact h
theorem listNext_twice (l : Int) : listNext (listNext l) = listNext l := by
  unfold listNext
  split
  · simp
  · simp

/-- THE WALK, whatever the input. -/
theorem walk (p v n t l b : Int) (s : ByteArray) (im o : Bool) (c0 c1 c2 c3 c4 c5 c6 : Int) (w : World) (hm : s.size ≤ maxLen) (hb0 : 0 ≤ b) (hb1 : b ≤ 255) :
    Calls Try.prog 3 #[.int .u8 p, .string s, .int .u8 v, .bool im, .int .u8 n, .agg #[.int .u8 c0, .int .u8 c1, .int .u8 c2, .int .u8 c3, .int .u8 c4, .int .u8 c5, .int .u8 c6], .int .u8 t, .bool o, .int .u8 l, .int .u8 b] w fun e w' =>
      e = .returned (.bool true) ∧ Below w.heap.size w w' := by
  by_cases hs : s.size ≤ 1048576
  · by_cases hb : Alnum b
    · by_cases hl : l = 5 ∨ l = 6
      · exact law_desc p v n t l b s im o c0 c1 c2 c3 c4 c5 c6 w hs hb hl
      · have h5 : (l == 5) = false := beq_eq_false_iff_ne.2 (by omega)
        have h6 : (l == 6) = false := beq_eq_false_iff_ne.2 (by omega)
        have hd : descB l = false := by simp [descB, h5, h6]
        have hd' : descB (listNext l) = false := listNext_desc hd
        have hL : avL l = listNext l := by simp [avL, hd]
        have hL' : avL (listNext l) = listNext l := by simp [avL, hd', listNext_twice]
        by_cases h1 : p = 1
        · subst h1
          cases o
          · exact law_start_false v n t l b s im c0 c1 c2 c3 c4 c5 c6 w hs hb hb0 hb1 h5 h6 (listNext l) hL hL' hd hd'
          · exact law_start_true v n t l b s im c0 c1 c2 c3 c4 c5 c6 w hs hb hb0 hb1 h5 h6 (listNext l) hL hL' hd hd'
        by_cases h10 : p = 10
        · subst h10
          cases o
          · exact law_eq_false v n t l b s im c0 c1 c2 c3 c4 c5 c6 w hs hb hb0 hb1 h5 h6 (listNext l) hL hL' hd hd'
          · exact law_eq_true v n t l b s im c0 c1 c2 c3 c4 c5 c6 w hs hb hb0 hb1 h5 h6 (listNext l) hL hL' hd hd'
        by_cases h2 : p = 2
        · subst h2
          cases o
          · exact law_scheme_false v n t l b s im c0 c1 c2 c3 c4 c5 c6 w hs hb hb0 hb1 h5 h6 (listNext l) hL hL' hd hd'
          · exact law_scheme_true v n t l b s im c0 c1 c2 c3 c4 c5 c6 w hs hb hb0 hb1 h5 h6 (listNext l) hL hL' hd hd'
        have q1 : (p == 1) = false := beq_eq_false_iff_ne.2 h1
        have q10 : (p == 10) = false := beq_eq_false_iff_ne.2 h10
        have q2 : (p == 2) = false := beq_eq_false_iff_ne.2 h2
        have qs : startB p = false := by simp [startB, q1, q10]
        have qn : partNext p = p := by simp [partNext, h1, h2]
        cases o
        · exact law_else_false p v n t l b s im c0 c1 c2 c3 c4 c5 c6 w hs hb hb0 hb1 h5 h6 (listNext l) hL hL' hd q1 q10 q2 qs qn
        · exact law_else_true p v n t l b s im c0 c1 c2 c3 c4 c5 c6 w hs hb hb0 hb1 h5 h6 (listNext l) hL hL' hd q1 q10 q2 qs qn
    · exact law_other p v n t l b s im o c0 c1 c2 c3 c4 c5 c6 w hs hb
  · exact law_long p v n t l b s im o c0 c1 c2 c3 c4 c5 c6 w (by omega) hm

theorem list7 {α : Type} (l : List α) (h : l.length = 7) : ∃ a b c d e f g, l = [a, b, c, d, e, f, g] := by
  match l, h with
  | [a, b, c, d, e, f, g], _ => exact ⟨a, b, c, d, e, f, g, rfl⟩
theorem bounds_u8 {x : Int} (h : (Lit.int .u8 x).wf = true) : 0 ≤ x ∧ x ≤ 255 := by
  simp [Lit.wf, IntKind.min, IntKind.max, IntKind.signed, IntKind.bits] at h
  exact ⟨by omega, by omega⟩

set_option maxRecDepth 100000 in
theorem lifted (os : Os) (started : os.Started) (H : Type) (enc : TypeId × Value → H) :
    ReturnsInHanded {} Try.checked os 3 .any (Rows.fnAfterValueReadsAsOneSchemeByteSpec.pre6 enc Try.prog Try.f3 Rows.fnAfterValueReadsAsOneSchemeByteRow.domain false) (Rows.fnAfterValueReadsAsOneSchemeByteSpec.post enc Try.prog Try.f3 false true false false) := by
  refine returnsInHanded_of_change (C := Try.checked) own started (by kernel_rfl) Try.func3
    (ChangeSpec.witness6 (enc := enc) (C := Try.checked) false ⟨#[], #[.int .u8 0, .string ByteArray.empty, .int .u8 0, .bool false, .int .u8 0, .agg #[.int .u8 0, .int .u8 0, .int .u8 0, .int .u8 0, .int .u8 0, .int .u8 0, .int .u8 0], .int .u8 0, .bool false, .int .u8 0, .int .u8 0], []⟩ 8 (by kernel_rfl) (by kernel_rfl) (by kernel_rfl) (by kernel_rfl)) ?_
  intro W base args ds gs before hval0 hW hcnd _
  have hval : ∀ (j : Nat) t v, Try.f3.params[j]? = some t → args[j]? = some v → Value.okWide Try.prog W .any base t v := hval0
  have hW' := hW
  obtain ⟨p, q, hA0, hV, rfl, hfz, hnd⟩ := hW
  have hA : DataW.TrodAll enc Try.prog W 0 (fun _ => true) true Try.f3.params.toList args.toList ds p := hA0
  rw [Try.params3] at hA hval
  obtain ⟨v0, vs0, d0, ds0, p0, q0, hargs, rfl, rfl, h0, r0⟩ := trodAll_cons hA
  obtain ⟨v1, vs1, d1, ds1, p1, q1, rfl, rfl, rfl, h1, r1⟩ := trodAll_cons r0
  obtain ⟨v2, vs2, d2, ds2, p2, q2, rfl, rfl, rfl, h2, r2⟩ := trodAll_cons r1
  obtain ⟨v3, vs3, d3, ds3, p3, q3, rfl, rfl, rfl, h3, r3⟩ := trodAll_cons r2
  obtain ⟨v4, vs4, d4, ds4, p4, q4, rfl, rfl, rfl, h4, r4⟩ := trodAll_cons r3
  obtain ⟨v5, vs5, d5, ds5, p5, q5, rfl, rfl, rfl, h5, r5⟩ := trodAll_cons r4
  obtain ⟨v6, vs6, d6, ds6, p6, q6, rfl, rfl, rfl, h6, r6⟩ := trodAll_cons r5
  obtain ⟨v7, vs7, d7, ds7, p7, q7, rfl, rfl, rfl, h7, r7⟩ := trodAll_cons r6
  obtain ⟨v8, vs8, d8, ds8, p8, q8, rfl, rfl, rfl, h8, r8⟩ := trodAll_cons r7
  obtain ⟨v9, vs9, d9, ds9, p9, q9, rfl, rfl, rfl, h9, r9⟩ := trodAll_cons r8
  obtain ⟨rfl, rfl, rfl⟩ := trodAll_nil r9
  obtain rfl : args = #[v0, v1, v2, v3, v4, v5, v6, v7, v8, v9] := by cases args; simp_all
  obtain ⟨rfl, rfl⟩ := trodVars_none hV
  obtain ⟨a0, rfl, rfl, rfl, w0⟩ := open_int Try.underlying5 (hval 0 5 v0 rfl rfl) h0
  obtain ⟨a1, rfl, rfl, rfl, w1⟩ := open_string Try.underlying9 (hval 1 9 v1 rfl rfl) h1
  obtain ⟨a2, rfl, rfl, rfl, w2⟩ := open_int Try.underlying5 (hval 2 5 v2 rfl rfl) h2
  obtain ⟨a3, rfl, rfl, rfl⟩ := open_bool Try.underlying4 (hval 3 4 v3 rfl rfl) h3
  obtain ⟨a4, rfl, rfl, rfl, w4⟩ := open_int Try.underlying5 (hval 4 5 v4 rfl rfl) h4
  obtain ⟨a6, rfl, rfl, rfl, w6⟩ := open_int Try.underlying5 (hval 6 5 v6 rfl rfl) h6
  obtain ⟨a7, rfl, rfl, rfl⟩ := open_bool Try.underlying4 (hval 7 4 v7 rfl rfl) h7
  obtain ⟨a8, rfl, rfl, rfl, w8⟩ := open_int Try.underlying5 (hval 8 5 v8 rfl rfl) h8
  obtain ⟨a9, rfl, rfl, rfl, w9⟩ := open_int Try.underlying5 (hval 9 5 v9 rfl rfl) h9
  -- the array by value: its cells out of its outer form, its elements out of its reading
  obtain ⟨cs, rfl, hsz, _⟩ : ∃ cs, v5 = .agg cs ∧ cs.size = Try.prog.cellsOf 22 ∧ Row.okWide Try.prog W .any base 22 cs := by
    have := hval 5 22 v5 rfl rfl
    simpa [Value.okWide, Try.underlying22] using this
  rw [cells22] at hsz
  obtain ⟨cl⟩ := cs
  obtain ⟨c0, c1, c2, c3, c4, c5, c6, rfl⟩ := list7 cl hsz
  obtain ⟨fuel, hf⟩ := h5
  obtain ⟨xs, m, _, hx, _, hl, hel⟩ := DataW.trod_array Try.underlying22 hf
  obtain ⟨y0, y1, y2, y3, y4, y5, y6, rfl⟩ := list7 xs hl
  have e0 := hel 0 (by decide)
  have e1 := hel 1 (by decide)
  have e2 := hel 2 (by decide)
  have e3 := hel 3 (by decide)
  have e4 := hel 4 (by decide)
  have e5 := hel 5 (by decide)
  have e6 := hel 6 (by decide)
  simp only [cells5, Value.cells] at e0 e1 e2 e3 e4 e5 e6
  obtain ⟨x0, f0, rfl, u0⟩ := DataW.trod_int Try.underlying5 e0
  obtain ⟨x1, f1, rfl, u1⟩ := DataW.trod_int Try.underlying5 e1
  obtain ⟨x2, f2, rfl, u2⟩ := DataW.trod_int Try.underlying5 e2
  obtain ⟨x3, f3, rfl, u3⟩ := DataW.trod_int Try.underlying5 e3
  obtain ⟨x4, f4, rfl, u4⟩ := DataW.trod_int Try.underlying5 e4
  obtain ⟨x5, f5, rfl, u5⟩ := DataW.trod_int Try.underlying5 e5
  obtain ⟨x6, f6, rfl, u6⟩ := DataW.trod_int Try.underlying5 e6
  simp at f0 f1 f2 f3 f4 f5 f6
  subst f0 f1 f2 f3 f4 f5 f6
  simp at hx
  obtain ⟨rfl, rfl⟩ := hx
  clear hA0 hval0
  refine (walk a0 a2 a4 a6 a8 a9 a1 a3 a7 x0 x1 x2 x3 x4 x5 x6 W w1 (bounds_u8 w9).1 (bounds_u8 w9).2).mono fun e W' ⟨he, bel⟩ => ?_
  subst he
  have rdA : ∀ sp : Nat → Bool, DataW.Trod enc Try.prog W' 0 sp true 22 (.agg #[.int .u8 x0, .int .u8 x1, .int .u8 x2, .int .u8 x3, .int .u8 x4, .int .u8 x5, .int .u8 x6]) (DataW.agg [.lit (.int .u8 x0), .lit (.int .u8 x1), .lit (.int .u8 x2), .lit (.int .u8 x3), .lit (.int .u8 x4), .lit (.int .u8 x5), .lit (.int .u8 x6)]) [] :=
    fun sp => ⟨2, by simp [DataW.trod, Value.cells, Try.underlying22, Try.underlying5, cells22, cells5, u0, u1, u2, u3, u4, u5, u6, show List.range 7 = [0, 1, 2, 3, 4, 5, 6] from rfl]⟩
  exact ⟨_, rfl, _, _, _, [], [], [], hW', trodAll_mk1 (shut_bool Try.underlying4 _), (trodAll_cons_mk (shut_int Try.underlying5 w0) (trodAll_cons_mk (shut_string Try.underlying9 w1) (trodAll_cons_mk (shut_int Try.underlying5 w2) (trodAll_cons_mk (shut_bool Try.underlying4 _) (trodAll_cons_mk (shut_int Try.underlying5 w4) (trodAll_cons_mk (rdA _) (trodAll_cons_mk (shut_int Try.underlying5 w6) (trodAll_cons_mk (shut_bool Try.underlying4 _) (trodAll_cons_mk (shut_int Try.underlying5 w8) (trodAll_cons_mk (shut_int Try.underlying5 w9) trodAll_mk0)))))))))), rfl, bel.frame _, fun h => by cases h⟩

theorem over : Rows.fnAfterValueReadsAsOneSchemeByteRow.holds Try.pinned (OpenSpec.ofChange Rows.fnAfterValueReadsAsOneSchemeByteSpec) :=
  OpenClaim.holds_of_wide 3 Try.f3 rfl rfl rfl rfl rfl rfl rfl ⟨rfl, rfl, rfl, rfl, rfl⟩ rfl rfl rfl rfl rfl (by kernel_rfl) Try.func3 (by kernel_rfl)
    (of_decide_eq_true (by kernel_rfl)) (by unfold Func.isWrapper; first | (rw [if_pos (by decide +kernel)]; kernel_rfl) | (rw [if_neg (by decide +kernel)]; exact ⟨rfl, rfl⟩))
    (fun os started H enc _ => lifted os started H enc)

end Go.Proofs.Qxb6617142a.fnAfterValueReadsAsOneSchemeByte
namespace Go.Proofs.Qxb6617142a

/-- THE STATEMENT -/
theorem afterValue_proved : Rows.FnAfterValueReadsAsOneSchemeByteSaid := fnAfterValueReadsAsOneSchemeByte.over

end Go.Proofs.Qxb6617142a

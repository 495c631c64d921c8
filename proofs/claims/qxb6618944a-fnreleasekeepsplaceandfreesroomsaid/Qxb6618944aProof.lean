/-
  THE LAW's GUARDS, each by a walk; THE STATEMENT.
-/
import Derived.Test.Qxb6618944aLaw
import Derived.ProofKit
import Derived.OpenShut
import Derived.ShutString
import Derived.ChangeOld
namespace Go.Proofs.Qxb6618944a.fnReleaseKeepsPlaceAndFreesRoom
open Go.ChangeShapes Go.WideShapes Go.ChangeAt Go.RowKit
open Go.ChangeMaps (open_string shut_string)
set_option linter.unusedVariables false

theorem own : ownKnob Try.prog.godebug = none := by kernel_rfl
theorem laidOut : laidOutB Try.prog = true := by kernel_rfl

set_option maxHeartbeats 1000000 in
set_option maxRecDepth 100000 in
theorem out_long (a0 : Option Addr) (len cap0 : Nat) (p e ln cl rl : Int) (w : World) (hs : 1048576 < len) (hm : len ≤ maxLen) :
    Calls Try.prog 3 #[.slice a0 len cap0, .int .i64 p, .int .i64 e, .int .i64 ln, .int .i64 cl, .int .i64 rl] w fun e w' => e = .returned (.bool true) ∧ Below w.heap.size w w' := by
  go_enter Try.func3, Try.ntmps3
  go_wp2_with (go_at_call 4; refine (bytes_no a0 len cap0 p e ln cl rl _ hs hm).mono ?_; rintro e w' ⟨rfl, rfl⟩)
  go_ret
  exact ⟨rfl, Below.refl _ _⟩

set_option maxHeartbeats 1000000 in
set_option maxRecDepth 100000 in
theorem out_0 (a0 : Option Addr) (len cap0 : Nat) (p e ln cl rl : Int) (w : World) (hs : len ≤ 1048576)  (h : e < 0) :
    Calls Try.prog 3 #[.slice a0 len cap0, .int .i64 p, .int .i64 e, .int .i64 ln, .int .i64 cl, .int .i64 rl] w fun e w' => e = .returned (.bool true) ∧ Below w.heap.size w w' := by
  go_enter Try.func3, Try.ntmps3
  go_wp2_with (go_at_call 4; refine (bytes_yes a0 len cap0 p e ln cl rl _ hs).mono ?_; rintro e w' ⟨rfl, rfl⟩)
  go_ret
  exact ⟨rfl, Below.refl _ _⟩

set_option maxHeartbeats 1000000 in
set_option maxRecDepth 100000 in
theorem out_1 (a0 : Option Addr) (len cap0 : Nat) (p e ln cl rl : Int) (w : World) (hs : len ≤ 1048576) (g0 : 0 ≤ e) (h : 65536 < e) :
    Calls Try.prog 3 #[.slice a0 len cap0, .int .i64 p, .int .i64 e, .int .i64 ln, .int .i64 cl, .int .i64 rl] w fun e w' => e = .returned (.bool true) ∧ Below w.heap.size w w' := by
  go_enter Try.func3, Try.ntmps3
  go_wp2_with (go_at_call 4; refine (bytes_yes a0 len cap0 p e ln cl rl _ hs).mono ?_; rintro e w' ⟨rfl, rfl⟩)
  go_ret
  exact ⟨rfl, Below.refl _ _⟩

set_option maxHeartbeats 1000000 in
set_option maxRecDepth 100000 in
theorem out_2 (a0 : Option Addr) (len cap0 : Nat) (p e ln cl rl : Int) (w : World) (hs : len ≤ 1048576) (g0 : 0 ≤ e) (g1 : e ≤ 65536) (h : p < 0) :
    Calls Try.prog 3 #[.slice a0 len cap0, .int .i64 p, .int .i64 e, .int .i64 ln, .int .i64 cl, .int .i64 rl] w fun e w' => e = .returned (.bool true) ∧ Below w.heap.size w w' := by
  go_enter Try.func3, Try.ntmps3
  go_wp2_with (go_at_call 4; refine (bytes_yes a0 len cap0 p e ln cl rl _ hs).mono ?_; rintro e w' ⟨rfl, rfl⟩)
  go_ret
  exact ⟨rfl, Below.refl _ _⟩

set_option maxHeartbeats 1000000 in
set_option maxRecDepth 100000 in
theorem out_3 (a0 : Option Addr) (len cap0 : Nat) (p e ln cl rl : Int) (w : World) (hs : len ≤ 1048576) (g0 : 0 ≤ e) (g1 : e ≤ 65536) (g2 : 0 ≤ p) (h : (len : Int) < p) :
    Calls Try.prog 3 #[.slice a0 len cap0, .int .i64 p, .int .i64 e, .int .i64 ln, .int .i64 cl, .int .i64 rl] w fun e w' => e = .returned (.bool true) ∧ Below w.heap.size w w' := by
  go_enter Try.func3, Try.ntmps3
  go_wp2_with (go_at_call 4; refine (bytes_yes a0 len cap0 p e ln cl rl _ hs).mono ?_; rintro e w' ⟨rfl, rfl⟩)
  go_ret
  exact ⟨rfl, Below.refl _ _⟩

set_option maxHeartbeats 1000000 in
set_option maxRecDepth 100000 in
theorem out_4 (a0 : Option Addr) (len cap0 : Nat) (p e ln cl rl : Int) (w : World) (hs : len ≤ 1048576) (g0 : 0 ≤ e) (g1 : e ≤ 65536) (g2 : 0 ≤ p) (g3 : p ≤ (len : Int)) (h : ln < 1) :
    Calls Try.prog 3 #[.slice a0 len cap0, .int .i64 p, .int .i64 e, .int .i64 ln, .int .i64 cl, .int .i64 rl] w fun e w' => e = .returned (.bool true) ∧ Below w.heap.size w w' := by
  go_enter Try.func3, Try.ntmps3
  go_wp2_with (go_at_call 4; refine (bytes_yes a0 len cap0 p e ln cl rl _ hs).mono ?_; rintro e w' ⟨rfl, rfl⟩)
  go_ret
  exact ⟨rfl, Below.refl _ _⟩

set_option maxHeartbeats 1000000 in
set_option maxRecDepth 100000 in
theorem out_5 (a0 : Option Addr) (len cap0 : Nat) (p e ln cl rl : Int) (w : World) (hs : len ≤ 1048576) (g0 : 0 ≤ e) (g1 : e ≤ 65536) (g2 : 0 ≤ p) (g3 : p ≤ (len : Int)) (g4 : 1 ≤ ln) (h : 1073741824 < ln) :
    Calls Try.prog 3 #[.slice a0 len cap0, .int .i64 p, .int .i64 e, .int .i64 ln, .int .i64 cl, .int .i64 rl] w fun e w' => e = .returned (.bool true) ∧ Below w.heap.size w w' := by
  go_enter Try.func3, Try.ntmps3
  go_wp2_with (go_at_call 4; refine (bytes_yes a0 len cap0 p e ln cl rl _ hs).mono ?_; rintro e w' ⟨rfl, rfl⟩)
  go_ret
  exact ⟨rfl, Below.refl _ _⟩

set_option maxHeartbeats 1000000 in
set_option maxRecDepth 100000 in
theorem out_6 (a0 : Option Addr) (len cap0 : Nat) (p e ln cl rl : Int) (w : World) (hs : len ≤ 1048576) (g0 : 0 ≤ e) (g1 : e ≤ 65536) (g2 : 0 ≤ p) (g3 : p ≤ (len : Int)) (g4 : 1 ≤ ln) (g5 : ln ≤ 1073741824) (h : cl < 1) :
    Calls Try.prog 3 #[.slice a0 len cap0, .int .i64 p, .int .i64 e, .int .i64 ln, .int .i64 cl, .int .i64 rl] w fun e w' => e = .returned (.bool true) ∧ Below w.heap.size w w' := by
  go_enter Try.func3, Try.ntmps3
  go_wp2_with (go_at_call 4; refine (bytes_yes a0 len cap0 p e ln cl rl _ hs).mono ?_; rintro e w' ⟨rfl, rfl⟩)
  go_ret
  exact ⟨rfl, Below.refl _ _⟩

set_option maxHeartbeats 1000000 in
set_option maxRecDepth 100000 in
theorem out_7 (a0 : Option Addr) (len cap0 : Nat) (p e ln cl rl : Int) (w : World) (hs : len ≤ 1048576) (g0 : 0 ≤ e) (g1 : e ≤ 65536) (g2 : 0 ≤ p) (g3 : p ≤ (len : Int)) (g4 : 1 ≤ ln) (g5 : ln ≤ 1073741824) (g6 : 1 ≤ cl) (h : 1073741824 < cl) :
    Calls Try.prog 3 #[.slice a0 len cap0, .int .i64 p, .int .i64 e, .int .i64 ln, .int .i64 cl, .int .i64 rl] w fun e w' => e = .returned (.bool true) ∧ Below w.heap.size w w' := by
  go_enter Try.func3, Try.ntmps3
  go_wp2_with (go_at_call 4; refine (bytes_yes a0 len cap0 p e ln cl rl _ hs).mono ?_; rintro e w' ⟨rfl, rfl⟩)
  go_ret
  exact ⟨rfl, Below.refl _ _⟩

set_option maxHeartbeats 1000000 in
set_option maxRecDepth 100000 in
theorem out_8 (a0 : Option Addr) (len cap0 : Nat) (p e ln cl rl : Int) (w : World) (hs : len ≤ 1048576) (g0 : 0 ≤ e) (g1 : e ≤ 65536) (g2 : 0 ≤ p) (g3 : p ≤ (len : Int)) (g4 : 1 ≤ ln) (g5 : ln ≤ 1073741824) (g6 : 1 ≤ cl) (g7 : cl ≤ 1073741824) (h : rl < 0) :
    Calls Try.prog 3 #[.slice a0 len cap0, .int .i64 p, .int .i64 e, .int .i64 ln, .int .i64 cl, .int .i64 rl] w fun e w' => e = .returned (.bool true) ∧ Below w.heap.size w w' := by
  go_enter Try.func3, Try.ntmps3
  go_wp2_with (go_at_call 4; refine (bytes_yes a0 len cap0 p e ln cl rl _ hs).mono ?_; rintro e w' ⟨rfl, rfl⟩)
  go_ret
  exact ⟨rfl, Below.refl _ _⟩

set_option maxHeartbeats 1000000 in
set_option maxRecDepth 100000 in
theorem out_9 (a0 : Option Addr) (len cap0 : Nat) (p e ln cl rl : Int) (w : World) (hs : len ≤ 1048576) (g0 : 0 ≤ e) (g1 : e ≤ 65536) (g2 : 0 ≤ p) (g3 : p ≤ (len : Int)) (g4 : 1 ≤ ln) (g5 : ln ≤ 1073741824) (g6 : 1 ≤ cl) (g7 : cl ≤ 1073741824) (g8 : 0 ≤ rl) (h : 1073741824 < rl) :
    Calls Try.prog 3 #[.slice a0 len cap0, .int .i64 p, .int .i64 e, .int .i64 ln, .int .i64 cl, .int .i64 rl] w fun e w' => e = .returned (.bool true) ∧ Below w.heap.size w w' := by
  go_enter Try.func3, Try.ntmps3
  go_wp2_with (go_at_call 4; refine (bytes_yes a0 len cap0 p e ln cl rl _ hs).mono ?_; rintro e w' ⟨rfl, rfl⟩)
  go_ret
  exact ⟨rfl, Below.refl _ _⟩

/-- WHAT THE WALK IS TOLD OF A SLICE OF INTEGERS THAT CAME IN (the given shell's own word). -/
def IsRow (k : IntKind) (w : World) (a : Option Addr) (len cap : Nat) (zs : List Int) : Prop :=
  (a = none ∧ len = 0 ∧ cap = 0 ∧ zs = []) ∨
  ∃ x, a = some x ∧ len ≤ cap ∧ cap ≤ maxLen ∧ zs.length = cap ∧ (∀ i, i < zs.length → w.cell? (x.add i) = some (.int k (zs.getD i 0))) ∧ ∀ n ∈ zs, (Lit.int k n).wf = true

/-- The bytes of a slice that came in. -/
def bytesIn (zs : List Int) (len : Nat) : List UInt8 := (zs.take len).map fun n => n.toNat.toUInt8

theorem byte_back {n : Int} (h : (Lit.int .u8 n).wf = true) : (n.toNat.toUInt8.toNat : Int) = n := by
  simp [Lit.wf, IntKind.min, IntKind.max, IntKind.signed, IntKind.bits] at h
  simp [Nat.toUInt8]
  omega

theorem data_of {w : World} {a : Option Addr} {len cap : Nat} {zs : List Int} (h : IsRow .u8 w a len cap zs) :
    DataAt w a (bytesIn zs len) ∧ (bytesIn zs len).length = len ∧ len ≤ cap ∧ len ≤ maxLen := by
  rcases h with ⟨rfl, rfl, rfl, rfl⟩ | ⟨x, rfl, hlc, hcm, hz, hcell, hwf⟩
  · exact ⟨fun h => absurd h (by simp [bytesIn]), rfl, Nat.le_refl _, Nat.zero_le _⟩
  · have hl : (bytesIn zs len).length = len := by simp [bytesIn]; omega
    refine ⟨fun h => ?_, hl, hlc, Nat.le_trans hlc hcm⟩
    rw [hl] at h
    obtain ⟨b, off, rfl, hc⟩ := ints_at hcell (by omega)
    refine ⟨b, off, rfl, fun j hj => ?_⟩
    rw [hl] at hj
    have hj' : j < zs.length := by omega
    rw [hc j hj']
    have e : nb (bytesIn zs len) j = (zs[j].toNat.toUInt8).toNat := by
      rw [nb_getElem _ j (by rw [hl]; exact hj)]
      simp [bytesIn]
    rw [e, byte_back (hwf zs[j] (List.getElem_mem hj'))]
    simp [List.getD, List.getElem?_eq_getElem hj']

/-- THE WALK, whatever the input. -/
theorem walk (a0 : Option Addr) (len0 cap0 : Nat) (z0 : List Int) (a1 : Int) (a2 : Int) (a3 : Int) (a4 : Int) (a5 : Int) (w : World) (w0 : IsRow .u8 w a0 len0 cap0 z0) (w1 : (Lit.int .i64 a1).wf = true) (w2 : (Lit.int .i64 a2).wf = true) (w3 : (Lit.int .i64 a3).wf = true) (w4 : (Lit.int .i64 a4).wf = true) (w5 : (Lit.int .i64 a5).wf = true) :
    Calls Try.prog 3 #[.slice a0 len0 cap0, .int .i64 a1, .int .i64 a2, .int .i64 a3, .int .i64 a4, .int .i64 a5] w fun e w' => e = .returned (.bool true) ∧ Below w.heap.size w w' := by
  obtain ⟨hd, hL, hlc, hm⟩ := data_of w0
  by_cases hs : len0 ≤ 1048576
  · by_cases h0 : a2 < 0
    · exact out_0 a0 len0 cap0 a1 a2 a3 a4 a5 w hs h0
    by_cases h1 : 65536 < a2
    · exact out_1 a0 len0 cap0 a1 a2 a3 a4 a5 w hs (by omega) h1
    by_cases h2 : a1 < 0
    · exact out_2 a0 len0 cap0 a1 a2 a3 a4 a5 w hs (by omega) (by omega) h2
    by_cases h3 : (len0 : Int) < a1
    · exact out_3 a0 len0 cap0 a1 a2 a3 a4 a5 w hs (by omega) (by omega) (by omega) h3
    by_cases h4 : a3 < 1
    · exact out_4 a0 len0 cap0 a1 a2 a3 a4 a5 w hs (by omega) (by omega) (by omega) (by omega) h4
    by_cases h5 : 1073741824 < a3
    · exact out_5 a0 len0 cap0 a1 a2 a3 a4 a5 w hs (by omega) (by omega) (by omega) (by omega) (by omega) h5
    by_cases h6 : a4 < 1
    · exact out_6 a0 len0 cap0 a1 a2 a3 a4 a5 w hs (by omega) (by omega) (by omega) (by omega) (by omega) (by omega) h6
    by_cases h7 : 1073741824 < a4
    · exact out_7 a0 len0 cap0 a1 a2 a3 a4 a5 w hs (by omega) (by omega) (by omega) (by omega) (by omega) (by omega) (by omega) h7
    by_cases h8 : a5 < 0
    · exact out_8 a0 len0 cap0 a1 a2 a3 a4 a5 w hs (by omega) (by omega) (by omega) (by omega) (by omega) (by omega) (by omega) (by omega) h8
    by_cases h9 : 1073741824 < a5
    · exact out_9 a0 len0 cap0 a1 a2 a3 a4 a5 w hs (by omega) (by omega) (by omega) (by omega) (by omega) (by omega) (by omega) (by omega) (by omega) h9
    obtain ⟨pos, rfl⟩ := Int.eq_ofNat_of_zero_le (show 0 ≤ a1 by omega)
    obtain ⟨E, rfl⟩ := Int.eq_ofNat_of_zero_le (show 0 ≤ a2 by omega)
    exact law_core a0 len0 cap0 pos E (bytesIn z0 len0) a3 a4 a5 w hd hL hlc hs (by omega) (by omega) (by omega) (by omega) (by omega) (by omega) (by omega) (by omega)
  · exact out_long a0 len0 cap0 a1 a2 a3 a4 a5 w (by omega) hm

set_option maxRecDepth 100000 in
theorem lifted (os : Os) (started : os.Started) (H : Type) (enc : TypeId × Value → H) :
    ReturnsInHanded {} Try.checked os 3 .any (Rows.fnReleaseKeepsPlaceAndFreesRoomSpec.pre6 enc Try.prog Try.f3 Rows.fnReleaseKeepsPlaceAndFreesRoomRow.domain false) (Rows.fnReleaseKeepsPlaceAndFreesRoomSpec.post enc Try.prog Try.f3 false true false false) := by
  refine returnsInHanded_of_change (C := Try.checked) own started (by kernel_rfl) Try.func3
    (ChangeSpec.witness6 (enc := enc) (C := Try.checked) false ⟨#[], #[.slice none 0 0, .int .i64 0, .int .i64 0, .int .i64 0, .int .i64 0, .int .i64 0], []⟩ 8 (by kernel_rfl) (by kernel_rfl) (by kernel_rfl) (by kernel_rfl)) ?_
  intro W base args ds gs before hval0 hW hcnd _
  have hval : ∀ (j : Nat) t v, Try.f3.params[j]? = some t → args[j]? = some v → Value.okWide Try.prog W .any base t v := hval0
  have hW' := hW
  obtain ⟨p, q, hA0, hV, rfl, hfz, hnd⟩ := hW
  have hA : DataW.TrodAll enc Try.prog W 0 (fun _ => true) true Try.f3.params.toList args.toList ds p := hA0
  rw [Try.params3] at hA hval
  obtain ⟨v0, vs0, d0, ds0, p0, q0, hargs, rfl, rfl, h0, r0⟩ := trodAll_cons hA
  obtain ⟨v1, vs1, d1, ds1, p1, q1, rfl, rfl, rfl, h1, r1⟩ := trodAll_cons r0
  obtain ⟨v2, vs2, d2, ds2, p2, q2, rfl, rfl, rfl, h2, r2⟩ := trodAll_cons r1
  obtain ⟨v3, vs3, d3, ds3, p3, q3, rfl, rfl, rfl, h3, r3⟩ := trodAll_cons r2
  obtain ⟨v4, vs4, d4, ds4, p4, q4, rfl, rfl, rfl, h4, r4⟩ := trodAll_cons r3
  obtain ⟨v5, vs5, d5, ds5, p5, q5, rfl, rfl, rfl, h5, r5⟩ := trodAll_cons r4
  obtain ⟨rfl, rfl, rfl⟩ := trodAll_nil r5
  obtain rfl : args = #[v0, v1, v2, v3, v4, v5] := by cases args; simp_all
  obtain ⟨rfl, rfl⟩ := trodVars_none hV
  obtain ⟨a0, len0, cap0, rfl⟩ := okWide_slice Try.underlying22 (hval 0 22 v0 rfl rfl)
  have k0 := h0
  have lt0 : ∀ x ∈ p0, x.block < W.heap.size := by obtain ⟨m, hm⟩ := k0; exact DataW.trod_lt m _ _ _ hm
  obtain ⟨z0, w0⟩ : ∃ zs, IsRow .u8 W a0 len0 cap0 zs := by
    obtain ⟨fuel, hf⟩ := h0
    rcases open_ints Try.underlying22 Try.underlying5 (by kernel_rfl) hf with ⟨hcs, _⟩ | ⟨x, l, c, zs, hcs, _, hl, hm, hz, _, hcell, hwz⟩
    · simp [Value.cells] at hcs
      obtain ⟨rfl, rfl, rfl⟩ := hcs
      exact ⟨[], .inl ⟨rfl, rfl, rfl, rfl⟩⟩
    · simp [Value.cells] at hcs
      obtain ⟨rfl, rfl, rfl⟩ := hcs
      exact ⟨zs, .inr ⟨_, rfl, hl, hm, by simpa using hz, hcell, hwz⟩⟩
  obtain ⟨a1, rfl, rfl, rfl, w1⟩ := open_int Try.underlying3 (hval 1 3 v1 rfl rfl) h1
  obtain ⟨a2, rfl, rfl, rfl, w2⟩ := open_int Try.underlying3 (hval 2 3 v2 rfl rfl) h2
  obtain ⟨a3, rfl, rfl, rfl, w3⟩ := open_int Try.underlying3 (hval 3 3 v3 rfl rfl) h3
  obtain ⟨a4, rfl, rfl, rfl, w4⟩ := open_int Try.underlying3 (hval 4 3 v4 rfl rfl) h4
  obtain ⟨a5, rfl, rfl, rfl, w5⟩ := open_int Try.underlying3 (hval 5 3 v5 rfl rfl) h5
  clear hA0 hval0
  refine (walk a0 len0 cap0 z0 a1 a2 a3 a4 a5 W w0 w1 w2 w3 w4 w5).mono fun e W' ⟨he, bel⟩ => ?_
  subst he
  exact ⟨_, rfl, _, _, _, [], _, [], hW', trodAll_mk1 (shut_bool Try.underlying4 _), (trodAll_cons_mk (Below.trod laidOut (by kernel_rfl) (of_decide_eq_true (by kernel_rfl)) k0 bel lt0) (trodAll_cons_mk (shut_int Try.underlying3 w1) (trodAll_cons_mk (shut_int Try.underlying3 w2) (trodAll_cons_mk (shut_int Try.underlying3 w3) (trodAll_cons_mk (shut_int Try.underlying3 w4) (trodAll_cons_mk (shut_int Try.underlying3 w5) trodAll_mk0)))))), rfl, bel.frame _, fun h => by cases h⟩

theorem over : Rows.fnReleaseKeepsPlaceAndFreesRoomRow.holds Try.pinned (OpenSpec.ofChange Rows.fnReleaseKeepsPlaceAndFreesRoomSpec) :=
  OpenClaim.holds_of_wide 3 Try.f3 rfl rfl rfl rfl rfl rfl rfl ⟨rfl, rfl, rfl, rfl, rfl⟩ rfl rfl rfl rfl rfl (by kernel_rfl) Try.func3 (by kernel_rfl)
    (of_decide_eq_true (by kernel_rfl)) (by unfold Func.isWrapper; first | (rw [if_pos (by decide +kernel)]; kernel_rfl) | (rw [if_neg (by decide +kernel)]; exact ⟨rfl, rfl⟩))
    (fun os started H enc _ => lifted os started H enc)

end Go.Proofs.Qxb6618944a.fnReleaseKeepsPlaceAndFreesRoom
namespace Go.Proofs.Qxb6618944a

/-- THE STATEMENT -/
theorem release_proved : Rows.FnReleaseKeepsPlaceAndFreesRoomSaid := fnReleaseKeepsPlaceAndFreesRoom.over

end Go.Proofs.Qxb6618944a

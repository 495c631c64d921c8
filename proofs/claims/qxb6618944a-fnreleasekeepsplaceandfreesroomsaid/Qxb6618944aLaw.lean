/-
  THE LAW's WALK: FnReleaseKeepsPlaceAndFreesRoom returns true.
-/
import Derived.Test.Qxb6618944aHolds
namespace Go.Proofs.Qxb6618944a
open Go.RowKit

set_option maxHeartbeats 1000000 in
theorem bytes_yes (a : Option Addr) (len cap : Nat) (p e ln cl rl : Int) (w : World) (h : len ≤ 1048576) :
    Calls Try.prog 4 #[.slice a len cap, .int .i64 p, .int .i64 e, .int .i64 ln, .int .i64 cl, .int .i64 rl] w fun e w' => e = .returned (.bool true) ∧ w' = w := by
  go_enter Try.func4, Try.ntmps4
  go_wp2
  all_goals
    go_ret
    exact ⟨rfl, rfl⟩
set_option maxHeartbeats 1000000 in
theorem bytes_no (a : Option Addr) (len cap : Nat) (p e ln cl rl : Int) (w : World) (h : 1048576 < len) (hm : len ≤ maxLen) :
    Calls Try.prog 4 #[.slice a len cap, .int .i64 p, .int .i64 e, .int .i64 ln, .int .i64 cl, .int .i64 rl] w fun e w' => e = .returned (.bool false) ∧ w' = w := by
  unfold maxLen at hm
  go_enter Try.func4, Try.ntmps4
  go_wp2
  all_goals
    go_ret
    exact ⟨rfl, rfl⟩

/-- The scanner's block. -/
def scanBlock (dv : Value) (p rb : Value) (sz ln cl rl : Int) : Obj := .cells #[dv, p, .int .i64 0, .iface 27 rb, .nilIface, .int .i64 sz, .int .i64 ln, .int .i64 cl, .int .i64 rl, .slice none 0 0] 35

set_option maxHeartbeats 1000000 in
/-- ZZnewReading. -/
theorem new_any (a : Option Addr) (n c : Nat) (p sz ln cl rl : Int) (w : World) :
    Calls Try.prog 5 #[.slice a n c, .int .i64 p, .int .i64 sz, .int .i64 ln, .int .i64 cl, .int .i64 rl] w fun e w' =>
      e = .returned (.pointer (some ⟨w.heap.size + 1, 0, none⟩)) ∧ w' = (w.alloc (.cells #[.slice none 0 0, .int .i64 0, .int .i64 (-1)] 43)).alloc (scanBlock (.slice a n c) (.int .i64 p) (.pointer (some ⟨w.heap.size, 0, none⟩)) sz ln cl rl) := by
  unfold scanBlock
  go_enter Try.func5, Try.ntmps5
  go_wp2
  go_ret
  exact ⟨rfl, rfl⟩

theorem info5' : Try.prog.info? 5 = some Try.t5 := by kernel_rfl

/-- make([]byte, n, R). -/
theorem made (w : World) (n R : Nat) (c : Int) (hc : c = (R : Int)) (h : n ≤ R) (hR : R ≤ 1114112) :
    ∃ (WA : World) (Z : List Value), (Instr.makeSlice 22 (.int .i64 (n : Int)) (.int .i64 c)).run Try.prog w = .ok (.slice (some ⟨w.heap.size, 0, none⟩) n R) WA ∧
      WA.heap[w.heap.size]? = some (.cells Z.toArray 5 (0, 0)) ∧ Z.length = R ∧ Below w.heap.size w WA ∧ WA.heap.size = w.heap.size + 1 := by
  subst hc
  have hr := run_make (P := Try.prog) w 22 5 Try.t5 (.int .u8 0) Try.underlying22 info5' rfl .i64 .i64 (n : Int) (R : Int) (by omega) (by omega) (by show (1 : Int) * (R : Int) ≤ _; omega) (by omega)
  rw [Int.toNat_natCast, Int.toNat_natCast] at hr
  refine ⟨_, (madeCells (Value.int .u8 0).cells (R * Try.t5.size)).toList, hr, ?_, ?_, (Below.refl _ w).alloc (Nat.le_refl _) _, by simp⟩
  · simpa using heap_alloc_new w _
  · have : (madeCells (Value.int IntKind.u8 0).cells (R * Try.t5.size)).size = R := by rw [size_madeCells]; show R * 1 = R; omega
    simpa using this

theorem DataAt.below {w w' : World} {a : Option Addr} {l : List UInt8} (h : DataAt w a l) (hb : Below w.heap.size w w') : DataAt w' a l := fun hl => by
  obtain ⟨b, o, rfl, hr⟩ := h hl
  exact ⟨b, o, rfl, hr.below hb⟩
theorem Row.src {w : World} {b o : Nat} {l : List UInt8} (h : Row w b o l) : ∀ j v, (bc l)[j]? = some v → w.cell? ((⟨b, o, none⟩ : Addr).add j) = some v := fun j v hv => by
  obtain ⟨hj, rfl⟩ := bc_get hv
  have e : (⟨b, o, none⟩ : Addr).add j = ⟨b, o + j, none⟩ := by unfold Addr.add; split <;> simp_all
  rw [e]
  exact h j hj

/-- copy(d, data): d of the call's own, just made. -/
theorem copied (w WA : World) (g n R cap : Nat) (a : Option Addr) (L : List UInt8) (Z : List Value) (hn : L.length = n) (hg : WA.heap[g]? = some (.cells Z.toArray 5 (0, 0))) (hZ : Z.length = R) (hR : n ≤ R) (hd : DataAt WA a L) (hb : Below g w WA) :
    ∃ WB, (∀ ty, (Builtin.copy_ #[22, 22] ty #[.slice (some ⟨g, 0, none⟩) n R, .slice a n cap]).run Try.prog WA = .ok (.int .i64 (n : Int)) WB) ∧
      WB.heap[g]? = some (.cells (bc L ++ Z.drop n).toArray 5 (0, 0)) ∧ Below g w WB ∧ WB.heap.size = WA.heap.size := by
  subst hn
  by_cases h : 0 < L.length
  · obtain ⟨b, o, rfl, hr⟩ := hd h
    refine ⟨_, fun ty => by
      have := run_copy_row (P := Try.prog) WA 22 22 ty 5 g 0 L.length R ⟨b, o, none⟩ L.length cap Z.toArray 5 (bc L) Try.underlying22 info5 hg (by rw [bc_length]; exact (Nat.min_self _).symm) hr.src (by rw [bc_length]; simpa [hZ] using hR) (bc_one L)
      rw [bc_length] at this
      exact this, ?_, below_setRow hb (Nat.le_refl _) _, by simp [World.setRow]⟩
    simpa using setRow_heap WA g _ _ 5 _ hg
  · have h0 : L = [] := List.eq_nil_of_length_eq_zero (by omega)
    subst h0
    exact ⟨WA, fun ty => run_copy_none (P := Try.prog) WA 22 22 ty 5 _ a _ _ _ cap Try.underlying22 info5 (by simp), by simpa [bc] using hg, hb, rfl⟩

set_option maxHeartbeats 1000000 in
set_option maxRecDepth 100000 in
theorem law_core (a0 : Option Addr) (len cap0 pos E : Nat) (L : List UInt8) (ln cl rl : Int) (w : World) (hd : Hid (DataAt w a0 L)) (hL : Hid (L.length = len)) (hlc : len ≤ cap0) (hs : len ≤ 1048576) (hE : E ≤ 65536) (hp : pos ≤ len)
    (h1 : 1 ≤ ln) (h2 : ln ≤ 1073741824) (h3 : 1 ≤ cl) (h4 : cl ≤ 1073741824) (h5 : 0 ≤ rl) (h6 : rl ≤ 1073741824) :
    Calls Try.prog 3 #[.slice a0 len cap0, .int .i64 pos, .int .i64 E, .int .i64 ln, .int .i64 cl, .int .i64 rl] w fun e w' => e = .returned (.bool true) ∧ Below w.heap.size w w' := by
  obtain ⟨R, hR⟩ : ∃ R, R = len + E := ⟨_, rfl⟩
  have hRi : (len : Int) + (E : Int) = (R : Int) := by omega
  obtain ⟨WA, Z, hmk, hgA, hZ, hbA, hzA⟩ := made w len R ((len : Int) + (E : Int)) hRi (by omega) (by omega)
  obtain ⟨WB, hcp, hgB, hbB, hzB⟩ := copied w WA w.heap.size len R cap0 a0 L Z hL.out hgA hZ (by omega) (hd.out.below hbA) hbA
  have hlR : len ≤ R := by omega
  have HRI := hid hRi
  have HR := hid hR
  have HGB := hid hgB
  have HBB := hid hbB
  have HZB : Hid (WB.heap.size = w.heap.size + 1) := by rw [hzB]; exact hzA
  have HZ := hid hZ
  clear hR hRi hgA hbA hzA hgB hbB hzB hZ
  go_enter Try.func3, Try.ntmps3
  go_wp2_with fail
  refine (bytes_yes a0 len cap0 pos E ln cl rl _ hs).mono ?_
  rintro e w1 ⟨rfl, h1'⟩
  subst w1
  go_wp2_with fail
  refine (new_any (some ⟨w.heap.size, 0, none⟩) len R pos _ ln cl rl WB).mono ?_
  rintro e WC ⟨rfl, hWC⟩
  obtain ⟨g, hg⟩ : ∃ g, g = w.heap.size := ⟨_, rfl⟩
  obtain ⟨sb, hsb⟩ : ∃ sb, sb = WB.heap.size + 1 := ⟨_, rfl⟩
  rw [← hsb]
  have hgB : g < WB.heap.size := by rw [HZB.out]; omega
  have hBC : Below WB.heap.size WB WC := by
    rw [hWC]
    exact ((Below.refl _ WB).alloc (Nat.le_refl _) _).alloc (by simp) _
  have hne : sb ≠ g := by omega
  have hsc : WC.heap[sb]? = some (scanBlock (.slice (some ⟨g, 0, none⟩) len R) (.int .i64 pos) (.pointer (some ⟨WB.heap.size, 0, none⟩)) ((len : Int) + (E : Int)) ln cl rl) := by
    rw [hWC, hsb, hg]
    have := heap_alloc_new (WB.alloc (.cells #[.slice none 0 0, .int .i64 0, .int .i64 (-1)] 43)) (scanBlock (.slice (some ⟨w.heap.size, 0, none⟩) len R) (.int .i64 pos) (.pointer (some ⟨WB.heap.size, 0, none⟩)) ((len : Int) + (E : Int)) ln cl rl)
    simpa using this
  have c0 : WC.cell? ⟨sb, 0, none⟩ = some (.slice (some ⟨g, 0, none⟩) len R) := by simp [World.cell?, hsc, scanBlock]
  have c1 : WC.cell? ⟨sb, 1, none⟩ = some (.int .i64 (pos : Int)) := by simp [World.cell?, hsc, scanBlock]
  have c3 : WC.cell? ⟨sb, 3, none⟩ = some (.iface 27 (.pointer (some ⟨WB.heap.size, 0, none⟩))) := by simp [World.cell?, hsc, scanBlock]
  have c6 : WC.cell? ⟨sb, 6, none⟩ = some (.int .i64 ln) := by simp [World.cell?, hsc, scanBlock]
  have c7 : WC.cell? ⟨sb, 7, none⟩ = some (.int .i64 cl) := by simp [World.cell?, hsc, scanBlock]
  have c8 : WC.cell? ⟨sb, 8, none⟩ = some (.int .i64 rl) := by simp [World.cell?, hsc, scanBlock]
  have fz : ∀ k, WC.frozen? ⟨sb, k, none⟩ = false := fun k => by simp [World.frozen?, hsc, scanBlock]
  have hgC : WC.heap[g]? = some (.cells (bc L ++ Z.drop len).toArray 5 (0, 0)) := by
    rw [hBC.block g hgB, hg]
    exact HGB.out
  have hrC : Row WC g 0 L := Row.of_block hgC
  have hwC : Below w.heap.size w WC := HBB.out.trans (hBC.mono (by rw [HZB.out]; omega))
  have hdC : DataAt WC a0 L := hd.out.below hwC
  have hcl : (bc L ++ Z.drop len).length = R := by rw [List.length_append, bc_length, List.length_drop, hL.out, HZ.out]; omega
  obtain ⟨q, hq⟩ : ∃ q, placeL (L.take pos) ln cl = q := ⟨_, rfl⟩
  have HQ := hid hq
  have HRC := hid hrC
  have HGC := hid hgC
  have HWC := hid hwC
  have HDC := hid hdC
  have HCL := hid hcl
  have f0 := fz 0
  have f1 := fz 1
  have f6 := fz 6
  have f7 := fz 7
  have f8 := fz 8
  have hBg : w.heap.size ≤ g := by omega
  have hBs : w.heap.size ≤ sb := by omega
  clear hq hrC hgC hwC hdC hcl fz hsc hBC hWC hsb hg hgB hmk hcp
  by_cases hrm : 2 * (pos : Int) < (R : Int)
  · go_wp2_with fail
    refine (rel_stay sb g len R pos _ _ c0 c1 c3 (by omega) hrm).mono ?_
    rintro e W' ⟨rfl, n, hW'⟩
    subst W'
    go_wp2_with fail
    refine (holds_any sb g pos len R pos cap0 _ a0 L L ln cl ln cl rl rl q len _ (by exact c0) (by exact c1) (by exact c6) (by exact c7) (by exact c8) hL hL hp hlR hp hlc hs hs (hid rfl) (by exact HRC.out) (by exact HDC.out) (by omega) h2 (by omega) h4 h5 h6 (hid rfl) h5 (by omega) (.inl ⟨by omega, h2, by omega, h4⟩) HQ HQ (.inr (by have := HRI.out; omega))).mono ?_
    rintro e W2 ⟨rfl, n2, hW2⟩
    subst W2
    go_wp2
    go_ret
    exact ⟨rfl, below_drewN HWC.out _⟩
  · go_wp2_with fail
    refine (rel_move sb g len R pos L (bc L ++ Z.drop len) _ ln cl rl q _ c0 c1 c3 c6 c7 c8 f0 f1 f6 f7 f8 hp hlR hs hL (by omega) h2 (by omega) h4 h5 h6 HRC HGC HCL.out hne HQ w.heap.size hBg hBs (by omega)).mono ?_
    rintro e W' ⟨rfl, hbW, d0, d1, d6, d7, d8, hrW⟩
    have HBW : Hid (Below w.heap.size w W') := HWC.out.trans hbW
    have HRW := hid hrW
    have HDW := hid (hd.out.below HBW.out)
    clear hbW hrW c0 c1 c3 c6 c7 c8 f0 f1 f6 f7 f8
    go_wp2_with fail
    refine (holds_any sb g 0 (len - pos) R pos cap0 _ a0 L (L.drop pos) ln cl q.1 q.2 rl (rl + pos) q len _ d0 d1 d6 d7 d8 (hid (by rw [List.length_drop, hL.out])) hL (by omega) (by omega) hp hlc hs (by omega) (hid (by rw [List.drop_zero])) HRW HDW (by omega) h2 (by omega) h4 h5 h6 (hid (by omega)) (by omega) (by omega) (.inr rfl) HQ (hid rfl) (.inl rfl)).mono ?_
    rintro e W2 ⟨rfl, n2, hW2⟩
    subst W2
    go_wp2
    go_ret
    exact ⟨rfl, below_drewN HBW.out _⟩

end Go.Proofs.Qxb6618944a

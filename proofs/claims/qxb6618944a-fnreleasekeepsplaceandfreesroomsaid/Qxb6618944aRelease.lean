/-
  Scanner.Release.
-/
import Derived.Test.Qxb6618944aScan
import Derived.Deep.RegionHeld3
import Derived.BigRegion
import Derived.Laws.CopyOwn
namespace Go.Proofs.Qxb6618944a
open Go.RowKit

set_option maxHeartbeats 2000000 in
set_option maxRecDepth 100000 in
/-- Less than half the room is read: nothing turns. -/
theorem rel_stay (sb g len cap pos : Nat) (x : Value) (w : World)
    (c0 : w.cell? ⟨sb, 0, none⟩ = some (.slice (some ⟨g, 0, none⟩) len cap)) (c1 : w.cell? ⟨sb, 1, none⟩ = some (.int .i64 (pos : Int))) (c3 : w.cell? ⟨sb, 3, none⟩ = some (.iface 27 x))
    (hp : pos ≤ 1048576) (h : 2 * (pos : Int) < (cap : Int)) :
    Calls Try.prog 6 #[.pointer (some ⟨sb, 0, none⟩)] w fun e w' => e = .returned (.tuple #[]) ∧ ∃ n, w' = w.drewN n := by
  have hd : decide (2 * (pos : Int) < (cap : Int)) = true := by simp; omega
  go_enter Try.func6, Try.ntmps6
  go_wp2
  go_quiet (fail)
  go_wp2
  exact bodyPost_ret (results_none rfl _ _ _) rfl ⟨rfl, _, rfl⟩

theorem bcell {W w1 : World} (hb : Below W.heap.size W w1) : (∀ b o, b < W.heap.size → w1.cell? ⟨b, o, none⟩ = W.cell? ⟨b, o, none⟩) ∧ (∀ b o, b < W.heap.size → w1.frozen? ⟨b, o, none⟩ = W.frozen? ⟨b, o, none⟩) :=
  ⟨fun b o h => hb.cell (p := ⟨b, o, none⟩) h, fun b o h => hb.frozen (p := ⟨b, o, none⟩) h⟩

/-- 'copy' into a row of the call's own, the world behind it told by its cells. -/
theorem copy_cells (w : World) (g dLen dCap : Nat) (ad : Addr) (sLen sCap : Nat) (cur : List Value) (hg : w.heap[g]? = some (.cells cur.toArray 5 (0, 0))) (cs : List Value) (n : Nat) (hcn : cs.length = n) (hn : n = Nat.min sLen dLen)
    (hsrc : ∀ j v, cs[j]? = some v → w.cell? (ad.add j) = some v) (hfit : n ≤ cur.length) (h1 : ∀ v ∈ cs, v.oneCell' = true) (B : Nat) (w0 : World) (hb : Below B w0 w) (hBg : B ≤ g) (hsz : (Try.prog.info? 5).map (·.size) = some 1) :
    ∃ w', (∀ ty, (Builtin.copy_ #[22, 22] ty #[.slice (some ⟨g, 0, none⟩) dLen dCap, .slice (some ad) sLen sCap]).run Try.prog w = .ok (.int .i64 (n : Int)) w') ∧
      (∀ b o, b ≠ g → w'.cell? ⟨b, o, none⟩ = w.cell? ⟨b, o, none⟩) ∧ (∀ b o, b ≠ g → w'.frozen? ⟨b, o, none⟩ = w.frozen? ⟨b, o, none⟩) ∧ w'.heap[g]? = some (.cells (cs ++ cur.drop n).toArray 5 (0, 0)) ∧ Below B w0 w' := by
  subst hcn
  refine ⟨_, fun ty => run_copy_row (P := Try.prog) w 22 22 ty 5 g 0 dLen dCap ad sLen sCap cur.toArray 5 cs Try.underlying22 hsz hg hn hsrc (by simpa using hfit) h1,
    fun b o hbg => World.cell?_of_block (w := w) (a := ⟨b, o, none⟩) (setRow_other w g b _ hbg), fun b o hbg => World.frozen?_of_block (w := w) (a := ⟨b, o, none⟩) (setRow_other w g b _ hbg), ?_, below_setRow hb hBg _⟩
  simpa using setRow_heap w g _ _ 5 _ hg

theorem slice_to (W : World) (g n cap k : Nat) (hk : k ≤ cap) :
    (Instr.slice 22 (.slice (some ⟨g, 0, none⟩) n cap) none (some (.int .i64 (k : Int))) none).run Try.prog W = .ok (.slice (some ⟨g, 0, none⟩) k cap) W := by
  have ht' : Try.prog.underlying 22 = some (.slice (Try.prog.elem 22)) := by rw [elem22]; exact Try.underlying22
  rw [run_slice_h W 22 _ _ _ ht' .i64 _ (by omega) (by omega), elem22, size5]
  by_cases h0 : cap = 0
  · simp [Result.andThen, sliced, h0]
  · simp [Result.andThen, sliced, Addr.add]

/-- Bytes as cells. -/
def bc (l : List UInt8) : List Value := l.map fun b => Value.int .u8 (b.toNat : Int)
theorem bc_length (l : List UInt8) : (bc l).length = l.length := by simp [bc]
theorem bc_one (l : List UInt8) : ∀ u ∈ bc l, u.oneCell' = true := by
  intro u hu
  simp only [bc, List.mem_map] at hu
  obtain ⟨b, _, rfl⟩ := hu
  rfl
theorem bc_get {l : List UInt8} {j : Nat} {v : Value} (h : (bc l)[j]? = some v) : j < l.length ∧ v = .int .u8 (nb l j : Int) := by
  have hj : j < (bc l).length := (List.getElem?_eq_some_iff.1 h).1
  rw [bc_length] at hj
  refine ⟨hj, ?_⟩
  simp only [bc, List.getElem?_map, List.getElem?_eq_getElem hj, Option.map_some, Option.some.injEq] at h
  rw [← h, nb_getElem l j hj]
theorem cut_src {w : World} {g cap pos : Nat} {L : List UInt8} (hrow : Row w g 0 L) (hl : L.length ≤ cap) : ∀ j v, (bc (L.drop pos))[j]? = some v → w.cell? ((cutA g pos cap).add j) = some v := fun j v h => by
  obtain ⟨hj, rfl⟩ := bc_get h
  rw [List.length_drop] at hj
  rw [cutA_eq g pos cap (by omega)]
  have e : (⟨g, pos, none⟩ : Addr).add j = ⟨g, 0 + (pos + j), none⟩ := by unfold Addr.add; split <;> simp_all
  rw [e, hrow (pos + j) (by omega)]
  unfold nb
  rw [List.getD, List.getD, List.getElem?_drop]
theorem info5 : (Try.prog.info? 5).map (·.size) = some 1 := by kernel_rfl

/-- A block whose cells begin with the bytes l. -/
theorem Row.of_block {w : World} {g : Nat} {l : List UInt8} {rest : List Value} (h : w.heap[g]? = some (.cells (bc l ++ rest).toArray 5 (0, 0))) : Row w g 0 l := fun j hj => by
  have e : (bc l ++ rest)[j]? = some (.int .u8 (nb l j : Int)) := by
    rw [List.getElem?_append_left (by rw [bc_length]; exact hj)]
    simp [bc, List.getElem?_eq_getElem hj, nb_getElem l j hj]
  simp [World.cell?, h, e]

set_option maxHeartbeats 4000000 in
set_option maxRecDepth 100000 in
/-- Half the room is read: the rest moves to the front. -/
theorem rel_move (sb g len cap pos : Nat) (L : List UInt8) (cur : List Value) (x : Value) (ln cl rl : Int) (p : Int × Int) (w : World)
    (c0 : w.cell? ⟨sb, 0, none⟩ = some (.slice (some ⟨g, 0, none⟩) len cap)) (c1 : w.cell? ⟨sb, 1, none⟩ = some (.int .i64 (pos : Int))) (c3 : w.cell? ⟨sb, 3, none⟩ = some (.iface 27 x))
    (c6 : w.cell? ⟨sb, 6, none⟩ = some (.int .i64 ln)) (c7 : w.cell? ⟨sb, 7, none⟩ = some (.int .i64 cl)) (c8 : w.cell? ⟨sb, 8, none⟩ = some (.int .i64 rl))
    (f0 : w.frozen? ⟨sb, 0, none⟩ = false) (f1 : w.frozen? ⟨sb, 1, none⟩ = false) (f6 : w.frozen? ⟨sb, 6, none⟩ = false) (f7 : w.frozen? ⟨sb, 7, none⟩ = false) (f8 : w.frozen? ⟨sb, 8, none⟩ = false)
    (hp : pos ≤ len) (hlc : len ≤ cap) (hs : len ≤ 1048576) (hL : Hid (L.length = len)) (h1 : 0 ≤ ln) (h2 : ln ≤ 1073741824) (h3 : 0 ≤ cl) (h4 : cl ≤ 1073741824) (h5 : 0 ≤ rl) (h6 : rl ≤ 1073741824)
    (hrow : Hid (Row w g 0 L)) (hg : Hid (w.heap[g]? = some (.cells cur.toArray 5 (0, 0)))) (hcur : cur.length = cap) (hne : sb ≠ g) (hpl : Hid (placeL (L.take pos) ln cl = p)) (B : Nat) (hBg : B ≤ g) (hBs : B ≤ sb)
    (h : (cap : Int) ≤ 2 * (pos : Int)) :
    Calls Try.prog 6 #[.pointer (some ⟨sb, 0, none⟩)] w fun e w' => e = .returned (.tuple #[]) ∧ Below B w w' ∧
      w'.cell? ⟨sb, 0, none⟩ = some (.slice (some ⟨g, 0, none⟩) (len - pos) cap) ∧ w'.cell? ⟨sb, 1, none⟩ = some (.int .i64 0) ∧ w'.cell? ⟨sb, 6, none⟩ = some (.int .i64 p.1) ∧ w'.cell? ⟨sb, 7, none⟩ = some (.int .i64 p.2) ∧ w'.cell? ⟨sb, 8, none⟩ = some (.int .i64 (rl + pos)) ∧ Row w' g 0 (L.drop pos) := by
  have hd : decide (2 * (pos : Int) < (cap : Int)) = false := by simp; omega
  have hsb : sb < w.heap.size := World.block_lt_of_cell? w _ c0
  go_enter Try.func6, Try.ntmps6
  go_wp2
  go_quiet (fail)
  go_wp2_with fail
  refine (scan_any sb g len cap (L.take pos) pos (by rw [List.length_take, hL.out]; omega) ln cl p _ (by simpa using c0) (by simpa using c1) (by simpa using c6) (by simpa using c7) hp hlc hs h1 h2 h3 h4 (Row.drewN (hrow.out.take pos) _) hpl.out).mono ?_
  rintro e w1 ⟨rfl, hb1⟩
  have hbw : Below w.heap.size w w1 := (below_drewN (Below.refl _ w) _).trans hb1
  clear hb1
  obtain ⟨kc, kf⟩ := bcell hbw
  have k0 := (kc sb 0 hsb).trans c0
  have k1 := (kc sb 1 hsb).trans c1
  have k6 := (kc sb 6 hsb).trans c6
  have k7 := (kc sb 7 hsb).trans c7
  have k8 := (kc sb 8 hsb).trans c8
  have m0 := (kf sb 0 hsb).trans f0
  have m1 := (kf sb 1 hsb).trans f1
  have m6 := (kf sb 6 hsb).trans f6
  have m7 := (kf sb 7 hsb).trans f7
  have m8 := (kf sb 8 hsb).trans f8
  have HB := hid hbw
  clear kc kf hbw c0 c1 c3 c6 c7 c8 f0 f1 f6 f7 f8
  go_wp2
  go_region
  go_wp2
  have HG1 : Hid (w1.heap[g]? = some (.cells cur.toArray 5 (0, 0))) := by
    have hlt : g < w.heap.size := (Array.getElem?_eq_some_iff.1 hg.out).1
    rw [HB.out.block g hlt]
    exact hg
  have HR1 := hid (hrow.out.below HB.out)
  generalize hW : World.drew (World.setCell (World.setCell (World.setCell w1 _ _) _ _) _ _) = W3
  have q0 : W3.cell? ⟨sb, 0, none⟩ = some (.slice (some ⟨g, 0, none⟩) len cap) := by rw [← hW]; simp [go_sem, k0]
  have q1 : W3.cell? ⟨sb, 1, none⟩ = some (.int .i64 (pos : Int)) := by rw [← hW]; simp [go_sem, k1]
  have q6 : W3.cell? ⟨sb, 6, none⟩ = some (.int .i64 p.1) := by rw [← hW]; simp [go_sem, k6]
  have q7 : W3.cell? ⟨sb, 7, none⟩ = some (.int .i64 p.2) := by rw [← hW]; simp [go_sem, k7]
  have q8 : W3.cell? ⟨sb, 8, none⟩ = some (.int .i64 (rl + pos)) := by rw [← hW]; simp [go_sem, k8]
  have z0 : W3.frozen? ⟨sb, 0, none⟩ = false := by rw [← hW]; simp [go_sem, m0]
  have z1 : W3.frozen? ⟨sb, 1, none⟩ = false := by rw [← hW]; simp [go_sem, m1]
  have hW3 : W3.heap[g]? = some (.cells cur.toArray 5 (0, 0)) := by
    rw [← hW]
    show (World.setCell (World.setCell (World.setCell w1 _ _) _ _) _ _).heap[g]? = _
    rw [Below.heap_setCell _ _ _ _ (Ne.symm hne), Below.heap_setCell _ _ _ _ (Ne.symm hne), Below.heap_setCell _ _ _ _ (Ne.symm hne)]
    exact HG1.out
  have hB3 : Below B w W3 := by
    rw [← hW]
    exact ((((HB.out.mono (by omega)).setCell hBs _).setCell hBs _).setCell hBs _).drew
  have hR3 : Row W3 g 0 L := fun j hj => by
    have e : W3.cell? ⟨g, 0 + j, none⟩ = w1.cell? ⟨g, 0 + j, none⟩ := World.cell?_of_block (w := w1) (a := ⟨g, 0 + j, none⟩) (by rw [hW3, HG1.out])
    rw [e]
    exact HR1.out j hj
  obtain ⟨m, hm⟩ : ∃ m, m = len - pos := ⟨_, rfl⟩
  have hsl : ∀ W, (Instr.slice 22 (.slice (some ⟨g, 0, none⟩) len cap) (some (.int .i64 (pos : Int))) none none).run Try.prog W = .ok (.slice (some (cutA g pos cap)) m (cap - pos)) W := fun W => by rw [hm]; exact slice_from W g len cap pos hp
  have hsh : ∀ W, (Instr.slice 22 (.slice (some ⟨g, 0, none⟩) len cap) none (some (.int .i64 (m : Int))) none).run Try.prog W = .ok (.slice (some ⟨g, 0, none⟩) m cap) W := fun W => slice_to W g len cap m (by omega)
  obtain ⟨W5, hcp, hc5, hf5, hg5, hb5⟩ := copy_cells W3.drew g len cap (cutA g pos cap) m (cap - pos) cur hW3 (bc (L.drop pos)) m (by rw [bc_length, List.length_drop, hL.out]; exact hm.symm) (Nat.min_eq_left (by omega)).symm (cut_src hR3 (by rw [hL.out]; exact hlc)) (by omega) (bc_one _) B w hB3.drew hBg info5
  have r1 : W5.cell? ⟨sb, 1, none⟩ = some (.int .i64 (pos : Int)) := (hc5 sb 1 hne).trans q1
  have r6 : W5.cell? ⟨sb, 6, none⟩ = some (.int .i64 p.1) := (hc5 sb 6 hne).trans q6
  have r7 : W5.cell? ⟨sb, 7, none⟩ = some (.int .i64 p.2) := (hc5 sb 7 hne).trans q7
  have r8 : W5.cell? ⟨sb, 8, none⟩ = some (.int .i64 (rl + pos)) := (hc5 sb 8 hne).trans q8
  have r0 : W5.cell? ⟨sb, 0, none⟩ = some (.slice (some ⟨g, 0, none⟩) len cap) := (hc5 sb 0 hne).trans q0
  have y0 : W5.frozen? ⟨sb, 0, none⟩ = false := (hf5 sb 0 hne).trans z0
  have y1 : W5.frozen? ⟨sb, 1, none⟩ = false := (hf5 sb 1 hne).trans z1
  have HM := hid hm
  have HG5 := hid hg5
  have HB5 := hid hb5
  clear hm hW hW3 hB3 hR3 hcur k0 k1 k6 k7 k8 m0 m1 m6 m7 m8 HB HG1 HR1 hc5 hf5 hg5 hb5
  go_region
  go_wp2
  go_end0
  refine ⟨rfl, (HB5.out.setCell hBs _).setCell hBs _, ?_, ?_, ?_, ?_, ?_, ?_⟩
  · rw [← HM.out]; simp [go_sem, r0]
  · simp [go_sem, r1]
  · simp [go_sem, r6]
  · simp [go_sem, r7]
  · simp [go_sem, r8]
  · refine Row.of_block (rest := List.drop m cur) ?_
    rw [Below.heap_setCell _ _ _ _ (Ne.symm hne), Below.heap_setCell _ _ _ _ (Ne.symm hne)]
    exact HG5.out
end Go.Proofs.Qxb6618944a

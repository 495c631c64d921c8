/-
  Scope.append and Scope.String.
-/
import Derived.Test.Qxb6617045aFmtParse
import Derived.Lib.AppendStr
import Derived.Deep.Onto
import Derived.Deep.AppendLies
namespace Go.Proofs.Qxb6617045aFmt
open Go.RowKit Go.Extern.Stop Go.Stop Go.Extern

theorem hid {p : Prop} (h : p) : Hid p := h

theorem one47 : ∀ u ∈ [Value.int .u8 47], u.oneCell' = true := by
  intro u hu
  simp at hu
  subst hu
  rfl

/-- Bytes as cells. -/
def bc (l : List UInt8) : List Value := l.map fun b => Value.int .u8 (b.toNat : Int)
theorem bc_str (l : List UInt8) : Lib.strCells (S l) = bc l := rfl
theorem bc_append (a b : List UInt8) : bc a ++ bc b = bc (a ++ b) := by simp [bc]

/-- What is written when k parts are. -/
def acc (d r v : List UInt8) : Nat → List UInt8
  | 0 => []
  | 1 => d ++ [47]
  | 2 => d ++ [47] ++ r ++ [47]
  | _ => d ++ [47] ++ r ++ [47] ++ v ++ [47]

theorem info5 : Tryf.prog.info? 5 = some Tryf.t5 := by kernel_rfl

theorem below_grown {B : Nat} {a w w' : World} {e : TypeId} {v : Value} {n : Nat} {xs : List Value} (h : Below B a w) (hown : w.ownsRow B e 1 v n xs) (hg : w.grownBy w' v.ownBlock) (hB : B ≤ w.heap.size) : Below B a w' :=
  h.grown hg hB fun k hk => (hown.lt k hk).1

set_option maxHeartbeats 2000000 in
theorem app_any (d r v : List UInt8) (w : World) (hs : d.length + r.length + v.length ≤ 4194000) :
    Calls Tryf.prog 12 #[.agg #[.string (S d), .string (S r), .string (S v)], .slice none 0 0] w fun e w' =>
      ∃ x n, e = .returned x ∧ w'.ownsRow w.heap.size 5 1 x n (bc (acc d r v 3 ++ T)) ∧ Below w.heap.size w w' := by
  go_enter Tryf.func12, Tryf.ntmps12
  go_wp2
  go_loopw [1, 15] (fun b i wr => ∃ k : Nat, k ≤ 3 ∧ i = .int .i64 k ∧ Hid (wr.ownsRow (w.heap.size + 2) 5 1 b (acc d r v k).length (bc (acc d r v k))) ∧ Hid (Below (w.heap.size + 2) ((w.alloc (.cells #[.string (S d), .string (S r), .string (S v)] 25)).alloc (.cells #[.string (S d), .string (S r), .string (S v)] 9)) wr)) (fun _ i _ => 3 - (intOf i).toNat)
  case atStart => exact ⟨0, by omega, rfl, World.ownsRow_nil _ _ _ _, Below.refl _ _⟩
  case round =>
    obtain ⟨k, hk, rfl, hown, hbel⟩ := hrel
    have hz : w.heap.size + 2 ≤ wr.heap.size := by have := hbel.out.size; simpa using this
    have c0 : wr.cell? ⟨w.heap.size + 1, 0, none⟩ = some (.string (S d)) := by rw [hbel.out.cell (by simp)]; simp [go_sem]
    have c1 : wr.cell? ⟨w.heap.size + 1, 1, none⟩ = some (.string (S r)) := by rw [hbel.out.cell (by simp)]; simp [go_sem]
    have c2 : wr.cell? ⟨w.heap.size + 1, 2, none⟩ = some (.string (S v)) := by rw [hbel.out.cell (by simp)]; simp [go_sem]
    have e : k = 0 ∨ k = 1 ∨ k = 2 ∨ k = 3 := by omega
    rcases e with rfl | rfl | rfl | rfl
    · have hown' := hown.out
      have hA : (acc d r v 0).length ≤ 8388100 := by simp [acc]
      have hP : (S d).size = d.length := S_size d
      have HP := hid (hP)
      clear hP
      go_wp2_with (at_builtin; refine Lib.wpList_append_own_string _ rfl _ _ 33 9 rfl (w.heap.size + 2) 5 Tryf.t5 Tryf.underlying33 Tryf.underlying9 info5 rfl rfl rfl _ _ _ rfl hown' (S d) rfl ?_ ?_ ?_ ?_)
      · rw [HP.out]; unfold maxLen; omega
      · rw [HP.out]; omega
      · exact hz
      intro b1 w1 hown1 hg1 _
      have hb1 := hid (below_grown hbel.out hown' hg1 hz)
      have hz1 : w.heap.size + 2 ≤ w1.heap.size := Nat.le_trans hz hg1.size
      clear hg1 hown'
      rw [HP.out, bc_str, bc_append] at hown1
      have HO := hid (hown1)
      clear hown1
      go_wp2_with (at_builtin; go_must (refine wpList_append_own _ rfl _ _ 33 rfl (w.heap.size + 2) 5 Tryf.t5 (.int .u8 0) 1 1 Tryf.underlying33 info5 rfl rfl rfl rfl (by decide) _ _ _ rfl (HO.out.alloc _) ⟨w1.heap.size, 0, none⟩ 1 1 [.int .u8 47] rfl rfl (cell_one_new _ _ _) one47 ?_ ?_ ?_ ?_))
      · unfold maxLen; omega
      · omega
      · simp; omega
      intro b2 w2 hown2 hg2 _
      have hb2 := hid (below_grown (hb1.out.alloc hz1 _) (HO.out.alloc _) hg2 (by simp; omega))
      have HO2 : Hid (w2.ownsRow (w.heap.size + 2) 5 1 b2 (acc d r v 1).length (bc (acc d r v 1))) := by
        have e1 : bc (acc d r v 0 ++ d) ++ [Value.int .u8 47] = bc (acc d r v 1) := by simp [bc, acc]
        have e2 : (acc d r v 0).length + d.length + 1 = (acc d r v 1).length := by simp [acc]
        rw [e1, e2] at hown2
        exact hown2
      clear hg2 hown2
      go_wp2
      exact ⟨⟨1, by omega, by go_num, HO2, hb2⟩, by simp [intOf]⟩
    · have hown' := hown.out
      have hA : (acc d r v 1).length ≤ 8388100 := by simp [acc]; omega
      have hP : (S r).size = r.length := S_size r
      have HP := hid (hP)
      clear hP
      go_wp2_with (at_builtin; refine Lib.wpList_append_own_string _ rfl _ _ 33 9 rfl (w.heap.size + 2) 5 Tryf.t5 Tryf.underlying33 Tryf.underlying9 info5 rfl rfl rfl _ _ _ rfl hown' (S r) rfl ?_ ?_ ?_ ?_)
      · rw [HP.out]; unfold maxLen; omega
      · rw [HP.out]; omega
      · exact hz
      intro b1 w1 hown1 hg1 _
      have hb1 := hid (below_grown hbel.out hown' hg1 hz)
      have hz1 : w.heap.size + 2 ≤ w1.heap.size := Nat.le_trans hz hg1.size
      clear hg1 hown'
      rw [HP.out, bc_str, bc_append] at hown1
      have HO := hid (hown1)
      clear hown1
      go_wp2_with (at_builtin; go_must (refine wpList_append_own _ rfl _ _ 33 rfl (w.heap.size + 2) 5 Tryf.t5 (.int .u8 0) 1 1 Tryf.underlying33 info5 rfl rfl rfl rfl (by decide) _ _ _ rfl (HO.out.alloc _) ⟨w1.heap.size, 0, none⟩ 1 1 [.int .u8 47] rfl rfl (cell_one_new _ _ _) one47 ?_ ?_ ?_ ?_))
      · unfold maxLen; omega
      · omega
      · simp; omega
      intro b2 w2 hown2 hg2 _
      have hb2 := hid (below_grown (hb1.out.alloc hz1 _) (HO.out.alloc _) hg2 (by simp; omega))
      have HO2 : Hid (w2.ownsRow (w.heap.size + 2) 5 1 b2 (acc d r v 2).length (bc (acc d r v 2))) := by
        have e1 : bc (acc d r v 1 ++ r) ++ [Value.int .u8 47] = bc (acc d r v 2) := by simp [bc, acc]
        have e2 : (acc d r v 1).length + r.length + 1 = (acc d r v 2).length := by simp [acc]; omega
        rw [e1, e2] at hown2
        exact hown2
      clear hg2 hown2
      go_wp2
      exact ⟨⟨2, by omega, by go_num, HO2, hb2⟩, by simp [intOf]⟩
    · have hown' := hown.out
      have hA : (acc d r v 2).length ≤ 8388100 := by simp [acc]; omega
      have hP : (S v).size = v.length := S_size v
      have HP := hid (hP)
      clear hP
      go_wp2_with (at_builtin; refine Lib.wpList_append_own_string _ rfl _ _ 33 9 rfl (w.heap.size + 2) 5 Tryf.t5 Tryf.underlying33 Tryf.underlying9 info5 rfl rfl rfl _ _ _ rfl hown' (S v) rfl ?_ ?_ ?_ ?_)
      · rw [HP.out]; unfold maxLen; omega
      · rw [HP.out]; omega
      · exact hz
      intro b1 w1 hown1 hg1 _
      have hb1 := hid (below_grown hbel.out hown' hg1 hz)
      have hz1 : w.heap.size + 2 ≤ w1.heap.size := Nat.le_trans hz hg1.size
      clear hg1 hown'
      rw [HP.out, bc_str, bc_append] at hown1
      have HO := hid (hown1)
      clear hown1
      go_wp2_with (at_builtin; go_must (refine wpList_append_own _ rfl _ _ 33 rfl (w.heap.size + 2) 5 Tryf.t5 (.int .u8 0) 1 1 Tryf.underlying33 info5 rfl rfl rfl rfl (by decide) _ _ _ rfl (HO.out.alloc _) ⟨w1.heap.size, 0, none⟩ 1 1 [.int .u8 47] rfl rfl (cell_one_new _ _ _) one47 ?_ ?_ ?_ ?_))
      · unfold maxLen; omega
      · omega
      · simp; omega
      intro b2 w2 hown2 hg2 _
      have hb2 := hid (below_grown (hb1.out.alloc hz1 _) (HO.out.alloc _) hg2 (by simp; omega))
      have HO2 : Hid (w2.ownsRow (w.heap.size + 2) 5 1 b2 (acc d r v 3).length (bc (acc d r v 3))) := by
        have e1 : bc (acc d r v 2 ++ v) ++ [Value.int .u8 47] = bc (acc d r v 3) := by simp [bc, acc]
        have e2 : (acc d r v 2).length + v.length + 1 = (acc d r v 3).length := by simp [acc]; omega
        rw [e1, e2] at hown2
        exact hown2
      clear hg2 hown2
      go_wp2
      exact ⟨⟨3, by omega, by go_num, HO2, hb2⟩, by simp [intOf]⟩
    · have hown' := hown.out
      have hA : (acc d r v 3).length ≤ 8388100 := by simp [acc]; omega
      go_wp2_with (at_builtin; go_must (refine Lib.wpList_append_own_string _ rfl _ _ 33 9 rfl (w.heap.size + 2) 5 Tryf.t5 Tryf.underlying33 Tryf.underlying9 info5 rfl rfl rfl _ _ _ rfl hown' ⟨#[97, 119, 115, 52, 95, 114, 101, 113, 117, 101, 115, 116]⟩ rfl ?_ ?_ ?_ ?_))
      · show (acc d r v 3).length + 12 ≤ maxLen; unfold maxLen; omega
      · show (acc d r v 3).length + 12 ≤ 140737488355328; omega
      · exact hz
      intro x w3 hown3 hg3 _
      have hb3 := hid (below_grown hbel.out hown' hg3 hz)
      have HO3 : Hid (w3.ownsRow w.heap.size 5 1 x ((acc d r v 3).length + 12) (bc (acc d r v 3 ++ T))) := by
        rw [← bc_append]
        exact hown3.mono (by omega)
      clear hg3 hown3
      go_wp2
      go_ret
      exact ⟨x, _, rfl, HO3.out, (((Below.refl _ w).alloc (Nat.le_refl _) _).alloc (by simp) _).trans (hb3.out.mono (by omega))⟩

/-- What Scope.String writes. -/
def text (d r v : List UInt8) : List UInt8 := d ++ 47 :: (r ++ 47 :: (v ++ 47 :: T))
theorem acc_text (d r v : List UInt8) : acc d r v 3 ++ T = text d r v := by simp [acc, text]

/-- 'string(b)' of a slice of the call's own. -/
theorem convert_own {w : World} {B n : Nat} {x : Value} {l : List UInt8} (h : w.ownsRow B 5 1 x n (bc l)) (hn : 0 < l.length) : (convert 33 9 x).run Tryf.prog w = .ok (.string (S l)) w := by
  have hl : l.length = n := by have := h.1; simpa [bc] using this
  subst hl
  obtain ⟨g, cap, rfl, _⟩ := h.form hn
  refine run_convert_bytes_back w 33 9 5 ⟨g, 0, none⟩ cap l Tryf.underlying33 Tryf.underlying5 Tryf.underlying9 fun j hj => ?_
  exact h.cells rfl j _ (by simp [bc, List.getElem?_eq_getElem hj])

set_option maxHeartbeats 1000000 in
/-- Scope.String. -/
theorem string_any (d r v : List UInt8) (w : World) (hs : d.length + r.length + v.length ≤ 4194000) :
    Calls Tryf.prog 7 #[.agg #[.string (S d), .string (S r), .string (S v)]] w fun e w' =>
      e = .returned (.string (S (text d r v))) ∧ Below w.heap.size w w' := by
  go_enter Tryf.func7, Tryf.ntmps7
  go_wp2_with fail
  refine (app_any d r v _ hs).mono ?_
  rintro e w' ⟨x, n, rfl, hown, hbel⟩
  rw [acc_text] at hown
  have hcv := convert_own hown (by simp [text]; omega)
  have HB := hid hbel
  clear hown hbel
  go_wp2
  go_ret
  exact ⟨rfl, ((Below.refl _ w).alloc (Nat.le_refl _) _).trans (HB.out.mono (by simp))⟩

end Go.Proofs.Qxb6617045aFmt

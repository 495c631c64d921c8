/-
  ParseScope, way by way.
-/
import Derived.Test.Qxb6617045aFmtErr
namespace Go.Proofs.Qxb6617045aFmt
open Go.RowKit Go.Extern.Stop Go.Stop Go.Extern

/-- The last part of every scope. -/
def T : List UInt8 := [97, 119, 115, 52, 95, 114, 101, 113, 117, 101, 115, 116]

theorem S_bytes (l : List UInt8) : (S l).toList = l := by rw [Lib.toList_data, S_toList]
theorem alloc_drewN (W : World) (j : Nat) (o : Obj) : (W.drewN j).alloc o = (W.alloc o).drewN j := rfl
theorem setCell_drewN (W : World) (j : Nat) (x : Addr) (v : Value) : (W.drewN j).setCell x v = (W.setCell x v).drewN j := rfl
theorem below_alloc {a w : World} (h : Below a.heap.size a w) (o : Obj) : Below a.heap.size a (w.alloc o) := h.alloc h.size o
theorem below_drewN {a w : World} (h : Below a.heap.size a w) (n : Nat) : Below a.heap.size a (w.drewN n) := ⟨h.os, h.tape, h.output, h.size, h.block⟩
theorem S_nil : (⟨#[]⟩ : ByteArray) = S [] := rfl

set_option maxHeartbeats 1000000 in
/-- Three slashes or more, and the rest is another text. -/
theorem parse_other (F : Interp) (d r v t : List UInt8) (w : World) (hF : F.answers w.tape) (hd : 47 ∉ d) (hr : 47 ∉ r) (hv : 47 ∉ v) (hs : d.length + r.length + v.length + t.length ≤ 4194000) (ht : Hid (t ≠ T)) :
    Calls Tryf.prog 8 #[.string (S (d ++ 47 :: (r ++ 47 :: (v ++ 47 :: t))))] w fun e w' =>
      ∃ a, e = .returned (.tuple #[.agg #[.string ⟨#[]⟩, .string ⟨#[]⟩, .string ⟨#[]⟩], .iface 43 (.pointer (some a))]) ∧ Below w.heap.size w w' := by
  have hq : ((S t).toList == [97, 119, 115, 52, 95, 114, 101, 113, 117, 101, 115, 116]) = false := by rw [S_bytes]; exact beq_eq_false_iff_ne.2 ht.out
  have ad := alloc_drewN
  have sd := setCell_drewN
  go_enter Tryf.func8, Tryf.ntmps8
  go_wp2_with fail
  refine (cut_yes d _ _ hd (by simp; omega)).mono ?_
  rintro e w' ⟨rfl, n1, rfl⟩
  go_wp2_with fail
  refine (cut_yes r _ _ hr (by simp; omega)).mono ?_
  rintro e w' ⟨rfl, n2, rfl⟩
  go_wp2_with fail
  refine (cut_yes v _ _ hv (by omega)).mono ?_
  rintro e w' ⟨rfl, n3, rfl⟩
  go_wp2_with fail
  refine (errorf_any F (S (d ++ 47 :: (r ++ 47 :: (v ++ 47 :: t)))) ⟨#[97, 119, 115, 52, 95, 114, 101, 113, 117, 101, 115, 116]⟩ _ _ (by exact hF) (by go_simp) (by go_simp)).mono ?_
  rintro e w' ⟨rfl, o, rfl⟩
  go_wp2
  refine bodyPost_ret (v := .tuple #[.agg #[.string ⟨#[]⟩, .string ⟨#[]⟩, .string ⟨#[]⟩], .iface 43 (.pointer (some _))]) (by simp [results, Tryf.results8, go_sem]; rfl) rfl ⟨_, rfl, ?_⟩
  repeat (first | exact Below.refl _ _ | apply Below.drew | apply below_drewN | apply below_alloc)

theorem cut_empty (w : World) : Calls Tryf.prog 13 #[.string ⟨#[]⟩, .string ⟨#[47]⟩] w fun e w' => e = .returned (.tuple #[.string ⟨#[]⟩, .string ⟨#[]⟩, .bool false]) ∧ ∃ n, w' = w.drewN n :=
  cut_no [] w (by simp)

set_option maxHeartbeats 1000000 in
/-- No slash. -/
theorem parse_none (F : Interp) (l : List UInt8) (w : World) (hF : F.answers w.tape) (hl : 47 ∉ l) :
    Calls Tryf.prog 8 #[.string (S (l))] w fun e w' =>
      ∃ a, e = .returned (.tuple #[.agg #[.string ⟨#[]⟩, .string ⟨#[]⟩, .string ⟨#[]⟩], .iface 43 (.pointer (some a))]) ∧ Below w.heap.size w w' := by
  have ad := alloc_drewN
  have sd := setCell_drewN
  go_enter Tryf.func8, Tryf.ntmps8
  go_wp2_with fail
  refine (cut_no l _ hl).mono ?_
  rintro e w' ⟨rfl, n1, rfl⟩
  go_wp2_with fail
  refine (cut_empty _).mono ?_
  rintro e w' ⟨rfl, n2, rfl⟩
  go_wp2_with fail
  refine (cut_empty _).mono ?_
  rintro e w' ⟨rfl, n3, rfl⟩
  go_wp2_with fail
  refine (errorf_any F (S (l)) ⟨#[97, 119, 115, 52, 95, 114, 101, 113, 117, 101, 115, 116]⟩ _ _ (by exact hF) (by go_simp) (by go_simp)).mono ?_
  rintro e w' ⟨rfl, o, rfl⟩
  go_wp2
  refine bodyPost_ret (v := .tuple #[.agg #[.string ⟨#[]⟩, .string ⟨#[]⟩, .string ⟨#[]⟩], .iface 43 (.pointer (some _))]) (by simp [results, Tryf.results8, go_sem]; rfl) rfl ⟨_, rfl, ?_⟩
  repeat (first | exact Below.refl _ _ | apply Below.drew | apply below_drewN | apply below_alloc)

set_option maxHeartbeats 1000000 in
/-- One slash. -/
theorem parse_one (F : Interp) (d r : List UInt8) (w : World) (hF : F.answers w.tape) (hd : 47 ∉ d) (hr : 47 ∉ r) (hs : d.length + r.length ≤ 4194000) :
    Calls Tryf.prog 8 #[.string (S (d ++ 47 :: r))] w fun e w' =>
      ∃ a, e = .returned (.tuple #[.agg #[.string ⟨#[]⟩, .string ⟨#[]⟩, .string ⟨#[]⟩], .iface 43 (.pointer (some a))]) ∧ Below w.heap.size w w' := by
  have ad := alloc_drewN
  have sd := setCell_drewN
  go_enter Tryf.func8, Tryf.ntmps8
  go_wp2_with fail
  refine (cut_yes d _ _ hd (by omega)).mono ?_
  rintro e w' ⟨rfl, n1, rfl⟩
  go_wp2_with fail
  refine (cut_no r _ hr).mono ?_
  rintro e w' ⟨rfl, n2, rfl⟩
  go_wp2_with fail
  refine (cut_empty _).mono ?_
  rintro e w' ⟨rfl, n3, rfl⟩
  go_wp2_with fail
  refine (errorf_any F (S (d ++ 47 :: r)) ⟨#[97, 119, 115, 52, 95, 114, 101, 113, 117, 101, 115, 116]⟩ _ _ (by exact hF) (by go_simp) (by go_simp)).mono ?_
  rintro e w' ⟨rfl, o, rfl⟩
  go_wp2
  refine bodyPost_ret (v := .tuple #[.agg #[.string ⟨#[]⟩, .string ⟨#[]⟩, .string ⟨#[]⟩], .iface 43 (.pointer (some _))]) (by simp [results, Tryf.results8, go_sem]; rfl) rfl ⟨_, rfl, ?_⟩
  repeat (first | exact Below.refl _ _ | apply Below.drew | apply below_drewN | apply below_alloc)

set_option maxHeartbeats 1000000 in
/-- Two slashes. -/
theorem parse_two (F : Interp) (d r v : List UInt8) (w : World) (hF : F.answers w.tape) (hd : 47 ∉ d) (hr : 47 ∉ r) (hv : 47 ∉ v) (hs : d.length + r.length + v.length ≤ 4194000) :
    Calls Tryf.prog 8 #[.string (S (d ++ 47 :: (r ++ 47 :: v)))] w fun e w' =>
      ∃ a, e = .returned (.tuple #[.agg #[.string ⟨#[]⟩, .string ⟨#[]⟩, .string ⟨#[]⟩], .iface 43 (.pointer (some a))]) ∧ Below w.heap.size w w' := by
  have ad := alloc_drewN
  have sd := setCell_drewN
  go_enter Tryf.func8, Tryf.ntmps8
  go_wp2_with fail
  refine (cut_yes d _ _ hd (by simp; omega)).mono ?_
  rintro e w' ⟨rfl, n1, rfl⟩
  go_wp2_with fail
  refine (cut_yes r _ _ hr (by omega)).mono ?_
  rintro e w' ⟨rfl, n2, rfl⟩
  go_wp2_with fail
  refine (cut_no v _ hv).mono ?_
  rintro e w' ⟨rfl, n3, rfl⟩
  go_wp2_with fail
  refine (errorf_any F (S (d ++ 47 :: (r ++ 47 :: v))) ⟨#[97, 119, 115, 52, 95, 114, 101, 113, 117, 101, 115, 116]⟩ _ _ (by exact hF) (by go_simp) (by go_simp)).mono ?_
  rintro e w' ⟨rfl, o, rfl⟩
  go_wp2
  refine bodyPost_ret (v := .tuple #[.agg #[.string ⟨#[]⟩, .string ⟨#[]⟩, .string ⟨#[]⟩], .iface 43 (.pointer (some _))]) (by simp [results, Tryf.results8, go_sem]; rfl) rfl ⟨_, rfl, ?_⟩
  repeat (first | exact Below.refl _ _ | apply Below.drew | apply below_drewN | apply below_alloc)

set_option maxHeartbeats 1000000 in
/-- A scope. -/
theorem parse_ok (d r v : List UInt8) (w : World) (hd : 47 ∉ d) (hr : 47 ∉ r) (hv : 47 ∉ v) (hs : d.length + r.length + v.length ≤ 4193000) :
    Calls Tryf.prog 8 #[.string (S (d ++ 47 :: (r ++ 47 :: (v ++ 47 :: T))))] w fun e w' =>
      e = .returned (.tuple #[.agg #[.string (S d), .string (S r), .string (S v)], .nilIface]) ∧ Below w.heap.size w w' := by
  have hT : T.length = 12 := rfl
  have hq : ((S T).toList == [97, 119, 115, 52, 95, 114, 101, 113, 117, 101, 115, 116]) = true := by rw [S_bytes]; rfl
  have ad := alloc_drewN
  have sd := setCell_drewN
  go_enter Tryf.func8, Tryf.ntmps8
  go_wp2_with fail
  refine (cut_yes d _ _ hd (by simp; omega)).mono ?_
  rintro e w' ⟨rfl, n1, rfl⟩
  go_wp2_with fail
  refine (cut_yes r _ _ hr (by simp; omega)).mono ?_
  rintro e w' ⟨rfl, n2, rfl⟩
  go_wp2_with fail
  refine (cut_yes v _ _ hv (by omega)).mono ?_
  rintro e w' ⟨rfl, n3, rfl⟩
  go_wp2
  refine bodyPost_ret (v := .tuple #[.agg #[.string (S d), .string (S r), .string (S v)], .nilIface]) (by simp [results, Tryf.results8, go_sem]) rfl ⟨rfl, ?_⟩
  repeat (first | exact Below.refl _ _ | apply Below.drew | apply below_drewN | apply below_alloc)

end Go.Proofs.Qxb6617045aFmt

/-
  THE PARTS of the road of FnAfterValueReadsAsOneSchemeByte: strings.IndexByte, urlPart.next, the shims, afterValue.
-/
import Derived.Test.Qxb6617142aLeaves
import Derived.Deep.RegionHeld3
namespace Go.Proofs.Qxb6617142a
open Go.RowKit

set_option maxHeartbeats 1000000 in
set_option maxRecDepth 100000 in
/-- internal/stringslite.IndexByte. -/
theorem lite_IndexByte (s : ByteArray) (c : Int) (w : World) :
    Calls Try.prog 16 #[.string s, .int .u8 c] w fun e w' => e = .returned (.int .i64 (Lib.indexByte s.data.toList c.toNat.toUInt8)) ∧ w' = w := by
  go_enter Try.func16, Try.ntmps16
  go_wp2
  rw [run_callFunc_extern Try.func18 (by kernel_rfl) (by kernel_rfl) (by kernel_rfl) (e := Extern.BytealgIndexByte.indexByte) (by kernel_rfl), Lib.run_indexByteString]
  simp only [Result.andThen]
  rw [Oper.upon_value]
  go_wp2
  go_ret
  exact ⟨rfl, rfl⟩

set_option maxHeartbeats 1000000 in
/-- strings.IndexByte. -/
theorem IndexByte_any (s : ByteArray) (c : Int) (w : World) :
    Calls Try.prog 13 #[.string s, .int .u8 c] w fun e w' => e = .returned (.int .i64 (Lib.indexByte s.data.toList c.toNat.toUInt8)) ∧ w' = w := by
  go_enter Try.func13, Try.ntmps13
  go_wp2_with (go_at_call 16; refine (lite_IndexByte _ _ _).mono ?_; rintro e w' ⟨rfl, rfl⟩)
  go_ret
  exact ⟨rfl, rfl⟩

/-- The part of the URL behind a letter or digit that begins no escape. -/
def partNext (u : Int) : Int := if u = 1 ∨ u = 2 then 2 else u

set_option maxHeartbeats 1000000 in
/-- urlPart.next. -/
theorem part_any (u b : Int) (s : ByteArray) (w : World) (h : Alnum b) (hn : Hid (Lib.indexByte s.data.toList b.toNat.toUInt8 = -1)) :
    Calls Try.prog 10 #[.int .u8 u, .int .u8 b, .string s] w fun e w' => e = .returned (.int .u8 (partNext u)) ∧ w' = w := by
  have h1 : (b == 35) = false := beq_eq_false_iff_ne.2 (by unfold Alnum at h; omega)
  go_enter Try.func10, Try.ntmps10
  go_wp2_with (first
    | (go_at_call 12; refine (alnum_yes b _ h).mono ?_; rintro e w' ⟨rfl, rfl⟩)
    | (go_at_call 13; refine (IndexByte_any s b _).mono ?_; rintro e w' ⟨rfl, rfl⟩; rw [hn.out])
    | (go_at_call 14; refine (keeps_yes b _ h).mono ?_; rintro e w' ⟨rfl, rfl⟩))
  all_goals
    go_ret
    exact ⟨by simp_all [partNext], rfl⟩

set_option maxHeartbeats 400000 in
/-- ZZURLPartNext. -/
theorem zzpart_any (u b : Int) (s : ByteArray) (w : World) (h : Alnum b) (hn : Hid (Lib.indexByte s.data.toList b.toNat.toUInt8 = -1)) :
    Calls Try.prog 7 #[.int .u8 u, .int .u8 b, .string s] w fun e w' => e = .returned (.int .u8 (partNext u)) ∧ w' = w := by
  go_enter Try.func7, Try.ntmps7
  go_wp2_with (go_at_call 10; refine (part_any u b s _ h hn).mono ?_; rintro e w' ⟨rfl, rfl⟩)
  go_ret
  exact ⟨rfl, rfl⟩

set_option maxHeartbeats 400000 in
/-- ZZListPartNext. -/
theorem zzlist_any (l b : Int) (w : World) (h : 48 ≤ b) :
    Calls Try.prog 8 #[.int .u8 l, .int .u8 b] w fun e w' => e = .returned (.int .u8 (listNext l)) ∧ w' = w := by
  go_enter Try.func8, Try.ntmps8
  go_wp2_with (go_at_call 11; refine (list_any l b _ h).mono ?_; rintro e w' ⟨rfl, rfl⟩)
  go_ret
  exact ⟨rfl, rfl⟩

end Go.Proofs.Qxb6617142a

/-
  No cell of these rows narrows 'for every input' (looked for: loops, veiled, ifaces, maps, wideKeys, modest, calm, conditions, laid).
  DERIVED. THE GIVEN ROWS OF THIS SEAT. 1 by the template 'for every input the law returns true; each argument reads behind the call as it read before'; 0 by the template 'total and deterministic' (their statements: Qxb6617142aTotals.lean).
  GIVEN WITH THE SEED: the statements are not yours to turn. If you find one false, say at which input.
  Laid BY PROGRAM, IN A SANDBOX (cutbox-rows.mjs): the forced cells as the released guide's own fill.sh prints them over the translation 766d77ac25b501c8… (all of the seat's roots in one cut). By AI agents, Wed Nov 11 2026. No macro, syntax, notation, axiom, sorry.
-/
import Derived.Test.Qxb6617142aChecked
import GoSem.Claim
import GoSem.ClaimJoined
import GoSem.ClaimMapViews
import Derived.JoinedTies
import Derived.KernelRfl
namespace Go.Proofs.Qxb6617142a
/- THE CELL 'sum', in the pinned program and in every row, IS THE sha256 OF THE DUMP (.gsa) THAT Qxb6617142aProg.lean LOADS. Nothing in Lean hashes anything: it is a label: what it is worth is what the hold of that sum in a sandbox is worth. -/
noncomputable def Try.pinned : Pinned := { name := "qxb6617142a", sum := "766d77ac25b501c8032b40cfe5f71b3b41111f906bdba5ab3d5e02c8d53cc845", checked := Try.checked }
namespace Rows
def none {H : Type} : Left H := { results := [], args := [] }

/-- 'zzlaws_root_b1.FnAfterValueReadsAsOneSchemeByte': WHATEVER THE INPUT: true; the input reads as it did. -/
def fnAfterValueReadsAsOneSchemeByteSpec : ChangeSpec := { name := "fnAfterValueReadsAsOneSchemeByte", fn := fun _ => fun
  | [d1, d2, d3, d4, d5, d6, d7, d8, d9, d10] => { results := [.lit (.bool true)], args := [d1, d2, d3, d4, d5, d6, d7, d8, d9, d10] }
  | _ => none }
def fnAfterValueReadsAsOneSchemeByteRow : OpenClaim := { program := "qxb6617142a", sum := "766d77ac25b501c8032b40cfe5f71b3b41111f906bdba5ab3d5e02c8d53cc845", func := "example.com/default-escaping/default-escaping/zzlaws_root_b1.FnAfterValueReadsAsOneSchemeByte", spec := "fnAfterValueReadsAsOneSchemeByte", inPlace := ["internal/bytealg.IndexByteString"], apart := false }
def FnAfterValueReadsAsOneSchemeByteSaid : Prop := fnAfterValueReadsAsOneSchemeByteRow.holds Try.pinned (OpenSpec.ofChange fnAfterValueReadsAsOneSchemeByteSpec)

/-- ITS FALSE NEIGHBOUR: 'it returns false'. Refute it at one input. -/
def fnAfterValueReadsAsOneSchemeByteWrong : ChangeSpec := { name := "fnAfterValueReadsAsOneSchemeByte", fn := fun _ => fun
  | [d1, d2, d3, d4, d5, d6, d7, d8, d9, d10] => { results := [.lit (.bool false)], args := [d1, d2, d3, d4, d5, d6, d7, d8, d9, d10] }
  | _ => none }
def FnAfterValueReadsAsOneSchemeByteWrongFalsely : Prop := fnAfterValueReadsAsOneSchemeByteRow.holds Try.pinned (OpenSpec.ofChange fnAfterValueReadsAsOneSchemeByteWrong)

end Rows
end Go.Proofs.Qxb6617142a

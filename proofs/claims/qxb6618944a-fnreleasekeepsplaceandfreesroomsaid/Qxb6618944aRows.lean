/-
  No cell of these rows narrows 'for every input' (looked for: loops, veiled, ifaces, maps, wideKeys, modest, calm, conditions, laid).
  DERIVED. THE GIVEN ROWS OF THIS SEAT. 1 by the template 'for every input the law returns true; each argument reads behind the call as it read before'; 0 by the template 'total and deterministic' (their statements: Qxb6618944aTotals.lean).
  GIVEN WITH THE SEED: the statements are not yours to turn. If you find one false, say at which input.
  Laid BY PROGRAM, IN A SANDBOX (cutbox-rows.mjs): the forced cells as the released guide's own fill.sh prints them over the translation d295924bce8191d1… (all of the seat's roots in one cut). By AI agents, Wed Nov 11 2026. No macro, syntax, notation, axiom, sorry.
-/
import Derived.Test.Qxb6618944aChecked
import GoSem.Claim
import GoSem.ClaimJoined
import GoSem.ClaimMapViews
import Derived.JoinedTies
import Derived.KernelRfl
namespace Go.Proofs.Qxb6618944a
/- THE CELL 'sum', in the pinned program and in every row, IS THE sha256 OF THE DUMP (.gsa) THAT Qxb6618944aProg.lean LOADS. Nothing in Lean hashes anything: it is a label: what it is worth is what the hold of that sum in a sandbox is worth. -/
noncomputable def Try.pinned : Pinned := { name := "qxb6618944a", sum := "d295924bce8191d1a8f4f3fea01e0625deb7877be54e70dc3d6fbed4f8b21712", checked := Try.checked }
namespace Rows
def none {H : Type} : Left H := { results := [], args := [] }

/-- 'zzlaws_jsonscan_b1.FnReleaseKeepsPlaceAndFreesRoom': WHATEVER THE INPUT: true; the input reads as it did. -/
def fnReleaseKeepsPlaceAndFreesRoomSpec : ChangeSpec := { name := "fnReleaseKeepsPlaceAndFreesRoom", fn := fun _ => fun
  | [d1, d2, d3, d4, d5, d6] => { results := [.lit (.bool true)], args := [d1, d2, d3, d4, d5, d6] }
  | _ => none }
def fnReleaseKeepsPlaceAndFreesRoomRow : OpenClaim := { program := "qxb6618944a", sum := "d295924bce8191d1a8f4f3fea01e0625deb7877be54e70dc3d6fbed4f8b21712", func := "example.com/nearfield/nearfield/zzlaws_jsonscan_b1.FnReleaseKeepsPlaceAndFreesRoom", spec := "fnReleaseKeepsPlaceAndFreesRoom", inPlace := ["internal/bytealg.Count", "internal/bytealg.IndexByte", "internal/bytealg.Index"], named := ["internal/bytealg.MaxLen"], apart := false }
def FnReleaseKeepsPlaceAndFreesRoomSaid : Prop := fnReleaseKeepsPlaceAndFreesRoomRow.holds Try.pinned (OpenSpec.ofChange fnReleaseKeepsPlaceAndFreesRoomSpec)

/-- ITS FALSE NEIGHBOUR: 'it returns false'. Refute it at one input. -/
def fnReleaseKeepsPlaceAndFreesRoomWrong : ChangeSpec := { name := "fnReleaseKeepsPlaceAndFreesRoom", fn := fun _ => fun
  | [d1, d2, d3, d4, d5, d6] => { results := [.lit (.bool false)], args := [d1, d2, d3, d4, d5, d6] }
  | _ => none }
def FnReleaseKeepsPlaceAndFreesRoomWrongFalsely : Prop := fnReleaseKeepsPlaceAndFreesRoomRow.holds Try.pinned (OpenSpec.ofChange fnReleaseKeepsPlaceAndFreesRoomWrong)

end Rows
end Go.Proofs.Qxb6618944a

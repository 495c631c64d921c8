/-
  No cell of these rows narrows 'for every input' (looked for: loops, veiled, ifaces, maps, wideKeys, modest, calm, conditions, laid).
  DERIVED. THE GIVEN ROWS OF THIS SEAT. 3 by the template 'for every input the law returns true; each argument reads behind the call as it read before'; 0 by the template 'total and deterministic' (their statements: Qxb6617138aTotals.lean).
  GIVEN WITH THE SEED: the statements are not yours to turn. If you find one false, say at which input.
  Laid BY PROGRAM, IN A SANDBOX (cutbox-rows.mjs): the forced cells as the released guide's own fill.sh prints them over the translation dad732e01175f87d… (all of the seat's roots in one cut). By AI agents, Wed Nov 11 2026. No macro, syntax, notation, axiom, sorry.
-/
import Derived.Test.Qxb6617138aChecked
import GoSem.Claim
import GoSem.ClaimJoined
import GoSem.ClaimMapViews
import Derived.JoinedTies
import Derived.KernelRfl
namespace Go.Proofs.Qxb6617138a
/- THE CELL 'sum', in the pinned program and in every row, IS THE sha256 OF THE DUMP (.gsa) THAT Qxb6617138aProg.lean LOADS. Nothing in Lean hashes anything: it is a label: what it is worth is what the hold of that sum in a sandbox is worth. -/
noncomputable def Try.pinned : Pinned := { name := "qxb6617138a", sum := "dad732e01175f87dda71cdd1e944cf11728cc0aa697dc5939f67e55a2ff49b2d", checked := Try.checked }
namespace Rows
def none {H : Type} : Left H := { results := [], args := [] }

/-- 'zzlaws_postgres_b1.FnIsFieldNameIsVisibleASCIIWithoutDelimiters': WHATEVER THE INPUT: true; the input reads as it did. -/
def fnIsFieldNameIsVisibleASCIIWithoutDelimitersSpec : ChangeSpec := { name := "fnIsFieldNameIsVisibleASCIIWithoutDelimiters", fn := fun _ => fun
  | [d] => { results := [.lit (.bool true)], args := [d] }
  | _ => none }
def fnIsFieldNameIsVisibleASCIIWithoutDelimitersRow : OpenClaim := { program := "qxb6617138a", sum := "dad732e01175f87dda71cdd1e944cf11728cc0aa697dc5939f67e55a2ff49b2d", func := "example.com/onceward/onceward/zzlaws_postgres_b1.FnIsFieldNameIsVisibleASCIIWithoutDelimiters", spec := "fnIsFieldNameIsVisibleASCIIWithoutDelimiters", inPlace := ["internal/bytealg.IndexByteString"], apart := false }
def FnIsFieldNameIsVisibleASCIIWithoutDelimitersSaid : Prop := fnIsFieldNameIsVisibleASCIIWithoutDelimitersRow.holds Try.pinned (OpenSpec.ofChange fnIsFieldNameIsVisibleASCIIWithoutDelimitersSpec)

/-- ITS FALSE NEIGHBOUR: 'it returns false'. Refute it at one input. -/
def fnIsFieldNameIsVisibleASCIIWithoutDelimitersWrong : ChangeSpec := { name := "fnIsFieldNameIsVisibleASCIIWithoutDelimiters", fn := fun _ => fun
  | [d] => { results := [.lit (.bool false)], args := [d] }
  | _ => none }
def FnIsFieldNameIsVisibleASCIIWithoutDelimitersWrongFalsely : Prop := fnIsFieldNameIsVisibleASCIIWithoutDelimitersRow.holds Try.pinned (OpenSpec.ofChange fnIsFieldNameIsVisibleASCIIWithoutDelimitersWrong)

/-- 'zzlaws_postgres_b1.FnIsFieldNameSplitsAtAnyCut': WHATEVER THE INPUT: true; the input reads as it did. -/
def fnIsFieldNameSplitsAtAnyCutSpec : ChangeSpec := { name := "fnIsFieldNameSplitsAtAnyCut", fn := fun _ => fun
  | [d1, d2] => { results := [.lit (.bool true)], args := [d1, d2] }
  | _ => none }
def fnIsFieldNameSplitsAtAnyCutRow : OpenClaim := { program := "qxb6617138a", sum := "dad732e01175f87dda71cdd1e944cf11728cc0aa697dc5939f67e55a2ff49b2d", func := "example.com/onceward/onceward/zzlaws_postgres_b1.FnIsFieldNameSplitsAtAnyCut", spec := "fnIsFieldNameSplitsAtAnyCut", inPlace := ["internal/bytealg.IndexByteString"], apart := false }
def FnIsFieldNameSplitsAtAnyCutSaid : Prop := fnIsFieldNameSplitsAtAnyCutRow.holds Try.pinned (OpenSpec.ofChange fnIsFieldNameSplitsAtAnyCutSpec)

/-- ITS FALSE NEIGHBOUR: 'it returns false'. Refute it at one input. -/
def fnIsFieldNameSplitsAtAnyCutWrong : ChangeSpec := { name := "fnIsFieldNameSplitsAtAnyCut", fn := fun _ => fun
  | [d1, d2] => { results := [.lit (.bool false)], args := [d1, d2] }
  | _ => none }
def FnIsFieldNameSplitsAtAnyCutWrongFalsely : Prop := fnIsFieldNameSplitsAtAnyCutRow.holds Try.pinned (OpenSpec.ofChange fnIsFieldNameSplitsAtAnyCutWrong)

/-- 'zzlaws_postgres_b1.FnColumnsOneToOneOnWellFormedRequests': WHATEVER THE INPUT: true; the input reads as it did. -/
def fnColumnsOneToOneOnWellFormedRequestsSpec : ChangeSpec := { name := "fnColumnsOneToOneOnWellFormedRequests", fn := fun _ => fun
  | [d1, d2, d3, d4, d5, d6, d7, d8, d9, d10, d11, d12] => { results := [.lit (.bool true)], args := [d1, d2, d3, d4, d5, d6, d7, d8, d9, d10, d11, d12] }
  | _ => none }
def fnColumnsOneToOneOnWellFormedRequestsRow : OpenClaim := { program := "qxb6617138a", sum := "dad732e01175f87dda71cdd1e944cf11728cc0aa697dc5939f67e55a2ff49b2d", func := "example.com/onceward/onceward/zzlaws_postgres_b1.FnColumnsOneToOneOnWellFormedRequests", spec := "fnColumnsOneToOneOnWellFormedRequests", apart := false }
def FnColumnsOneToOneOnWellFormedRequestsSaid : Prop := fnColumnsOneToOneOnWellFormedRequestsRow.holds Try.pinned (OpenSpec.ofChange fnColumnsOneToOneOnWellFormedRequestsSpec)

/-- ITS FALSE NEIGHBOUR: 'it returns false'. Refute it at one input. -/
def fnColumnsOneToOneOnWellFormedRequestsWrong : ChangeSpec := { name := "fnColumnsOneToOneOnWellFormedRequests", fn := fun _ => fun
  | [d1, d2, d3, d4, d5, d6, d7, d8, d9, d10, d11, d12] => { results := [.lit (.bool false)], args := [d1, d2, d3, d4, d5, d6, d7, d8, d9, d10, d11, d12] }
  | _ => none }
def FnColumnsOneToOneOnWellFormedRequestsWrongFalsely : Prop := fnColumnsOneToOneOnWellFormedRequestsRow.holds Try.pinned (OpenSpec.ofChange fnColumnsOneToOneOnWellFormedRequestsWrong)

end Rows
end Go.Proofs.Qxb6617138a

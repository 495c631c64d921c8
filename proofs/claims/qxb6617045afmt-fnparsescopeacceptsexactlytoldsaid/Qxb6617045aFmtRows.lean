/-
  No cell of these rows narrows 'for every input' (looked for: loops, veiled, ifaces, maps, wideKeys, modest, calm, conditions, laid).
  DERIVED. THE GIVEN ROWS OF THIS SEAT. 2 by the template 'for every input the law returns true; each argument reads behind the call as it read before'; 0 by the template 'total and deterministic' (their statements: Qxb6617045aFmtTotals.lean).
  GIVEN WITH THE SEED: the statements are not yours to turn. If you find one false, say at which input.
  Laid BY PROGRAM, IN A SANDBOX (cutbox-rows.mjs): the forced cells as the released guide's own fill.sh prints them over the translation b070ef6bdddb8b4d… (all of the seat's roots in one cut). By AI agents, Wed Nov 11 2026. No macro, syntax, notation, axiom, sorry.
-/
import Derived.Test.Qxb6617045aFmtChecked
import GoSem.Claim
import GoSem.ClaimJoined
import GoSem.ClaimMapViews
import Derived.JoinedTies
import Derived.KernelRfl
namespace Go.Proofs.Qxb6617045aFmt
/- THE CELL 'sum', in the pinned program and in every row, IS THE sha256 OF THE DUMP (.gsa) THAT Qxb6617045aFmtProg.lean LOADS. Nothing in Lean hashes anything: it is a label: what it is worth is what the hold of that sum in a sandbox is worth. -/
noncomputable def Tryf.pinned : Pinned := { name := "qxb6617045afmt", sum := "b070ef6bdddb8b4d3b0015730b0fd38e4b8e83a1d034e42258b32785bd2ca515", checked := Tryf.checked }
namespace Rows
def none {H : Type} : Left H := { results := [], args := [] }

/-- 'zzlaws_sigv4_e1.FnParseScopeInvertsString': WHATEVER THE INPUT: true; the input reads as it did. -/
def fnParseScopeInvertsStringSpec : ChangeSpec := { name := "fnParseScopeInvertsString", fn := fun _ => fun
  | [d1, d2, d3] => { results := [.lit (.bool true)], args := [d1, d2, d3] }
  | _ => none }
def fnParseScopeInvertsStringRow : OpenClaim := { program := "qxb6617045afmt", sum := "b070ef6bdddb8b4d3b0015730b0fd38e4b8e83a1d034e42258b32785bd2ca515", func := "example.com/nutcracker/nutcracker/zzlaws_sigv4_e1.FnParseScopeInvertsString", spec := "fnParseScopeInvertsString", stops := ["fmt.errorf"], inPlace := ["internal/bytealg.IndexByteString", "internal/bytealg.IndexString", "fmt.errorf"], named := ["internal/bytealg.MaxLen"], apart := false }
/-- NO THEOREM (fmt's text is open here; it may be false): for the released tool's asking of the row's closed facts alone. THE STATEMENT IS 'FnParseScopeInvertsStringToldSaid' (Qxb6617045aFmtCards.lean). -/
def FnParseScopeInvertsStringFormAsk : Prop := fnParseScopeInvertsStringRow.holds Tryf.pinned (OpenSpec.ofChange fnParseScopeInvertsStringSpec)

/-- ITS FALSE NEIGHBOUR: 'it returns false'. Refute it at one input. -/
def fnParseScopeInvertsStringWrong : ChangeSpec := { name := "fnParseScopeInvertsString", fn := fun _ => fun
  | [d1, d2, d3] => { results := [.lit (.bool false)], args := [d1, d2, d3] }
  | _ => none }
def FnParseScopeInvertsStringWrongFormAsk : Prop := fnParseScopeInvertsStringRow.holds Tryf.pinned (OpenSpec.ofChange fnParseScopeInvertsStringWrong)

/-- 'zzlaws_sigv4_e1.FnParseScopeAcceptsExactly': WHATEVER THE INPUT: true; the input reads as it did. -/
def fnParseScopeAcceptsExactlySpec : ChangeSpec := { name := "fnParseScopeAcceptsExactly", fn := fun _ => fun
  | [d] => { results := [.lit (.bool true)], args := [d] }
  | _ => none }
def fnParseScopeAcceptsExactlyRow : OpenClaim := { program := "qxb6617045afmt", sum := "b070ef6bdddb8b4d3b0015730b0fd38e4b8e83a1d034e42258b32785bd2ca515", func := "example.com/nutcracker/nutcracker/zzlaws_sigv4_e1.FnParseScopeAcceptsExactly", spec := "fnParseScopeAcceptsExactly", stops := ["fmt.errorf"], inPlace := ["internal/bytealg.IndexByteString", "internal/bytealg.IndexString", "fmt.errorf"], named := ["internal/bytealg.MaxLen"], apart := false }
/-- NO THEOREM (fmt's text is open here; it may be false): for the released tool's asking of the row's closed facts alone. THE STATEMENT IS 'FnParseScopeAcceptsExactlyToldSaid' (Qxb6617045aFmtCards.lean). -/
def FnParseScopeAcceptsExactlyFormAsk : Prop := fnParseScopeAcceptsExactlyRow.holds Tryf.pinned (OpenSpec.ofChange fnParseScopeAcceptsExactlySpec)

/-- ITS FALSE NEIGHBOUR: 'it returns false'. Refute it at one input. -/
def fnParseScopeAcceptsExactlyWrong : ChangeSpec := { name := "fnParseScopeAcceptsExactly", fn := fun _ => fun
  | [d] => { results := [.lit (.bool false)], args := [d] }
  | _ => none }
def FnParseScopeAcceptsExactlyWrongFormAsk : Prop := fnParseScopeAcceptsExactlyRow.holds Tryf.pinned (OpenSpec.ofChange fnParseScopeAcceptsExactlyWrong)

end Rows
end Go.Proofs.Qxb6617045aFmt

/-
  DERIVED. GIVEN WITH THE SEED: THE CARDS: each row of Qxb6617045aFmtRows.lean that lists a variable, with what it lists TIED to the program's text (the seventh form; the later family's looks); each row that meets fmt, with fmt's text TOLD by the authors' own Lean function (tested against real Go, not proved from fmt's source: count such statements apart). THE CARD IS WHAT COUNTS. Prove the row's statement (the work); the ties are given (Qxb6617045aFmtTie.lean); close each card by the builder's one call (the guide's Derived/Test/ToyasCard.lean, 'card_holds'). Laid BY PROGRAM, IN A SANDBOX (cutbox-door.mjs). By AI agents, Wed Nov 11 2026. No macro, syntax, notation, axiom, sorry.
-/
import Derived.Test.Qxb6617045aFmtRows
import GoSem.ClaimSeven
namespace Go.Proofs.Qxb6617045aFmt
namespace Rows

/-- THE TOLD CARD OF 'zzlaws_sigv4_e1.FnParseScopeInvertsString'. -/
def fnParseScopeInvertsStringCard : Claim7 := { stood := { row := fnParseScopeInvertsStringRow, standIns := [], harness := (true, "6e1a3b8225ea7b99360929061b137a1485ff3be3af359883dc4f3fe46d9ef4e7"), looks := false }, told := true, goes := false }
def FnParseScopeInvertsStringToldSaid : Prop := Claim7.holds Tryf.pinned (.plain (OpenSpec.ofChange fnParseScopeInvertsStringSpec)) fnParseScopeInvertsStringCard
/-- ITS FALSE NEIGHBOUR. Refute it at one input. -/
def FnParseScopeInvertsStringToldWrongFalsely : Prop := Claim7.holds Tryf.pinned (.plain (OpenSpec.ofChange fnParseScopeInvertsStringWrong)) fnParseScopeInvertsStringCard

/-- THE TOLD CARD OF 'zzlaws_sigv4_e1.FnParseScopeAcceptsExactly'. -/
def fnParseScopeAcceptsExactlyCard : Claim7 := { stood := { row := fnParseScopeAcceptsExactlyRow, standIns := [], harness := (true, "6e1a3b8225ea7b99360929061b137a1485ff3be3af359883dc4f3fe46d9ef4e7"), looks := false }, told := true, goes := false }
def FnParseScopeAcceptsExactlyToldSaid : Prop := Claim7.holds Tryf.pinned (.plain (OpenSpec.ofChange fnParseScopeAcceptsExactlySpec)) fnParseScopeAcceptsExactlyCard
/-- ITS FALSE NEIGHBOUR. Refute it at one input. -/
def FnParseScopeAcceptsExactlyToldWrongFalsely : Prop := Claim7.holds Tryf.pinned (.plain (OpenSpec.ofChange fnParseScopeAcceptsExactlyWrong)) fnParseScopeAcceptsExactlyCard
end Rows
end Go.Proofs.Qxb6617045aFmt

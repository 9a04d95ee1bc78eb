/-
  DERIVED. GIVEN WITH THE SEED: THE CARDS: each row of Qxb6617053aFmtRows.lean that lists a variable, with what it lists TIED to the program's text (the seventh form; the later family's looks); each row that meets fmt, with fmt's text TOLD by the authors' own Lean function (tested against real Go, not proved from fmt's source: count such statements apart). THE CARD IS WHAT COUNTS. Prove the row's statement (the work); the ties are given (Qxb6617053aFmtTie.lean); close each card by the builder's one call (the guide's Derived/Test/ToyasCard.lean, 'card_holds'). Laid BY PROGRAM, IN A SANDBOX (cutbox-door.mjs). By AI agents, Wed Nov 11 2026. No macro, syntax, notation, axiom, sorry.
-/
import Derived.Test.Qxb6617053aFmtRows
import GoSem.ClaimSeven
namespace Go.Proofs.Qxb6617053aFmt
namespace Rows

/-- THE TOLD CARD OF 'zzlaws_root_e1.FnSkipNumberMatchesAutomaton'. -/
def fnSkipNumberMatchesAutomatonCard : Claim7 := { stood := { row := fnSkipNumberMatchesAutomatonRow, standIns := [], harness := (true, "c4c93808e667fe01692dcbe21b97c8c2bdf658531d8ebd52f00b331a3627173f"), looks := false }, told := true, goes := false }
def FnSkipNumberMatchesAutomatonToldSaid : Prop := Claim7.holds Tryf.pinned (.plain (OpenSpec.ofChange fnSkipNumberMatchesAutomatonSpec)) fnSkipNumberMatchesAutomatonCard
/-- ITS FALSE NEIGHBOUR. Refute it at one input. -/
def FnSkipNumberMatchesAutomatonToldWrongFalsely : Prop := Claim7.holds Tryf.pinned (.plain (OpenSpec.ofChange fnSkipNumberMatchesAutomatonWrong)) fnSkipNumberMatchesAutomatonCard

/-- THE TOLD CARD OF 'zzlaws_root_e1.FnSkipNumberCutAnywhere'. -/
def fnSkipNumberCutAnywhereCard : Claim7 := { stood := { row := fnSkipNumberCutAnywhereRow, standIns := [], harness := (true, "c4c93808e667fe01692dcbe21b97c8c2bdf658531d8ebd52f00b331a3627173f"), looks := false }, told := true, goes := false }
def FnSkipNumberCutAnywhereToldSaid : Prop := Claim7.holds Tryf.pinned (.plain (OpenSpec.ofChange fnSkipNumberCutAnywhereSpec)) fnSkipNumberCutAnywhereCard
/-- ITS FALSE NEIGHBOUR. Refute it at one input. -/
def FnSkipNumberCutAnywhereToldWrongFalsely : Prop := Claim7.holds Tryf.pinned (.plain (OpenSpec.ofChange fnSkipNumberCutAnywhereWrong)) fnSkipNumberCutAnywhereCard

/-- THE TOLD CARD OF 'zzlaws_root_e1.FnSkipLiteralJoinedName'. -/
def fnSkipLiteralJoinedNameCard : Claim7 := { stood := { row := fnSkipLiteralJoinedNameRow, standIns := [], harness := (true, "c4c93808e667fe01692dcbe21b97c8c2bdf658531d8ebd52f00b331a3627173f"), looks := false }, told := true, goes := false }
def FnSkipLiteralJoinedNameToldSaid : Prop := Claim7.holds Tryf.pinned (.plain (OpenSpec.ofChange fnSkipLiteralJoinedNameSpec)) fnSkipLiteralJoinedNameCard
/-- ITS FALSE NEIGHBOUR. Refute it at one input. -/
def FnSkipLiteralJoinedNameToldWrongFalsely : Prop := Claim7.holds Tryf.pinned (.plain (OpenSpec.ofChange fnSkipLiteralJoinedNameWrong)) fnSkipLiteralJoinedNameCard

/-- THE TOLD CARD OF 'zzlaws_root_e1.FnSkipLiteralExactTextOnly'. -/
def fnSkipLiteralExactTextOnlyCard : Claim7 := { stood := { row := fnSkipLiteralExactTextOnlyRow, standIns := [], harness := (true, "c4c93808e667fe01692dcbe21b97c8c2bdf658531d8ebd52f00b331a3627173f"), looks := false }, told := true, goes := false }
def FnSkipLiteralExactTextOnlyToldSaid : Prop := Claim7.holds Tryf.pinned (.plain (OpenSpec.ofChange fnSkipLiteralExactTextOnlySpec)) fnSkipLiteralExactTextOnlyCard
/-- ITS FALSE NEIGHBOUR. Refute it at one input. -/
def FnSkipLiteralExactTextOnlyToldWrongFalsely : Prop := Claim7.holds Tryf.pinned (.plain (OpenSpec.ofChange fnSkipLiteralExactTextOnlyWrong)) fnSkipLiteralExactTextOnlyCard
end Rows
end Go.Proofs.Qxb6617053aFmt

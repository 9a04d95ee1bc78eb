/-
  No cell of these rows narrows 'for every input' (looked for: loops, veiled, ifaces, maps, wideKeys, modest, calm, conditions, laid).
  DERIVED. THE GIVEN ROWS OF THIS SEAT. 4 by the template 'for every input the law returns true; each argument reads behind the call as it read before'; 0 by the template 'total and deterministic' (their statements: Qxb6617053aFmtTotals.lean).
  GIVEN WITH THE SEED: the statements are not yours to turn. If you find one false, say at which input.
  Laid BY PROGRAM, IN A SANDBOX (cutbox-rows.mjs): the forced cells as the released guide's own fill.sh prints them over the translation f408bedf95bfb1ce… (all of the seat's roots in one cut). By AI agents, Wed Nov 11 2026. No macro, syntax, notation, axiom, sorry.
-/
import Derived.Test.Qxb6617053aFmtChecked
import GoSem.Claim
import GoSem.ClaimJoined
import GoSem.ClaimMapViews
import Derived.JoinedTies
import Derived.KernelRfl
namespace Go.Proofs.Qxb6617053aFmt
/- THE CELL 'sum', in the pinned program and in every row, IS THE sha256 OF THE DUMP (.gsa) THAT Qxb6617053aFmtProg.lean LOADS. Nothing in Lean hashes anything: it is a label: what it is worth is what the hold of that sum in a sandbox is worth. -/
noncomputable def Tryf.pinned : Pinned := { name := "qxb6617053afmt", sum := "f408bedf95bfb1ce79b02d80e77921e40504066432727c5cc903207574067251", checked := Tryf.checked }
namespace Rows
def none {H : Type} : Left H := { results := [], args := [] }

/-- 'zzlaws_root_e1.FnSkipNumberMatchesAutomaton': WHATEVER THE INPUT: true; the input reads as it did. -/
def fnSkipNumberMatchesAutomatonSpec : ChangeSpec := { name := "fnSkipNumberMatchesAutomaton", fn := fun _ => fun
  | [d1, d2] => { results := [.lit (.bool true)], args := [d1, d2] }
  | _ => none }
def fnSkipNumberMatchesAutomatonRow : OpenClaim := { program := "qxb6617053afmt", sum := "f408bedf95bfb1ce79b02d80e77921e40504066432727c5cc903207574067251", func := "example.com/vigilant-trail/vigilant-trail/zzlaws_root_e1.FnSkipNumberMatchesAutomaton", spec := "fnSkipNumberMatchesAutomaton", stops := ["fmt.errorf"], inPlace := ["fmt.errorf"], apart := false }
/-- NO THEOREM (fmt's text is open here; it may be false): for the released tool's asking of the row's closed facts alone. THE STATEMENT IS 'FnSkipNumberMatchesAutomatonToldSaid' (Qxb6617053aFmtCards.lean). -/
def FnSkipNumberMatchesAutomatonFormAsk : Prop := fnSkipNumberMatchesAutomatonRow.holds Tryf.pinned (OpenSpec.ofChange fnSkipNumberMatchesAutomatonSpec)

/-- ITS FALSE NEIGHBOUR: 'it returns false'. Refute it at one input. -/
def fnSkipNumberMatchesAutomatonWrong : ChangeSpec := { name := "fnSkipNumberMatchesAutomaton", fn := fun _ => fun
  | [d1, d2] => { results := [.lit (.bool false)], args := [d1, d2] }
  | _ => none }
def FnSkipNumberMatchesAutomatonWrongFormAsk : Prop := fnSkipNumberMatchesAutomatonRow.holds Tryf.pinned (OpenSpec.ofChange fnSkipNumberMatchesAutomatonWrong)

/-- 'zzlaws_root_e1.FnSkipNumberCutAnywhere': WHATEVER THE INPUT: true; the input reads as it did. -/
def fnSkipNumberCutAnywhereSpec : ChangeSpec := { name := "fnSkipNumberCutAnywhere", fn := fun _ => fun
  | [d1, d2, d3] => { results := [.lit (.bool true)], args := [d1, d2, d3] }
  | _ => none }
def fnSkipNumberCutAnywhereRow : OpenClaim := { program := "qxb6617053afmt", sum := "f408bedf95bfb1ce79b02d80e77921e40504066432727c5cc903207574067251", func := "example.com/vigilant-trail/vigilant-trail/zzlaws_root_e1.FnSkipNumberCutAnywhere", spec := "fnSkipNumberCutAnywhere", stops := ["fmt.errorf"], inPlace := ["fmt.errorf"], apart := false }
/-- NO THEOREM (fmt's text is open here; it may be false): for the released tool's asking of the row's closed facts alone. THE STATEMENT IS 'FnSkipNumberCutAnywhereToldSaid' (Qxb6617053aFmtCards.lean). -/
def FnSkipNumberCutAnywhereFormAsk : Prop := fnSkipNumberCutAnywhereRow.holds Tryf.pinned (OpenSpec.ofChange fnSkipNumberCutAnywhereSpec)

/-- ITS FALSE NEIGHBOUR: 'it returns false'. Refute it at one input. -/
def fnSkipNumberCutAnywhereWrong : ChangeSpec := { name := "fnSkipNumberCutAnywhere", fn := fun _ => fun
  | [d1, d2, d3] => { results := [.lit (.bool false)], args := [d1, d2, d3] }
  | _ => none }
def FnSkipNumberCutAnywhereWrongFormAsk : Prop := fnSkipNumberCutAnywhereRow.holds Tryf.pinned (OpenSpec.ofChange fnSkipNumberCutAnywhereWrong)

/-- 'zzlaws_root_e1.FnSkipLiteralJoinedName': WHATEVER THE INPUT: true; the input reads as it did. -/
def fnSkipLiteralJoinedNameSpec : ChangeSpec := { name := "fnSkipLiteralJoinedName", fn := fun _ => fun
  | [d1, d2, d3, d4] => { results := [.lit (.bool true)], args := [d1, d2, d3, d4] }
  | _ => none }
def fnSkipLiteralJoinedNameRow : OpenClaim := { program := "qxb6617053afmt", sum := "f408bedf95bfb1ce79b02d80e77921e40504066432727c5cc903207574067251", func := "example.com/vigilant-trail/vigilant-trail/zzlaws_root_e1.FnSkipLiteralJoinedName", spec := "fnSkipLiteralJoinedName", stops := ["fmt.errorf"], inPlace := ["fmt.errorf"], apart := false }
/-- NO THEOREM (fmt's text is open here; it may be false): for the released tool's asking of the row's closed facts alone. THE STATEMENT IS 'FnSkipLiteralJoinedNameToldSaid' (Qxb6617053aFmtCards.lean). -/
def FnSkipLiteralJoinedNameFormAsk : Prop := fnSkipLiteralJoinedNameRow.holds Tryf.pinned (OpenSpec.ofChange fnSkipLiteralJoinedNameSpec)

/-- ITS FALSE NEIGHBOUR: 'it returns false'. Refute it at one input. -/
def fnSkipLiteralJoinedNameWrong : ChangeSpec := { name := "fnSkipLiteralJoinedName", fn := fun _ => fun
  | [d1, d2, d3, d4] => { results := [.lit (.bool false)], args := [d1, d2, d3, d4] }
  | _ => none }
def FnSkipLiteralJoinedNameWrongFormAsk : Prop := fnSkipLiteralJoinedNameRow.holds Tryf.pinned (OpenSpec.ofChange fnSkipLiteralJoinedNameWrong)

/-- 'zzlaws_root_e1.FnSkipLiteralExactTextOnly': WHATEVER THE INPUT: true; the input reads as it did. -/
def fnSkipLiteralExactTextOnlySpec : ChangeSpec := { name := "fnSkipLiteralExactTextOnly", fn := fun _ => fun
  | [d1, d2, d3, d4, d5] => { results := [.lit (.bool true)], args := [d1, d2, d3, d4, d5] }
  | _ => none }
def fnSkipLiteralExactTextOnlyRow : OpenClaim := { program := "qxb6617053afmt", sum := "f408bedf95bfb1ce79b02d80e77921e40504066432727c5cc903207574067251", func := "example.com/vigilant-trail/vigilant-trail/zzlaws_root_e1.FnSkipLiteralExactTextOnly", spec := "fnSkipLiteralExactTextOnly", stops := ["fmt.errorf"], inPlace := ["fmt.errorf"], apart := false }
/-- NO THEOREM (fmt's text is open here; it may be false): for the released tool's asking of the row's closed facts alone. THE STATEMENT IS 'FnSkipLiteralExactTextOnlyToldSaid' (Qxb6617053aFmtCards.lean). -/
def FnSkipLiteralExactTextOnlyFormAsk : Prop := fnSkipLiteralExactTextOnlyRow.holds Tryf.pinned (OpenSpec.ofChange fnSkipLiteralExactTextOnlySpec)

/-- ITS FALSE NEIGHBOUR: 'it returns false'. Refute it at one input. -/
def fnSkipLiteralExactTextOnlyWrong : ChangeSpec := { name := "fnSkipLiteralExactTextOnly", fn := fun _ => fun
  | [d1, d2, d3, d4, d5] => { results := [.lit (.bool false)], args := [d1, d2, d3, d4, d5] }
  | _ => none }
def FnSkipLiteralExactTextOnlyWrongFormAsk : Prop := fnSkipLiteralExactTextOnlyRow.holds Tryf.pinned (OpenSpec.ofChange fnSkipLiteralExactTextOnlyWrong)

end Rows
end Go.Proofs.Qxb6617053aFmt

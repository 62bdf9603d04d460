/-
  No cell of these rows narrows 'for every input' (looked for: loops, veiled, ifaces, maps, wideKeys, modest, calm, conditions, laid).
  DERIVED. THE GIVEN ROWS OF THIS SEAT. 6 by the template 'for every input the law returns true; each argument reads behind the call as it read before'; 0 by the template 'total and deterministic' (their statements: Qxb6601169aTotals.lean).
  GIVEN WITH THE SEED: the statements are not yours to turn. If you find one false, say at which input.
  Laid BY PROGRAM, IN A SANDBOX (cutbox-rows.mjs): the forced cells as the released guide's own fill.sh prints them over the translation ee1c9feffcb46ff5… (all of the seat's roots in one cut). By AI agents, Wed Nov 11 2026. No macro, syntax, notation, axiom, sorry.
-/
import Derived.Test.Qxb6601169aChecked
import GoSem.Claim
import GoSem.ClaimJoined
import GoSem.ClaimMapViews
import Derived.JoinedTies
import Derived.KernelRfl
namespace Go.Proofs.Qxb6601169a
/- THE CELL 'sum', in the pinned program and in every row, IS THE sha256 OF THE DUMP (.gsa) THAT Qxb6601169aProg.lean LOADS. Nothing in Lean hashes anything: it is a label: what it is worth is what the hold of that sum in a sandbox is worth. -/
noncomputable def Try.pinned : Pinned := { name := "qxb6601169a", sum := "ee1c9feffcb46ff5bf897113aee0c4d4fb1208c635aa99463731b1c8cca0cb90", checked := Try.checked }
namespace Rows
def none {H : Type} : Left H := { results := [], args := [] }

/-- 'zzlaws_internal_jsonvalue_b1.FnNumberTextMatchesAutomaton': WHATEVER THE INPUT: true; the input reads as it did. -/
def fnNumberTextMatchesAutomatonSpec : ChangeSpec := { name := "fnNumberTextMatchesAutomaton", fn := fun _ => fun
  | [d1, d2] => { results := [.lit (.bool true)], args := [d1, d2] }
  | _ => none }
def fnNumberTextMatchesAutomatonRow : OpenClaim := { program := "qxb6601169a", sum := "ee1c9feffcb46ff5bf897113aee0c4d4fb1208c635aa99463731b1c8cca0cb90", func := "example.com/ruleloom/ruleloom/zzlaws_internal_jsonvalue_b1.FnNumberTextMatchesAutomaton", spec := "fnNumberTextMatchesAutomaton", apart := false }
def FnNumberTextMatchesAutomatonSaid : Prop := fnNumberTextMatchesAutomatonRow.holds Try.pinned (OpenSpec.ofChange fnNumberTextMatchesAutomatonSpec)

/-- ITS FALSE NEIGHBOUR: 'it returns false'. Refute it at one input. -/
def fnNumberTextMatchesAutomatonWrong : ChangeSpec := { name := "fnNumberTextMatchesAutomaton", fn := fun _ => fun
  | [d1, d2] => { results := [.lit (.bool false)], args := [d1, d2] }
  | _ => none }
def FnNumberTextMatchesAutomatonWrongFalsely : Prop := fnNumberTextMatchesAutomatonRow.holds Try.pinned (OpenSpec.ofChange fnNumberTextMatchesAutomatonWrong)

/-- 'zzlaws_internal_jsonvalue_b1.FnNumberTextShiftInvariant': WHATEVER THE INPUT: true; the input reads as it did. -/
def fnNumberTextShiftInvariantSpec : ChangeSpec := { name := "fnNumberTextShiftInvariant", fn := fun _ => fun
  | [d1, d2] => { results := [.lit (.bool true)], args := [d1, d2] }
  | _ => none }
def fnNumberTextShiftInvariantRow : OpenClaim := { program := "qxb6601169a", sum := "ee1c9feffcb46ff5bf897113aee0c4d4fb1208c635aa99463731b1c8cca0cb90", func := "example.com/ruleloom/ruleloom/zzlaws_internal_jsonvalue_b1.FnNumberTextShiftInvariant", spec := "fnNumberTextShiftInvariant", apart := false }
def FnNumberTextShiftInvariantSaid : Prop := fnNumberTextShiftInvariantRow.holds Try.pinned (OpenSpec.ofChange fnNumberTextShiftInvariantSpec)

/-- ITS FALSE NEIGHBOUR: 'it returns false'. Refute it at one input. -/
def fnNumberTextShiftInvariantWrong : ChangeSpec := { name := "fnNumberTextShiftInvariant", fn := fun _ => fun
  | [d1, d2] => { results := [.lit (.bool false)], args := [d1, d2] }
  | _ => none }
def FnNumberTextShiftInvariantWrongFalsely : Prop := fnNumberTextShiftInvariantRow.holds Try.pinned (OpenSpec.ofChange fnNumberTextShiftInvariantWrong)

/-- 'zzlaws_internal_jsonvalue_b1.FnNumberTextRereadsItsOwnText': WHATEVER THE INPUT: true; the input reads as it did. -/
def fnNumberTextRereadsItsOwnTextSpec : ChangeSpec := { name := "fnNumberTextRereadsItsOwnText", fn := fun _ => fun
  | [d1, d2] => { results := [.lit (.bool true)], args := [d1, d2] }
  | _ => none }
def fnNumberTextRereadsItsOwnTextRow : OpenClaim := { program := "qxb6601169a", sum := "ee1c9feffcb46ff5bf897113aee0c4d4fb1208c635aa99463731b1c8cca0cb90", func := "example.com/ruleloom/ruleloom/zzlaws_internal_jsonvalue_b1.FnNumberTextRereadsItsOwnText", spec := "fnNumberTextRereadsItsOwnText", apart := false }
def FnNumberTextRereadsItsOwnTextSaid : Prop := fnNumberTextRereadsItsOwnTextRow.holds Try.pinned (OpenSpec.ofChange fnNumberTextRereadsItsOwnTextSpec)

/-- ITS FALSE NEIGHBOUR: 'it returns false'. Refute it at one input. -/
def fnNumberTextRereadsItsOwnTextWrong : ChangeSpec := { name := "fnNumberTextRereadsItsOwnText", fn := fun _ => fun
  | [d1, d2] => { results := [.lit (.bool false)], args := [d1, d2] }
  | _ => none }
def FnNumberTextRereadsItsOwnTextWrongFalsely : Prop := fnNumberTextRereadsItsOwnTextRow.holds Try.pinned (OpenSpec.ofChange fnNumberTextRereadsItsOwnTextWrong)

/-- 'zzlaws_internal_jsonvalue_b1.FnHex4ReadsBackFourDigits': WHATEVER THE INPUT: true; the input reads as it did. -/
def fnHex4ReadsBackFourDigitsSpec : ChangeSpec := { name := "fnHex4ReadsBackFourDigits", fn := fun _ => fun
  | [d1, d2, d3] => { results := [.lit (.bool true)], args := [d1, d2, d3] }
  | _ => none }
def fnHex4ReadsBackFourDigitsRow : OpenClaim := { program := "qxb6601169a", sum := "ee1c9feffcb46ff5bf897113aee0c4d4fb1208c635aa99463731b1c8cca0cb90", func := "example.com/ruleloom/ruleloom/zzlaws_internal_jsonvalue_b1.FnHex4ReadsBackFourDigits", spec := "fnHex4ReadsBackFourDigits", apart := false }
def FnHex4ReadsBackFourDigitsSaid : Prop := fnHex4ReadsBackFourDigitsRow.holds Try.pinned (OpenSpec.ofChange fnHex4ReadsBackFourDigitsSpec)

/-- ITS FALSE NEIGHBOUR: 'it returns false'. Refute it at one input. -/
def fnHex4ReadsBackFourDigitsWrong : ChangeSpec := { name := "fnHex4ReadsBackFourDigits", fn := fun _ => fun
  | [d1, d2, d3] => { results := [.lit (.bool false)], args := [d1, d2, d3] }
  | _ => none }
def FnHex4ReadsBackFourDigitsWrongFalsely : Prop := fnHex4ReadsBackFourDigitsRow.holds Try.pinned (OpenSpec.ofChange fnHex4ReadsBackFourDigitsWrong)

/-- 'zzlaws_internal_jsonvalue_b1.FnAppendEscapeDecodesBack': WHATEVER THE INPUT: true; the input reads as it did. -/
def fnAppendEscapeDecodesBackSpec : ChangeSpec := { name := "fnAppendEscapeDecodesBack", fn := fun _ => fun
  | [d] => { results := [.lit (.bool true)], args := [d] }
  | _ => none }
def fnAppendEscapeDecodesBackRow : OpenClaim := { program := "qxb6601169a", sum := "ee1c9feffcb46ff5bf897113aee0c4d4fb1208c635aa99463731b1c8cca0cb90", func := "example.com/ruleloom/ruleloom/zzlaws_internal_jsonvalue_b1.FnAppendEscapeDecodesBack", spec := "fnAppendEscapeDecodesBack", apart := false }
def FnAppendEscapeDecodesBackSaid : Prop := fnAppendEscapeDecodesBackRow.holds Try.pinned (OpenSpec.ofChange fnAppendEscapeDecodesBackSpec)

/-- ITS FALSE NEIGHBOUR: 'it returns false'. Refute it at one input. -/
def fnAppendEscapeDecodesBackWrong : ChangeSpec := { name := "fnAppendEscapeDecodesBack", fn := fun _ => fun
  | [d] => { results := [.lit (.bool false)], args := [d] }
  | _ => none }
def FnAppendEscapeDecodesBackWrongFalsely : Prop := fnAppendEscapeDecodesBackRow.holds Try.pinned (OpenSpec.ofChange fnAppendEscapeDecodesBackWrong)

/-- 'zzlaws_internal_jsonvalue_b1.FnHex4ReadsAppendEscapeDigits': WHATEVER THE INPUT: true; the input reads as it did. -/
def fnHex4ReadsAppendEscapeDigitsSpec : ChangeSpec := { name := "fnHex4ReadsAppendEscapeDigits", fn := fun _ => fun
  | [d] => { results := [.lit (.bool true)], args := [d] }
  | _ => none }
def fnHex4ReadsAppendEscapeDigitsRow : OpenClaim := { program := "qxb6601169a", sum := "ee1c9feffcb46ff5bf897113aee0c4d4fb1208c635aa99463731b1c8cca0cb90", func := "example.com/ruleloom/ruleloom/zzlaws_internal_jsonvalue_b1.FnHex4ReadsAppendEscapeDigits", spec := "fnHex4ReadsAppendEscapeDigits", apart := false }
def FnHex4ReadsAppendEscapeDigitsSaid : Prop := fnHex4ReadsAppendEscapeDigitsRow.holds Try.pinned (OpenSpec.ofChange fnHex4ReadsAppendEscapeDigitsSpec)

/-- ITS FALSE NEIGHBOUR: 'it returns false'. Refute it at one input. -/
def fnHex4ReadsAppendEscapeDigitsWrong : ChangeSpec := { name := "fnHex4ReadsAppendEscapeDigits", fn := fun _ => fun
  | [d] => { results := [.lit (.bool false)], args := [d] }
  | _ => none }
def FnHex4ReadsAppendEscapeDigitsWrongFalsely : Prop := fnHex4ReadsAppendEscapeDigitsRow.holds Try.pinned (OpenSpec.ofChange fnHex4ReadsAppendEscapeDigitsWrong)

end Rows
end Go.Proofs.Qxb6601169a

/-
  No cell of these rows narrows 'for every input' (looked for: loops, veiled, ifaces, maps, wideKeys, modest, calm, conditions, laid).
  DERIVED. THE GIVEN ROWS OF THIS SEAT. 6 by the template 'for every input the law returns true; each argument reads behind the call as it read before'; 0 by the template 'total and deterministic' (their statements: Qxb6600666aTotals.lean).
  GIVEN WITH THE SEED: the statements are not yours to turn. If you find one false, say at which input.
  Laid BY PROGRAM, IN A SANDBOX (cutbox-rows.mjs): the forced cells as the released guide's own fill.sh prints them over the translation a96f41c0d3d9d4e3… (all of the seat's roots in one cut). By AI agents, Wed Nov 11 2026. No macro, syntax, notation, axiom, sorry.
-/
import Derived.Test.Qxb6600666aChecked
import GoSem.Claim
import GoSem.ClaimJoined
import GoSem.ClaimMapViews
import Derived.JoinedTies
import Derived.KernelRfl
namespace Go.Proofs.Qxb6600666a
/- THE CELL 'sum', in the pinned program and in every row, IS THE sha256 OF THE DUMP (.gsa) THAT Qxb6600666aProg.lean LOADS. Nothing in Lean hashes anything: it is a label: what it is worth is what the hold of that sum in a sandbox is worth. -/
noncomputable def Try.pinned : Pinned := { name := "qxb6600666a", sum := "a96f41c0d3d9d4e38cd7c859a1574cb2b0e26d3deaef715bb205afa10e8c681f", checked := Try.checked }
namespace Rows
def none {H : Type} : Left H := { results := [], args := [] }

/-- 'zzlaws_token_b1.FnCodeUnitReadsBackItsHexEscape': WHATEVER THE INPUT: true; the input reads as it did. -/
def fnCodeUnitReadsBackItsHexEscapeSpec : ChangeSpec := { name := "fnCodeUnitReadsBackItsHexEscape", fn := fun _ => fun
  | [d1, d2, d3, d4] => { results := [.lit (.bool true)], args := [d1, d2, d3, d4] }
  | _ => none }
def fnCodeUnitReadsBackItsHexEscapeRow : OpenClaim := { program := "qxb6600666a", sum := "a96f41c0d3d9d4e38cd7c859a1574cb2b0e26d3deaef715bb205afa10e8c681f", func := "example.com/turtle-ant/turtle-ant/zzlaws_token_b1.FnCodeUnitReadsBackItsHexEscape", spec := "fnCodeUnitReadsBackItsHexEscape", apart := false }
def FnCodeUnitReadsBackItsHexEscapeSaid : Prop := fnCodeUnitReadsBackItsHexEscapeRow.holds Try.pinned (OpenSpec.ofChange fnCodeUnitReadsBackItsHexEscapeSpec)

/-- ITS FALSE NEIGHBOUR: 'it returns false'. Refute it at one input. -/
def fnCodeUnitReadsBackItsHexEscapeWrong : ChangeSpec := { name := "fnCodeUnitReadsBackItsHexEscape", fn := fun _ => fun
  | [d1, d2, d3, d4] => { results := [.lit (.bool false)], args := [d1, d2, d3, d4] }
  | _ => none }
def FnCodeUnitReadsBackItsHexEscapeWrongFalsely : Prop := fnCodeUnitReadsBackItsHexEscapeRow.holds Try.pinned (OpenSpec.ofChange fnCodeUnitReadsBackItsHexEscapeWrong)

/-- 'zzlaws_token_b1.FnCodeUnitReadsOnlyItsSixBytes': WHATEVER THE INPUT: true; the input reads as it did. -/
def fnCodeUnitReadsOnlyItsSixBytesSpec : ChangeSpec := { name := "fnCodeUnitReadsOnlyItsSixBytes", fn := fun _ => fun
  | [d1, d2, d3] => { results := [.lit (.bool true)], args := [d1, d2, d3] }
  | _ => none }
def fnCodeUnitReadsOnlyItsSixBytesRow : OpenClaim := { program := "qxb6600666a", sum := "a96f41c0d3d9d4e38cd7c859a1574cb2b0e26d3deaef715bb205afa10e8c681f", func := "example.com/turtle-ant/turtle-ant/zzlaws_token_b1.FnCodeUnitReadsOnlyItsSixBytes", spec := "fnCodeUnitReadsOnlyItsSixBytes", apart := false }
def FnCodeUnitReadsOnlyItsSixBytesSaid : Prop := fnCodeUnitReadsOnlyItsSixBytesRow.holds Try.pinned (OpenSpec.ofChange fnCodeUnitReadsOnlyItsSixBytesSpec)

/-- ITS FALSE NEIGHBOUR: 'it returns false'. Refute it at one input. -/
def fnCodeUnitReadsOnlyItsSixBytesWrong : ChangeSpec := { name := "fnCodeUnitReadsOnlyItsSixBytes", fn := fun _ => fun
  | [d1, d2, d3] => { results := [.lit (.bool false)], args := [d1, d2, d3] }
  | _ => none }
def FnCodeUnitReadsOnlyItsSixBytesWrongFalsely : Prop := fnCodeUnitReadsOnlyItsSixBytesRow.holds Try.pinned (OpenSpec.ofChange fnCodeUnitReadsOnlyItsSixBytesWrong)

/-- 'zzlaws_token_b1.FnNextReadsCommaOrEnd': WHATEVER THE INPUT: true; the input reads as it did. -/
def fnNextReadsCommaOrEndSpec : ChangeSpec := { name := "fnNextReadsCommaOrEnd", fn := fun _ => fun
  | [d1, d2, d3, d4, d5] => { results := [.lit (.bool true)], args := [d1, d2, d3, d4, d5] }
  | _ => none }
def fnNextReadsCommaOrEndRow : OpenClaim := { program := "qxb6600666a", sum := "a96f41c0d3d9d4e38cd7c859a1574cb2b0e26d3deaef715bb205afa10e8c681f", func := "example.com/turtle-ant/turtle-ant/zzlaws_token_b1.FnNextReadsCommaOrEnd", spec := "fnNextReadsCommaOrEnd", apart := false }
def FnNextReadsCommaOrEndSaid : Prop := fnNextReadsCommaOrEndRow.holds Try.pinned (OpenSpec.ofChange fnNextReadsCommaOrEndSpec)

/-- ITS FALSE NEIGHBOUR: 'it returns false'. Refute it at one input. -/
def fnNextReadsCommaOrEndWrong : ChangeSpec := { name := "fnNextReadsCommaOrEnd", fn := fun _ => fun
  | [d1, d2, d3, d4, d5] => { results := [.lit (.bool false)], args := [d1, d2, d3, d4, d5] }
  | _ => none }
def FnNextReadsCommaOrEndWrongFalsely : Prop := fnNextReadsCommaOrEndRow.holds Try.pinned (OpenSpec.ofChange fnNextReadsCommaOrEndWrong)

/-- 'zzlaws_token_b1.FnNextMovesForwardAndStaysOnRefusal': WHATEVER THE INPUT: true; the input reads as it did. -/
def fnNextMovesForwardAndStaysOnRefusalSpec : ChangeSpec := { name := "fnNextMovesForwardAndStaysOnRefusal", fn := fun _ => fun
  | [d1, d2, d3] => { results := [.lit (.bool true)], args := [d1, d2, d3] }
  | _ => none }
def fnNextMovesForwardAndStaysOnRefusalRow : OpenClaim := { program := "qxb6600666a", sum := "a96f41c0d3d9d4e38cd7c859a1574cb2b0e26d3deaef715bb205afa10e8c681f", func := "example.com/turtle-ant/turtle-ant/zzlaws_token_b1.FnNextMovesForwardAndStaysOnRefusal", spec := "fnNextMovesForwardAndStaysOnRefusal", apart := false }
def FnNextMovesForwardAndStaysOnRefusalSaid : Prop := fnNextMovesForwardAndStaysOnRefusalRow.holds Try.pinned (OpenSpec.ofChange fnNextMovesForwardAndStaysOnRefusalSpec)

/-- ITS FALSE NEIGHBOUR: 'it returns false'. Refute it at one input. -/
def fnNextMovesForwardAndStaysOnRefusalWrong : ChangeSpec := { name := "fnNextMovesForwardAndStaysOnRefusal", fn := fun _ => fun
  | [d1, d2, d3] => { results := [.lit (.bool false)], args := [d1, d2, d3] }
  | _ => none }
def FnNextMovesForwardAndStaysOnRefusalWrongFalsely : Prop := fnNextMovesForwardAndStaysOnRefusalRow.holds Try.pinned (OpenSpec.ofChange fnNextMovesForwardAndStaysOnRefusalWrong)

/-- 'zzlaws_token_b1.FnOpenAgreesWithNextOnEmpty': WHATEVER THE INPUT: true; the input reads as it did. -/
def fnOpenAgreesWithNextOnEmptySpec : ChangeSpec := { name := "fnOpenAgreesWithNextOnEmpty", fn := fun _ => fun
  | [d1, d2, d3, d4] => { results := [.lit (.bool true)], args := [d1, d2, d3, d4] }
  | _ => none }
def fnOpenAgreesWithNextOnEmptyRow : OpenClaim := { program := "qxb6600666a", sum := "a96f41c0d3d9d4e38cd7c859a1574cb2b0e26d3deaef715bb205afa10e8c681f", func := "example.com/turtle-ant/turtle-ant/zzlaws_token_b1.FnOpenAgreesWithNextOnEmpty", spec := "fnOpenAgreesWithNextOnEmpty", apart := false }
def FnOpenAgreesWithNextOnEmptySaid : Prop := fnOpenAgreesWithNextOnEmptyRow.holds Try.pinned (OpenSpec.ofChange fnOpenAgreesWithNextOnEmptySpec)

/-- ITS FALSE NEIGHBOUR: 'it returns false'. Refute it at one input. -/
def fnOpenAgreesWithNextOnEmptyWrong : ChangeSpec := { name := "fnOpenAgreesWithNextOnEmpty", fn := fun _ => fun
  | [d1, d2, d3, d4] => { results := [.lit (.bool false)], args := [d1, d2, d3, d4] }
  | _ => none }
def FnOpenAgreesWithNextOnEmptyWrongFalsely : Prop := fnOpenAgreesWithNextOnEmptyRow.holds Try.pinned (OpenSpec.ofChange fnOpenAgreesWithNextOnEmptyWrong)

/-- 'zzlaws_token_b1.FnOpenAndNextWalkAFlatArray': WHATEVER THE INPUT: true; the input reads as it did. -/
def fnOpenAndNextWalkAFlatArraySpec : ChangeSpec := { name := "fnOpenAndNextWalkAFlatArray", fn := fun _ => fun
  | [d1, d2, d3] => { results := [.lit (.bool true)], args := [d1, d2, d3] }
  | _ => none }
def fnOpenAndNextWalkAFlatArrayRow : OpenClaim := { program := "qxb6600666a", sum := "a96f41c0d3d9d4e38cd7c859a1574cb2b0e26d3deaef715bb205afa10e8c681f", func := "example.com/turtle-ant/turtle-ant/zzlaws_token_b1.FnOpenAndNextWalkAFlatArray", spec := "fnOpenAndNextWalkAFlatArray", apart := false }
def FnOpenAndNextWalkAFlatArraySaid : Prop := fnOpenAndNextWalkAFlatArrayRow.holds Try.pinned (OpenSpec.ofChange fnOpenAndNextWalkAFlatArraySpec)

/-- ITS FALSE NEIGHBOUR: 'it returns false'. Refute it at one input. -/
def fnOpenAndNextWalkAFlatArrayWrong : ChangeSpec := { name := "fnOpenAndNextWalkAFlatArray", fn := fun _ => fun
  | [d1, d2, d3] => { results := [.lit (.bool false)], args := [d1, d2, d3] }
  | _ => none }
def FnOpenAndNextWalkAFlatArrayWrongFalsely : Prop := fnOpenAndNextWalkAFlatArrayRow.holds Try.pinned (OpenSpec.ofChange fnOpenAndNextWalkAFlatArrayWrong)

end Rows
end Go.Proofs.Qxb6600666a

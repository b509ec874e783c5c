/-
  No cell of these rows narrows 'for every input' (looked for: loops, veiled, ifaces, maps, wideKeys, modest, calm, conditions, laid).
  DERIVED. THE GIVEN ROWS OF THIS SEAT. 7 by the template 'for every input the law returns true; each argument reads behind the call as it read before'; 0 by the template 'total and deterministic' (their statements: Qxb6000523aTotals.lean).
  GIVEN WITH THE SEED: the statements are not yours to turn. If you find one false, say at which input.
  Laid BY PROGRAM, IN A SANDBOX (cutbox-rows.mjs): the forced cells as the released guide's own fill.sh prints them over the translation 97bf32fa5c4931cf… (all of the seat's roots in one cut). By AI agents, Wed Nov 11 2026. No macro, syntax, notation, axiom, sorry.
-/
import Derived.Test.Qxb6000523aChecked
import GoSem.Claim
import GoSem.ClaimJoined
import GoSem.ClaimMapViews
import Derived.JoinedTies
import Derived.KernelRfl
namespace Go.Proofs.Qxb6000523a
/- THE CELL 'sum', in the pinned program and in every row, IS THE sha256 OF THE DUMP (.gsa) THAT Qxb6000523aProg.lean LOADS. Nothing in Lean hashes anything: it is a label: what it is worth is what the hold of that sum in a sandbox is worth. -/
noncomputable def Try.pinned : Pinned := { name := "qxb6000523a", sum := "97bf32fa5c4931cf55c35490ce981bb1b341cdc9faf426ed4a7d981d6c3db2dd", checked := Try.checked }
namespace Rows
def none {H : Type} : Left H := { results := [], args := [] }

/-- 'zzlaws_pkg_rawjson_b1.FnValidNumberMatchesGrammarAutomaton': WHATEVER THE INPUT: true; the input reads as it did. -/
def fnValidNumberMatchesGrammarAutomatonSpec : ChangeSpec := { name := "fnValidNumberMatchesGrammarAutomaton", fn := fun _ => fun
  | [d1, d2] => { results := [.lit (.bool true)], args := [d1, d2] }
  | _ => none }
def fnValidNumberMatchesGrammarAutomatonRow : OpenClaim := { program := "qxb6000523a", sum := "97bf32fa5c4931cf55c35490ce981bb1b341cdc9faf426ed4a7d981d6c3db2dd", func := "example.com/switchyard/switchyard/zzlaws_pkg_rawjson_b1.FnValidNumberMatchesGrammarAutomaton", spec := "fnValidNumberMatchesGrammarAutomaton", apart := false }
def FnValidNumberMatchesGrammarAutomatonSaid : Prop := fnValidNumberMatchesGrammarAutomatonRow.holds Try.pinned (OpenSpec.ofChange fnValidNumberMatchesGrammarAutomatonSpec)

/-- ITS FALSE NEIGHBOUR: 'it returns false'. Refute it at one input. -/
def fnValidNumberMatchesGrammarAutomatonWrong : ChangeSpec := { name := "fnValidNumberMatchesGrammarAutomaton", fn := fun _ => fun
  | [d1, d2] => { results := [.lit (.bool false)], args := [d1, d2] }
  | _ => none }
def FnValidNumberMatchesGrammarAutomatonWrongFalsely : Prop := fnValidNumberMatchesGrammarAutomatonRow.holds Try.pinned (OpenSpec.ofChange fnValidNumberMatchesGrammarAutomatonWrong)

/-- 'zzlaws_pkg_rawjson_b1.FnValidNumberStandsAlone': WHATEVER THE INPUT: true; the input reads as it did. -/
def fnValidNumberStandsAloneSpec : ChangeSpec := { name := "fnValidNumberStandsAlone", fn := fun _ => fun
  | [d1, d2] => { results := [.lit (.bool true)], args := [d1, d2] }
  | _ => none }
def fnValidNumberStandsAloneRow : OpenClaim := { program := "qxb6000523a", sum := "97bf32fa5c4931cf55c35490ce981bb1b341cdc9faf426ed4a7d981d6c3db2dd", func := "example.com/switchyard/switchyard/zzlaws_pkg_rawjson_b1.FnValidNumberStandsAlone", spec := "fnValidNumberStandsAlone", apart := false }
def FnValidNumberStandsAloneSaid : Prop := fnValidNumberStandsAloneRow.holds Try.pinned (OpenSpec.ofChange fnValidNumberStandsAloneSpec)

/-- ITS FALSE NEIGHBOUR: 'it returns false'. Refute it at one input. -/
def fnValidNumberStandsAloneWrong : ChangeSpec := { name := "fnValidNumberStandsAlone", fn := fun _ => fun
  | [d1, d2] => { results := [.lit (.bool false)], args := [d1, d2] }
  | _ => none }
def FnValidNumberStandsAloneWrongFalsely : Prop := fnValidNumberStandsAloneRow.holds Try.pinned (OpenSpec.ofChange fnValidNumberStandsAloneWrong)

/-- 'zzlaws_pkg_rawjson_b1.FnValueEndAgreesWithValidNumber': WHATEVER THE INPUT: true; the input reads as it did. -/
def fnValueEndAgreesWithValidNumberSpec : ChangeSpec := { name := "fnValueEndAgreesWithValidNumber", fn := fun _ => fun
  | [d1, d2] => { results := [.lit (.bool true)], args := [d1, d2] }
  | _ => none }
def fnValueEndAgreesWithValidNumberRow : OpenClaim := { program := "qxb6000523a", sum := "97bf32fa5c4931cf55c35490ce981bb1b341cdc9faf426ed4a7d981d6c3db2dd", func := "example.com/switchyard/switchyard/zzlaws_pkg_rawjson_b1.FnValueEndAgreesWithValidNumber", spec := "fnValueEndAgreesWithValidNumber", inPlace := ["internal/bytealg.IndexByte"], apart := false }
def FnValueEndAgreesWithValidNumberSaid : Prop := fnValueEndAgreesWithValidNumberRow.holds Try.pinned (OpenSpec.ofChange fnValueEndAgreesWithValidNumberSpec)

/-- ITS FALSE NEIGHBOUR: 'it returns false'. Refute it at one input. -/
def fnValueEndAgreesWithValidNumberWrong : ChangeSpec := { name := "fnValueEndAgreesWithValidNumber", fn := fun _ => fun
  | [d1, d2] => { results := [.lit (.bool false)], args := [d1, d2] }
  | _ => none }
def FnValueEndAgreesWithValidNumberWrongFalsely : Prop := fnValueEndAgreesWithValidNumberRow.holds Try.pinned (OpenSpec.ofChange fnValueEndAgreesWithValidNumberWrong)

/-- 'zzlaws_pkg_rawjson_b1.FnStringEndMatchesEscapeScanner': WHATEVER THE INPUT: true; the input reads as it did. -/
def fnStringEndMatchesEscapeScannerSpec : ChangeSpec := { name := "fnStringEndMatchesEscapeScanner", fn := fun _ => fun
  | [d1, d2] => { results := [.lit (.bool true)], args := [d1, d2] }
  | _ => none }
def fnStringEndMatchesEscapeScannerRow : OpenClaim := { program := "qxb6000523a", sum := "97bf32fa5c4931cf55c35490ce981bb1b341cdc9faf426ed4a7d981d6c3db2dd", func := "example.com/switchyard/switchyard/zzlaws_pkg_rawjson_b1.FnStringEndMatchesEscapeScanner", spec := "fnStringEndMatchesEscapeScanner", inPlace := ["internal/bytealg.IndexByte"], apart := false }
def FnStringEndMatchesEscapeScannerSaid : Prop := fnStringEndMatchesEscapeScannerRow.holds Try.pinned (OpenSpec.ofChange fnStringEndMatchesEscapeScannerSpec)

/-- ITS FALSE NEIGHBOUR: 'it returns false'. Refute it at one input. -/
def fnStringEndMatchesEscapeScannerWrong : ChangeSpec := { name := "fnStringEndMatchesEscapeScanner", fn := fun _ => fun
  | [d1, d2] => { results := [.lit (.bool false)], args := [d1, d2] }
  | _ => none }
def FnStringEndMatchesEscapeScannerWrongFalsely : Prop := fnStringEndMatchesEscapeScannerRow.holds Try.pinned (OpenSpec.ofChange fnStringEndMatchesEscapeScannerWrong)

/-- 'zzlaws_pkg_rawjson_b1.FnStringEndClosesAtItsQuote': WHATEVER THE INPUT: true; the input reads as it did. -/
def fnStringEndClosesAtItsQuoteSpec : ChangeSpec := { name := "fnStringEndClosesAtItsQuote", fn := fun _ => fun
  | [d1, d2] => { results := [.lit (.bool true)], args := [d1, d2] }
  | _ => none }
def fnStringEndClosesAtItsQuoteRow : OpenClaim := { program := "qxb6000523a", sum := "97bf32fa5c4931cf55c35490ce981bb1b341cdc9faf426ed4a7d981d6c3db2dd", func := "example.com/switchyard/switchyard/zzlaws_pkg_rawjson_b1.FnStringEndClosesAtItsQuote", spec := "fnStringEndClosesAtItsQuote", inPlace := ["internal/bytealg.IndexByte"], apart := false }
def FnStringEndClosesAtItsQuoteSaid : Prop := fnStringEndClosesAtItsQuoteRow.holds Try.pinned (OpenSpec.ofChange fnStringEndClosesAtItsQuoteSpec)

/-- ITS FALSE NEIGHBOUR: 'it returns false'. Refute it at one input. -/
def fnStringEndClosesAtItsQuoteWrong : ChangeSpec := { name := "fnStringEndClosesAtItsQuote", fn := fun _ => fun
  | [d1, d2] => { results := [.lit (.bool false)], args := [d1, d2] }
  | _ => none }
def FnStringEndClosesAtItsQuoteWrongFalsely : Prop := fnStringEndClosesAtItsQuoteRow.holds Try.pinned (OpenSpec.ofChange fnStringEndClosesAtItsQuoteWrong)

/-- 'zzlaws_pkg_rawjson_b1.FnValueEndWindow': WHATEVER THE INPUT: true; the input reads as it did. -/
def fnValueEndWindowSpec : ChangeSpec := { name := "fnValueEndWindow", fn := fun _ => fun
  | [d1, d2] => { results := [.lit (.bool true)], args := [d1, d2] }
  | _ => none }
def fnValueEndWindowRow : OpenClaim := { program := "qxb6000523a", sum := "97bf32fa5c4931cf55c35490ce981bb1b341cdc9faf426ed4a7d981d6c3db2dd", func := "example.com/switchyard/switchyard/zzlaws_pkg_rawjson_b1.FnValueEndWindow", spec := "fnValueEndWindow", inPlace := ["internal/bytealg.IndexByte"], apart := false }
def FnValueEndWindowSaid : Prop := fnValueEndWindowRow.holds Try.pinned (OpenSpec.ofChange fnValueEndWindowSpec)

/-- ITS FALSE NEIGHBOUR: 'it returns false'. Refute it at one input. -/
def fnValueEndWindowWrong : ChangeSpec := { name := "fnValueEndWindow", fn := fun _ => fun
  | [d1, d2] => { results := [.lit (.bool false)], args := [d1, d2] }
  | _ => none }
def FnValueEndWindowWrongFalsely : Prop := fnValueEndWindowRow.holds Try.pinned (OpenSpec.ofChange fnValueEndWindowWrong)

/-- 'zzlaws_pkg_rawjson_b1.FnValueEndIgnoresWhatFollows': WHATEVER THE INPUT: true; the input reads as it did. -/
def fnValueEndIgnoresWhatFollowsSpec : ChangeSpec := { name := "fnValueEndIgnoresWhatFollows", fn := fun _ => fun
  | [d1, d2, d3] => { results := [.lit (.bool true)], args := [d1, d2, d3] }
  | _ => none }
def fnValueEndIgnoresWhatFollowsRow : OpenClaim := { program := "qxb6000523a", sum := "97bf32fa5c4931cf55c35490ce981bb1b341cdc9faf426ed4a7d981d6c3db2dd", func := "example.com/switchyard/switchyard/zzlaws_pkg_rawjson_b1.FnValueEndIgnoresWhatFollows", spec := "fnValueEndIgnoresWhatFollows", inPlace := ["internal/bytealg.IndexByte"], apart := false }
def FnValueEndIgnoresWhatFollowsSaid : Prop := fnValueEndIgnoresWhatFollowsRow.holds Try.pinned (OpenSpec.ofChange fnValueEndIgnoresWhatFollowsSpec)

/-- ITS FALSE NEIGHBOUR: 'it returns false'. Refute it at one input. -/
def fnValueEndIgnoresWhatFollowsWrong : ChangeSpec := { name := "fnValueEndIgnoresWhatFollows", fn := fun _ => fun
  | [d1, d2, d3] => { results := [.lit (.bool false)], args := [d1, d2, d3] }
  | _ => none }
def FnValueEndIgnoresWhatFollowsWrongFalsely : Prop := fnValueEndIgnoresWhatFollowsRow.holds Try.pinned (OpenSpec.ofChange fnValueEndIgnoresWhatFollowsWrong)

end Rows
end Go.Proofs.Qxb6000523a

/-
  No cell of these rows narrows 'for every input' (looked for: loops, veiled, ifaces, maps, wideKeys, modest, calm, conditions, laid).
  DERIVED. THE GIVEN ROWS OF THIS SEAT. 6 by the template 'for every input the law returns true; each argument reads behind the call as it read before'; 0 by the template 'total and deterministic' (their statements: Qxb6000005aTotals.lean).
  GIVEN WITH THE SEED: the statements are not yours to turn. If you find one false, say at which input.
  Laid BY PROGRAM, IN A SANDBOX (cutbox-rows.mjs): the forced cells as the released guide's own fill.sh prints them over the translation 80dd25ff91eec82b… (all of the seat's roots in one cut). By AI agents, Wed Nov 11 2026. No macro, syntax, notation, axiom, sorry.
-/
import Derived.Test.Qxb6000005aChecked
import GoSem.Claim
import GoSem.ClaimJoined
import GoSem.ClaimMapViews
import Derived.JoinedTies
import Derived.KernelRfl
namespace Go.Proofs.Qxb6000005a
/- THE CELL 'sum', in the pinned program and in every row, IS THE sha256 OF THE DUMP (.gsa) THAT Qxb6000005aProg.lean LOADS. Nothing in Lean hashes anything: it is a label: what it is worth is what the hold of that sum in a sandbox is worth. -/
noncomputable def Try.pinned : Pinned := { name := "qxb6000005a", sum := "80dd25ff91eec82b8076b3d14da3a47a5b02ced6c2103ed2e2a7a988f8755da0", checked := Try.checked }
namespace Rows
def none {H : Type} : Left H := { results := [], args := [] }

/-- 'zzlaws_jsonwalk_b1.FnNextSkipsBlanksExactly': WHATEVER THE INPUT: true; the input reads as it did. -/
def fnNextSkipsBlanksExactlySpec : ChangeSpec := { name := "fnNextSkipsBlanksExactly", fn := fun _ => fun
  | [d1, d2] => { results := [.lit (.bool true)], args := [d1, d2] }
  | _ => none }
def fnNextSkipsBlanksExactlyRow : OpenClaim := { program := "qxb6000005a", sum := "80dd25ff91eec82b8076b3d14da3a47a5b02ced6c2103ed2e2a7a988f8755da0", func := "example.com/glot2/glot2/zzlaws_jsonwalk_b1.FnNextSkipsBlanksExactly", spec := "fnNextSkipsBlanksExactly", apart := false }
def FnNextSkipsBlanksExactlySaid : Prop := fnNextSkipsBlanksExactlyRow.holds Try.pinned (OpenSpec.ofChange fnNextSkipsBlanksExactlySpec)

/-- ITS FALSE NEIGHBOUR: 'it returns false'. Refute it at one input. -/
def fnNextSkipsBlanksExactlyWrong : ChangeSpec := { name := "fnNextSkipsBlanksExactly", fn := fun _ => fun
  | [d1, d2] => { results := [.lit (.bool false)], args := [d1, d2] }
  | _ => none }
def FnNextSkipsBlanksExactlyWrongFalsely : Prop := fnNextSkipsBlanksExactlyRow.holds Try.pinned (OpenSpec.ofChange fnNextSkipsBlanksExactlyWrong)

/-- 'zzlaws_jsonwalk_b1.FnNextLandsAlikeFromAnyBlank': WHATEVER THE INPUT: true; the input reads as it did. -/
def fnNextLandsAlikeFromAnyBlankSpec : ChangeSpec := { name := "fnNextLandsAlikeFromAnyBlank", fn := fun _ => fun
  | [d1, d2, d3] => { results := [.lit (.bool true)], args := [d1, d2, d3] }
  | _ => none }
def fnNextLandsAlikeFromAnyBlankRow : OpenClaim := { program := "qxb6000005a", sum := "80dd25ff91eec82b8076b3d14da3a47a5b02ced6c2103ed2e2a7a988f8755da0", func := "example.com/glot2/glot2/zzlaws_jsonwalk_b1.FnNextLandsAlikeFromAnyBlank", spec := "fnNextLandsAlikeFromAnyBlank", apart := false }
def FnNextLandsAlikeFromAnyBlankSaid : Prop := fnNextLandsAlikeFromAnyBlankRow.holds Try.pinned (OpenSpec.ofChange fnNextLandsAlikeFromAnyBlankSpec)

/-- ITS FALSE NEIGHBOUR: 'it returns false'. Refute it at one input. -/
def fnNextLandsAlikeFromAnyBlankWrong : ChangeSpec := { name := "fnNextLandsAlikeFromAnyBlank", fn := fun _ => fun
  | [d1, d2, d3] => { results := [.lit (.bool false)], args := [d1, d2, d3] }
  | _ => none }
def FnNextLandsAlikeFromAnyBlankWrongFalsely : Prop := fnNextLandsAlikeFromAnyBlankRow.holds Try.pinned (OpenSpec.ofChange fnNextLandsAlikeFromAnyBlankWrong)

/-- 'zzlaws_jsonwalk_b1.FnStringEndForwardScan': WHATEVER THE INPUT: true; the input reads as it did. -/
def fnStringEndForwardScanSpec : ChangeSpec := { name := "fnStringEndForwardScan", fn := fun _ => fun
  | [d1, d2] => { results := [.lit (.bool true)], args := [d1, d2] }
  | _ => none }
def fnStringEndForwardScanRow : OpenClaim := { program := "qxb6000005a", sum := "80dd25ff91eec82b8076b3d14da3a47a5b02ced6c2103ed2e2a7a988f8755da0", func := "example.com/glot2/glot2/zzlaws_jsonwalk_b1.FnStringEndForwardScan", spec := "fnStringEndForwardScan", inPlace := ["internal/bytealg.IndexByte"], apart := false }
def FnStringEndForwardScanSaid : Prop := fnStringEndForwardScanRow.holds Try.pinned (OpenSpec.ofChange fnStringEndForwardScanSpec)

/-- ITS FALSE NEIGHBOUR: 'it returns false'. Refute it at one input. -/
def fnStringEndForwardScanWrong : ChangeSpec := { name := "fnStringEndForwardScan", fn := fun _ => fun
  | [d1, d2] => { results := [.lit (.bool false)], args := [d1, d2] }
  | _ => none }
def FnStringEndForwardScanWrongFalsely : Prop := fnStringEndForwardScanRow.holds Try.pinned (OpenSpec.ofChange fnStringEndForwardScanWrong)

/-- 'zzlaws_jsonwalk_b1.FnStringEndIgnoresWhatFollows': WHATEVER THE INPUT: true; the input reads as it did. -/
def fnStringEndIgnoresWhatFollowsSpec : ChangeSpec := { name := "fnStringEndIgnoresWhatFollows", fn := fun _ => fun
  | [d1, d2, d3] => { results := [.lit (.bool true)], args := [d1, d2, d3] }
  | _ => none }
def fnStringEndIgnoresWhatFollowsRow : OpenClaim := { program := "qxb6000005a", sum := "80dd25ff91eec82b8076b3d14da3a47a5b02ced6c2103ed2e2a7a988f8755da0", func := "example.com/glot2/glot2/zzlaws_jsonwalk_b1.FnStringEndIgnoresWhatFollows", spec := "fnStringEndIgnoresWhatFollows", inPlace := ["internal/bytealg.IndexByte"], apart := false }
def FnStringEndIgnoresWhatFollowsSaid : Prop := fnStringEndIgnoresWhatFollowsRow.holds Try.pinned (OpenSpec.ofChange fnStringEndIgnoresWhatFollowsSpec)

/-- ITS FALSE NEIGHBOUR: 'it returns false'. Refute it at one input. -/
def fnStringEndIgnoresWhatFollowsWrong : ChangeSpec := { name := "fnStringEndIgnoresWhatFollows", fn := fun _ => fun
  | [d1, d2, d3] => { results := [.lit (.bool false)], args := [d1, d2, d3] }
  | _ => none }
def FnStringEndIgnoresWhatFollowsWrongFalsely : Prop := fnStringEndIgnoresWhatFollowsRow.holds Try.pinned (OpenSpec.ofChange fnStringEndIgnoresWhatFollowsWrong)

/-- 'zzlaws_jsonwalk_b1.FnValueMatchesModel': WHATEVER THE INPUT: true; the input reads as it did. -/
def fnValueMatchesModelSpec : ChangeSpec := { name := "fnValueMatchesModel", fn := fun _ => fun
  | [d1, d2] => { results := [.lit (.bool true)], args := [d1, d2] }
  | _ => none }
def fnValueMatchesModelRow : OpenClaim := { program := "qxb6000005a", sum := "80dd25ff91eec82b8076b3d14da3a47a5b02ced6c2103ed2e2a7a988f8755da0", func := "example.com/glot2/glot2/zzlaws_jsonwalk_b1.FnValueMatchesModel", spec := "fnValueMatchesModel", inPlace := ["internal/bytealg.IndexByte"], apart := false }
def FnValueMatchesModelSaid : Prop := fnValueMatchesModelRow.holds Try.pinned (OpenSpec.ofChange fnValueMatchesModelSpec)

/-- ITS FALSE NEIGHBOUR: 'it returns false'. Refute it at one input. -/
def fnValueMatchesModelWrong : ChangeSpec := { name := "fnValueMatchesModel", fn := fun _ => fun
  | [d1, d2] => { results := [.lit (.bool false)], args := [d1, d2] }
  | _ => none }
def FnValueMatchesModelWrongFalsely : Prop := fnValueMatchesModelRow.holds Try.pinned (OpenSpec.ofChange fnValueMatchesModelWrong)

/-- 'zzlaws_jsonwalk_b1.FnValueAdvancesUnlessSeparator': WHATEVER THE INPUT: true; the input reads as it did. -/
def fnValueAdvancesUnlessSeparatorSpec : ChangeSpec := { name := "fnValueAdvancesUnlessSeparator", fn := fun _ => fun
  | [d1, d2] => { results := [.lit (.bool true)], args := [d1, d2] }
  | _ => none }
def fnValueAdvancesUnlessSeparatorRow : OpenClaim := { program := "qxb6000005a", sum := "80dd25ff91eec82b8076b3d14da3a47a5b02ced6c2103ed2e2a7a988f8755da0", func := "example.com/glot2/glot2/zzlaws_jsonwalk_b1.FnValueAdvancesUnlessSeparator", spec := "fnValueAdvancesUnlessSeparator", inPlace := ["internal/bytealg.IndexByte"], apart := false }
def FnValueAdvancesUnlessSeparatorSaid : Prop := fnValueAdvancesUnlessSeparatorRow.holds Try.pinned (OpenSpec.ofChange fnValueAdvancesUnlessSeparatorSpec)

/-- ITS FALSE NEIGHBOUR: 'it returns false'. Refute it at one input. -/
def fnValueAdvancesUnlessSeparatorWrong : ChangeSpec := { name := "fnValueAdvancesUnlessSeparator", fn := fun _ => fun
  | [d1, d2] => { results := [.lit (.bool false)], args := [d1, d2] }
  | _ => none }
def FnValueAdvancesUnlessSeparatorWrongFalsely : Prop := fnValueAdvancesUnlessSeparatorRow.holds Try.pinned (OpenSpec.ofChange fnValueAdvancesUnlessSeparatorWrong)

end Rows
end Go.Proofs.Qxb6000005a

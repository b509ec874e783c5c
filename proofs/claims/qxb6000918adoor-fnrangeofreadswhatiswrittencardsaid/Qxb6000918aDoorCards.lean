/-
  DERIVED. GIVEN WITH THE SEED: THE CARDS: each row of Qxb6000918aDoorRows.lean that lists a variable, with what it lists TIED to the program's text (the seventh form; the later family's looks); each row that meets fmt, with fmt's text TOLD by the authors' own Lean function (tested against real Go, not proved from fmt's source: count such statements apart). THE CARD IS WHAT COUNTS. Prove the row's statement (the work); the ties are given (Qxb6000918aDoorTie.lean); close each card by the builder's one call (the guide's Derived/Test/ToyasCard.lean, 'card_holds'). Laid BY PROGRAM, IN A SANDBOX (cutbox-door.mjs). By AI agents, Wed Nov 11 2026. No macro, syntax, notation, axiom, sorry.
-/
import Derived.Test.Qxb6000918aDoorRows
import GoSem.ClaimSeven
namespace Go.Proofs.Qxb6000918aDoor
namespace Rows

/-- THE TIED CARD OF 'zzlaws_root_b1.FnKeyOfFormMatchesModel'. -/
def fnKeyOfFormMatchesModelCard : Claim7 := { stood := { row := fnKeyOfFormMatchesModelRow, standIns := [], harness := (true, "a3c2a2e731fb9aeb80e18e9c0dbc279a458188554f58d50e82adfeef9e5d8959"), looks := true }, kinds := [], alts := [], laidByText := true, laidKinds := [.data, .data, .data, .called, .called], laidTests := true, laidLooks := .later }
def FnKeyOfFormMatchesModelCardSaid : Prop := Claim7.holds Tryd.pinned (.plain (OpenSpec.ofChange fnKeyOfFormMatchesModelSpec)) fnKeyOfFormMatchesModelCard

/-- THE TIED CARD OF 'zzlaws_root_b1.FnKeyOfReadsFormatted'. -/
def fnKeyOfReadsFormattedCard : Claim7 := { stood := { row := fnKeyOfReadsFormattedRow, standIns := [], harness := (true, "a3c2a2e731fb9aeb80e18e9c0dbc279a458188554f58d50e82adfeef9e5d8959"), looks := true }, kinds := [], alts := [], laidByText := true, laidKinds := [.data, .data, .data, .called, .called], laidTests := true, laidLooks := .later }
def FnKeyOfReadsFormattedCardSaid : Prop := Claim7.holds Tryd.pinned (.plain (OpenSpec.ofChange fnKeyOfReadsFormattedSpec)) fnKeyOfReadsFormattedCard

/-- THE TIED CARD OF 'zzlaws_root_b1.FnKeyOfKeysAreCanonical'. -/
def fnKeyOfKeysAreCanonicalCard : Claim7 := { stood := { row := fnKeyOfKeysAreCanonicalRow, standIns := [], harness := (true, "a3c2a2e731fb9aeb80e18e9c0dbc279a458188554f58d50e82adfeef9e5d8959"), looks := true }, kinds := [], alts := [], laidByText := true, laidKinds := [.data, .data, .data, .called, .called], laidTests := true, laidLooks := .later }
def FnKeyOfKeysAreCanonicalCardSaid : Prop := Claim7.holds Tryd.pinned (.plain (OpenSpec.ofChange fnKeyOfKeysAreCanonicalSpec)) fnKeyOfKeysAreCanonicalCard

/-- THE TIED CARD OF 'zzlaws_root_b1.FnRangeOfReadsWhatIsWritten'. -/
def fnRangeOfReadsWhatIsWrittenCard : Claim7 := { stood := { row := fnRangeOfReadsWhatIsWrittenRow, standIns := [], harness := (true, "a3c2a2e731fb9aeb80e18e9c0dbc279a458188554f58d50e82adfeef9e5d8959"), looks := true }, kinds := [], alts := [], laidByText := true, laidKinds := [.data, .data, .data, .called, .called], laidTests := true, laidLooks := .later }
def FnRangeOfReadsWhatIsWrittenCardSaid : Prop := Claim7.holds Tryd.pinned (.plain (OpenSpec.ofChange fnRangeOfReadsWhatIsWrittenSpec)) fnRangeOfReadsWhatIsWrittenCard

/-- THE TIED CARD OF 'zzlaws_root_b1.FnRangeOfAcceptsOnlyCanonical'. -/
def fnRangeOfAcceptsOnlyCanonicalCard : Claim7 := { stood := { row := fnRangeOfAcceptsOnlyCanonicalRow, standIns := [], harness := (true, "a3c2a2e731fb9aeb80e18e9c0dbc279a458188554f58d50e82adfeef9e5d8959"), looks := true }, kinds := [], alts := [], laidByText := true, laidKinds := [.data, .data, .data, .called, .called], laidTests := true, laidLooks := .later }
def FnRangeOfAcceptsOnlyCanonicalCardSaid : Prop := Claim7.holds Tryd.pinned (.plain (OpenSpec.ofChange fnRangeOfAcceptsOnlyCanonicalSpec)) fnRangeOfAcceptsOnlyCanonicalCard
end Rows
end Go.Proofs.Qxb6000918aDoor

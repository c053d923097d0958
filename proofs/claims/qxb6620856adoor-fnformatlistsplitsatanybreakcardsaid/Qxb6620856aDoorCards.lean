/-
  DERIVED. GIVEN WITH THE SEED: THE CARDS: each row of Qxb6620856aDoorRows.lean that lists a variable, with what it lists TIED to the program's text (the seventh form; the later family's looks); each row that meets fmt, with fmt's text TOLD by the authors' own Lean function (tested against real Go, not proved from fmt's source: count such statements apart). THE CARD IS WHAT COUNTS. Prove the row's statement (the work); the ties are given (Qxb6620856aDoorTie.lean); close each card by the builder's one call (the guide's Derived/Test/ToyasCard.lean, 'card_holds'). Laid BY PROGRAM, IN A SANDBOX (cutbox-door.mjs). By AI agents, Wed Nov 11 2026. No macro, syntax, notation, axiom, sorry.
-/
import Derived.Test.Qxb6620856aDoorRows
import GoSem.ClaimSeven
namespace Go.Proofs.Qxb6620856aDoor
namespace Rows

/-- THE TIED CARD OF 'zzlaws_cpus_b1.FnFormatListMatchesRunByRunModel'. -/
def fnFormatListMatchesRunByRunModelCard : Claim7 := { stood := { row := fnFormatListMatchesRunByRunModelRow, standIns := [], harness := (true, "8d6656361a9a5c859cbebafc68effca6bd3f8b7874d613725aea4b9cf1f51c38"), looks := true }, kinds := [], alts := [], laidByText := true, laidKinds := [.data, .data, .data], laidTests := true, laidLooks := .later }
def FnFormatListMatchesRunByRunModelCardSaid : Prop := Claim7.holds Tryd.pinned (.plain (OpenSpec.ofChange fnFormatListMatchesRunByRunModelSpec)) fnFormatListMatchesRunByRunModelCard

/-- THE TIED CARD OF 'zzlaws_cpus_b1.FnFormatListReadsBackCanonically'. -/
def fnFormatListReadsBackCanonicallyCard : Claim7 := { stood := { row := fnFormatListReadsBackCanonicallyRow, standIns := [], harness := (true, "8d6656361a9a5c859cbebafc68effca6bd3f8b7874d613725aea4b9cf1f51c38"), looks := true }, kinds := [], alts := [], laidByText := true, laidKinds := [.data, .data, .data, .data, .sentinel, .sentinel, .pinned], laidTests := true, laidLooks := .later }
def FnFormatListReadsBackCanonicallyCardSaid : Prop := Claim7.holds Tryd.pinned (.plain (OpenSpec.ofChange fnFormatListReadsBackCanonicallySpec)) fnFormatListReadsBackCanonicallyCard

/-- THE TIED CARD OF 'zzlaws_cpus_b1.FnParseCPUReadsFormatListOfOne'. -/
def fnParseCPUReadsFormatListOfOneCard : Claim7 := { stood := { row := fnParseCPUReadsFormatListOfOneRow, standIns := [], harness := (true, "8d6656361a9a5c859cbebafc68effca6bd3f8b7874d613725aea4b9cf1f51c38"), looks := true }, kinds := [], alts := [], laidByText := true, laidKinds := [.data, .data, .data, .data, .sentinel, .sentinel, .pinned], laidTests := true, laidLooks := .later }
def FnParseCPUReadsFormatListOfOneCardSaid : Prop := Claim7.holds Tryd.pinned (.plain (OpenSpec.ofChange fnParseCPUReadsFormatListOfOneSpec)) fnParseCPUReadsFormatListOfOneCard

/-- THE TIED CARD OF 'zzlaws_cpus_b1.FnFormatListSplitsAtAnyBreak'. -/
def fnFormatListSplitsAtAnyBreakCard : Claim7 := { stood := { row := fnFormatListSplitsAtAnyBreakRow, standIns := [], harness := (true, "8d6656361a9a5c859cbebafc68effca6bd3f8b7874d613725aea4b9cf1f51c38"), looks := true }, kinds := [], alts := [], laidByText := true, laidKinds := [.data, .data, .data], laidTests := true, laidLooks := .later }
def FnFormatListSplitsAtAnyBreakCardSaid : Prop := Claim7.holds Tryd.pinned (.plain (OpenSpec.ofChange fnFormatListSplitsAtAnyBreakSpec)) fnFormatListSplitsAtAnyBreakCard

/-- THE TIED CARD OF 'zzlaws_cpus_b1.FnParseCPUIsValueOfDigitString'. -/
def fnParseCPUIsValueOfDigitStringCard : Claim7 := { stood := { row := fnParseCPUIsValueOfDigitStringRow, standIns := [], harness := (true, "8d6656361a9a5c859cbebafc68effca6bd3f8b7874d613725aea4b9cf1f51c38"), looks := true }, kinds := [], alts := [], laidByText := true, laidKinds := [.data, .data, .data, .data, .sentinel, .sentinel, .pinned], laidTests := true, laidLooks := .later }
def FnParseCPUIsValueOfDigitStringCardSaid : Prop := Claim7.holds Tryd.pinned (.plain (OpenSpec.ofChange fnParseCPUIsValueOfDigitStringSpec)) fnParseCPUIsValueOfDigitStringCard
end Rows
end Go.Proofs.Qxb6620856aDoor

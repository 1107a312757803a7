/-
  DERIVED. GIVEN WITH THE SEED: THE CARDS: each row of YtnidncohhinjbaaDoorRows.lean that lists a variable, with what it lists TIED to the program's text (the seventh form; the later family's looks); each row that meets fmt, with fmt's text TOLD by the authors' own Lean function (tested against real Go, not proved from fmt's source: count such statements apart). THE CARD IS WHAT COUNTS. Prove the row's statement (the work); the ties are given (YtnidncohhinjbaaDoorTie.lean); close each card by the builder's one call (the guide's Derived/Test/ToyasCard.lean, 'card_holds'). Laid BY PROGRAM, IN A SANDBOX (cutbox-door.mjs). By AI agents, Wed Nov 11 2026. No macro, syntax, notation, axiom, sorry.
-/
import Derived.Test.YtnidncohhinjbaaDoorRows
import GoSem.ClaimSeven
namespace Go.Proofs.YtnidncohhinjbaaDoor
namespace Rows

/-- THE TIED CARD OF 'laws.FnPaMergeAgain'. -/
def fnPaMergeAgainCard : Claim7 := { stood := { row := fnPaMergeAgainRow, standIns := [], harness := (true, "070a76bcd02142da6ce3255ec10e4de6516bee50fd7a004852fbc91580505c55"), looks := true }, kinds := [], alts := [], laidByText := true, laidKinds := [.sentinel, .sentinel, .sentinel], laidTests := true, laidLooks := .later }
def FnPaMergeAgainCardSaid : Prop := Claim7.holds Tryd.pinned (.plain (OpenSpec.ofChange fnPaMergeAgainSpec)) fnPaMergeAgainCard

/-- THE TIED CARD OF 'laws.FnJqPathParts'. -/
def fnJqPathPartsCard : Claim7 := { stood := { row := fnJqPathPartsRow, standIns := [], harness := (true, "070a76bcd02142da6ce3255ec10e4de6516bee50fd7a004852fbc91580505c55"), looks := true }, kinds := [], alts := [], laidByText := true, laidKinds := [.data, .data, .sentinel, .sentinel, .sentinel, .sentinel], laidTests := true, laidLooks := .later }
def FnJqPathPartsCardSaid : Prop := Claim7.holds Tryd.pinned (.plain (OpenSpec.ofChange fnJqPathPartsSpec)) fnJqPathPartsCard

/-- THE TIED CARD OF 'laws.FnFfUint64Best'. -/
def fnFfUint64BestCard : Claim7 := { stood := { row := fnFfUint64BestRow, standIns := [], harness := (true, "070a76bcd02142da6ce3255ec10e4de6516bee50fd7a004852fbc91580505c55"), looks := true }, kinds := [], alts := [], laidByText := true, laidKinds := [.data, .data, .data, .sentinel, .sentinel], laidTests := true, laidLooks := .later }
def FnFfUint64BestCardSaid : Prop := Claim7.holds Tryd.pinned (.plain (OpenSpec.ofChange fnFfUint64BestSpec)) fnFfUint64BestCard

/-- THE TIED CARD OF 'laws.FnFjCheckElements'. -/
def fnFjCheckElementsCard : Claim7 := { stood := { row := fnFjCheckElementsRow, standIns := [], harness := (true, "070a76bcd02142da6ce3255ec10e4de6516bee50fd7a004852fbc91580505c55"), looks := true }, kinds := [], alts := [], laidByText := true, laidKinds := [.data, .data, .data, .sentinel, .sentinel], laidTests := true, laidLooks := .later }
def FnFjCheckElementsCardSaid : Prop := Claim7.holds Tryd.pinned (.plain (OpenSpec.ofChange fnFjCheckElementsSpec)) fnFjCheckElementsCard

/-- THE SECOND FORM's CARD OF 'laws.FnPaMergeAgain'. -/
def fnPaMergeAgainUptoCard : Claim7 := { stood := { row := fnPaMergeAgainUptoRow, standIns := [], harness := (true, "070a76bcd02142da6ce3255ec10e4de6516bee50fd7a004852fbc91580505c55"), looks := true }, kinds := [], alts := [], laidByText := true, laidKinds := [.sentinel, .sentinel, .sentinel], laidTests := true, laidLooks := .later }
def FnPaMergeAgainUptoCardSaid : Prop := Claim7.holds Tryd.pinned (.plain (OpenSpec.upto fnPaMergeAgainSpec)) fnPaMergeAgainUptoCard

/-- THE SECOND FORM's CARD OF 'laws.FnJqPathParts'. -/
def fnJqPathPartsUptoCard : Claim7 := { stood := { row := fnJqPathPartsUptoRow, standIns := [], harness := (true, "070a76bcd02142da6ce3255ec10e4de6516bee50fd7a004852fbc91580505c55"), looks := true }, kinds := [], alts := [], laidByText := true, laidKinds := [.data, .data, .sentinel, .sentinel, .sentinel, .sentinel], laidTests := true, laidLooks := .later }
def FnJqPathPartsUptoCardSaid : Prop := Claim7.holds Tryd.pinned (.plain (OpenSpec.upto fnJqPathPartsSpec)) fnJqPathPartsUptoCard

/-- THE SECOND FORM's CARD OF 'laws.FnFfUint64Best'. -/
def fnFfUint64BestUptoCard : Claim7 := { stood := { row := fnFfUint64BestUptoRow, standIns := [], harness := (true, "070a76bcd02142da6ce3255ec10e4de6516bee50fd7a004852fbc91580505c55"), looks := true }, kinds := [], alts := [], laidByText := true, laidKinds := [.data, .data, .data, .sentinel, .sentinel], laidTests := true, laidLooks := .later }
def FnFfUint64BestUptoCardSaid : Prop := Claim7.holds Tryd.pinned (.plain (OpenSpec.upto fnFfUint64BestSpec)) fnFfUint64BestUptoCard

/-- THE SECOND FORM's CARD OF 'laws.FnFjCheckElements'. -/
def fnFjCheckElementsUptoCard : Claim7 := { stood := { row := fnFjCheckElementsUptoRow, standIns := [], harness := (true, "070a76bcd02142da6ce3255ec10e4de6516bee50fd7a004852fbc91580505c55"), looks := true }, kinds := [], alts := [], laidByText := true, laidKinds := [.data, .data, .data, .sentinel, .sentinel], laidTests := true, laidLooks := .later }
def FnFjCheckElementsUptoCardSaid : Prop := Claim7.holds Tryd.pinned (.plain (OpenSpec.upto fnFjCheckElementsSpec)) fnFjCheckElementsUptoCard
end Rows
end Go.Proofs.YtnidncohhinjbaaDoor

/-
  DERIVED. GIVEN WITH THE SEED: THE CARDS: each row of YtdjogkfgegopfaaDoorRows.lean that lists a variable, with what it lists TIED to the program's text (the seventh form; the later family's looks); each row that meets fmt, with fmt's text TOLD by the authors' own Lean function (tested against real Go, not proved from fmt's source: count such statements apart). THE CARD IS WHAT COUNTS. Prove the row's statement (the work); the ties are given (YtdjogkfgegopfaaDoorTie.lean); close each card by the builder's one call (the guide's Derived/Test/ToyasCard.lean, 'card_holds'). Laid BY PROGRAM, IN A SANDBOX (cutbox-door.mjs). By AI agents, Wed Nov 11 2026. No macro, syntax, notation, axiom, sorry.
-/
import Derived.Test.YtdjogkfgegopfaaDoorRows
import GoSem.ClaimSeven
namespace Go.Proofs.YtdjogkfgegopfaaDoor
namespace Rows

/-- THE TIED CARD OF 'laws.FnPaMergeAgain'. -/
def fnPaMergeAgainCard : Claim7 := { stood := { row := fnPaMergeAgainRow, standIns := [], harness := (true, "13aea88f75a5e4af00cb5748f2afe9ba27e69b9d11034cf45054a2fe80534fd6"), looks := true }, kinds := [], alts := [], laidByText := true, laidKinds := [.sentinel, .sentinel, .sentinel], laidTests := true, laidLooks := .later }
def FnPaMergeAgainCardSaid : Prop := Claim7.holds Tryd.pinned (.plain (OpenSpec.ofChange fnPaMergeAgainSpec)) fnPaMergeAgainCard

/-- THE TIED CARD OF 'laws.FnPaPutTake'. -/
def fnPaPutTakeCard : Claim7 := { stood := { row := fnPaPutTakeRow, standIns := [], harness := (true, "13aea88f75a5e4af00cb5748f2afe9ba27e69b9d11034cf45054a2fe80534fd6"), looks := true }, kinds := [], alts := [], laidByText := true, laidKinds := [.sentinel, .sentinel], laidTests := true, laidLooks := .later }
def FnPaPutTakeCardSaid : Prop := Claim7.holds Tryd.pinned (.plain (OpenSpec.ofChange fnPaPutTakeSpec)) fnPaPutTakeCard

/-- THE SECOND FORM's CARD OF 'laws.FnPaMergeAgain'. -/
def fnPaMergeAgainUptoCard : Claim7 := { stood := { row := fnPaMergeAgainUptoRow, standIns := [], harness := (true, "13aea88f75a5e4af00cb5748f2afe9ba27e69b9d11034cf45054a2fe80534fd6"), looks := true }, kinds := [], alts := [], laidByText := true, laidKinds := [.sentinel, .sentinel, .sentinel], laidTests := true, laidLooks := .later }
def FnPaMergeAgainUptoCardSaid : Prop := Claim7.holds Tryd.pinned (.plain (OpenSpec.upto fnPaMergeAgainSpec)) fnPaMergeAgainUptoCard

/-- THE SECOND FORM's CARD OF 'laws.FnPaPutTake'. -/
def fnPaPutTakeUptoCard : Claim7 := { stood := { row := fnPaPutTakeUptoRow, standIns := [], harness := (true, "13aea88f75a5e4af00cb5748f2afe9ba27e69b9d11034cf45054a2fe80534fd6"), looks := true }, kinds := [], alts := [], laidByText := true, laidKinds := [.sentinel, .sentinel], laidTests := true, laidLooks := .later }
def FnPaPutTakeUptoCardSaid : Prop := Claim7.holds Tryd.pinned (.plain (OpenSpec.upto fnPaPutTakeSpec)) fnPaPutTakeUptoCard
end Rows
end Go.Proofs.YtdjogkfgegopfaaDoor

/-
  DERIVED. GIVEN WITH THE SEED: THE CARDS: each row of YtifcmhekpbfboaaDoorRows.lean that lists a variable, with what it lists TIED to the program's text (the seventh form; the later family's looks); each row that meets fmt, with fmt's text TOLD by the authors' own Lean function (tested against real Go, not proved from fmt's source: count such statements apart). THE CARD IS WHAT COUNTS. Prove the row's statement (the work); the ties are given (YtifcmhekpbfboaaDoorTie.lean); close each card by the builder's one call (the guide's Derived/Test/ToyasCard.lean, 'card_holds'). Laid BY PROGRAM, IN A SANDBOX (cutbox-door.mjs). By AI agents, Wed Nov 11 2026. No macro, syntax, notation, axiom, sorry.
-/
import Derived.Test.YtifcmhekpbfboaaDoorRows
import GoSem.ClaimSeven
namespace Go.Proofs.YtifcmhekpbfboaaDoor
namespace Rows

/-- THE TIED CARD OF 'laws.FnJpParseInt'. -/
def fnJpParseIntCard : Claim7 := { stood := { row := fnJpParseIntRow, standIns := [], harness := (true, "ea81c0c26503a26c05d50dc290ca05a03f2ba5a914a474cc4a642616921bfbbd"), looks := false }, kinds := [], alts := [], laidByText := true, laidKinds := [.sentinel, .sentinel], laidTests := true, laidLooks := .later }
def FnJpParseIntCardSaid : Prop := Claim7.holds Tryd.pinned (.plain (OpenSpec.ofChange fnJpParseIntSpec)) fnJpParseIntCard

/-- THE TIED CARD OF 'laws.FnJpStringEnd'. -/
def fnJpStringEndCard : Claim7 := { stood := { row := fnJpStringEndRow, standIns := [], harness := (true, "ea81c0c26503a26c05d50dc290ca05a03f2ba5a914a474cc4a642616921bfbbd"), looks := false }, kinds := [], alts := [], laidByText := true, laidKinds := [.data], laidTests := true, laidLooks := .later }
def FnJpStringEndCardSaid : Prop := Claim7.holds Tryd.pinned (.plain (OpenSpec.ofChange fnJpStringEndSpec)) fnJpStringEndCard

/-- THE TIED CARD OF 'laws.FnGjSquashAt'. -/
def fnGjSquashAtCard : Claim7 := { stood := { row := fnGjSquashAtRow, standIns := [], harness := (true, "ea81c0c26503a26c05d50dc290ca05a03f2ba5a914a474cc4a642616921bfbbd"), looks := false }, kinds := [], alts := [], laidByText := true, laidKinds := [.data], laidTests := true, laidLooks := .later }
def FnGjSquashAtCardSaid : Prop := Claim7.holds Tryd.pinned (.plain (OpenSpec.ofChange fnGjSquashAtSpec)) fnGjSquashAtCard

/-- THE TIED CARD OF 'laws.FnMtLimitMore'. -/
def fnMtLimitMoreCard : Claim7 := { stood := { row := fnMtLimitMoreRow, standIns := [], harness := (true, "ea81c0c26503a26c05d50dc290ca05a03f2ba5a914a474cc4a642616921bfbbd"), looks := false }, kinds := [], alts := [], laidByText := true, laidKinds := [.data, .pinned], laidTests := true, laidLooks := .later }
def FnMtLimitMoreCardSaid : Prop := Claim7.holds Tryd.pinned (.plain (OpenSpec.ofChange fnMtLimitMoreSpec)) fnMtLimitMoreCard

/-- THE SECOND FORM's CARD OF 'laws.FnJpParseInt'. -/
def fnJpParseIntUptoCard : Claim7 := { stood := { row := fnJpParseIntUptoRow, standIns := [], harness := (true, "ea81c0c26503a26c05d50dc290ca05a03f2ba5a914a474cc4a642616921bfbbd"), looks := false }, kinds := [], alts := [], laidByText := true, laidKinds := [.sentinel, .sentinel], laidTests := true, laidLooks := .later }
def FnJpParseIntUptoCardSaid : Prop := Claim7.holds Tryd.pinned (.plain (OpenSpec.upto fnJpParseIntSpec)) fnJpParseIntUptoCard

/-- THE SECOND FORM's CARD OF 'laws.FnJpStringEnd'. -/
def fnJpStringEndUptoCard : Claim7 := { stood := { row := fnJpStringEndUptoRow, standIns := [], harness := (true, "ea81c0c26503a26c05d50dc290ca05a03f2ba5a914a474cc4a642616921bfbbd"), looks := false }, kinds := [], alts := [], laidByText := true, laidKinds := [.data], laidTests := true, laidLooks := .later }
def FnJpStringEndUptoCardSaid : Prop := Claim7.holds Tryd.pinned (.plain (OpenSpec.upto fnJpStringEndSpec)) fnJpStringEndUptoCard

/-- THE SECOND FORM's CARD OF 'laws.FnGjSquashAt'. -/
def fnGjSquashAtUptoCard : Claim7 := { stood := { row := fnGjSquashAtUptoRow, standIns := [], harness := (true, "ea81c0c26503a26c05d50dc290ca05a03f2ba5a914a474cc4a642616921bfbbd"), looks := false }, kinds := [], alts := [], laidByText := true, laidKinds := [.data], laidTests := true, laidLooks := .later }
def FnGjSquashAtUptoCardSaid : Prop := Claim7.holds Tryd.pinned (.plain (OpenSpec.upto fnGjSquashAtSpec)) fnGjSquashAtUptoCard

/-- THE SECOND FORM's CARD OF 'laws.FnMtLimitMore'. -/
def fnMtLimitMoreUptoCard : Claim7 := { stood := { row := fnMtLimitMoreUptoRow, standIns := [], harness := (true, "ea81c0c26503a26c05d50dc290ca05a03f2ba5a914a474cc4a642616921bfbbd"), looks := false }, kinds := [], alts := [], laidByText := true, laidKinds := [.data, .pinned], laidTests := true, laidLooks := .later }
def FnMtLimitMoreUptoCardSaid : Prop := Claim7.holds Tryd.pinned (.plain (OpenSpec.upto fnMtLimitMoreSpec)) fnMtLimitMoreUptoCard
end Rows
end Go.Proofs.YtifcmhekpbfboaaDoor

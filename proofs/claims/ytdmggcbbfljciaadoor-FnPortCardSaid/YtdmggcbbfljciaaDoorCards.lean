/-
  DERIVED. GIVEN WITH THE SEED: THE CARDS: each row of YtdmggcbbfljciaaDoorRows.lean that lists a variable, with what it lists TIED to the program's text (the seventh form; the later family's looks); each row that meets fmt, with fmt's text TOLD by the authors' own Lean function (tested against real Go, not proved from fmt's source: count such statements apart). THE CARD IS WHAT COUNTS. Prove the row's statement (the work); the ties are given (YtdmggcbbfljciaaDoorTie.lean); close each card by the builder's one call (the guide's Derived/Test/ToyasCard.lean, 'card_holds'). Laid BY PROGRAM, IN A SANDBOX (cutbox-door.mjs). By AI agents, Wed Nov 11 2026. No macro, syntax, notation, axiom, sorry.
-/
import Derived.Test.YtdmggcbbfljciaaDoorRows
import GoSem.ClaimSeven
namespace Go.Proofs.YtdmggcbbfljciaaDoor
namespace Rows

/-- THE TIED CARD OF 'laws.FnNumber'. -/
def fnNumberCard : Claim7 := { stood := { row := fnNumberRow, standIns := [], harness := (true, "187af35cc55a4716bfea461abbd45c4eb40ce7a35cf996725b761b7d87db8c87"), looks := true }, kinds := [], alts := [], laidByText := true, laidKinds := [.data, .data, .data, .sentinel, .sentinel], laidTests := true, laidLooks := .later }
def FnNumberCardSaid : Prop := Claim7.holds Tryd.pinned (.plain (OpenSpec.ofChange fnNumberSpec)) fnNumberCard

/-- THE TIED CARD OF 'laws.FnPort'. -/
def fnPortCard : Claim7 := { stood := { row := fnPortRow, standIns := [], harness := (true, "187af35cc55a4716bfea461abbd45c4eb40ce7a35cf996725b761b7d87db8c87"), looks := true }, kinds := [], alts := [], laidByText := true, laidKinds := [.data, .data, .data, .sentinel, .sentinel], laidTests := true, laidLooks := .later }
def FnPortCardSaid : Prop := Claim7.holds Tryd.pinned (.plain (OpenSpec.ofChange fnPortSpec)) fnPortCard

/-- THE SECOND FORM's CARD OF 'laws.FnNumber'. -/
def fnNumberUptoCard : Claim7 := { stood := { row := fnNumberUptoRow, standIns := [], harness := (true, "187af35cc55a4716bfea461abbd45c4eb40ce7a35cf996725b761b7d87db8c87"), looks := true }, kinds := [], alts := [], laidByText := true, laidKinds := [.data, .data, .data, .sentinel, .sentinel], laidTests := true, laidLooks := .later }
def FnNumberUptoCardSaid : Prop := Claim7.holds Tryd.pinned (.plain (OpenSpec.upto fnNumberSpec)) fnNumberUptoCard

/-- THE SECOND FORM's CARD OF 'laws.FnPort'. -/
def fnPortUptoCard : Claim7 := { stood := { row := fnPortUptoRow, standIns := [], harness := (true, "187af35cc55a4716bfea461abbd45c4eb40ce7a35cf996725b761b7d87db8c87"), looks := true }, kinds := [], alts := [], laidByText := true, laidKinds := [.data, .data, .data, .sentinel, .sentinel], laidTests := true, laidLooks := .later }
def FnPortUptoCardSaid : Prop := Claim7.holds Tryd.pinned (.plain (OpenSpec.upto fnPortSpec)) fnPortUptoCard
end Rows
end Go.Proofs.YtdmggcbbfljciaaDoor

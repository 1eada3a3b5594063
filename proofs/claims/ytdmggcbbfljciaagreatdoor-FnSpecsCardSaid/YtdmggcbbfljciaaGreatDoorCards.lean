/-
  DERIVED. GIVEN WITH THE SEED: THE CARDS: each row of YtdmggcbbfljciaaGreatDoorRows.lean that lists a variable, with what it lists TIED to the program's text (the seventh form; the later family's looks); each row that meets fmt, with fmt's text TOLD by the authors' own Lean function (tested against real Go, not proved from fmt's source: count such statements apart). THE CARD IS WHAT COUNTS. Prove the row's statement (the work); the ties are given (YtdmggcbbfljciaaGreatDoorTie.lean); close each card by the builder's one call (the guide's Derived/Test/ToyasCard.lean, 'card_holds'). Laid BY PROGRAM, IN A SANDBOX (cutbox-door.mjs). By AI agents, Wed Nov 11 2026. No macro, syntax, notation, axiom, sorry.
-/
import Derived.Test.YtdmggcbbfljciaaGreatDoorRows
import GoSem.ClaimSeven
namespace Go.Proofs.YtdmggcbbfljciaaGreatDoor
namespace Rows

/-- THE TIED CARD OF 'laws.FnSpec'. -/
def fnSpecCard : Claim7 := { stood := { row := fnSpecRow, standIns := [], harness := (true, "a13dbc2824432f1233d7cd9c2681c34ace70c922998d3542071d2508dfafa55b"), looks := true }, kinds := [], alts := [], laidByText := true, laidKinds := [.data, .data, .data, .data, .sentinel, .sentinel, .pinned, .pinned], laidTests := true, laidLooks := .later }
def FnSpecCardSaid : Prop := Claim7.holds Tryz.pinned (.plain (OpenSpec.ofChange fnSpecSpec)) fnSpecCard

/-- THE TIED CARD OF 'laws.FnBackwards'. -/
def fnBackwardsCard : Claim7 := { stood := { row := fnBackwardsRow, standIns := [], harness := (true, "a13dbc2824432f1233d7cd9c2681c34ace70c922998d3542071d2508dfafa55b"), looks := true }, kinds := [], alts := [], laidByText := true, laidKinds := [.data, .data, .data, .data, .sentinel, .sentinel, .pinned, .pinned], laidTests := true, laidLooks := .later }
def FnBackwardsCardSaid : Prop := Claim7.holds Tryz.pinned (.plain (OpenSpec.ofChange fnBackwardsSpec)) fnBackwardsCard

/-- THE TIED CARD OF 'laws.FnShow'. -/
def fnShowCard : Claim7 := { stood := { row := fnShowRow, standIns := [], harness := (true, "a13dbc2824432f1233d7cd9c2681c34ace70c922998d3542071d2508dfafa55b"), looks := true }, kinds := [], alts := [], laidByText := true, laidKinds := [.data, .data, .data, .data, .sentinel, .sentinel, .pinned, .pinned], laidTests := true, laidLooks := .later }
def FnShowCardSaid : Prop := Claim7.holds Tryz.pinned (.plain (OpenSpec.ofChange fnShowSpec)) fnShowCard

/-- THE TIED CARD OF 'laws.FnSpecs'. -/
def fnSpecsCard : Claim7 := { stood := { row := fnSpecsRow, standIns := [], harness := (true, "a13dbc2824432f1233d7cd9c2681c34ace70c922998d3542071d2508dfafa55b"), looks := true }, kinds := [], alts := [], laidByText := true, laidKinds := [.data, .data, .data, .data, .sentinel, .sentinel, .pinned, .pinned], laidTests := true, laidLooks := .later }
def FnSpecsCardSaid : Prop := Claim7.holds Tryz.pinned (.plain (OpenSpec.ofChange fnSpecsSpec)) fnSpecsCard

/-- THE SECOND FORM's CARD OF 'laws.FnSpec'. -/
def fnSpecUptoCard : Claim7 := { stood := { row := fnSpecUptoRow, standIns := [], harness := (true, "a13dbc2824432f1233d7cd9c2681c34ace70c922998d3542071d2508dfafa55b"), looks := true }, kinds := [], alts := [], laidByText := true, laidKinds := [.data, .data, .data, .data, .sentinel, .sentinel, .pinned, .pinned], laidTests := true, laidLooks := .later }
def FnSpecUptoCardSaid : Prop := Claim7.holds Tryz.pinned (.plain (OpenSpec.upto fnSpecSpec)) fnSpecUptoCard

/-- THE SECOND FORM's CARD OF 'laws.FnBackwards'. -/
def fnBackwardsUptoCard : Claim7 := { stood := { row := fnBackwardsUptoRow, standIns := [], harness := (true, "a13dbc2824432f1233d7cd9c2681c34ace70c922998d3542071d2508dfafa55b"), looks := true }, kinds := [], alts := [], laidByText := true, laidKinds := [.data, .data, .data, .data, .sentinel, .sentinel, .pinned, .pinned], laidTests := true, laidLooks := .later }
def FnBackwardsUptoCardSaid : Prop := Claim7.holds Tryz.pinned (.plain (OpenSpec.upto fnBackwardsSpec)) fnBackwardsUptoCard

/-- THE SECOND FORM's CARD OF 'laws.FnShow'. -/
def fnShowUptoCard : Claim7 := { stood := { row := fnShowUptoRow, standIns := [], harness := (true, "a13dbc2824432f1233d7cd9c2681c34ace70c922998d3542071d2508dfafa55b"), looks := true }, kinds := [], alts := [], laidByText := true, laidKinds := [.data, .data, .data, .data, .sentinel, .sentinel, .pinned, .pinned], laidTests := true, laidLooks := .later }
def FnShowUptoCardSaid : Prop := Claim7.holds Tryz.pinned (.plain (OpenSpec.upto fnShowSpec)) fnShowUptoCard

/-- THE SECOND FORM's CARD OF 'laws.FnSpecs'. -/
def fnSpecsUptoCard : Claim7 := { stood := { row := fnSpecsUptoRow, standIns := [], harness := (true, "a13dbc2824432f1233d7cd9c2681c34ace70c922998d3542071d2508dfafa55b"), looks := true }, kinds := [], alts := [], laidByText := true, laidKinds := [.data, .data, .data, .data, .sentinel, .sentinel, .pinned, .pinned], laidTests := true, laidLooks := .later }
def FnSpecsUptoCardSaid : Prop := Claim7.holds Tryz.pinned (.plain (OpenSpec.upto fnSpecsSpec)) fnSpecsUptoCard
end Rows
end Go.Proofs.YtdmggcbbfljciaaGreatDoor

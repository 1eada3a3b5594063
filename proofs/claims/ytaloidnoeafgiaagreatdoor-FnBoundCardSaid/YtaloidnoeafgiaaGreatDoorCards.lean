/-
  DERIVED. GIVEN WITH THE SEED: THE CARDS: each row of YtaloidnoeafgiaaGreatDoorRows.lean that lists a variable, with what it lists TIED to the program's text (the seventh form; the later family's looks); each row that meets fmt, with fmt's text TOLD by the authors' own Lean function (tested against real Go, not proved from fmt's source: count such statements apart). THE CARD IS WHAT COUNTS. Prove the row's statement (the work); the ties are given (YtaloidnoeafgiaaGreatDoorTie.lean); close each card by the builder's one call (the guide's Derived/Test/ToyasCard.lean, 'card_holds'). Laid BY PROGRAM, IN A SANDBOX (cutbox-door.mjs). By AI agents, Wed Nov 11 2026. No macro, syntax, notation, axiom, sorry.
-/
import Derived.Test.YtaloidnoeafgiaaGreatDoorRows
import GoSem.ClaimSeven
namespace Go.Proofs.YtaloidnoeafgiaaGreatDoor
namespace Rows

/-- THE TIED CARD OF 'laws.FnBound'. -/
def fnBoundCard : Claim7 := { stood := { row := fnBoundRow, standIns := [], harness := (true, "afa5a53553a8528fc8065730bb15b6641dfea85f2d8a5aa51d4c5cf65717f5f2"), looks := true }, kinds := [], alts := [], laidByText := true, laidKinds := [.data, .data, .data, .sentinel, .sentinel], laidTests := true, laidLooks := .later }
def FnBoundCardSaid : Prop := Claim7.holds Tryz.pinned (.plain (OpenSpec.ofChange fnBoundSpec)) fnBoundCard

/-- THE TIED CARD OF 'laws.FnShort'. -/
def fnShortCard : Claim7 := { stood := { row := fnShortRow, standIns := [], harness := (true, "afa5a53553a8528fc8065730bb15b6641dfea85f2d8a5aa51d4c5cf65717f5f2"), looks := true }, kinds := [], alts := [], laidByText := true, laidKinds := [.data, .data, .data, .sentinel, .sentinel], laidTests := true, laidLooks := .later }
def FnShortCardSaid : Prop := Claim7.holds Tryz.pinned (.plain (OpenSpec.ofChange fnShortSpec)) fnShortCard

/-- THE TIED CARD OF 'laws.FnLabel'. -/
def fnLabelCard : Claim7 := { stood := { row := fnLabelRow, standIns := [], harness := (true, "afa5a53553a8528fc8065730bb15b6641dfea85f2d8a5aa51d4c5cf65717f5f2"), looks := true }, kinds := [], alts := [], laidByText := true, laidKinds := [.data, .data, .data, .sentinel, .sentinel], laidTests := true, laidLooks := .later }
def FnLabelCardSaid : Prop := Claim7.holds Tryz.pinned (.plain (OpenSpec.ofChange fnLabelSpec)) fnLabelCard

/-- THE SECOND FORM's CARD OF 'laws.FnBound'. -/
def fnBoundUptoCard : Claim7 := { stood := { row := fnBoundUptoRow, standIns := [], harness := (true, "afa5a53553a8528fc8065730bb15b6641dfea85f2d8a5aa51d4c5cf65717f5f2"), looks := true }, kinds := [], alts := [], laidByText := true, laidKinds := [.data, .data, .data, .sentinel, .sentinel], laidTests := true, laidLooks := .later }
def FnBoundUptoCardSaid : Prop := Claim7.holds Tryz.pinned (.plain (OpenSpec.upto fnBoundSpec)) fnBoundUptoCard

/-- THE SECOND FORM's CARD OF 'laws.FnShort'. -/
def fnShortUptoCard : Claim7 := { stood := { row := fnShortUptoRow, standIns := [], harness := (true, "afa5a53553a8528fc8065730bb15b6641dfea85f2d8a5aa51d4c5cf65717f5f2"), looks := true }, kinds := [], alts := [], laidByText := true, laidKinds := [.data, .data, .data, .sentinel, .sentinel], laidTests := true, laidLooks := .later }
def FnShortUptoCardSaid : Prop := Claim7.holds Tryz.pinned (.plain (OpenSpec.upto fnShortSpec)) fnShortUptoCard

/-- THE SECOND FORM's CARD OF 'laws.FnLabel'. -/
def fnLabelUptoCard : Claim7 := { stood := { row := fnLabelUptoRow, standIns := [], harness := (true, "afa5a53553a8528fc8065730bb15b6641dfea85f2d8a5aa51d4c5cf65717f5f2"), looks := true }, kinds := [], alts := [], laidByText := true, laidKinds := [.data, .data, .data, .sentinel, .sentinel], laidTests := true, laidLooks := .later }
def FnLabelUptoCardSaid : Prop := Claim7.holds Tryz.pinned (.plain (OpenSpec.upto fnLabelSpec)) fnLabelUptoCard
end Rows
end Go.Proofs.YtaloidnoeafgiaaGreatDoor

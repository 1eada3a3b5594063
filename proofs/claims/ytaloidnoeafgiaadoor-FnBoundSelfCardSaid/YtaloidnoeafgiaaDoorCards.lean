/-
  DERIVED. GIVEN WITH THE SEED: THE CARDS: each row of YtaloidnoeafgiaaDoorRows.lean that lists a variable, with what it lists TIED to the program's text (the seventh form; the later family's looks); each row that meets fmt, with fmt's text TOLD by the authors' own Lean function (tested against real Go, not proved from fmt's source: count such statements apart). THE CARD IS WHAT COUNTS. Prove the row's statement (the work); the ties are given (YtaloidnoeafgiaaDoorTie.lean); close each card by the builder's one call (the guide's Derived/Test/ToyasCard.lean, 'card_holds'). Laid BY PROGRAM, IN A SANDBOX (cutbox-door.mjs). By AI agents, Wed Nov 11 2026. No macro, syntax, notation, axiom, sorry.
-/
import Derived.Test.YtaloidnoeafgiaaDoorRows
import GoSem.ClaimSeven
namespace Go.Proofs.YtaloidnoeafgiaaDoor
namespace Rows

/-- THE TIED CARD OF 'laws.FnRange'. -/
def fnRangeCard : Claim7 := { stood := { row := fnRangeRow, standIns := [], harness := (true, "8e5e0dc9c3afc9eec5e34ecf091b19401ad84d4f1feb74e91a75b617fefb0049"), looks := true }, kinds := [], alts := [], laidByText := true, laidKinds := [.data, .data, .data, .sentinel, .sentinel], laidTests := true, laidLooks := .later }
def FnRangeCardSaid : Prop := Claim7.holds Tryd.pinned (.plain (OpenSpec.ofChange fnRangeSpec)) fnRangeCard

/-- THE TIED CARD OF 'laws.FnCategories'. -/
def fnCategoriesCard : Claim7 := { stood := { row := fnCategoriesRow, standIns := [], harness := (true, "8e5e0dc9c3afc9eec5e34ecf091b19401ad84d4f1feb74e91a75b617fefb0049"), looks := true }, kinds := [], alts := [], laidByText := true, laidKinds := [.data, .data, .data, .sentinel, .sentinel], laidTests := true, laidLooks := .later }
def FnCategoriesCardSaid : Prop := Claim7.holds Tryd.pinned (.plain (OpenSpec.ofChange fnCategoriesSpec)) fnCategoriesCard

/-- THE TIED CARD OF 'laws.FnShared'. -/
def fnSharedCard : Claim7 := { stood := { row := fnSharedRow, standIns := [], harness := (true, "8e5e0dc9c3afc9eec5e34ecf091b19401ad84d4f1feb74e91a75b617fefb0049"), looks := true }, kinds := [], alts := [], laidByText := true, laidKinds := [.data, .data, .data, .sentinel, .sentinel], laidTests := true, laidLooks := .later }
def FnSharedCardSaid : Prop := Claim7.holds Tryd.pinned (.plain (OpenSpec.ofChange fnSharedSpec)) fnSharedCard

/-- THE TIED CARD OF 'laws.FnLevels'. -/
def fnLevelsCard : Claim7 := { stood := { row := fnLevelsRow, standIns := [], harness := (true, "8e5e0dc9c3afc9eec5e34ecf091b19401ad84d4f1feb74e91a75b617fefb0049"), looks := true }, kinds := [], alts := [], laidByText := true, laidKinds := [.data, .data, .data, .sentinel, .sentinel], laidTests := true, laidLooks := .later }
def FnLevelsCardSaid : Prop := Claim7.holds Tryd.pinned (.plain (OpenSpec.ofChange fnLevelsSpec)) fnLevelsCard

/-- THE TIED CARD OF 'laws.FnBadOption'. -/
def fnBadOptionCard : Claim7 := { stood := { row := fnBadOptionRow, standIns := [], harness := (true, "8e5e0dc9c3afc9eec5e34ecf091b19401ad84d4f1feb74e91a75b617fefb0049"), looks := true }, kinds := [], alts := [], laidByText := true, laidKinds := [.data, .data, .data, .sentinel, .sentinel], laidTests := true, laidLooks := .later }
def FnBadOptionCardSaid : Prop := Claim7.holds Tryd.pinned (.plain (OpenSpec.ofChange fnBadOptionSpec)) fnBadOptionCard

/-- THE TIED CARD OF 'laws.FnInit'. -/
def fnInitCard : Claim7 := { stood := { row := fnInitRow, standIns := [], harness := (true, "8e5e0dc9c3afc9eec5e34ecf091b19401ad84d4f1feb74e91a75b617fefb0049"), looks := true }, kinds := [], alts := [], laidByText := true, laidKinds := [.data, .data, .data, .sentinel, .sentinel], laidTests := true, laidLooks := .later }
def FnInitCardSaid : Prop := Claim7.holds Tryd.pinned (.plain (OpenSpec.ofChange fnInitSpec)) fnInitCard

/-- THE TIED CARD OF 'laws.FnBoundSelf'. -/
def fnBoundSelfCard : Claim7 := { stood := { row := fnBoundSelfRow, standIns := [], harness := (true, "8e5e0dc9c3afc9eec5e34ecf091b19401ad84d4f1feb74e91a75b617fefb0049"), looks := true }, kinds := [], alts := [], laidByText := true, laidKinds := [.data, .data, .data, .sentinel, .sentinel], laidTests := true, laidLooks := .later }
def FnBoundSelfCardSaid : Prop := Claim7.holds Tryd.pinned (.plain (OpenSpec.ofChange fnBoundSelfSpec)) fnBoundSelfCard

/-- THE SECOND FORM's CARD OF 'laws.FnRange'. -/
def fnRangeUptoCard : Claim7 := { stood := { row := fnRangeUptoRow, standIns := [], harness := (true, "8e5e0dc9c3afc9eec5e34ecf091b19401ad84d4f1feb74e91a75b617fefb0049"), looks := true }, kinds := [], alts := [], laidByText := true, laidKinds := [.data, .data, .data, .sentinel, .sentinel], laidTests := true, laidLooks := .later }
def FnRangeUptoCardSaid : Prop := Claim7.holds Tryd.pinned (.plain (OpenSpec.upto fnRangeSpec)) fnRangeUptoCard

/-- THE SECOND FORM's CARD OF 'laws.FnCategories'. -/
def fnCategoriesUptoCard : Claim7 := { stood := { row := fnCategoriesUptoRow, standIns := [], harness := (true, "8e5e0dc9c3afc9eec5e34ecf091b19401ad84d4f1feb74e91a75b617fefb0049"), looks := true }, kinds := [], alts := [], laidByText := true, laidKinds := [.data, .data, .data, .sentinel, .sentinel], laidTests := true, laidLooks := .later }
def FnCategoriesUptoCardSaid : Prop := Claim7.holds Tryd.pinned (.plain (OpenSpec.upto fnCategoriesSpec)) fnCategoriesUptoCard

/-- THE SECOND FORM's CARD OF 'laws.FnShared'. -/
def fnSharedUptoCard : Claim7 := { stood := { row := fnSharedUptoRow, standIns := [], harness := (true, "8e5e0dc9c3afc9eec5e34ecf091b19401ad84d4f1feb74e91a75b617fefb0049"), looks := true }, kinds := [], alts := [], laidByText := true, laidKinds := [.data, .data, .data, .sentinel, .sentinel], laidTests := true, laidLooks := .later }
def FnSharedUptoCardSaid : Prop := Claim7.holds Tryd.pinned (.plain (OpenSpec.upto fnSharedSpec)) fnSharedUptoCard

/-- THE SECOND FORM's CARD OF 'laws.FnLevels'. -/
def fnLevelsUptoCard : Claim7 := { stood := { row := fnLevelsUptoRow, standIns := [], harness := (true, "8e5e0dc9c3afc9eec5e34ecf091b19401ad84d4f1feb74e91a75b617fefb0049"), looks := true }, kinds := [], alts := [], laidByText := true, laidKinds := [.data, .data, .data, .sentinel, .sentinel], laidTests := true, laidLooks := .later }
def FnLevelsUptoCardSaid : Prop := Claim7.holds Tryd.pinned (.plain (OpenSpec.upto fnLevelsSpec)) fnLevelsUptoCard

/-- THE SECOND FORM's CARD OF 'laws.FnBadOption'. -/
def fnBadOptionUptoCard : Claim7 := { stood := { row := fnBadOptionUptoRow, standIns := [], harness := (true, "8e5e0dc9c3afc9eec5e34ecf091b19401ad84d4f1feb74e91a75b617fefb0049"), looks := true }, kinds := [], alts := [], laidByText := true, laidKinds := [.data, .data, .data, .sentinel, .sentinel], laidTests := true, laidLooks := .later }
def FnBadOptionUptoCardSaid : Prop := Claim7.holds Tryd.pinned (.plain (OpenSpec.upto fnBadOptionSpec)) fnBadOptionUptoCard

/-- THE SECOND FORM's CARD OF 'laws.FnInit'. -/
def fnInitUptoCard : Claim7 := { stood := { row := fnInitUptoRow, standIns := [], harness := (true, "8e5e0dc9c3afc9eec5e34ecf091b19401ad84d4f1feb74e91a75b617fefb0049"), looks := true }, kinds := [], alts := [], laidByText := true, laidKinds := [.data, .data, .data, .sentinel, .sentinel], laidTests := true, laidLooks := .later }
def FnInitUptoCardSaid : Prop := Claim7.holds Tryd.pinned (.plain (OpenSpec.upto fnInitSpec)) fnInitUptoCard

/-- THE SECOND FORM's CARD OF 'laws.FnBoundSelf'. -/
def fnBoundSelfUptoCard : Claim7 := { stood := { row := fnBoundSelfUptoRow, standIns := [], harness := (true, "8e5e0dc9c3afc9eec5e34ecf091b19401ad84d4f1feb74e91a75b617fefb0049"), looks := true }, kinds := [], alts := [], laidByText := true, laidKinds := [.data, .data, .data, .sentinel, .sentinel], laidTests := true, laidLooks := .later }
def FnBoundSelfUptoCardSaid : Prop := Claim7.holds Tryd.pinned (.plain (OpenSpec.upto fnBoundSelfSpec)) fnBoundSelfUptoCard
end Rows
end Go.Proofs.YtaloidnoeafgiaaDoor

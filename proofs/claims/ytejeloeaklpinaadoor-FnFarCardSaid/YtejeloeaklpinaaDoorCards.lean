/-
  DERIVED. GIVEN WITH THE SEED: THE CARDS: each row of YtejeloeaklpinaaDoorRows.lean that lists a variable, with what it lists TIED to the program's text (the seventh form; the later family's looks); each row that meets fmt, with fmt's text TOLD by the authors' own Lean function (tested against real Go, not proved from fmt's source: count such statements apart). THE CARD IS WHAT COUNTS. Prove the row's statement (the work); the ties are given (YtejeloeaklpinaaDoorTie.lean); close each card by the builder's one call (the guide's Derived/Test/ToyasCard.lean, 'card_holds'). Laid BY PROGRAM, IN A SANDBOX (cutbox-door.mjs). By AI agents, Wed Nov 11 2026. No macro, syntax, notation, axiom, sorry.
-/
import Derived.Test.YtejeloeaklpinaaDoorRows
import GoSem.ClaimSeven
namespace Go.Proofs.YtejeloeaklpinaaDoor
namespace Rows

/-- THE TIED CARD OF 'laws.FnCuts'. -/
def fnCutsCard : Claim7 := { stood := { row := fnCutsRow, standIns := [], harness := (true, "0c6add69862c9a7f189c1f6d0aa36e5aee08647080bdcf37c87a5a44bc61c57e"), looks := true }, kinds := [], alts := [], laidByText := true, laidKinds := [.sentinel, .sentinel, .sentinel, .data], laidTests := true, laidLooks := .later }
def FnCutsCardSaid : Prop := Claim7.holds Tryd.pinned (.plain (OpenSpec.ofChange fnCutsSpec)) fnCutsCard

/-- THE TIED CARD OF 'laws.FnFar'. -/
def fnFarCard : Claim7 := { stood := { row := fnFarRow, standIns := [], harness := (true, "0c6add69862c9a7f189c1f6d0aa36e5aee08647080bdcf37c87a5a44bc61c57e"), looks := true }, kinds := [], alts := [], laidByText := true, laidKinds := [.sentinel, .sentinel, .sentinel, .data], laidTests := true, laidLooks := .later }
def FnFarCardSaid : Prop := Claim7.holds Tryd.pinned (.plain (OpenSpec.ofChange fnFarSpec)) fnFarCard

/-- THE TIED CARD OF 'laws.FnInflate'. -/
def fnInflateCard : Claim7 := { stood := { row := fnInflateRow, standIns := [], harness := (true, "0c6add69862c9a7f189c1f6d0aa36e5aee08647080bdcf37c87a5a44bc61c57e"), looks := true }, kinds := [], alts := [], laidByText := true, laidKinds := [.sentinel, .sentinel, .sentinel, .data], laidTests := true, laidLooks := .later }
def FnInflateCardSaid : Prop := Claim7.holds Tryd.pinned (.plain (OpenSpec.ofChange fnInflateSpec)) fnInflateCard

/-- THE TIED CARD OF 'laws.FnKind'. -/
def fnKindCard : Claim7 := { stood := { row := fnKindRow, standIns := [], harness := (true, "0c6add69862c9a7f189c1f6d0aa36e5aee08647080bdcf37c87a5a44bc61c57e"), looks := true }, kinds := [], alts := [], laidByText := true, laidKinds := [.sentinel, .sentinel, .sentinel, .data], laidTests := true, laidLooks := .later }
def FnKindCardSaid : Prop := Claim7.holds Tryd.pinned (.plain (OpenSpec.ofChange fnKindSpec)) fnKindCard

/-- THE TIED CARD OF 'laws.FnStored'. -/
def fnStoredCard : Claim7 := { stood := { row := fnStoredRow, standIns := [], harness := (true, "0c6add69862c9a7f189c1f6d0aa36e5aee08647080bdcf37c87a5a44bc61c57e"), looks := true }, kinds := [], alts := [], laidByText := true, laidKinds := [.sentinel, .sentinel, .sentinel, .data], laidTests := true, laidLooks := .later }
def FnStoredCardSaid : Prop := Claim7.holds Tryd.pinned (.plain (OpenSpec.ofChange fnStoredSpec)) fnStoredCard

/-- THE TIED CARD OF 'laws.FnReset'. -/
def fnResetCard : Claim7 := { stood := { row := fnResetRow, standIns := [], harness := (true, "0c6add69862c9a7f189c1f6d0aa36e5aee08647080bdcf37c87a5a44bc61c57e"), looks := true }, kinds := [], alts := [], laidByText := true, laidKinds := [.sentinel, .sentinel, .sentinel, .data], laidTests := true, laidLooks := .later }
def FnResetCardSaid : Prop := Claim7.holds Tryd.pinned (.plain (OpenSpec.ofChange fnResetSpec)) fnResetCard

/-- THE SECOND FORM's CARD OF 'laws.FnCuts'. -/
def fnCutsUptoCard : Claim7 := { stood := { row := fnCutsUptoRow, standIns := [], harness := (true, "0c6add69862c9a7f189c1f6d0aa36e5aee08647080bdcf37c87a5a44bc61c57e"), looks := true }, kinds := [], alts := [], laidByText := true, laidKinds := [.sentinel, .sentinel, .sentinel, .data], laidTests := true, laidLooks := .later }
def FnCutsUptoCardSaid : Prop := Claim7.holds Tryd.pinned (.plain (OpenSpec.upto fnCutsSpec)) fnCutsUptoCard

/-- THE SECOND FORM's CARD OF 'laws.FnFar'. -/
def fnFarUptoCard : Claim7 := { stood := { row := fnFarUptoRow, standIns := [], harness := (true, "0c6add69862c9a7f189c1f6d0aa36e5aee08647080bdcf37c87a5a44bc61c57e"), looks := true }, kinds := [], alts := [], laidByText := true, laidKinds := [.sentinel, .sentinel, .sentinel, .data], laidTests := true, laidLooks := .later }
def FnFarUptoCardSaid : Prop := Claim7.holds Tryd.pinned (.plain (OpenSpec.upto fnFarSpec)) fnFarUptoCard

/-- THE SECOND FORM's CARD OF 'laws.FnInflate'. -/
def fnInflateUptoCard : Claim7 := { stood := { row := fnInflateUptoRow, standIns := [], harness := (true, "0c6add69862c9a7f189c1f6d0aa36e5aee08647080bdcf37c87a5a44bc61c57e"), looks := true }, kinds := [], alts := [], laidByText := true, laidKinds := [.sentinel, .sentinel, .sentinel, .data], laidTests := true, laidLooks := .later }
def FnInflateUptoCardSaid : Prop := Claim7.holds Tryd.pinned (.plain (OpenSpec.upto fnInflateSpec)) fnInflateUptoCard

/-- THE SECOND FORM's CARD OF 'laws.FnKind'. -/
def fnKindUptoCard : Claim7 := { stood := { row := fnKindUptoRow, standIns := [], harness := (true, "0c6add69862c9a7f189c1f6d0aa36e5aee08647080bdcf37c87a5a44bc61c57e"), looks := true }, kinds := [], alts := [], laidByText := true, laidKinds := [.sentinel, .sentinel, .sentinel, .data], laidTests := true, laidLooks := .later }
def FnKindUptoCardSaid : Prop := Claim7.holds Tryd.pinned (.plain (OpenSpec.upto fnKindSpec)) fnKindUptoCard

/-- THE SECOND FORM's CARD OF 'laws.FnStored'. -/
def fnStoredUptoCard : Claim7 := { stood := { row := fnStoredUptoRow, standIns := [], harness := (true, "0c6add69862c9a7f189c1f6d0aa36e5aee08647080bdcf37c87a5a44bc61c57e"), looks := true }, kinds := [], alts := [], laidByText := true, laidKinds := [.sentinel, .sentinel, .sentinel, .data], laidTests := true, laidLooks := .later }
def FnStoredUptoCardSaid : Prop := Claim7.holds Tryd.pinned (.plain (OpenSpec.upto fnStoredSpec)) fnStoredUptoCard

/-- THE SECOND FORM's CARD OF 'laws.FnReset'. -/
def fnResetUptoCard : Claim7 := { stood := { row := fnResetUptoRow, standIns := [], harness := (true, "0c6add69862c9a7f189c1f6d0aa36e5aee08647080bdcf37c87a5a44bc61c57e"), looks := true }, kinds := [], alts := [], laidByText := true, laidKinds := [.sentinel, .sentinel, .sentinel, .data], laidTests := true, laidLooks := .later }
def FnResetUptoCardSaid : Prop := Claim7.holds Tryd.pinned (.plain (OpenSpec.upto fnResetSpec)) fnResetUptoCard
end Rows
end Go.Proofs.YtejeloeaklpinaaDoor

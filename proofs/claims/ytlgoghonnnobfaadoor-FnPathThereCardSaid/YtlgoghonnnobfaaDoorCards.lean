/-
  DERIVED. GIVEN WITH THE SEED: THE CARDS: each row of YtlgoghonnnobfaaDoorRows.lean that lists a variable, with what it lists TIED to the program's text (the seventh form; the later family's looks); each row that meets fmt, with fmt's text TOLD by the authors' own Lean function (tested against real Go, not proved from fmt's source: count such statements apart). THE CARD IS WHAT COUNTS. Prove the row's statement (the work); the ties are given (YtlgoghonnnobfaaDoorTie.lean); close each card by the builder's one call (the guide's Derived/Test/ToyasCard.lean, 'card_holds'). Laid BY PROGRAM, IN A SANDBOX (cutbox-door.mjs). By AI agents, Wed Nov 11 2026. No macro, syntax, notation, axiom, sorry.
-/
import Derived.Test.YtlgoghonnnobfaaDoorRows
import GoSem.ClaimSeven
namespace Go.Proofs.YtlgoghonnnobfaaDoor
namespace Rows

/-- THE TIED CARD OF 'laws.FnNameClean'. -/
def fnNameCleanCard : Claim7 := { stood := { row := fnNameCleanRow, standIns := [], harness := (true, "3b919432c12f7cef3244464da7122368d83f9da7f4e36f7c8d81a3665f3dfc8a"), looks := true }, kinds := [], alts := [], laidByText := true, laidKinds := [.data, .sentinel, .pinned], laidTests := true, laidLooks := .later }
def FnNameCleanCardSaid : Prop := Claim7.holds Tryd.pinned (.plain (OpenSpec.ofChange fnNameCleanSpec)) fnNameCleanCard

/-- THE TIED CARD OF 'laws.FnNameOne'. -/
def fnNameOneCard : Claim7 := { stood := { row := fnNameOneRow, standIns := [], harness := (true, "3b919432c12f7cef3244464da7122368d83f9da7f4e36f7c8d81a3665f3dfc8a"), looks := true }, kinds := [], alts := [], laidByText := true, laidKinds := [.data, .sentinel, .pinned], laidTests := true, laidLooks := .later }
def FnNameOneCardSaid : Prop := Claim7.holds Tryd.pinned (.plain (OpenSpec.ofChange fnNameOneSpec)) fnNameOneCard

/-- THE TIED CARD OF 'laws.FnNameDecode'. -/
def fnNameDecodeCard : Claim7 := { stood := { row := fnNameDecodeRow, standIns := [], harness := (true, "3b919432c12f7cef3244464da7122368d83f9da7f4e36f7c8d81a3665f3dfc8a"), looks := true }, kinds := [], alts := [], laidByText := true, laidKinds := [.data, .data, .data, .data, .sentinel, .sentinel, .sentinel, .pinned], laidTests := true, laidLooks := .later }
def FnNameDecodeCardSaid : Prop := Claim7.holds Tryd.pinned (.plain (OpenSpec.ofChange fnNameDecodeSpec)) fnNameDecodeCard

/-- THE TIED CARD OF 'laws.FnNameEdges'. -/
def fnNameEdgesCard : Claim7 := { stood := { row := fnNameEdgesRow, standIns := [], harness := (true, "3b919432c12f7cef3244464da7122368d83f9da7f4e36f7c8d81a3665f3dfc8a"), looks := true }, kinds := [], alts := [], laidByText := true, laidKinds := [.data, .data, .data, .data, .sentinel, .sentinel, .sentinel, .pinned], laidTests := true, laidLooks := .later }
def FnNameEdgesCardSaid : Prop := Claim7.holds Tryd.pinned (.plain (OpenSpec.ofChange fnNameEdgesSpec)) fnNameEdgesCard

/-- THE TIED CARD OF 'laws.FnNameHigh'. -/
def fnNameHighCard : Claim7 := { stood := { row := fnNameHighRow, standIns := [], harness := (true, "3b919432c12f7cef3244464da7122368d83f9da7f4e36f7c8d81a3665f3dfc8a"), looks := true }, kinds := [], alts := [], laidByText := true, laidKinds := [.data, .data, .data, .data, .sentinel, .sentinel, .sentinel, .pinned], laidTests := true, laidLooks := .later }
def FnNameHighCardSaid : Prop := Claim7.holds Tryd.pinned (.plain (OpenSpec.ofChange fnNameHighSpec)) fnNameHighCard

/-- THE TIED CARD OF 'laws.FnNameLetters'. -/
def fnNameLettersCard : Claim7 := { stood := { row := fnNameLettersRow, standIns := [], harness := (true, "3b919432c12f7cef3244464da7122368d83f9da7f4e36f7c8d81a3665f3dfc8a"), looks := true }, kinds := [], alts := [], laidByText := true, laidKinds := [.data, .data, .data, .data, .sentinel, .sentinel, .sentinel, .pinned], laidTests := true, laidLooks := .later }
def FnNameLettersCardSaid : Prop := Claim7.holds Tryd.pinned (.plain (OpenSpec.ofChange fnNameLettersSpec)) fnNameLettersCard

/-- THE TIED CARD OF 'laws.FnNameTo'. -/
def fnNameToCard : Claim7 := { stood := { row := fnNameToRow, standIns := [], harness := (true, "3b919432c12f7cef3244464da7122368d83f9da7f4e36f7c8d81a3665f3dfc8a"), looks := true }, kinds := [], alts := [], laidByText := true, laidKinds := [.data, .sentinel, .pinned], laidTests := true, laidLooks := .later }
def FnNameToCardSaid : Prop := Claim7.holds Tryd.pinned (.plain (OpenSpec.ofChange fnNameToSpec)) fnNameToCard

/-- THE TIED CARD OF 'laws.FnPathTo'. -/
def fnPathToCard : Claim7 := { stood := { row := fnPathToRow, standIns := [], harness := (true, "3b919432c12f7cef3244464da7122368d83f9da7f4e36f7c8d81a3665f3dfc8a"), looks := true }, kinds := [], alts := [], laidByText := true, laidKinds := [.data, .sentinel, .pinned], laidTests := true, laidLooks := .later }
def FnPathToCardSaid : Prop := Claim7.holds Tryd.pinned (.plain (OpenSpec.ofChange fnPathToSpec)) fnPathToCard

/-- THE TIED CARD OF 'laws.FnPathThere'. -/
def fnPathThereCard : Claim7 := { stood := { row := fnPathThereRow, standIns := [], harness := (true, "3b919432c12f7cef3244464da7122368d83f9da7f4e36f7c8d81a3665f3dfc8a"), looks := true }, kinds := [], alts := [], laidByText := true, laidKinds := [.data, .data, .data, .data, .sentinel, .sentinel, .sentinel, .pinned], laidTests := true, laidLooks := .later }
def FnPathThereCardSaid : Prop := Claim7.holds Tryd.pinned (.plain (OpenSpec.ofChange fnPathThereSpec)) fnPathThereCard

/-- THE SECOND FORM's CARD OF 'laws.FnNameClean'. -/
def fnNameCleanUptoCard : Claim7 := { stood := { row := fnNameCleanUptoRow, standIns := [], harness := (true, "3b919432c12f7cef3244464da7122368d83f9da7f4e36f7c8d81a3665f3dfc8a"), looks := true }, kinds := [], alts := [], laidByText := true, laidKinds := [.data, .sentinel, .pinned], laidTests := true, laidLooks := .later }
def FnNameCleanUptoCardSaid : Prop := Claim7.holds Tryd.pinned (.plain (OpenSpec.upto fnNameCleanSpec)) fnNameCleanUptoCard

/-- THE SECOND FORM's CARD OF 'laws.FnNameOne'. -/
def fnNameOneUptoCard : Claim7 := { stood := { row := fnNameOneUptoRow, standIns := [], harness := (true, "3b919432c12f7cef3244464da7122368d83f9da7f4e36f7c8d81a3665f3dfc8a"), looks := true }, kinds := [], alts := [], laidByText := true, laidKinds := [.data, .sentinel, .pinned], laidTests := true, laidLooks := .later }
def FnNameOneUptoCardSaid : Prop := Claim7.holds Tryd.pinned (.plain (OpenSpec.upto fnNameOneSpec)) fnNameOneUptoCard

/-- THE SECOND FORM's CARD OF 'laws.FnNameDecode'. -/
def fnNameDecodeUptoCard : Claim7 := { stood := { row := fnNameDecodeUptoRow, standIns := [], harness := (true, "3b919432c12f7cef3244464da7122368d83f9da7f4e36f7c8d81a3665f3dfc8a"), looks := true }, kinds := [], alts := [], laidByText := true, laidKinds := [.data, .data, .data, .data, .sentinel, .sentinel, .sentinel, .pinned], laidTests := true, laidLooks := .later }
def FnNameDecodeUptoCardSaid : Prop := Claim7.holds Tryd.pinned (.plain (OpenSpec.upto fnNameDecodeSpec)) fnNameDecodeUptoCard

/-- THE SECOND FORM's CARD OF 'laws.FnNameEdges'. -/
def fnNameEdgesUptoCard : Claim7 := { stood := { row := fnNameEdgesUptoRow, standIns := [], harness := (true, "3b919432c12f7cef3244464da7122368d83f9da7f4e36f7c8d81a3665f3dfc8a"), looks := true }, kinds := [], alts := [], laidByText := true, laidKinds := [.data, .data, .data, .data, .sentinel, .sentinel, .sentinel, .pinned], laidTests := true, laidLooks := .later }
def FnNameEdgesUptoCardSaid : Prop := Claim7.holds Tryd.pinned (.plain (OpenSpec.upto fnNameEdgesSpec)) fnNameEdgesUptoCard

/-- THE SECOND FORM's CARD OF 'laws.FnNameHigh'. -/
def fnNameHighUptoCard : Claim7 := { stood := { row := fnNameHighUptoRow, standIns := [], harness := (true, "3b919432c12f7cef3244464da7122368d83f9da7f4e36f7c8d81a3665f3dfc8a"), looks := true }, kinds := [], alts := [], laidByText := true, laidKinds := [.data, .data, .data, .data, .sentinel, .sentinel, .sentinel, .pinned], laidTests := true, laidLooks := .later }
def FnNameHighUptoCardSaid : Prop := Claim7.holds Tryd.pinned (.plain (OpenSpec.upto fnNameHighSpec)) fnNameHighUptoCard

/-- THE SECOND FORM's CARD OF 'laws.FnNameLetters'. -/
def fnNameLettersUptoCard : Claim7 := { stood := { row := fnNameLettersUptoRow, standIns := [], harness := (true, "3b919432c12f7cef3244464da7122368d83f9da7f4e36f7c8d81a3665f3dfc8a"), looks := true }, kinds := [], alts := [], laidByText := true, laidKinds := [.data, .data, .data, .data, .sentinel, .sentinel, .sentinel, .pinned], laidTests := true, laidLooks := .later }
def FnNameLettersUptoCardSaid : Prop := Claim7.holds Tryd.pinned (.plain (OpenSpec.upto fnNameLettersSpec)) fnNameLettersUptoCard

/-- THE SECOND FORM's CARD OF 'laws.FnNameTo'. -/
def fnNameToUptoCard : Claim7 := { stood := { row := fnNameToUptoRow, standIns := [], harness := (true, "3b919432c12f7cef3244464da7122368d83f9da7f4e36f7c8d81a3665f3dfc8a"), looks := true }, kinds := [], alts := [], laidByText := true, laidKinds := [.data, .sentinel, .pinned], laidTests := true, laidLooks := .later }
def FnNameToUptoCardSaid : Prop := Claim7.holds Tryd.pinned (.plain (OpenSpec.upto fnNameToSpec)) fnNameToUptoCard

/-- THE SECOND FORM's CARD OF 'laws.FnPathTo'. -/
def fnPathToUptoCard : Claim7 := { stood := { row := fnPathToUptoRow, standIns := [], harness := (true, "3b919432c12f7cef3244464da7122368d83f9da7f4e36f7c8d81a3665f3dfc8a"), looks := true }, kinds := [], alts := [], laidByText := true, laidKinds := [.data, .sentinel, .pinned], laidTests := true, laidLooks := .later }
def FnPathToUptoCardSaid : Prop := Claim7.holds Tryd.pinned (.plain (OpenSpec.upto fnPathToSpec)) fnPathToUptoCard

/-- THE SECOND FORM's CARD OF 'laws.FnPathThere'. -/
def fnPathThereUptoCard : Claim7 := { stood := { row := fnPathThereUptoRow, standIns := [], harness := (true, "3b919432c12f7cef3244464da7122368d83f9da7f4e36f7c8d81a3665f3dfc8a"), looks := true }, kinds := [], alts := [], laidByText := true, laidKinds := [.data, .data, .data, .data, .sentinel, .sentinel, .sentinel, .pinned], laidTests := true, laidLooks := .later }
def FnPathThereUptoCardSaid : Prop := Claim7.holds Tryd.pinned (.plain (OpenSpec.upto fnPathThereSpec)) fnPathThereUptoCard
end Rows
end Go.Proofs.YtlgoghonnnobfaaDoor

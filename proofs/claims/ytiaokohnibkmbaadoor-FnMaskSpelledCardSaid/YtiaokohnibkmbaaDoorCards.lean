/-
  DERIVED. GIVEN WITH THE SEED: THE CARDS: each row of YtiaokohnibkmbaaDoorRows.lean that lists a variable, with what it lists TIED to the program's text (the seventh form; the later family's looks); each row that meets fmt, with fmt's text TOLD by the authors' own Lean function (tested against real Go, not proved from fmt's source: count such statements apart). THE CARD IS WHAT COUNTS. Prove the row's statement (the work); the ties are given (YtiaokohnibkmbaaDoorTie.lean); close each card by the builder's one call (the guide's Derived/Test/ToyasCard.lean, 'card_holds'). Laid BY PROGRAM, IN A SANDBOX (cutbox-door.mjs). By AI agents, Wed Nov 11 2026. No macro, syntax, notation, axiom, sorry.
-/
import Derived.Test.YtiaokohnibkmbaaDoorRows
import GoSem.ClaimSeven
namespace Go.Proofs.YtiaokohnibkmbaaDoor
namespace Rows

/-- THE TIED CARD OF 'laws.FnMaskOne'. -/
def fnMaskOneCard : Claim7 := { stood := { row := fnMaskOneRow, standIns := [], harness := (true, "8488f4e5b8baaf18d4eeb0e0ed4211716de272fbbe750da03f25caf130d0e1b2"), looks := true }, kinds := [], alts := [], laidByText := true, laidKinds := [.data, .data, .data, .data, .pinned, .pinned], laidTests := true, laidLooks := .later }
def FnMaskOneCardSaid : Prop := Claim7.holds Tryd.pinned (.plain (OpenSpec.ofChange fnMaskOneSpec)) fnMaskOneCard

/-- THE TIED CARD OF 'laws.FnMaskSet'. -/
def fnMaskSetCard : Claim7 := { stood := { row := fnMaskSetRow, standIns := [], harness := (true, "8488f4e5b8baaf18d4eeb0e0ed4211716de272fbbe750da03f25caf130d0e1b2"), looks := true }, kinds := [], alts := [], laidByText := true, laidKinds := [.data, .data, .data, .data, .sentinel, .sentinel, .listed, .data, .pinned], laidTests := true, laidLooks := .later }
def FnMaskSetCardSaid : Prop := Claim7.holds Tryd.pinned (.plain (OpenSpec.ofChange fnMaskSetSpec)) fnMaskSetCard

/-- THE TIED CARD OF 'laws.FnMaskSpelled'. -/
def fnMaskSpelledCard : Claim7 := { stood := { row := fnMaskSpelledRow, standIns := [], harness := (true, "8488f4e5b8baaf18d4eeb0e0ed4211716de272fbbe750da03f25caf130d0e1b2"), looks := true }, kinds := [], alts := [], laidByText := true, laidKinds := [.data, .data, .data, .data, .sentinel, .sentinel, .listed, .data, .pinned], laidTests := true, laidLooks := .later }
def FnMaskSpelledCardSaid : Prop := Claim7.holds Tryd.pinned (.plain (OpenSpec.ofChange fnMaskSpelledSpec)) fnMaskSpelledCard

/-- THE SECOND FORM's CARD OF 'laws.FnMaskOne'. -/
def fnMaskOneUptoCard : Claim7 := { stood := { row := fnMaskOneUptoRow, standIns := [], harness := (true, "8488f4e5b8baaf18d4eeb0e0ed4211716de272fbbe750da03f25caf130d0e1b2"), looks := true }, kinds := [], alts := [], laidByText := true, laidKinds := [.data, .data, .data, .data, .pinned, .pinned], laidTests := true, laidLooks := .later }
def FnMaskOneUptoCardSaid : Prop := Claim7.holds Tryd.pinned (.plain (OpenSpec.upto fnMaskOneSpec)) fnMaskOneUptoCard

/-- THE SECOND FORM's CARD OF 'laws.FnMaskSet'. -/
def fnMaskSetUptoCard : Claim7 := { stood := { row := fnMaskSetUptoRow, standIns := [], harness := (true, "8488f4e5b8baaf18d4eeb0e0ed4211716de272fbbe750da03f25caf130d0e1b2"), looks := true }, kinds := [], alts := [], laidByText := true, laidKinds := [.data, .data, .data, .data, .sentinel, .sentinel, .listed, .data, .pinned], laidTests := true, laidLooks := .later }
def FnMaskSetUptoCardSaid : Prop := Claim7.holds Tryd.pinned (.plain (OpenSpec.upto fnMaskSetSpec)) fnMaskSetUptoCard

/-- THE SECOND FORM's CARD OF 'laws.FnMaskSpelled'. -/
def fnMaskSpelledUptoCard : Claim7 := { stood := { row := fnMaskSpelledUptoRow, standIns := [], harness := (true, "8488f4e5b8baaf18d4eeb0e0ed4211716de272fbbe750da03f25caf130d0e1b2"), looks := true }, kinds := [], alts := [], laidByText := true, laidKinds := [.data, .data, .data, .data, .sentinel, .sentinel, .listed, .data, .pinned], laidTests := true, laidLooks := .later }
def FnMaskSpelledUptoCardSaid : Prop := Claim7.holds Tryd.pinned (.plain (OpenSpec.upto fnMaskSpelledSpec)) fnMaskSpelledUptoCard
end Rows
end Go.Proofs.YtiaokohnibkmbaaDoor

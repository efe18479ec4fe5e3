/-
  DERIVED. GIVEN WITH THE SEED: THE CARDS: each row of YtbennnoddflggaaDoorRows.lean that lists a variable, with what it lists TIED to the program's text (the seventh form; the later family's looks); each row that meets fmt, with fmt's text TOLD by the authors' own Lean function (tested against real Go, not proved from fmt's source: count such statements apart). THE CARD IS WHAT COUNTS. Prove the row's statement (the work); the ties are given (YtbennnoddflggaaDoorTie.lean); close each card by the builder's one call (the guide's Derived/Test/ToyasCard.lean, 'card_holds'). Laid BY PROGRAM, IN A SANDBOX (cutbox-door.mjs). By AI agents, Wed Nov 11 2026. No macro, syntax, notation, axiom, sorry.
-/
import Derived.Test.YtbennnoddflggaaDoorRows
import GoSem.ClaimSeven
namespace Go.Proofs.YtbennnoddflggaaDoor
namespace Rows

/-- THE TIED CARD OF 'laws.FnBucketApart'. -/
def fnBucketApartCard : Claim7 := { stood := { row := fnBucketApartRow, standIns := [], harness := (true, "c4677b72fdafe6930502f9ddf012334c57913f0aef9a0a980b0fcac733e6b2f1"), looks := true }, kinds := [], alts := [], laidByText := true, laidKinds := [.sentinel], laidTests := true, laidLooks := .later }
def FnBucketApartCardSaid : Prop := Claim7.holds Tryd.pinned (.plain (OpenSpec.ofChange fnBucketApartSpec)) fnBucketApartCard

/-- THE TIED CARD OF 'laws.FnBucketOnce'. -/
def fnBucketOnceCard : Claim7 := { stood := { row := fnBucketOnceRow, standIns := [], harness := (true, "c4677b72fdafe6930502f9ddf012334c57913f0aef9a0a980b0fcac733e6b2f1"), looks := true }, kinds := [], alts := [], laidByText := true, laidKinds := [.sentinel], laidTests := true, laidLooks := .later }
def FnBucketOnceCardSaid : Prop := Claim7.holds Tryd.pinned (.plain (OpenSpec.ofChange fnBucketOnceSpec)) fnBucketOnceCard

/-- THE SECOND FORM's CARD OF 'laws.FnBucketApart'. -/
def fnBucketApartUptoCard : Claim7 := { stood := { row := fnBucketApartUptoRow, standIns := [], harness := (true, "c4677b72fdafe6930502f9ddf012334c57913f0aef9a0a980b0fcac733e6b2f1"), looks := true }, kinds := [], alts := [], laidByText := true, laidKinds := [.sentinel], laidTests := true, laidLooks := .later }
def FnBucketApartUptoCardSaid : Prop := Claim7.holds Tryd.pinned (.plain (OpenSpec.upto fnBucketApartSpec)) fnBucketApartUptoCard

/-- THE SECOND FORM's CARD OF 'laws.FnBucketOnce'. -/
def fnBucketOnceUptoCard : Claim7 := { stood := { row := fnBucketOnceUptoRow, standIns := [], harness := (true, "c4677b72fdafe6930502f9ddf012334c57913f0aef9a0a980b0fcac733e6b2f1"), looks := true }, kinds := [], alts := [], laidByText := true, laidKinds := [.sentinel], laidTests := true, laidLooks := .later }
def FnBucketOnceUptoCardSaid : Prop := Claim7.holds Tryd.pinned (.plain (OpenSpec.upto fnBucketOnceSpec)) fnBucketOnceUptoCard
end Rows
end Go.Proofs.YtbennnoddflggaaDoor

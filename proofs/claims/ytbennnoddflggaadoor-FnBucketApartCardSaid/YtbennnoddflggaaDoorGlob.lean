import Derived.Test.YtbennnoddflggaaDoorBuck
namespace Go.Proofs.YtbennnoddflggaaDoor
open Go.RowKit
/-- What the package's variables hold. -/
def Glob (w : World) : Prop := ∃ eg, Buck.Told w eg
theorem Glob.below {w w' : World} (h : Glob w) (hb : Below w.heap.size w w') : Glob w' := by
  obtain ⟨eg, h1, c, t, h2⟩ := h
  have l1 := World.block_lt_of_cell? w _ h1
  exact ⟨eg, (hb.cell (p := ⟨0, 0, none⟩) l1).trans h1, c, t, (hb.block _ (Array.getElem?_eq_some_iff.1 h2).1).trans h2⟩
end Go.Proofs.YtbennnoddflggaaDoor

import Derived.Test.YtlgoghonnnobfaaDoorMt
namespace Go.Proofs.YtlgoghonnnobfaaDoor
open Go Go.RowKit
/-- What the package variables hold: utf8's tables. -/
structure GlobE (w : World) : Prop where
  tabs : Lib.Utf8Tabs 0 1 w
theorem GlobE.below {w w' : World} (h : GlobE w) (hb : Below w.heap.size w w') : GlobE w' := ⟨Utf8Tabs_below h.tabs hb⟩
end Go.Proofs.YtlgoghonnnobfaaDoor

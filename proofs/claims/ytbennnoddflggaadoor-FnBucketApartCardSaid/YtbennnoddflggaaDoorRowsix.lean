import Derived.Test.YtbennnoddflggaaDoorRowing
import Derived.Test.YtbennnoddflggaaDoorPFnBucketApartx0
namespace Go.Proofs.YtbennnoddflggaaDoor.Rowing
open Go.RowKit Go.ChangeShapes Go.WideShapes Go.Deep Go.Proofs.YtbennnoddflggaaDoorW.PrintWords
section
variable {H : Type} {enc : TypeId × Value → H} {w : World} {base : Nat} {spare : Nat → Bool} {held : Bool}
theorem el_step (n : Nat) (cs : List Value) (y : DataW H × List MemPlace) (h : DataW.trod enc Tryd.prog w base spare held n 28 cs = some y) (hl : cs.length = PFnBucketApart.k28.sz) : ∃ x, PFnBucketApart.k28.K w x cs := by
  obtain ⟨xs, m, _, _, _, _, hf⟩ := DataW.trod_struct Tryd.underlying28 h
  have h0 : DataW.trod enc Tryd.prog w base spare held m 3 ((cs.drop 0).take (Tryd.prog.cellsOf 3)) = xs[0]? := hf 0 _ rfl
  have h1 : DataW.trod enc Tryd.prog w base spare held m 9 ((cs.drop 1).take (Tryd.prog.cellsOf 9)) = xs[1]? := hf 1 _ rfl
  have h2 : DataW.trod enc Tryd.prog w base spare held m 4 ((cs.drop 2).take (Tryd.prog.cellsOf 4)) = xs[2]? := hf 2 _ rfl
  have h3 : DataW.trod enc Tryd.prog w base spare held m 4 ((cs.drop 3).take (Tryd.prog.cellsOf 4)) = xs[3]? := hf 3 _ rfl
  have h4 : DataW.trod enc Tryd.prog w base spare held m 4 ((cs.drop 4).take (Tryd.prog.cellsOf 4)) = xs[4]? := hf 4 _ rfl
  have h5 : DataW.trod enc Tryd.prog w base spare held m 4 ((cs.drop 5).take (Tryd.prog.cellsOf 4)) = xs[5]? := hf 5 _ rfl
  have l6 : xs.length = 6 := by assumption
  have c3 : Tryd.prog.cellsOf 3 = 1 := by kernel_rfl
  have c9 : Tryd.prog.cellsOf 9 = 1 := by kernel_rfl
  have c4 : Tryd.prog.cellsOf 4 = 1 := by kernel_rfl
  rw [c3] at h0
  rw [c9] at h1
  rw [c4] at h2 h3 h4 h5
  have hl6 : cs.length = 6 := hl
  match xs, l6, cs, hl6, h0, h1, h2, h3, h4, h5 with
  | [y0, y1, y2, y3, y4, y5], _, [a0, a1, a2, a3, a4, a5], _, h0, h1, h2, h3, h4, h5 =>
      obtain ⟨b0, e0, _⟩ := DataW.trod_int Tryd.underlying3 h0
      obtain ⟨b1, e1, _⟩ := DataW.trod_string Tryd.underlying9 h1
      obtain ⟨b2, e2, _⟩ := DataW.trod_bool Tryd.underlying4 h2
      obtain ⟨b3, e3, _⟩ := DataW.trod_bool Tryd.underlying4 h3
      obtain ⟨b4, e4, _⟩ := DataW.trod_bool Tryd.underlying4 h4
      obtain ⟨b5, e5, _⟩ := DataW.trod_bool Tryd.underlying4 h5
      simp at e0 e1 e2 e3 e4 e5
      subst e0 e1 e2 e3 e4 e5
      exact ⟨⟨b0, b1, b2, b3, b4, b5⟩, PFnBucketApart.k28_mk w ⟨b0, b1, b2, b3, b4, b5⟩⟩
end
end Go.Proofs.YtbennnoddflggaaDoor.Rowing

-- Written by a program of this session's (over the kit's print), with contracts proved by hand among what it calls.
import Derived.Test.YtfegihmnpcjdgaaPFnRangesFillx0
import Derived.Test.YtfegihmnpcjdgaaPFnRangesFillx1
namespace Go.Proofs.Ytfegihmnpcjdgaa.PFnRangesFill
open Go.RowKit Go.Proofs.YtfegihmnpcjdgaaW.PrintWords Go.Proofs.YtfegihmnpcjdgaaW.PrintLast Go.Proofs.YtfegihmnpcjdgaaW.PrintMore
attribute [local go_sem] max2_int min2_int max_two min_two max_three min_three max_four min_four   -- for this text's walks alone
set_option linter.unusedVariables false
set_option linter.unusedSimpArgs false

theorem eqA37 (d : Nat) (w : World) (x0 y0 : Int) (x1 y1 : Int) (x2 y2 : Bool) :
    (Op.equalIn (d + 3) 37 (.agg #[.int .i64 x0, .int .i64 x1, .bool x2]) (.agg #[.int .i64 y0, .int .i64 y1, .bool y2])).run Try.prog w = .ok ((x0 == y0 && (x1 == y1)) && (x2 == y2)) w := by
  refine eqA_of Try.underlying37 (by kernel_rfl) ?_
  refine eqf_cons (by rfl) (by go_simp) (by go_simp) (eqA28 (d + 0) w _ _ _ _) ?_
  exact eqf_last (by rfl) (by go_simp; rfl) (by go_simp; rfl) (by go_simp)
end Go.Proofs.Ytfegihmnpcjdgaa.PFnRangesFill

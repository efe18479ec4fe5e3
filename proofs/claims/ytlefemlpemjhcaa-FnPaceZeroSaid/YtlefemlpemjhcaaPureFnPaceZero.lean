/- The calculator that never delays answers 0. -/
import Derived.Test.YtlefemlpemjhcaaPFnPaceZerox1
import Derived.Test.YtlefemlpemjhcaaPlain
namespace Go.Proofs.Ytlefemlpemjhcaa.Pure
open Go.RowKit Go.Proofs.Ytlefemlpemjhcaa.PFnPaceZero Go.Proofs.YtlefemlpemjhcaaW.PrintWords Go.Proofs.Ytlefemlpemjhcaa.Plain Go.Proofs.Ytlefemlpemjhcaa.Pace
theorem awakeZ : laws_paceAwake.f = some true := by
  unfold laws_paceAwake.f impl_PaceDefault.f; decide +kernel
theorem FnPaceZero (s r t n : Int) (_ : (Lit.int .i64 s).wf = true) (_ : (Lit.int .i64 r).wf = true) (_ : (Lit.int .i64 t).wf = true) (_ : (Lit.int .i64 n).wf = true) :
    laws_FnPaceZero.f s r t n = some true := by
  unfold laws_FnPaceZero.f
  by_cases hin : s ≥ 0 ∧ s < 1099511627776 ∧ r ≥ 0 ∧ r < 1099511627776 ∧ t < 1099511627776 ∧ n ≥ 0 ∧ n ≤ 8
  · have e : spec_PaceIn.f 0 0 0 0 s r t n = some true := by unfold spec_PaceIn.f; simp [hin]
    have f : impl_PaceZero.f s r t n = some 0 := by unfold impl_PaceZero.f; rw [if_pos (by omega)]
    rw [e, f, awakeZ]
    simp
  · have e : spec_PaceIn.f 0 0 0 0 s r t n = some false := by
      unfold spec_PaceIn.f
      repeat' split
      all_goals first
        | rfl
        | (simp only [Option.some.injEq, decide_eq_false_iff_not]; omega)
    rw [e]; simp
end Go.Proofs.Ytlefemlpemjhcaa.Pure

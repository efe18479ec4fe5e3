/- An error that tells how long to wait does so, however often it is wrapped: for every time and every number of wraps within the bounds. -/
import Derived.Test.YtlefemlpemjhcaaPFnPaceAfterx1
namespace Go.Proofs.Ytlefemlpemjhcaa.Pure
open Go.RowKit Go.Proofs.Ytlefemlpemjhcaa.PFnPaceAfter Go.Proofs.YtlefemlpemjhcaaW.PrintWords Go.Proofs.YtlefemlpemjhcaaW.PrintLast

theorem FnPaceAfter : laws_FnPaceAfter.Pure := by
  intro a0 a1 _ _
  unfold laws_FnPaceAfter.f
  by_cases c1 : a0 < 0
  · rw [if_pos c1]
  rw [if_neg c1]
  by_cases c2 : a0 ≥ 1099511627776
  · rw [if_pos c2]
  rw [if_neg c2]
  by_cases c3 : a1 < 0
  · rw [if_pos c3]
  rw [if_neg c3]
  by_cases c4 : a1 > 8
  · rw [if_pos c4]
  rw [if_neg c4]
  have h : impl_PaceAfter.f a0 a1 = some (a0, true) := by unfold impl_PaceAfter.f; rw [if_pos (by omega)]
  rw [h]
  simp

end Go.Proofs.Ytlefemlpemjhcaa.Pure

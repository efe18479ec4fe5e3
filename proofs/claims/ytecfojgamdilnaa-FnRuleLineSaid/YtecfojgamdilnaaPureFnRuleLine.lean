/- A rule's line begins with a plus sign or a minus sign and a space, behind which all is its glob, or is an exclamation mark alone; every other text is wrong: for every text. -/
import Derived.Test.YtecfojgamdilnaaPFnRuleLinex1
import Derived.Test.YtecfojgamdilnaaPlain
namespace Go.Proofs.Ytecfojgamdilnaa.Pure
open Go.RowKit Go.Proofs.Ytecfojgamdilnaa.PFnRuleLine Go.Proofs.YtecfojgamdilnaaW.PrintWords Go.Proofs.YtecfojgamdilnaaW.PrintLast Go.Proofs.Ytecfojgamdilnaa.Plain

theorem one_line : impl_RuleLine.f (⟨#[33]⟩ : ByteArray) = some (3, ⟨#[]⟩) := by decide +kernel

theorem FnRuleLine : laws_FnRuleLine.Pure := by
  intro s hs
  refine Ev.rounds ?_
  unfold laws_FnRuleLine.f
  by_cases c1 : (s.size : Int) > 2147483647
  · exact Ev.if_pos c1 (Ev.now _)
  refine Ev.if_neg c1 ?_
  by_cases c2 : (s.size : Int) > 65536
  · exact Ev.if_pos c2 (Ev.now _)
  refine Ev.if_neg c2 ?_
  have hf : impl_RuleLine.f s = some (impl_RuleLine.kind s) := by unfold impl_RuleLine.f; rw [if_pos hs]
  refine Ev.bindc hf ?_
  refine Ev.bindc one_line ?_
  refine Ev.if_pos rfl ?_
  unfold impl_RuleLine.kind
  by_cases c3 : s.toList = [33]
  · refine Ev.if_pos c3 ?_
    rw [if_pos c3]
    exact Ev.const (by decide +kernel)
  refine Ev.if_neg c3 ?_
  rw [if_neg c3]
  by_cases c4 : 2 ≤ s.size
  · refine Ev.if_pos (by omega) ?_
    refine Ev.if_pos (by omega) ?_
    refine Ev.if_pos (by omega) ?_
    refine Ev.step (fun _ => laws_FnRuleLine.j0.eq_2 ..) ?_
    by_cases c5 : (s.extract 0 2).toList = [43, 32]
    · refine Ev.if_pos (by simp [c5]) ?_
      have c6 : ¬ (s.extract 0 2).toList = [45, 32] := by rw [c5]; decide
      rw [if_neg (show ¬ (2 ≤ s.size ∧ (s.extract 0 2).toList = [45, 32]) from fun h => c6 h.2), if_pos (show 2 ≤ s.size ∧ (s.extract 0 2).toList = [43, 32] from ⟨c4, c5⟩)]
      refine Ev.if_pos rfl ?_
      refine Ev.if_pos (by omega) ?_
      exact Ev.const (by simp)
    · refine Ev.if_neg (by simpa using c5) ?_
      refine Ev.if_pos (by omega) ?_
      refine Ev.if_pos (by omega) ?_
      refine Ev.if_pos (by omega) ?_
      by_cases c6 : (s.extract 0 2).toList = [45, 32]
      · refine Ev.if_pos c6 ?_
        rw [if_pos (show 2 ≤ s.size ∧ (s.extract 0 2).toList = [45, 32] from ⟨c4, c6⟩)]
        refine Ev.if_pos rfl ?_
        exact Ev.const (by simp)
      · refine Ev.if_neg c6 ?_
        rw [if_neg (show ¬ (2 ≤ s.size ∧ (s.extract 0 2).toList = [45, 32]) from fun h => c6 h.2), if_neg (show ¬ (2 ≤ s.size ∧ (s.extract 0 2).toList = [43, 32]) from fun h => c5 h.2)]
        refine Ev.if_pos rfl ?_
        exact Ev.const (by decide +kernel)
  · refine Ev.if_neg (by omega) ?_
    refine Ev.step (fun _ => laws_FnRuleLine.j0.eq_2 ..) ?_
    refine Ev.if_neg (by simp) ?_
    refine Ev.if_neg (by omega) ?_
    rw [if_neg (show ¬ (2 ≤ s.size ∧ (s.extract 0 2).toList = [45, 32]) from fun h => c4 h.1), if_neg (show ¬ (2 ≤ s.size ∧ (s.extract 0 2).toList = [43, 32]) from fun h => c4 h.1)]
    refine Ev.if_pos rfl ?_
    exact Ev.const (by decide +kernel)

end Go.Proofs.Ytecfojgamdilnaa.Pure

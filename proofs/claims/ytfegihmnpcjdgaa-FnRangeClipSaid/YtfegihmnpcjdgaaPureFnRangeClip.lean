/- A range clipped at a place ends there, or ahead of it. -/
import Derived.Test.YtfegihmnpcjdgaaPFnRangeClipx4
import Derived.Test.YtfegihmnpcjdgaaRangFind
import Derived.Test.YtfegihmnpcjdgaaRang11
namespace Go.Proofs.Ytfegihmnpcjdgaa.Pure
open Go.RowKit Go.Proofs.Ytfegihmnpcjdgaa.PFnRangeClip Go.Proofs.YtfegihmnpcjdgaaW.PrintWords Go.Proofs.YtfegihmnpcjdgaaW.PrintLast Go.Proofs.YtfegihmnpcjdgaaW.PrintMore Go.Proofs.Ytfegihmnpcjdgaa.Rang
set_option linter.unusedVariables false
set_option linter.unusedSimpArgs false
theorem wr (i n : Nat) (h : i < n) (hn : n ≤ 4000000000000000000) : wrap64 ((i : Int) + 1) = ((i + 1 : Nat) : Int) := by unfold wrap64; omega
/-- Is a range near enough, as the statement asks? -/
def In (p : Int × Int) : Prop := -1099511627776 ≤ p.2 ∧ p.2 ≤ 1099511627776 ∧ -1099511627776 ≤ p.1 ∧ p.1 ≤ 1099511627776
theorem In.near {p : Int × Int} (h : In p) : Near p := by unfold In at h; unfold Near Rang.Good; omega
theorem rangeIn_is (a b : Int) : ∃ t, spec_RangeIn.f a b = some t ∧ (t = true → In (a, b)) := by
  unfold spec_RangeIn.f In
  split
  · split
    · split
      · refine ⟨_, rfl, fun h => ?_⟩
        have := of_decide_eq_true h
        simp only; omega
      · exact ⟨false, rfl, fun h => by cases h⟩
    · exact ⟨false, rfl, fun h => by cases h⟩
  · exact ⟨false, rfl, fun h => by cases h⟩
theorem awake : Ev (fun k => laws_rangeAwake.f k) true := Ev.of laws_rangeAwake.mono (k := 20) (by decide +kernel)
theorem rangeAsk_is (a b : Int) : ∃ t, spec_RangeAsk.f a b = some t ∧ (t = true → In (a, b) ∧ 0 ≤ b) := by
  obtain ⟨t, ht, h⟩ := rangeIn_is a b
  unfold spec_RangeAsk.f
  rw [ht, Option.bind_some]
  cases t with
  | false => exact ⟨false, by simp, fun h => by cases h⟩
  | true => exact ⟨_, rfl, fun hh => ⟨h rfl, by have := of_decide_eq_true hh; omega⟩⟩
theorem In.good {r : Int × Int} (h : In r) (h0 : 0 ≤ r.2) : r.2 = 0 ∨ Rang.Good r := by unfold In at h; unfold Rang.Good; omega
theorem FnRangeClip (r1 r2 t : Int) : ∃ k, laws_FnRangeClip.f k r1 r2 t = some true := by
  have hyes : Ev (fun k => laws_FnRangeClip.j0 k t true r1 r2) true := Ev.step (f := fun _ => some true) (fun k => by simp [laws_FnRangeClip.j0]) (Ev.now _)
  obtain ⟨u, hu, hask⟩ := rangeAsk_is r1 r2
  refine Ev.rounds (r := true) ?_
  unfold laws_FnRangeClip.f
  rw [hu]
  simp only [Option.bind_some]
  cases u with
  | false => exact Ev.congr (fun k => by simp) hyes
  | true =>
    obtain ⟨hin, h0⟩ := hask rfl
    unfold In at hin
    simp only at hin
    refine Ev.congr (fun k => if_pos rfl) ?_
    by_cases hlo : t < -2199023255552
    · exact Ev.congr (fun k => if_pos hlo) hyes
    · refine Ev.congr (fun k => if_neg hlo) ?_
      by_cases hhi : t > 4398046511104
      · rw [decide_eq_true hhi]; exact hyes
      · rw [decide_eq_false hhi]
        have e1 : en (r1, r2) = r1 + r2 := by unfold en wrap64; simp only; omega
        have w1 : wrap64 (r1 + r2) = r1 + r2 := by unfold wrap64; omega
        have w2 : wrap64 (r2 - wrap64 (r1 + r2 - t)) = t - r1 := by unfold wrap64; omega
        have w3 : wrap64 (t - r1) = t - r1 := by unfold wrap64; omega
        obtain ⟨K, hK⟩ := awake
        refine ⟨K + 1, fun k hk => ?_⟩
        obtain ⟨k, rfl⟩ : ∃ m, k = m + 1 := ⟨k - 1, by omega⟩
        have ha := hK k (by omega)
        simp only [laws_FnRangeClip.j0, Bool.false_eq_true, if_false, impl_RangeClip.f, Option.bind_some]
        simp only at ha
        rw [ha]
        simp only [Option.bind_some, if_true]
        rw [w1]
        have hclip : clip (r1, r2) t = if r1 + r2 ≤ t then (r1, r2) else if t < r1 then (0, 0) else (r1, t - r1) := by
          unfold clip
          rw [e1]
          simp only [w2]
          by_cases h : r1 + r2 ≤ t
          · rw [if_pos h, if_pos h]
          · rw [if_neg h, if_neg h]
            by_cases h2 : t < r1
            · rw [if_pos (by omega), if_pos h2]
            · rw [if_neg (by omega), if_neg h2]
        by_cases h : r1 + r2 ≤ t
        · rw [if_pos h, hclip, if_pos h]
          simp only [beq_self_eq_true, Bool.and_true]
        · rw [if_neg h]
          by_cases h2 : t < r1
          · rw [if_pos h2, hclip, if_neg h, if_pos h2]
            simp only [beq_self_eq_true, Bool.and_true, if_true, impl_RangeEmpty.f, impl_given.f, Option.bind_some, ranges_Range_IsEmpty.f]
            rfl
          · rw [if_neg h2, hclip, if_neg h, if_neg h2, w3]
            have e2 : wrap64 (r1 + (t - r1)) = t := by unfold wrap64; omega
            simp only [beq_self_eq_true, Bool.and_true, if_true, impl_RangeEnd.f, impl_given.f, Option.bind_some, ranges_Range_End.f, e2]
end Go.Proofs.Ytfegihmnpcjdgaa.Pure

/- The default calculator answers what the document's rule answers, for every set of options and every state within bounds. -/
import Derived.Test.YtlefemlpemjhcaaPFnPaceDefaultx3
import Derived.Test.YtlefemlpemjhcaaPlain
namespace Go.Proofs.Ytlefemlpemjhcaa.Pure
open Go.RowKit Go.Proofs.Ytlefemlpemjhcaa.PFnPaceDefault Go.Proofs.YtlefemlpemjhcaaW.PrintWords Go.Proofs.YtlefemlpemjhcaaW.PrintLast Go.Proofs.YtlefemlpemjhcaaW.PrintMore Go.Proofs.Ytlefemlpemjhcaa.Plain Go.Proofs.Ytlefemlpemjhcaa.Pace
set_option linter.unusedVariables false

theorem pw_all : ∀ n : Fin 17, spec_power.f 39 ((n.val : Nat) : Int) = some (2 ^ n.val) ∧ (1 : Int) ≤ 2 ^ n.val ∧ (2 : Int) ^ n.val ≤ 65536 := by decide +kernel
theorem pw_two : ∀ n : Fin 17, 1 ≤ n.val → (2 : Int) ≤ 2 ^ n.val := by decide +kernel
theorem pw (a : Int) (h0 : 0 ≤ a) (h1 : a ≤ 16) : spec_power.f 39 a = some (2 ^ a.toNat) ∧ (1 : Int) ≤ 2 ^ a.toNat ∧ (2 : Int) ^ a.toNat ≤ 65536 ∧ (a ≠ 0 → (2 : Int) ≤ 2 ^ a.toNat) := by
  obtain ⟨n, rfl⟩ : ∃ n : Nat, a = n := ⟨a.toNat, by omega⟩
  have h := pw_all ⟨n, by omega⟩
  have h2 := pw_two ⟨n, by omega⟩
  simp only [Int.toNat_natCast]
  exact ⟨h.1, h.2.1, h.2.2, fun hn => h2 (by show 1 ≤ n; omega)⟩

theorem given (m x d a : Int) : spec_PaceGiven.f 40 m x d a false = some (orElse m 10000000, orElse x 2000000000, orElse d 2, orElse a 1) := by
  unfold spec_PaceGiven.f orElse
  simp only [spec_PaceGiven.j0, spec_PaceGiven.j1]
  by_cases h1 : m < 0 <;> by_cases h2 : x < 0 <;> by_cases h3 : d < 0 <;> by_cases h4 : a < 0 <;>
    simp [h1, h2, h3, h4, Int.not_le.mpr, Int.not_lt.mp]

theorem next (m x d a s r t n : Int) (h0 : 0 ≤ s) (h1 : s < 1099511627776) (d0 : 0 ≤ orElse d 2) (d1 : orElse d 2 ≤ 16) (a0 : 0 ≤ orElse a 1) (a1 : orElse a 1 ≤ 16) :
    spec_PaceNext.f 40 m x d a false s r t n = some (calcAll (orElse m 10000000) (orElse x 2000000000) (orElse d 2) (orElse a 1) s r (tells r t n)) := by
  unfold spec_PaceNext.f
  rw [given]
  simp only [Option.bind_some]
  generalize orElse m 10000000 = M at *
  generalize orElse x 2000000000 = X at *
  generalize orElse d 2 = D at *
  generalize orElse a 1 = A at *
  have hj : ∀ b : Bool, b = decide (0 ≤ t ∧ (0 < r ∨ 0 < t ∨ 0 < n)) → spec_PaceNext.j0 40 false b M X D A s r t n = some (calcAll M X D A s r (tells r t n)) := by
    intro b hb
    show spec_PaceNext.j0 (39 + 1) false b M X D A s r t n = _
    rw [spec_PaceNext.j0.eq_2]
    unfold tells
    by_cases hc : 0 ≤ t ∧ (0 < r ∨ 0 < t ∨ 0 < n)
    · obtain rfl : b = true := by simpa [hc] using hb
      simp [hc, calcAll, calcAfter, mx]
    · obtain rfl : b = false := by rw [hb]; exact decide_eq_false hc
      rw [if_neg (by simp), if_neg hc]
      simp only [calcAll]
      by_cases hr : r > 0
      · rw [if_pos hr, if_pos (show 0 < r from hr), (pw A a0 a1).1]
        simp only [Option.bind_some, Bool.false_eq_true, if_false]
        obtain ⟨-, p1, p2, p3⟩ := pw A a0 a1
        by_cases hA : A = 0
        · simp [hA, calcRetry]
        · rw [if_neg hA]
          unfold calcRetry
          rw [if_neg hA]
          have p4 := p3 hA
          generalize (2 : Int) ^ A.toNat = p at *
          have q1 : 0 ≤ s * p := Int.mul_nonneg h0 (by omega)
          have q2 : s * p ≤ 1099511627776 * 65536 := Int.mul_le_mul (by omega) p2 (by omega) (by omega)
          show spec_PaceNext.j1 (38 + 1) _ _ _ _ _ _ _ _ _ _ = _
          rw [spec_PaceNext.j1.eq_2]
          rw [if_neg (by simp), wrap64_of (x := p - 1) (by omega) (by omega), if_neg (by omega), wrap64_of (x := s * p) (by omega) (by omega), Int.tdiv_eq_ediv_of_nonneg q1]
          have q3 : 0 ≤ s * p / (p - 1) := Int.ediv_nonneg q1 (by omega)
          have q4 : s * p / (p - 1) ≤ s * p := Int.ediv_le_self _ q1
          rw [wrap64_of (by omega) (by omega)]
          rfl
      · rw [if_neg hr, if_neg (show ¬ 0 < r from hr), (pw D d0 d1).1]
        obtain ⟨-, p1, p2, p3⟩ := pw D d0 d1
        simp only [Option.bind_some, Bool.false_eq_true, if_false]
        unfold calcRest
        generalize (2 : Int) ^ D.toNat = p at *
        have e : s * p - s = s * (p - 1) := by rw [Int.mul_sub, Int.mul_one]
        rw [e]
        have q1 : 0 ≤ s * (p - 1) := Int.mul_nonneg h0 (by omega)
        have q2 : s * (p - 1) ≤ 1099511627776 * 65536 := Int.mul_le_mul (by omega) (by omega) (by omega) (by omega)
        rw [if_neg (by omega), wrap64_of (x := p - 1) (by omega) (by omega), wrap64_of (x := s * (p - 1)) (by omega) (by omega), Int.tdiv_eq_ediv_of_nonneg q1]
        have q3 : 0 ≤ s * (p - 1) / p := Int.ediv_nonneg q1 (by omega)
        have q4 : s * (p - 1) / p ≤ s * (p - 1) := Int.ediv_le_self _ q1
        rw [wrap64_of (by omega) (by omega)]
        rfl
  repeat' split
  all_goals (apply hj)
  all_goals first
    | (symm; apply decide_eq_true; omega)
    | (symm; apply decide_eq_false; omega)
    | (apply decide_eq_decide.mpr; omega)

theorem awake : laws_paceAwake.f = some true := by
  unfold laws_paceAwake.f impl_PaceDefault.f; decide +kernel

theorem FnPaceDefault (m x d a s r t n : Int) (_ : (Lit.int .i64 m).wf = true) (_ : (Lit.int .i64 x).wf = true) (_ : (Lit.int .i64 d).wf = true) (_ : (Lit.int .i64 a).wf = true) (_ : (Lit.int .i64 s).wf = true) (_ : (Lit.int .i64 r).wf = true) (_ : (Lit.int .i64 t).wf = true) (_ : (Lit.int .i64 n).wf = true) :
    ∃ k, laws_FnPaceDefault.f k m x d a s r t n = some true := by
  refine ⟨40, ?_⟩
  unfold laws_FnPaceDefault.f
  by_cases hin : m < 1099511627776 ∧ x < 1099511627776 ∧ d ≤ 16 ∧ a ≤ 16 ∧ s ≥ 0 ∧ s < 1099511627776 ∧ r ≥ 0 ∧ r < 1099511627776 ∧ t < 1099511627776 ∧ n ≥ 0 ∧ n ≤ 8
  · have e : spec_PaceIn.f m x d a s r t n = some true := by unfold spec_PaceIn.f; simp [hin]
    obtain ⟨h1, h2, h3, h4, h5, h6, h7, h8, h9, h10, h11⟩ := hin
    have d0 : 0 ≤ orElse d 2 ∧ orElse d 2 ≤ 16 := by unfold orElse; split <;> omega
    have a0 : 0 ≤ orElse a 1 ∧ orElse a 1 ≤ 16 := by unfold orElse; split <;> omega
    have f : impl_PaceDefault.f m x d a s r t n = some (calcAll (orElse m 10000000) (orElse x 2000000000) (orElse d 2) (orElse a 1) s r (tells r t n)) := by
      unfold impl_PaceDefault.f; rw [if_pos (by omega)]
    rw [e, f, next m x d a s r t n h5 h6 d0.1 d0.2 a0.1 a0.2, awake]
    simp
  · have e : spec_PaceIn.f m x d a s r t n = some false := by
      unfold spec_PaceIn.f
      repeat' split
      all_goals first
        | rfl
        | (simp only [Option.some.injEq, decide_eq_false_iff_not]; omega)
    rw [e]; simp
end Go.Proofs.Ytlefemlpemjhcaa.Pure

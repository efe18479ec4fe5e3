/- As long as no error tells how long to wait, a default calculator stays between the least and the greatest time. -/
import Derived.Test.YtlefemlpemjhcaaPFnPaceWithinx2
import Derived.Test.YtlefemlpemjhcaaPlain
namespace Go.Proofs.Ytlefemlpemjhcaa.Pure
open Go.RowKit Go.Proofs.Ytlefemlpemjhcaa.PFnPaceWithin Go.Proofs.YtlefemlpemjhcaaW.PrintWords Go.Proofs.YtlefemlpemjhcaaW.PrintLast Go.Proofs.YtlefemlpemjhcaaW.PrintMore Go.Proofs.Ytlefemlpemjhcaa.Plain Go.Proofs.Ytlefemlpemjhcaa.Pace
set_option linter.unusedVariables false

theorem pow_in : ∀ n : Fin 17, (1 : Int) ≤ 2 ^ n.val ∧ (n.val ≠ 0 → (2 : Int) ≤ 2 ^ n.val) := by decide +kernel
theorem pow_of (a : Int) (h0 : 0 ≤ a) (h1 : a ≤ 16) : (1 : Int) ≤ 2 ^ a.toNat ∧ (a ≠ 0 → (2 : Int) ≤ 2 ^ a.toNat) := by
  have h := pow_in ⟨a.toNat, by omega⟩
  exact ⟨h.1, fun hn => h.2 (by show a.toNat ≠ 0; omega)⟩

/-- What is told is as the law wants it. -/
def Fine (M X : Int) : List Bool → Int → List Int → Prop
  | [], _, [] => True
  | g :: gs, s, n :: ns => M ≤ n ∧ n ≤ X ∧ (if g then n ≤ s else s ≤ n) ∧ Fine M X gs n ns
  | _, _, _ => False

theorem step_in (M X D A s r : Int) (g : Bool) (h0 : 0 ≤ M) (h1 : M ≤ s) (h2 : s ≤ X) (hr : 0 ≤ r) (d0 : 0 ≤ D) (d1 : D ≤ 16) (a0 : 0 ≤ A) (a1 : A ≤ 16) :
    M ≤ calcAll M X D A s (nextR g r) (tells (nextR g r) (-1) 0) ∧ calcAll M X D A s (nextR g r) (tells (nextR g r) (-1) 0) ≤ X ∧
    (if g then calcAll M X D A s (nextR g r) (tells (nextR g r) (-1) 0) ≤ s else s ≤ calcAll M X D A s (nextR g r) (tells (nextR g r) (-1) 0)) := by
  have ht : tells (nextR g r) (-1) 0 = none := by unfold tells; rw [if_neg (by omega)]
  rw [ht]
  simp only [calcAll]
  cases g with
  | true =>
    simp only [nextR, if_true]
    rw [if_neg (by omega)]
    unfold calcRest
    obtain ⟨p1, -⟩ := pow_of D d0 d1
    generalize (2 : Int) ^ D.toNat = p at *
    have hs : (s * p - s) / p ≤ s := by
      have : (s * p - s) / p ≤ (s * p) / p := Int.ediv_le_ediv (by omega) (by omega)
      rw [Int.mul_ediv_cancel _ (by omega)] at this
      exact this
    split <;> omega
  | false =>
    simp only [nextR, Bool.false_eq_true, if_false]
    rw [if_pos (by omega)]
    unfold calcRetry
    obtain ⟨p1, p2⟩ := pow_of A a0 a1
    by_cases hA : A = 0
    · rw [if_pos hA]; omega
    · rw [if_neg hA]
      have p3 := p2 hA
      generalize (2 : Int) ^ A.toNat = p at *
      have hs : s ≤ s * p / (p - 1) := by
        rw [Int.le_ediv_iff_mul_le (by omega)]
        exact Int.mul_le_mul_of_nonneg_left (by omega) (by omega)
      split <;> omega

theorem goes_on (M X D A : Int) (after : List Int) (ha : ∀ i, aft after i = -1) (h0 : 0 ≤ M) (hX : X ≤ 1099511627776) (d0 : 0 ≤ D) (d1 : D ≤ 16) (a0 : 0 ≤ A) (a1 : A ≤ 16) :
    ∀ (gs : List Bool) (i : Nat) (s r : Int), M ≤ s → s ≤ X → 0 ≤ r → ∃ l, goOn M X D A after gs i s r = some l ∧ Fine M X gs s l
  | [], i, s, r, _, _, _ => ⟨[], rfl, trivial⟩
  | g :: gs, i, s, r, h1, h2, hr => by
    have hn : nextS M X D A after g i s r = calcAll M X D A s (nextR g r) (tells (nextR g r) (-1) 0) := by
      unfold nextS; rw [ha]; simp
    obtain ⟨q1, q2, q3⟩ := step_in M X D A s r g h0 h1 h2 hr d0 d1 a0 a1
    obtain ⟨l, e, f⟩ := goes_on M X D A after ha h0 hX d0 d1 a0 a1 gs (i + 1) _ (nextR g r) q1 q2 (by unfold nextR; split <;> omega)
    refine ⟨calcAll M X D A s (nextR g r) (tells (nextR g r) (-1) 0) :: l, ?_, ?_⟩
    · rw [goOn, if_pos (by omega), hn, e]; rfl
    · exact ⟨q1, q2, q3, f⟩

theorem Fine.len {M X : Int} : ∀ {gs : List Bool} {s : Int} {l : List Int}, Fine M X gs s l → l.length = gs.length
  | [], _, [], _ => rfl
  | _ :: gs, _, _ :: ns, h => by simp [Fine.len h.2.2.2]
  | [], _, _ :: _, h => h.elim
  | _ :: _, _, [], h => h.elim

theorem looks (M X c d : Int) (good : List Bool) (l : List Int) (hl : l.length = good.length) (hg : good.length ≤ 200) :
    ∀ (n i : Nat) (s : Int), i + n = good.length → Fine M X (good.drop i) s (l.drop i) → Ev (fun k => laws_FnPaceWithin.l1 k s good l (l.length : Int) (i : Int) M X c d) true
  | 0, i, s, hn, hf => by
    refine Ev.step (fun _ => laws_FnPaceWithin.l1.eq_2 ..) ?_
    refine Ev.if_neg (by omega) (Ev.now _)
  | n + 1, i, s, hn, hf => by
    rw [List.drop_eq_getElem_cons (show i < good.length by omega), List.drop_eq_getElem_cons (show i < l.length by omega)] at hf
    obtain ⟨q1, q2, q3, q4⟩ := hf
    have e1 : rd l (i : Int) = l[i]'(by omega) := by
      unfold rd; simp [List.getD_eq_getElem?_getD, List.getElem?_eq_getElem (show i < l.length by omega)]
    have e2 : rdOf false good (i : Int) = good[i]'(by omega) := by
      unfold rdOf; simp [List.getD_eq_getElem?_getD, List.getElem?_eq_getElem (show i < good.length by omega)]
    refine Ev.step (fun _ => laws_FnPaceWithin.l1.eq_2 ..) ?_
    rw [e1, e2]
    generalize l[i]'(by omega) = x at *
    generalize good[i]'(by omega) = g at *
    refine Ev.if_pos (by omega) (Ev.if_pos (by omega) (Ev.if_pos (by omega) (Ev.if_neg (by omega) (Ev.if_neg (by omega) (Ev.if_pos (by omega) ?_)))))
    have hnext := looks M X c d good l hl hg n (i + 1) x (by omega) q4
    have hw : wrap64 ((i : Int) + 1) = ((i + 1 : Nat) : Int) := by rw [wrap64_of (by omega) (by omega)]; omega
    rw [hw]
    cases g with
    | true => exact Ev.if_pos rfl (Ev.if_neg (by simp at q3; omega) hnext)
    | false => exact Ev.if_neg (by simp) (Ev.if_neg (by simp at q3; omega) hnext)

theorem aft_rep (n i : Nat) : aft (List.replicate n (-1)) i = -1 := by
  unfold aft; split
  · rename_i h
    simp at h
    simp [List.getD_eq_getElem?_getD, h]
  · rfl

theorem awakeW : laws_paceAwake.f = some true := by
  unfold laws_paceAwake.f impl_PaceDefault.f; decide +kernel

theorem lays (m x d a s : Int) (good : List Bool) (l : List Int) (M X c e : Int) (hg : good.length ≤ 200) (hrun : laws_paceRun.f m x d a false s good (List.replicate good.length (-1)) = some (l, true)) (hl : l.length = good.length) (hf : Fine M X good s l) :
    ∀ (n i : Nat), i + n = good.length → Ev (fun k => laws_FnPaceWithin.l0 k s good (List.replicate i (-1)) (good.length : Int) (i : Int) m x d a M X c e) true
  | 0, i, hn => by
    refine Ev.step (fun _ => laws_FnPaceWithin.l0.eq_2 ..) ?_
    obtain rfl : i = good.length := by omega
    refine Ev.if_neg (by omega) ?_
    refine Ev.bindc hrun ?_
    refine Ev.if_pos rfl ?_
    refine Ev.bindc awakeW ?_
    refine Ev.step (fun _ => laws_FnPaceWithin.j2.eq_2 ..) ?_
    refine Ev.if_neg (by simp) ?_
    exact looks M X c e good l hl hg good.length 0 s (by omega) (by simpa using hf)
  | n + 1, i, hn => by
    refine Ev.step (fun _ => laws_FnPaceWithin.l0.eq_2 ..) ?_
    refine Ev.if_pos (by omega) (Ev.if_pos (by simp; omega) ?_)
    have hw : wrap64 ((i : Int) + 1) = ((i + 1 : Nat) : Int) := by rw [wrap64_of (by omega) (by omega)]; omega
    have hr : List.replicate i (-1 : Int) ++ [-1] = List.replicate (i + 1) (-1) := by rw [List.replicate_succ']
    rw [hw, hr]
    exact lays m x d a s good l M X c e hg hrun hl hf n (i + 1) (by omega)

theorem given_ev (m x d a : Int) : Ev (fun k => spec_PaceGiven.f k m x d a false) (orElse m 10000000, orElse x 2000000000, orElse d 2, orElse a 1) := by
  refine Ev.of (fun k => spec_PaceGiven.mono m x d a false k) (k := 40) ?_
  unfold spec_PaceGiven.f orElse
  simp only [spec_PaceGiven.j0, spec_PaceGiven.j1]
  by_cases h1 : m < 0 <;> by_cases h2 : x < 0 <;> by_cases h3 : d < 0 <;> by_cases h4 : a < 0 <;>
    simp [h1, h2, h3, h4, Int.not_le.mpr, Int.not_lt.mp]

theorem FnPaceWithin (m x d a s : Int) (good : List Bool) : ∃ k, laws_FnPaceWithin.f k m x d a s good = some true := by
  refine Ev.rounds ?_
  unfold laws_FnPaceWithin.f
  by_cases hbig : (good.length : Int) > 2147483647
  · exact Ev.if_pos hbig (Ev.now _)
  refine Ev.if_neg hbig ?_
  refine Ev.bind (given_ev m x d a) ?_
  have hj : ∀ c e, Ev (fun k => laws_FnPaceWithin.j0 k s good true m x d a (orElse m 10000000) (orElse x 2000000000) c e) true := fun c e =>
    Ev.step (fun _ => laws_FnPaceWithin.j0.eq_2 ..) (Ev.if_pos rfl (Ev.now _))
  by_cases hlen : (good.length : Int) > 200
  · exact Ev.if_pos hlen (hj _ _)
  refine Ev.if_neg hlen ?_
  by_cases hin : m < 1099511627776 ∧ x < 1099511627776 ∧ d ≤ 16 ∧ a ≤ 16 ∧ mx s 0 ≥ 0 ∧ mx s 0 < 1099511627776
  · have e : spec_PaceIn.f m x d a (mx s 0) 0 0 0 = some true := by unfold spec_PaceIn.f; simp [hin]
    refine Ev.bindc e ?_
    refine Ev.if_pos rfl ?_
    by_cases c1 : s < orElse m 10000000
    · exact Ev.if_pos c1 (hj _ _)
    refine Ev.if_neg c1 ?_
    by_cases c2 : s > orElse x 2000000000
    · rw [decide_eq_true c2]; exact hj _ _
    rw [decide_eq_false c2]
    refine Ev.step (fun _ => laws_FnPaceWithin.j0.eq_2 ..) (Ev.if_neg (by simp) ?_)
    have d0 : 0 ≤ orElse d 2 ∧ orElse d 2 ≤ 16 := by unfold orElse; split <;> omega
    have a0 : 0 ≤ orElse a 1 ∧ orElse a 1 ≤ 16 := by unfold orElse; split <;> omega
    have m0 : 0 ≤ orElse m 10000000 := by unfold orElse; split <;> omega
    have x0 : orElse x 2000000000 ≤ 1099511627776 := by unfold orElse; split <;> omega
    obtain ⟨l, hgo, hf⟩ := goes_on (orElse m 10000000) (orElse x 2000000000) (orElse d 2) (orElse a 1) (List.replicate good.length (-1)) (aft_rep _) m0 x0 d0.1 d0.2 a0.1 a0.2 good 0 s 0 (by omega) (by omega) (by omega)
    have hl := hf.len
    have hrun : laws_paceRun.f m x d a false s good (List.replicate good.length (-1)) = some (l, true) := by
      unfold laws_paceRun.f impl_PaceRuns.f
      rw [if_pos ⟨rfl, hin.2.2.1, hin.2.2.2.1, by omega⟩, hgo]
      simp [hl]
    exact lays m x d a s good l _ _ _ _ (by omega) hrun hl hf good.length 0 (by omega)
  · have e : spec_PaceIn.f m x d a (mx s 0) 0 0 0 = some false := by
      unfold spec_PaceIn.f
      repeat' split
      all_goals first
        | rfl
        | (simp only [Option.some.injEq, decide_eq_false_iff_not]; omega)
    refine Ev.bindc e ?_
    refine Ev.if_neg (by simp) (hj _ _)
end Go.Proofs.Ytlefemlpemjhcaa.Pure

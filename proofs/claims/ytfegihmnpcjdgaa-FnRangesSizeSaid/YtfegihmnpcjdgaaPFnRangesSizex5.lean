-- Written by a program of this session's (over the kit's print), with contracts proved by hand among what it calls.
import Derived.Test.YtfegihmnpcjdgaaPFnRangesSizex0
import Derived.Test.YtfegihmnpcjdgaaPFnRangesSizex3
import Derived.Test.YtfegihmnpcjdgaaPFnRangesSizex4
namespace Go.Proofs.Ytfegihmnpcjdgaa.PFnRangesSize
open Go.RowKit Go.Proofs.YtfegihmnpcjdgaaW.PrintWords Go.Proofs.YtfegihmnpcjdgaaW.PrintLast Go.Proofs.YtfegihmnpcjdgaaW.PrintMore
attribute [local go_sem] max2_int min2_int max_two min_two max_three min_three max_four min_four   -- for this text's walks alone
set_option linter.unusedVariables false
set_option linter.unusedSimpArgs false

/-! ### spec_RangesWhole: function 20 -/
def spec_RangesWhole.f (k : Nat) (l0 : List (S28)) : Option ((List (S28))) := (spec_rangeMarks.f l0).bind fun t189 => (if (t189.length : Int) = 0 then (some ([] : List (S28))) else (if 0 < (t189.length : Int) then (if 0 ≤ (wrap64 ((t189.length : Int) - 1)) then (if (wrap64 ((t189.length : Int) - 1)) < (t189.length : Int) then ((spec_RangesCut.f k l0 (rd t189 0) (wrap64 ((rd t189 (wrap64 ((t189.length : Int) - 1))) - (rd t189 0)))).bind fun t194 => (some t194)) else (none)) else (none)) else (none)))
theorem spec_RangesWhole.mono : ∀ a0 k, LeO (spec_RangesWhole.f k a0) (spec_RangesWhole.f (k + 1) a0) := by
  intro a0 k
  unfold spec_RangesWhole.f
  repeat' first
      | (with_reducible exact spec_RangesCut.mono _ _ _ _)
      | (with_reducible exact LeO.refl _)
      | (with_reducible exact LeO.none _)
      | (with_reducible refine LeO.ite ?_ ?_)
      | (with_reducible refine LeO.bind ?_ (fun _ => ?_))
      | exact spec_RangesCut.mono _ _ _ _
      | exact LeO.none _
      | refine LeO.ite ?_ ?_
      | refine LeO.bind ?_ (fun _ => ?_)
set_option maxHeartbeats 8000000 in
set_option maxRecDepth 100000 in
theorem spec_RangesWhole.calls (k : Nat) (A0 : Option Addr) (c0 : Nat) (l0 : List (S28)) (r : List (S28)) (w : World) (hr0 : Kd.C k28 w A0 l0.length l0) (hc0 : l0.length ≤ c0) (h : spec_RangesWhole.f k l0 = some r) :
    Calls Try.prog 20 #[.slice A0 l0.length c0] w fun e w' => ∃ v0_ : Value, e = .returned (v0_) ∧ Kd.R k28 28 w' w.heap.size (fun _ => True) v0_ r ∧ Below w.heap.size w w' := by
  have hu28 := Try.underlying28
  have HR0 := Aside0.mk hr0
  have HC0 := Aside0.mk hc0
  clear hr0 hc0
  have HB := Aside0.mk (Below.refl w.heap.size w)
  have H : ((spec_rangeMarks.f l0).bind fun t189 => (if (t189.length : Int) = 0 then (some ([] : List (S28))) else (if 0 < (t189.length : Int) then (if 0 ≤ (wrap64 ((t189.length : Int) - 1)) then (if (wrap64 ((t189.length : Int) - 1)) < (t189.length : Int) then ((spec_RangesCut.f k l0 (rd t189 0) (wrap64 ((rd t189 (wrap64 ((t189.length : Int) - 1))) - (rd t189 0)))).bind fun t194 => (some t194)) else (none)) else (none)) else (none)))) = some r := h
  clear h
  replace H := Option.bind_eq_some_iff.mp H
  obtain ⟨t189, A20, H⟩ := H
  replace H : (if (t189.length : Int) = 0 then (some ([] : List (S28))) else (if 0 < (t189.length : Int) then (if 0 ≤ (wrap64 ((t189.length : Int) - 1)) then (if (wrap64 ((t189.length : Int) - 1)) < (t189.length : Int) then ((spec_RangesCut.f k l0 (rd t189 0) (wrap64 ((rd t189 (wrap64 ((t189.length : Int) - 1))) - (rd t189 0)))).bind fun t194 => (some t194)) else (none)) else (none)) else (none))) = some r := H
  have A2 := Aside0.mk A20
  clear A20
  by_cases c3 : (t189.length : Int) = 0
  · rw [if_pos c3] at H
    have c3b0 : ((t189.length : Int) == 0) = true := beq_iff_eq.mpr c3
    have c3b1 : ((t189.length : Int) != 0) = false := bne_eq_false_iff_eq.mpr c3
    clear c3
    obtain rfl := Option.some.inj H
    go_enter Try.func20, Try.ntmps20
    go_wp2_with (first | (go_at_call 42; (with_reducible refine (spec_rangeMarks.calls _ _ l0 t189 _ ?side1 ?side2 A2.out).mono ?_); (case side1 => repeat (first | exact HR0.out | (with_reducible refine Kd.C_alloc ?_ _) | (with_reducible refine Kd.C_drewN ?_ _) | (with_reducible refine Kd.C_drew ?_))); (case side2 => exact HC0.out); rintro e w4 ⟨v190, rfl, ho0, hb⟩; have n0_ := Aside0.mk (Kd.R_lower ho0 (below_size (by repeat (first | (with_reducible first | exact HB.out | apply below_alloc | apply pw_below_drewN | apply below_drew1) | exact HB.out)))); have n1_ := Aside0.mk (below_step (by repeat (first | (with_reducible first | exact HB.out | apply below_alloc | apply pw_below_drewN | apply below_drew1) | exact HB.out)) hb); clear HB; have HO191 := n0_; have HB := n1_; clear n0_ n1_; (try clear hb); (try clear hb2); (try clear hk); (try clear hi); (try clear ho0); obtain ⟨Ao5, co5, eo5⟩ := Kd.R_slice HO191.out; subst eo5))
    repeat (go_quiet (first | (go_at_call 42; (with_reducible refine (spec_rangeMarks.calls _ _ l0 t189 _ ?side1 ?side2 A2.out).mono ?_); (case side1 => repeat (first | exact HR0.out | (with_reducible refine Kd.C_alloc ?_ _) | (with_reducible refine Kd.C_drewN ?_ _) | (with_reducible refine Kd.C_drew ?_))); (case side2 => exact HC0.out); rintro e w4 ⟨v190, rfl, ho0, hb⟩; have n0_ := Aside0.mk (Kd.R_lower ho0 (below_size (by repeat (first | (with_reducible first | exact HB.out | apply below_alloc | apply pw_below_drewN | apply below_drew1) | exact HB.out)))); have n1_ := Aside0.mk (below_step (by repeat (first | (with_reducible first | exact HB.out | apply below_alloc | apply pw_below_drewN | apply below_drew1) | exact HB.out)) hb); clear HB; have HO191 := n0_; have HB := n1_; clear n0_ n1_; (try clear hb); (try clear hb2); (try clear hk); (try clear hi); (try clear ho0); obtain ⟨Ao5, co5, eo5⟩ := Kd.R_slice HO191.out; subst eo5)); try go_wp2_with (first | (go_at_call 42; (with_reducible refine (spec_rangeMarks.calls _ _ l0 t189 _ ?side1 ?side2 A2.out).mono ?_); (case side1 => repeat (first | exact HR0.out | (with_reducible refine Kd.C_alloc ?_ _) | (with_reducible refine Kd.C_drewN ?_ _) | (with_reducible refine Kd.C_drew ?_))); (case side2 => exact HC0.out); rintro e w4 ⟨v190, rfl, ho0, hb⟩; have n0_ := Aside0.mk (Kd.R_lower ho0 (below_size (by repeat (first | (with_reducible first | exact HB.out | apply below_alloc | apply pw_below_drewN | apply below_drew1) | exact HB.out)))); have n1_ := Aside0.mk (below_step (by repeat (first | (with_reducible first | exact HB.out | apply below_alloc | apply pw_below_drewN | apply below_drew1) | exact HB.out)) hb); clear HB; have HO191 := n0_; have HB := n1_; clear n0_ n1_; (try clear hb); (try clear hb2); (try clear hk); (try clear hi); (try clear ho0); obtain ⟨Ao5, co5, eo5⟩ := Kd.R_slice HO191.out; subst eo5)))
    go_ret
    exact ⟨_, by first | rfl | (simp [errW_none, errW_some] <;> rfl) | (simp [*, errW_none, errW_some] <;> rfl), by first | exact Kd.R_nil _ _ _ _ _ | exact Kd.N_nil _ _ _ _ _ | exact Kd.V_nil _ _ _ _ _ | exact Kd.Q_nil _ _ _ _ _ | exact Kd.S_nil _ _ _ _ _, by repeat (first | (with_reducible first | exact HB.out | apply below_alloc | apply pw_below_drewN | apply below_drew1) | exact HB.out)⟩
  · rw [if_neg c3] at H
    have c3b0 : ((t189.length : Int) == 0) = false := beq_eq_false_iff_ne.mpr c3
    have c3b1 : ((t189.length : Int) != 0) = true := bne_iff_ne.mpr c3
    have c3b2 : ¬ (t189 = []) := fun h_ => c3 (by rw [h_]; rfl)
    by_cases c6 : 0 < (t189.length : Int)
    · rw [if_pos c6] at H
      have c6b0 : decide (0 < (t189.length : Int)) = true := decide_eq_true c6
      have c6b1 : decide (0 < t189.length) = true := decide_eq_true (by omega)
      clear c6
      obtain ⟨ji7, hji7⟩ : ∃ j_ : Int, (wrap64 ((t189.length : Int) - 1)) = j_ := ⟨_, rfl⟩
      replace H : (if 0 ≤ (ji7) then (if (ji7) < (t189.length : Int) then ((spec_RangesCut.f k l0 (rd t189 0) (wrap64 ((rd t189 (ji7)) - (rd t189 0)))).bind fun t194 => (some t194)) else (none)) else (none)) = some r := by first | (rw [hji7] at H; exact H) | (simp only [hji7] at H ⊢; exact H)
      (try rw [hji7] at A2)
      have hji7w : (IntKind.i64.wrap ((t189.length : Int) - 1)) = ji7 := (i64_w _).trans hji7
      by_cases c8 : 0 ≤ (ji7)
      · rw [if_pos c8] at H
        have c8b0 : decide (0 ≤ (ji7)) = true := decide_eq_true c8
        clear c8
        by_cases c9 : (ji7) < (t189.length : Int)
        · rw [if_pos c9] at H
          have c9b0 : decide ((ji7) < (t189.length : Int)) = true := decide_eq_true c9
          clear c9
          replace H := Option.bind_eq_some_iff.mp H
          obtain ⟨t194, A100, H⟩ := H
          replace H : (some t194) = some r := H
          have A10 := Aside0.mk A100
          clear A100
          obtain rfl := Option.some.inj H
          go_enter Try.func20, Try.ntmps20
          go_wp2_with (first | (go_at_call 42; (with_reducible refine (spec_rangeMarks.calls _ _ l0 t189 _ ?side1 ?side2 A2.out).mono ?_); (case side1 => repeat (first | exact HR0.out | (with_reducible refine Kd.C_alloc ?_ _) | (with_reducible refine Kd.C_drewN ?_ _) | (with_reducible refine Kd.C_drew ?_))); (case side2 => exact HC0.out); rintro e w11 ⟨v190, rfl, ho0, hb⟩; have n0_ := Aside0.mk (Kd.R_lower ho0 (below_size (by repeat (first | (with_reducible first | exact HB.out | apply below_alloc | apply pw_below_drewN | apply below_drew1) | exact HB.out)))); have n1_ := Aside0.mk (below_step (by repeat (first | (with_reducible first | exact HB.out | apply below_alloc | apply pw_below_drewN | apply below_drew1) | exact HB.out)) hb); clear HB; have HO191 := n0_; have HB := n1_; clear n0_ n1_; (try clear hb); (try clear hb2); (try clear hk); (try clear hi); (try clear ho0); obtain ⟨Ao12, co12, eo12⟩ := Kd.R_slice HO191.out; subst eo12; have p192 : 0 ≤ (0 : Int) := (by omega); have q192 : 0 < (t189.length : Int) := of_decide_eq_true (by first | (with_reducible assumption) | assumption); obtain ⟨ad192, e192, hx192_0⟩ := Kd.at_int (Kd.R_reads' HO191.out).2.2 0 p192 q192; cases e192; have qi192 : (0 < t189.length) = True := eq_true (by omega); (try rw [show ((0 : Int)).toNat = 0 from rfl] at hx192_0); (try rw [Addr.add_zero'] at hx192_0); replace p192 := eq_true p192; replace q192 := eq_true q192; have p193 : 0 ≤ ((ji7) : Int) := of_decide_eq_true (by first | (with_reducible assumption) | assumption); have q193 : (ji7) < (t189.length : Int) := of_decide_eq_true (by first | (with_reducible assumption) | assumption); obtain ⟨ad193, e193, hx193_0⟩ := Kd.at_int (Kd.R_reads' HO191.out).2.2 (ji7) p193 q193; obtain rfl : ad192 = ad193 := (by injection e193); replace p193 := eq_true p193; replace q193 := eq_true q193) | (go_at_call 24; (with_reducible refine (spec_RangesCut.calls k _ _ l0 (rd t189 0) (wrap64 ((rd t189 (ji7)) - (rd t189 0))) t194 _ ?side1 ?side2 A10.out).mono ?_); (case side1 => repeat (first | exact (Kd.C_below HR0.out HB.out) | (with_reducible refine Kd.C_alloc ?_ _) | (with_reducible refine Kd.C_drewN ?_ _) | (with_reducible refine Kd.C_drew ?_))); (case side2 => exact HC0.out); rintro e w13 ⟨v195, rfl, ho0, hb⟩; have n0_ := Aside0.mk (Kd.R_below (by (with_reducible repeat (first | apply Kd.R_alloc | apply Kd.R_drewN | apply Kd.R_drew)); exact HO191.out) hb); have n1_ := Aside0.mk (Kd.R_lower ho0 (below_size (by repeat (first | (with_reducible first | exact HB.out | apply below_alloc | apply pw_below_drewN | apply below_drew1) | exact HB.out)))); have n2_ := Aside0.mk (below_step (by repeat (first | (with_reducible first | exact HB.out | apply below_alloc | apply pw_below_drewN | apply below_drew1) | exact HB.out)) hb); clear HO191; clear HB; have HO191 := n0_; have HO196 := n1_; have HB := n2_; clear n0_ n1_ n2_; (try clear hb); (try clear hb2); (try clear hk); (try clear hi); (try clear ho0)))
          repeat (go_quiet (first | (go_at_call 42; (with_reducible refine (spec_rangeMarks.calls _ _ l0 t189 _ ?side1 ?side2 A2.out).mono ?_); (case side1 => repeat (first | exact HR0.out | (with_reducible refine Kd.C_alloc ?_ _) | (with_reducible refine Kd.C_drewN ?_ _) | (with_reducible refine Kd.C_drew ?_))); (case side2 => exact HC0.out); rintro e w11 ⟨v190, rfl, ho0, hb⟩; have n0_ := Aside0.mk (Kd.R_lower ho0 (below_size (by repeat (first | (with_reducible first | exact HB.out | apply below_alloc | apply pw_below_drewN | apply below_drew1) | exact HB.out)))); have n1_ := Aside0.mk (below_step (by repeat (first | (with_reducible first | exact HB.out | apply below_alloc | apply pw_below_drewN | apply below_drew1) | exact HB.out)) hb); clear HB; have HO191 := n0_; have HB := n1_; clear n0_ n1_; (try clear hb); (try clear hb2); (try clear hk); (try clear hi); (try clear ho0); obtain ⟨Ao12, co12, eo12⟩ := Kd.R_slice HO191.out; subst eo12; have p192 : 0 ≤ (0 : Int) := (by omega); have q192 : 0 < (t189.length : Int) := of_decide_eq_true (by first | (with_reducible assumption) | assumption); obtain ⟨ad192, e192, hx192_0⟩ := Kd.at_int (Kd.R_reads' HO191.out).2.2 0 p192 q192; cases e192; have qi192 : (0 < t189.length) = True := eq_true (by omega); (try rw [show ((0 : Int)).toNat = 0 from rfl] at hx192_0); (try rw [Addr.add_zero'] at hx192_0); replace p192 := eq_true p192; replace q192 := eq_true q192; have p193 : 0 ≤ ((ji7) : Int) := of_decide_eq_true (by first | (with_reducible assumption) | assumption); have q193 : (ji7) < (t189.length : Int) := of_decide_eq_true (by first | (with_reducible assumption) | assumption); obtain ⟨ad193, e193, hx193_0⟩ := Kd.at_int (Kd.R_reads' HO191.out).2.2 (ji7) p193 q193; obtain rfl : ad192 = ad193 := (by injection e193); replace p193 := eq_true p193; replace q193 := eq_true q193) | (go_at_call 24; (with_reducible refine (spec_RangesCut.calls k _ _ l0 (rd t189 0) (wrap64 ((rd t189 (ji7)) - (rd t189 0))) t194 _ ?side1 ?side2 A10.out).mono ?_); (case side1 => repeat (first | exact (Kd.C_below HR0.out HB.out) | (with_reducible refine Kd.C_alloc ?_ _) | (with_reducible refine Kd.C_drewN ?_ _) | (with_reducible refine Kd.C_drew ?_))); (case side2 => exact HC0.out); rintro e w13 ⟨v195, rfl, ho0, hb⟩; have n0_ := Aside0.mk (Kd.R_below (by (with_reducible repeat (first | apply Kd.R_alloc | apply Kd.R_drewN | apply Kd.R_drew)); exact HO191.out) hb); have n1_ := Aside0.mk (Kd.R_lower ho0 (below_size (by repeat (first | (with_reducible first | exact HB.out | apply below_alloc | apply pw_below_drewN | apply below_drew1) | exact HB.out)))); have n2_ := Aside0.mk (below_step (by repeat (first | (with_reducible first | exact HB.out | apply below_alloc | apply pw_below_drewN | apply below_drew1) | exact HB.out)) hb); clear HO191; clear HB; have HO191 := n0_; have HO196 := n1_; have HB := n2_; clear n0_ n1_ n2_; (try clear hb); (try clear hb2); (try clear hk); (try clear hi); (try clear ho0))); try go_wp2_with (first | (go_at_call 42; (with_reducible refine (spec_rangeMarks.calls _ _ l0 t189 _ ?side1 ?side2 A2.out).mono ?_); (case side1 => repeat (first | exact HR0.out | (with_reducible refine Kd.C_alloc ?_ _) | (with_reducible refine Kd.C_drewN ?_ _) | (with_reducible refine Kd.C_drew ?_))); (case side2 => exact HC0.out); rintro e w11 ⟨v190, rfl, ho0, hb⟩; have n0_ := Aside0.mk (Kd.R_lower ho0 (below_size (by repeat (first | (with_reducible first | exact HB.out | apply below_alloc | apply pw_below_drewN | apply below_drew1) | exact HB.out)))); have n1_ := Aside0.mk (below_step (by repeat (first | (with_reducible first | exact HB.out | apply below_alloc | apply pw_below_drewN | apply below_drew1) | exact HB.out)) hb); clear HB; have HO191 := n0_; have HB := n1_; clear n0_ n1_; (try clear hb); (try clear hb2); (try clear hk); (try clear hi); (try clear ho0); obtain ⟨Ao12, co12, eo12⟩ := Kd.R_slice HO191.out; subst eo12; have p192 : 0 ≤ (0 : Int) := (by omega); have q192 : 0 < (t189.length : Int) := of_decide_eq_true (by first | (with_reducible assumption) | assumption); obtain ⟨ad192, e192, hx192_0⟩ := Kd.at_int (Kd.R_reads' HO191.out).2.2 0 p192 q192; cases e192; have qi192 : (0 < t189.length) = True := eq_true (by omega); (try rw [show ((0 : Int)).toNat = 0 from rfl] at hx192_0); (try rw [Addr.add_zero'] at hx192_0); replace p192 := eq_true p192; replace q192 := eq_true q192; have p193 : 0 ≤ ((ji7) : Int) := of_decide_eq_true (by first | (with_reducible assumption) | assumption); have q193 : (ji7) < (t189.length : Int) := of_decide_eq_true (by first | (with_reducible assumption) | assumption); obtain ⟨ad193, e193, hx193_0⟩ := Kd.at_int (Kd.R_reads' HO191.out).2.2 (ji7) p193 q193; obtain rfl : ad192 = ad193 := (by injection e193); replace p193 := eq_true p193; replace q193 := eq_true q193) | (go_at_call 24; (with_reducible refine (spec_RangesCut.calls k _ _ l0 (rd t189 0) (wrap64 ((rd t189 (ji7)) - (rd t189 0))) t194 _ ?side1 ?side2 A10.out).mono ?_); (case side1 => repeat (first | exact (Kd.C_below HR0.out HB.out) | (with_reducible refine Kd.C_alloc ?_ _) | (with_reducible refine Kd.C_drewN ?_ _) | (with_reducible refine Kd.C_drew ?_))); (case side2 => exact HC0.out); rintro e w13 ⟨v195, rfl, ho0, hb⟩; have n0_ := Aside0.mk (Kd.R_below (by (with_reducible repeat (first | apply Kd.R_alloc | apply Kd.R_drewN | apply Kd.R_drew)); exact HO191.out) hb); have n1_ := Aside0.mk (Kd.R_lower ho0 (below_size (by repeat (first | (with_reducible first | exact HB.out | apply below_alloc | apply pw_below_drewN | apply below_drew1) | exact HB.out)))); have n2_ := Aside0.mk (below_step (by repeat (first | (with_reducible first | exact HB.out | apply below_alloc | apply pw_below_drewN | apply below_drew1) | exact HB.out)) hb); clear HO191; clear HB; have HO191 := n0_; have HO196 := n1_; have HB := n2_; clear n0_ n1_ n2_; (try clear hb); (try clear hb2); (try clear hk); (try clear hi); (try clear ho0))))
          go_ret
          exact ⟨_, by first | rfl | (simp [errW_none, errW_some] <;> rfl) | (simp only [← hji7]; first | rfl | (simp [errW_none, errW_some] <;> rfl)) | (simp [*, errW_none, errW_some] <;> rfl), by (with_reducible repeat (first | apply Kd.R_alloc | apply Kd.R_drewN | apply Kd.R_drew)); exact HO196.out, by repeat (first | (with_reducible first | exact HB.out | apply below_alloc | apply pw_below_drewN | apply below_drew1) | exact HB.out)⟩
        · rw [if_neg c9] at H
          exact absurd H (by simp)
      · rw [if_neg c8] at H
        exact absurd H (by simp)
    · rw [if_neg c6] at H
      exact absurd H (by simp)

/-! ### spec_RangesSize: function 29 -/
def spec_RangesSize.l0 : Nat → Int → List (S28) → Int → Int → Option (Int)
  | 0, _, _, _, _ => none
  | k + 1, x3, x7, x8, x9 => if x9 < x8 then (if 0 ≤ x9 then (if x9 < (x7.length : Int) then (spec_RangesSize.l0 k (wrap64 (x3 + ((rd_T28 x7 x9).f1))) x7 x8 (wrap64 (x9 + 1))) else (none)) else (none)) else (some x3)
def spec_RangesSize.f (k : Nat) (l0 : List (S28)) : Option (Int) := (spec_RangesWhole.f k l0).bind fun t197 => (spec_RangesSize.l0 k 0 t197 (t197.length : Int) 0)
theorem spec_RangesSize.mono_l : ∀ k, (∀ y0 y1 y2 y3, LeO (spec_RangesSize.l0 k y0 y1 y2 y3) (spec_RangesSize.l0 (k + 1) y0 y1 y2 y3))
  | 0 => fun _ _ _ _ r h => by simp [spec_RangesSize.l0] at h
  | k + 1 => by
    have ih0 := spec_RangesSize.mono_l k
    · intro y0 y1 y2 y3
      unfold spec_RangesSize.l0
      repeat' first
      | (with_reducible exact ih0 _ _ _ _)
      | (with_reducible exact spec_RangesWhole.mono _ _)
      | (with_reducible exact LeO.refl _)
      | (with_reducible exact LeO.none _)
      | (with_reducible refine LeO.ite ?_ ?_)
      | (with_reducible refine LeO.bind ?_ (fun _ => ?_))
      | exact ih0 _ _ _ _
      | exact spec_RangesWhole.mono _ _
      | exact LeO.none _
      | refine LeO.ite ?_ ?_
      | refine LeO.bind ?_ (fun _ => ?_)
theorem spec_RangesSize.mono : ∀ a0 k, LeO (spec_RangesSize.f k a0) (spec_RangesSize.f (k + 1) a0) := by
  intro a0 k
  have ih0 := spec_RangesSize.mono_l k
  unfold spec_RangesSize.f
  repeat' first
      | (with_reducible exact ih0 _ _ _ _)
      | (with_reducible exact spec_RangesWhole.mono _ _)
      | (with_reducible exact LeO.refl _)
      | (with_reducible exact LeO.none _)
      | (with_reducible refine LeO.ite ?_ ?_)
      | (with_reducible refine LeO.bind ?_ (fun _ => ?_))
      | exact ih0 _ _ _ _
      | exact spec_RangesWhole.mono _ _
      | exact LeO.none _
      | refine LeO.ite ?_ ?_
      | refine LeO.bind ?_ (fun _ => ?_)
set_option maxHeartbeats 8000000 in
set_option maxRecDepth 100000 in
theorem spec_RangesSize.calls (k : Nat) (A0 : Option Addr) (c0 : Nat) (l0 : List (S28)) (r : Int) (w : World) (hr0 : Kd.C k28 w A0 l0.length l0) (hc0 : l0.length ≤ c0) (h : spec_RangesSize.f k l0 = some r) :
    Calls Try.prog 29 #[.slice A0 l0.length c0] w fun e w' => e = .returned (.int .i64 r) ∧ Below w.heap.size w w' := by
  have hu28 := Try.underlying28
  have HR0 := Aside0.mk hr0
  have HC0 := Aside0.mk hc0
  clear hr0 hc0
  have HB := Aside0.mk (Below.refl w.heap.size w)
  have H : ((spec_RangesWhole.f k l0).bind fun t197 => (spec_RangesSize.l0 k 0 t197 (t197.length : Int) 0)) = some r := h
  clear h
  replace H := Option.bind_eq_some_iff.mp H
  obtain ⟨t197, A20, H⟩ := H
  replace H : (spec_RangesSize.l0 k 0 t197 (t197.length : Int) 0) = some r := H
  have A2 := Aside0.mk A20
  clear A20
  have H' := Aside0.mk H
  clear H
  go_enter Try.func29, Try.ntmps29
  go_wp2_with (first | ((with_reducible refine gate_callee (f := 20) rfl ?_); refine goesL_ (some 7) rfl rfl Try.func20 (by kernel_rfl) rfl #[.slice A0 l0.length c0] rfl (by (try simp only [List.map_toArray, List.map_cons, List.map_nil]); first | done | rfl | (simp only [List.length_drop, List.length_take]; rfl)) ?_; (with_reducible refine (spec_RangesWhole.calls k _ _ l0 t197 _ ?side1 ?side2 A2.out).mono ?_); (case side1 => repeat (first | exact HR0.out | (with_reducible refine Kd.C_alloc ?_ _) | (with_reducible refine Kd.C_drewN ?_ _) | (with_reducible refine Kd.C_drew ?_))); (case side2 => exact HC0.out); rintro e w3 ⟨v198, rfl, ho0, hb⟩; refine ⟨_, rfl, ?_⟩; have n0_ := Aside0.mk (Kd.R_lower ho0 (below_size (by repeat (first | (with_reducible first | exact HB.out | apply below_alloc | apply pw_below_drewN | apply below_drew1) | exact HB.out)))); have n1_ := Aside0.mk (below_step (by repeat (first | (with_reducible first | exact HB.out | apply below_alloc | apply pw_below_drewN | apply below_drew1) | exact HB.out)) hb); clear HB; have HO199 := n0_; have HB := n1_; clear n0_ n1_; (try clear hb); (try clear hb2); (try clear hk); (try clear hi); (try clear ho0); obtain ⟨Ao4, co4, eo4⟩ := Kd.R_slice HO199.out; subst eo4))
  go_loopg [3, 9] k (fun kq v3 v9 w' => ∃ (x3_1 : Int) (x9_1 : Int), v3 = .int .i64 x3_1 ∧ v9 = .int .i64 x9_1 ∧ Aside0 (spec_RangesSize.l0 kq x3_1 t197 (t197.length : Int) x9_1 = some r) ∧ Aside0 (kq ≤ k) ∧ Aside0 (Kd.R k28 28 w' w.heap.size (fun _ => True) (.slice Ao4 t197.length co4) t197) ∧ Aside0 (Below w.heap.size w w'))
  case atStart => exact ⟨(0), (0), (by first | rfl | (simp; done) | (simp [*]; done) | (simp [xt_ne_nil]; done)), (by first | rfl | (simp; done) | (simp [*]; done) | (simp [xt_ne_nil]; done)), H', ⟨Nat.le_refl _⟩, ⟨by (with_reducible repeat (first | apply Kd.R_alloc | apply Kd.R_drewN | apply Kd.R_drew)); exact HO199.out⟩, ⟨by repeat (first | (with_reducible first | exact HB.out | apply below_alloc | apply pw_below_drewN | apply below_drew1) | exact HB.out)⟩⟩
  case round =>
    clear H'
    try clear c2
    try clear p2
    obtain ⟨x3_1, x9_1, rfl, rfl, HA, HK1, HO_7, HB⟩ := hrel
    cases gk with
    | zero => exact absurd HA.out (by simp [spec_RangesSize.l0])
    | succ k1 =>
      have H := HA.out
      clear HA
      simp only [spec_RangesSize.l0] at H
      by_cases c5 : x9_1 < (t197.length : Int)
      · rw [if_pos c5] at H
        have c5b0 : decide (x9_1 < (t197.length : Int)) = true := decide_eq_true c5
        clear c5
        by_cases c6 : 0 ≤ x9_1
        · rw [if_pos c6] at H
          have c6b0 : decide (0 ≤ x9_1) = true := decide_eq_true c6
          clear c6
          by_cases c7 : x9_1 < (t197.length : Int)
          · rw [if_pos c7] at H
            have c7b0 : decide (x9_1 < (t197.length : Int)) = true := decide_eq_true c7
            clear c7
            have H' := Aside0.mk H
            clear H
            have p200 : 0 ≤ (x9_1 : Int) := of_decide_eq_true (by first | (with_reducible assumption) | assumption)
            have q200 : x9_1 < (t197.length : Int) := of_decide_eq_true (by first | (with_reducible assumption) | assumption)
            obtain ⟨ad200, e200, hx200_0, hx200_1⟩ := at_T28 (Kd.R_reads' HO_7.out).2.2 x9_1 p200 q200
            cases e200
            replace p200 := eq_true p200
            replace q200 := eq_true q200
            go_wp2_with (first | ((with_reducible refine gate_dst (N := 5) rfl ?_); refine box_event ?hg (N := 5) ?hd (cs := #[.int .i64 0, .int .i64 0]) (t := 28) ?hr ?_; (case hd => rfl); (case hg => rfl); (case hr => first | (go_simp; done) | (go_simp; rfl)); intro gb201 hg w8 hbox hb; have n0_ := Aside0.mk (Kd.R_below (Kd.R_elderB (by (with_reducible repeat (first | apply Kd.R_alloc | apply Kd.R_drewN | apply Kd.R_drew)); exact HO_7.out) gb201 (Nat.le_of_eq hg.symm)) hb); have n1_ := Aside0.mk (below_step (by repeat (first | (with_reducible first | exact HB.out | apply below_alloc | apply pw_below_drewN | apply below_drew1) | exact HB.out)) hb); have n2_ := Aside0.mk (hbox); have n3_ := Aside0.mk ((by rw [hg]; exact (below_size (by repeat (first | (with_reducible first | exact HB.out | apply below_alloc | apply pw_below_drewN | apply below_drew1) | exact HB.out))) : w.heap.size ≤ gb201)); have n4_ := Aside0.mk ((by rw [hg]; exact (below_size (by repeat (first | (with_reducible first | exact HB.out | apply below_alloc | apply pw_below_drewN | apply below_drew1) | exact HB.out))) : w.heap.size ≤ gb201)); clear HO_7; clear HB; have HO_7 := n0_; have HB := n1_; have BK201 := n2_; have GW201 := n3_; have GE201 := n4_; clear n0_ n1_ n2_ n3_ n4_; clear hb hbox hg; have hcz9_0 : w8.cell? ⟨gb201, 0, none⟩ = some (.int .i64 0) := (blk_cell BK201.out 0).trans rfl; have hcz9_1 : w8.cell? ⟨gb201, 1, none⟩ = some (.int .i64 0) := (blk_cell BK201.out 1).trans rfl; have hfz9_0 := blk_frozen BK201.out 0; have hfz9_1 := blk_frozen BK201.out 1))
            go_roundg k1
            case measure => have := HK1.out; omega
            case rel => exact ⟨(wrap64 (x3_1 + ((rd_T28 t197 x9_1).f1))), (wrap64 (x9_1 + 1)), (by first | rfl | (simp; done) | (simp [*]; done) | (simp [xt_ne_nil]; done)), (by first | rfl | (simp; done) | (simp [*]; done) | (simp [xt_ne_nil]; done)), H', ⟨by have := HK1.out; omega⟩, ⟨by (with_reducible repeat (first | apply Kd.R_alloc | apply Kd.R_drewN | apply Kd.R_drew)); exact Kd.R_mono (Kd.R_far (p := ⟨gb201, 1, none⟩) (Kd.R_far (p := ⟨gb201, 0, none⟩) (Kd.R_mono HO_7.out (fun k_ hk => (⟨hk, hk.2⟩ : _ ∧ k_ ≠ gb201))) (fun _ hk => hk.2) (.int .i64 ((rd_T28 t197 x9_1).f0))) (fun _ hk => hk.2) (.int .i64 ((rd_T28 t197 x9_1).f1))) (fun _ hk => trivial)⟩, ⟨by repeat (first | (with_reducible first | exact HB.out | apply below_alloc | apply pw_below_drewN | apply below_drew1 | refine below_set ?_ GE201.out) | exact HB.out)⟩⟩
          · rw [if_neg c7] at H
            exact absurd H (by simp)
        · rw [if_neg c6] at H
          exact absurd H (by simp)
      · rw [if_neg c5] at H
        have c5b0 : decide (x9_1 < (t197.length : Int)) = false := decide_eq_false c5
        clear c5
        obtain rfl := Option.some.inj H
        go_wp2
        go_ret
        exact ⟨by first | rfl | (simp [errW_none, errW_some] <;> rfl) | (simp [*, errW_none, errW_some] <;> rfl), by repeat (first | (with_reducible first | exact HB.out | apply below_alloc | apply pw_below_drewN | apply below_drew1) | exact HB.out)⟩

/-! ### laws_FnRangesSize: function 9 -/
mutual
def laws_FnRangesSize.j0 : Nat → List (S28) → Bool → Int → Int → Option (Bool)
  | 0, _, _, _, _ => none
  | k + 1, x0, x20, x203000, x203001 => if x20 = true then (some true) else ((laws_rangeAwake.f k).bind fun t205 => (if t205 = true then ((impl_RangesCut.f k x0 x203000 x203001).bind fun t206 => (laws_FnRangesSize.l0 k x0 0 t206 (t206.length : Int) 0 x203000 x203001)) else (some false)))
def laws_FnRangesSize.l0 : Nat → List (S28) → Int → List (S28) → Int → Int → Int → Int → Option (Bool)
  | 0, _, _, _, _, _, _, _ => none
  | k + 1, x0, x5, x25, x26, x27, x203000, x203001 => if x27 < x26 then (if 0 ≤ x27 then (if x27 < (x25.length : Int) then (laws_FnRangesSize.l0 k x0 (wrap64 (x5 + ((rd_T28 x25 x27).f1))) x25 x26 (wrap64 (x27 + 1)) x203000 x203001) else (none)) else (none)) else ((impl_RangesFindAll.f k x0 x203000 x203001).bind fun t211 => (laws_FnRangesSize.l1 k x0 x5 t211 (t211.length : Int) 0 x203000 x203001))
def laws_FnRangesSize.l1 : Nat → List (S28) → Int → List (S37) → Int → Int → Int → Int → Option (Bool)
  | 0, _, _, _, _, _, _, _ => none
  | k + 1, x0, x5, x38, x39, x40, x203000, x203001 => if x40 < x39 then (if 0 ≤ x40 then (if x40 < (x38.length : Int) then (if ((rd_T37 x38 x40).f1 = true) then (laws_FnRangesSize.l1 k x0 x5 x38 x39 (wrap64 (x40 + 1)) x203000 x203001) else (laws_FnRangesSize.l1 k x0 (wrap64 (x5 + ((rd_T37 x38 x40).f0.f1))) x38 x39 (wrap64 (x40 + 1)) x203000 x203001)) else (none)) else (none)) else ((impl_RangesSize.f k x0).bind fun t216 => ((spec_RangesSize.f k x0).bind fun t217 => (if t216 = t217 then (some (x5 == x203001)) else (some false))))
end
def laws_FnRangesSize.f (k : Nat) (l0 : List (S28)) (a1_0 : Int) (a1_1 : Int) : Option (Bool) := if (l0.length : Int) > 2147483647 then (some true) else ((spec_RangesIn.f k l0).bind fun t203 => (if t203 = true then ((spec_RangeAsk.f a1_0 a1_1).bind fun t204 => (laws_FnRangesSize.j0 k l0 (!t204) a1_0 a1_1)) else (laws_FnRangesSize.j0 k l0 true a1_0 a1_1)))
theorem laws_FnRangesSize.mono_l : ∀ k, (∀ y0 y1 y2 y3, LeO (laws_FnRangesSize.j0 k y0 y1 y2 y3) (laws_FnRangesSize.j0 (k + 1) y0 y1 y2 y3)) ∧ (∀ y0 y1 y2 y3 y4 y5 y6, LeO (laws_FnRangesSize.l0 k y0 y1 y2 y3 y4 y5 y6) (laws_FnRangesSize.l0 (k + 1) y0 y1 y2 y3 y4 y5 y6)) ∧ (∀ y0 y1 y2 y3 y4 y5 y6, LeO (laws_FnRangesSize.l1 k y0 y1 y2 y3 y4 y5 y6) (laws_FnRangesSize.l1 (k + 1) y0 y1 y2 y3 y4 y5 y6))
  | 0 => ⟨fun _ _ _ _ r h => by simp [laws_FnRangesSize.j0] at h, fun _ _ _ _ _ _ _ r h => by simp [laws_FnRangesSize.l0] at h, fun _ _ _ _ _ _ _ r h => by simp [laws_FnRangesSize.l1] at h⟩
  | k + 1 => by
    obtain ⟨ih0, ih1, ih2⟩ := laws_FnRangesSize.mono_l k
    refine ⟨?_, ?_, ?_⟩
    · intro y0 y1 y2 y3
      unfold laws_FnRangesSize.j0
      repeat' first
      | (with_reducible exact ih0 _ _ _ _)
      | (with_reducible exact ih1 _ _ _ _ _ _ _)
      | (with_reducible exact ih2 _ _ _ _ _ _ _)
      | (with_reducible exact impl_RangesCut.mono _ _ _ _)
      | (with_reducible exact impl_RangesFindAll.mono _ _ _ _)
      | (with_reducible exact impl_RangesSize.mono _ _)
      | (with_reducible exact laws_rangeAwake.mono _)
      | (with_reducible exact spec_RangesIn.mono _ _)
      | (with_reducible exact spec_RangesSize.mono _ _)
      | (with_reducible exact LeO.refl _)
      | (with_reducible exact LeO.none _)
      | (with_reducible refine LeO.ite ?_ ?_)
      | (with_reducible refine LeO.bind ?_ (fun _ => ?_))
      | exact ih0 _ _ _ _
      | exact ih1 _ _ _ _ _ _ _
      | exact ih2 _ _ _ _ _ _ _
      | exact impl_RangesCut.mono _ _ _ _
      | exact impl_RangesFindAll.mono _ _ _ _
      | exact impl_RangesSize.mono _ _
      | exact laws_rangeAwake.mono _
      | exact spec_RangesIn.mono _ _
      | exact spec_RangesSize.mono _ _
      | exact LeO.none _
      | refine LeO.ite ?_ ?_
      | refine LeO.bind ?_ (fun _ => ?_)
    · intro y0 y1 y2 y3 y4 y5 y6
      unfold laws_FnRangesSize.l0
      repeat' first
      | (with_reducible exact ih0 _ _ _ _)
      | (with_reducible exact ih1 _ _ _ _ _ _ _)
      | (with_reducible exact ih2 _ _ _ _ _ _ _)
      | (with_reducible exact impl_RangesCut.mono _ _ _ _)
      | (with_reducible exact impl_RangesFindAll.mono _ _ _ _)
      | (with_reducible exact impl_RangesSize.mono _ _)
      | (with_reducible exact laws_rangeAwake.mono _)
      | (with_reducible exact spec_RangesIn.mono _ _)
      | (with_reducible exact spec_RangesSize.mono _ _)
      | (with_reducible exact LeO.refl _)
      | (with_reducible exact LeO.none _)
      | (with_reducible refine LeO.ite ?_ ?_)
      | (with_reducible refine LeO.bind ?_ (fun _ => ?_))
      | exact ih0 _ _ _ _
      | exact ih1 _ _ _ _ _ _ _
      | exact ih2 _ _ _ _ _ _ _
      | exact impl_RangesCut.mono _ _ _ _
      | exact impl_RangesFindAll.mono _ _ _ _
      | exact impl_RangesSize.mono _ _
      | exact laws_rangeAwake.mono _
      | exact spec_RangesIn.mono _ _
      | exact spec_RangesSize.mono _ _
      | exact LeO.none _
      | refine LeO.ite ?_ ?_
      | refine LeO.bind ?_ (fun _ => ?_)
    · intro y0 y1 y2 y3 y4 y5 y6
      unfold laws_FnRangesSize.l1
      repeat' first
      | (with_reducible exact ih0 _ _ _ _)
      | (with_reducible exact ih1 _ _ _ _ _ _ _)
      | (with_reducible exact ih2 _ _ _ _ _ _ _)
      | (with_reducible exact impl_RangesCut.mono _ _ _ _)
      | (with_reducible exact impl_RangesFindAll.mono _ _ _ _)
      | (with_reducible exact impl_RangesSize.mono _ _)
      | (with_reducible exact laws_rangeAwake.mono _)
      | (with_reducible exact spec_RangesIn.mono _ _)
      | (with_reducible exact spec_RangesSize.mono _ _)
      | (with_reducible exact LeO.refl _)
      | (with_reducible exact LeO.none _)
      | (with_reducible refine LeO.ite ?_ ?_)
      | (with_reducible refine LeO.bind ?_ (fun _ => ?_))
      | exact ih0 _ _ _ _
      | exact ih1 _ _ _ _ _ _ _
      | exact ih2 _ _ _ _ _ _ _
      | exact impl_RangesCut.mono _ _ _ _
      | exact impl_RangesFindAll.mono _ _ _ _
      | exact impl_RangesSize.mono _ _
      | exact laws_rangeAwake.mono _
      | exact spec_RangesIn.mono _ _
      | exact spec_RangesSize.mono _ _
      | exact LeO.none _
      | refine LeO.ite ?_ ?_
      | refine LeO.bind ?_ (fun _ => ?_)
theorem laws_FnRangesSize.mono : ∀ a0 a1 a2 k, LeO (laws_FnRangesSize.f k a0 a1 a2) (laws_FnRangesSize.f (k + 1) a0 a1 a2) := by
  intro a0 a1 a2 k
  obtain ⟨ih0, ih1, ih2⟩ := laws_FnRangesSize.mono_l k
  unfold laws_FnRangesSize.f
  repeat' first
      | (with_reducible exact ih0 _ _ _ _)
      | (with_reducible exact ih1 _ _ _ _ _ _ _)
      | (with_reducible exact ih2 _ _ _ _ _ _ _)
      | (with_reducible exact impl_RangesCut.mono _ _ _ _)
      | (with_reducible exact impl_RangesFindAll.mono _ _ _ _)
      | (with_reducible exact impl_RangesSize.mono _ _)
      | (with_reducible exact laws_rangeAwake.mono _)
      | (with_reducible exact spec_RangesIn.mono _ _)
      | (with_reducible exact spec_RangesSize.mono _ _)
      | (with_reducible exact LeO.refl _)
      | (with_reducible exact LeO.none _)
      | (with_reducible refine LeO.ite ?_ ?_)
      | (with_reducible refine LeO.bind ?_ (fun _ => ?_))
      | exact ih0 _ _ _ _
      | exact ih1 _ _ _ _ _ _ _
      | exact ih2 _ _ _ _ _ _ _
      | exact impl_RangesCut.mono _ _ _ _
      | exact impl_RangesFindAll.mono _ _ _ _
      | exact impl_RangesSize.mono _ _
      | exact laws_rangeAwake.mono _
      | exact spec_RangesIn.mono _ _
      | exact spec_RangesSize.mono _ _
      | exact LeO.none _
      | refine LeO.ite ?_ ?_
      | refine LeO.bind ?_ (fun _ => ?_)
set_option maxHeartbeats 8000000 in
set_option maxRecDepth 100000 in
theorem laws_FnRangesSize.calls (k : Nat) (A0 : Option Addr) (c0 : Nat) (l0 : List (S28)) (a1_0 : Int) (a1_1 : Int) (r : Bool) (w : World) (hr0 : Kd.C k28 w A0 l0.length l0) (hc0 : l0.length ≤ c0) (h : laws_FnRangesSize.f k l0 a1_0 a1_1 = some r) :
    Calls Try.prog 9 #[.slice A0 l0.length c0, .agg #[.int .i64 a1_0, .int .i64 a1_1]] w fun e w' => e = .returned (.bool r) ∧ Below w.heap.size w w' := by
  have hu28 := Try.underlying28
  have hu37 := Try.underlying37
  have HR0 := Aside0.mk hr0
  have HC0 := Aside0.mk hc0
  clear hr0 hc0
  have HB := Aside0.mk (Below.refl w.heap.size w)
  have H : (if (l0.length : Int) > 2147483647 then (some true) else ((spec_RangesIn.f k l0).bind fun t203 => (if t203 = true then ((spec_RangeAsk.f a1_0 a1_1).bind fun t204 => (laws_FnRangesSize.j0 k l0 (!t204) a1_0 a1_1)) else (laws_FnRangesSize.j0 k l0 true a1_0 a1_1)))) = some r := h
  clear h
  by_cases c3 : (l0.length : Int) > 2147483647
  · rw [if_pos c3] at H
    have c3b0 : decide (2147483647 < (l0.length : Int)) = true := decide_eq_true c3
    have c3b1 : decide (2147483647 < l0.length) = true := decide_eq_true (by omega)
    clear c3
    obtain rfl := Option.some.inj H
    go_enter Try.func9, Try.ntmps9
    go_wp2_with (first | ((with_reducible refine gate_dst (N := 3) rfl ?_); refine box_event ?hg (N := 3) ?hd (cs := #[.int .i64 a1_0, .int .i64 a1_1]) (t := 28) ?hr ?_; (case hd => rfl); (case hg => rfl); (case hr => first | (go_simp; done) | (go_simp; rfl)); intro gb202 hg w4 hbox hb; have n0_ := Aside0.mk (below_step (by repeat (first | (with_reducible first | exact HB.out | apply below_alloc | apply pw_below_drewN | apply below_drew1) | exact HB.out)) hb); have n1_ := Aside0.mk (hbox); have n2_ := Aside0.mk ((by rw [hg]; exact (below_size (by repeat (first | (with_reducible first | exact HB.out | apply below_alloc | apply pw_below_drewN | apply below_drew1) | exact HB.out))) : w.heap.size ≤ gb202)); have n3_ := Aside0.mk ((by rw [hg]; exact (below_size (by repeat (first | (with_reducible first | exact HB.out | apply below_alloc | apply pw_below_drewN | apply below_drew1) | exact HB.out))) : w.heap.size ≤ gb202)); clear HB; have HB := n0_; have BK202 := n1_; have GW202 := n2_; have GE202 := n3_; clear n0_ n1_ n2_ n3_; clear hb hbox hg))
    go_ret
    exact ⟨by first | rfl | (simp [errW_none, errW_some] <;> rfl) | (simp [*, errW_none, errW_some] <;> rfl), by repeat (first | (with_reducible first | exact HB.out | apply below_alloc | apply pw_below_drewN | apply below_drew1 | refine below_set ?_ GE202.out) | exact HB.out)⟩
  · rw [if_neg c3] at H
    have c3b0 : decide (2147483647 < (l0.length : Int)) = false := decide_eq_false c3
    have c3b1 : decide (2147483647 < l0.length) = false := decide_eq_false (by omega)
    clear c3
    have HC5 := Aside0.mk H
    clear H
    go_enter Try.func9, Try.ntmps9
    go_upto_region 3 with (first | ((with_reducible refine gate_dst (N := 3) rfl ?_); refine box_event ?hg (N := 3) ?hd (cs := #[.int .i64 a1_0, .int .i64 a1_1]) (t := 28) ?hr ?_; (case hd => rfl); (case hg => rfl); (case hr => first | (go_simp; done) | (go_simp; rfl)); intro gb202 hg w6 hbox hb; have n0_ := Aside0.mk (below_step (by repeat (first | (with_reducible first | exact HB.out | apply below_alloc | apply pw_below_drewN | apply below_drew1) | exact HB.out)) hb); have n1_ := Aside0.mk (hbox); have n2_ := Aside0.mk ((by rw [hg]; exact (below_size (by repeat (first | (with_reducible first | exact HB.out | apply below_alloc | apply pw_below_drewN | apply below_drew1) | exact HB.out))) : w.heap.size ≤ gb202)); have n3_ := Aside0.mk ((by rw [hg]; exact (below_size (by repeat (first | (with_reducible first | exact HB.out | apply below_alloc | apply pw_below_drewN | apply below_drew1) | exact HB.out))) : w.heap.size ≤ gb202)); clear HB; have HB := n0_; have BK202 := n1_; have GW202 := n2_; have GE202 := n3_; clear n0_ n1_ n2_ n3_; clear hb hbox hg))
    (try simp only [Act.put, List.setIfInBounds_toArray, List.set_cons_zero, List.set_cons_succ])
    go_cut [20] (fun v20 wc => ∃ (kq : Nat) (x20_4 : Bool), v20 = .bool x20_4 ∧ Aside0 (laws_FnRangesSize.j0 kq l0 x20_4 a1_0 a1_1 = some r) ∧ Aside0 (kq ≤ k) ∧ Aside0 (wc.heap[gb202]? = some (.cells #[.int .i64 a1_0, .int .i64 a1_1] 28 (0, 0))) ∧ Aside0 (Below w.heap.size w wc))
    case first =>
      have H := HC5.out
      clear HC5
      replace H := Option.bind_eq_some_iff.mp H
      obtain ⟨t203, A70, H⟩ := H
      replace H : (if t203 = true then ((spec_RangeAsk.f a1_0 a1_1).bind fun t204 => (laws_FnRangesSize.j0 k l0 (!t204) a1_0 a1_1)) else (laws_FnRangesSize.j0 k l0 true a1_0 a1_1)) = some r := H
      have A7 := Aside0.mk A70
      clear A70
      by_cases c8 : t203 = true
      · subst c8
        have H1 : ((spec_RangeAsk.f a1_0 a1_1).bind fun t204 => (laws_FnRangesSize.j0 k l0 (!t204) a1_0 a1_1)) = some r := by rw [if_pos rfl] at H; exact H
        clear H
        have H := H1
        clear H1
        replace H := Option.bind_eq_some_iff.mp H
        obtain ⟨t204, A90, H⟩ := H
        replace H : (laws_FnRangesSize.j0 k l0 (!t204) a1_0 a1_1) = some r := H
        have A9 := Aside0.mk A90
        clear A90
        have H' := Aside0.mk H
        clear H
        go_wp2_with (first | ((with_reducible refine gate_callee (f := 12) rfl ?_); refine goesL_ (some 14) rfl rfl Try.func12 (by kernel_rfl) rfl #[.slice A0 l0.length c0] rfl (by (try simp only [List.map_toArray, List.map_cons, List.map_nil]); first | done | rfl | (simp only [List.length_drop, List.length_take]; rfl)) ?_; (with_reducible refine (spec_RangesIn.calls k _ _ l0 true _ ?side1 ?side2 A7.out).mono ?_); (case side1 => repeat (first | exact (Kd.C_below HR0.out HB.out) | (with_reducible refine Kd.C_alloc ?_ _) | (with_reducible refine Kd.C_drewN ?_ _) | (with_reducible refine Kd.C_drew ?_))); (case side2 => exact HC0.out); rintro e w10 ⟨rfl, hb⟩; refine ⟨_, rfl, ?_⟩; have n0_ := Aside0.mk (blk_below (g := gb202) (o := .cells #[.int .i64 a1_0, .int .i64 a1_1] 28 (0, 0)) (by (with_reducible repeat (first | refine blk_drewN ?_ _ | refine blk_drew ?_ | refine blk_alloc ?_ _)); exact BK202.out) hb); have n1_ := Aside0.mk (below_step (by repeat (first | (with_reducible first | exact HB.out | apply below_alloc | apply pw_below_drewN | apply below_drew1 | refine below_set ?_ GE202.out) | exact HB.out)) hb); clear BK202; clear HB; have BK202 := n0_; have HB := n1_; clear n0_ n1_; (try clear hb); (try clear hb2); (try clear hk); (try clear hi); have hcz11_0 : w10.cell? ⟨gb202, 0, none⟩ = some (.int .i64 a1_0) := (blk_cell BK202.out 0).trans rfl; have hcz11_1 : w10.cell? ⟨gb202, 1, none⟩ = some (.int .i64 a1_1) := (blk_cell BK202.out 1).trans rfl; have hfz11_0 := blk_frozen BK202.out 0; have hfz11_1 := blk_frozen BK202.out 1) | (go_at_call 16; (with_reducible refine (spec_RangeAsk.calls a1_0 a1_1 t204 _ A9.out).mono ?_); rintro e w12 ⟨rfl, hb⟩; have n0_ := Aside0.mk (blk_below (g := gb202) (o := .cells #[.int .i64 a1_0, .int .i64 a1_1] 28 (0, 0)) (by (with_reducible repeat (first | refine blk_drewN ?_ _ | refine blk_drew ?_ | refine blk_alloc ?_ _)); exact BK202.out) hb); have n1_ := Aside0.mk (below_step (by repeat (first | (with_reducible first | exact HB.out | apply below_alloc | apply pw_below_drewN | apply below_drew1 | refine below_set ?_ GE202.out) | exact HB.out)) hb); clear BK202; clear HB; have BK202 := n0_; have HB := n1_; clear n0_ n1_; (try clear hb); (try clear hb2); (try clear hk); (try clear hi)))
        go_meet
        case rel => exact ⟨_, (!t204), (by first | rfl | (simp; done) | (simp [*]; done) | (simp [xt_ne_nil]; done)), H', ⟨by first | omega | exact Nat.le_refl _⟩, ⟨by (with_reducible repeat (first | refine blk_drewN ?_ _ | refine blk_drew ?_ | refine blk_alloc ?_ _)); exact BK202.out⟩, ⟨by repeat (first | (with_reducible first | exact HB.out | apply below_alloc | apply pw_below_drewN | apply below_drew1 | refine below_set ?_ GE202.out) | exact HB.out)⟩⟩
      · replace c8 := Bool.eq_false_iff.mpr c8
        subst c8
        have H1 : (laws_FnRangesSize.j0 k l0 true a1_0 a1_1) = some r := by rw [if_neg (show ¬ (false = true) by decide)] at H; exact H
        clear H
        have H := H1
        clear H1
        have H' := Aside0.mk H
        clear H
        go_wp2_with (first | ((with_reducible refine gate_callee (f := 12) rfl ?_); refine goesL_ (some 14) rfl rfl Try.func12 (by kernel_rfl) rfl #[.slice A0 l0.length c0] rfl (by (try simp only [List.map_toArray, List.map_cons, List.map_nil]); first | done | rfl | (simp only [List.length_drop, List.length_take]; rfl)) ?_; (with_reducible refine (spec_RangesIn.calls k _ _ l0 false _ ?side1 ?side2 A7.out).mono ?_); (case side1 => repeat (first | exact (Kd.C_below HR0.out HB.out) | (with_reducible refine Kd.C_alloc ?_ _) | (with_reducible refine Kd.C_drewN ?_ _) | (with_reducible refine Kd.C_drew ?_))); (case side2 => exact HC0.out); rintro e w13 ⟨rfl, hb⟩; refine ⟨_, rfl, ?_⟩; have n0_ := Aside0.mk (blk_below (g := gb202) (o := .cells #[.int .i64 a1_0, .int .i64 a1_1] 28 (0, 0)) (by (with_reducible repeat (first | refine blk_drewN ?_ _ | refine blk_drew ?_ | refine blk_alloc ?_ _)); exact BK202.out) hb); have n1_ := Aside0.mk (below_step (by repeat (first | (with_reducible first | exact HB.out | apply below_alloc | apply pw_below_drewN | apply below_drew1 | refine below_set ?_ GE202.out) | exact HB.out)) hb); clear BK202; clear HB; have BK202 := n0_; have HB := n1_; clear n0_ n1_; (try clear hb); (try clear hb2); (try clear hk); (try clear hi)))
        go_meet
        case rel => exact ⟨_, (true), (by first | rfl | (simp; done) | (simp [*]; done) | (simp [xt_ne_nil]; done)), H', ⟨by first | omega | exact Nat.le_refl _⟩, ⟨by (with_reducible repeat (first | refine blk_drewN ?_ _ | refine blk_drew ?_ | refine blk_alloc ?_ _)); exact BK202.out⟩, ⟨by repeat (first | (with_reducible first | exact HB.out | apply below_alloc | apply pw_below_drewN | apply below_drew1 | refine below_set ?_ GE202.out) | exact HB.out)⟩⟩
    case rest =>
      clear HC5
      try clear c1
      try clear p2
      try clear c3
      try clear c3b0
      try clear c3b1
      try clear c8
      try clear c9
      try clear c12
      try clear hcz11_0
      try clear hcz11_1
      try clear hfz11_0
      try clear hfz11_1
      obtain ⟨kq, x20_4, rfl, HA, HJ4, BK202, HB⟩ := hcut
      cases kq with
      | zero => exact absurd HA.out (by simp [laws_FnRangesSize.j0])
      | succ kj4 =>
        have H := HA.out
        clear HA
        simp only [laws_FnRangesSize.j0] at H
        by_cases c14 : x20_4 = true
        · subst c14
          have H1 : (some true) = some r := by rw [if_pos rfl] at H; exact H
          clear H
          have H := H1
          clear H1
          obtain rfl := Option.some.inj H
          go_wp2
          go_ret
          exact ⟨by first | rfl | (simp [errW_none, errW_some] <;> rfl) | (simp [*, errW_none, errW_some] <;> rfl), by repeat (first | (with_reducible first | exact HB.out | apply below_alloc | apply pw_below_drewN | apply below_drew1 | refine below_set ?_ GE202.out) | exact HB.out)⟩
        · replace c14 := Bool.eq_false_iff.mpr c14
          subst c14
          have H1 : ((laws_rangeAwake.f kj4).bind fun t205 => (if t205 = true then ((impl_RangesCut.f kj4 l0 a1_0 a1_1).bind fun t206 => (laws_FnRangesSize.l0 kj4 l0 0 t206 (t206.length : Int) 0 a1_0 a1_1)) else (some false))) = some r := by rw [if_neg (show ¬ (false = true) by decide)] at H; exact H
          clear H
          have H := H1
          clear H1
          replace H := Option.bind_eq_some_iff.mp H
          obtain ⟨t205, A150, H⟩ := H
          replace H : (if t205 = true then ((impl_RangesCut.f kj4 l0 a1_0 a1_1).bind fun t206 => (laws_FnRangesSize.l0 kj4 l0 0 t206 (t206.length : Int) 0 a1_0 a1_1)) else (some false)) = some r := H
          have A15 := Aside0.mk A150
          clear A150
          by_cases c16 : t205 = true
          · subst c16
            have H1 : ((impl_RangesCut.f kj4 l0 a1_0 a1_1).bind fun t206 => (laws_FnRangesSize.l0 kj4 l0 0 t206 (t206.length : Int) 0 a1_0 a1_1)) = some r := by rw [if_pos rfl] at H; exact H
            clear H
            have H := H1
            clear H1
            replace H := Option.bind_eq_some_iff.mp H
            obtain ⟨t206, A170, H⟩ := H
            replace H : (laws_FnRangesSize.l0 kj4 l0 0 t206 (t206.length : Int) 0 a1_0 a1_1) = some r := H
            have A17 := Aside0.mk A170
            clear A170
            have H' := Aside0.mk H
            clear H
            go_wp2_with (first | ((with_reducible refine gate_callee (f := 13) rfl ?_); refine goesL_ (some 21) rfl rfl Try.func13 (by kernel_rfl) rfl #[] rfl (by (try simp only [List.map_toArray, List.map_cons, List.map_nil]); first | done | rfl | (simp only [List.length_drop, List.length_take]; rfl)) ?_; (with_reducible refine (laws_rangeAwake.calls kj4  true _ A15.out).mono ?_); rintro e w18 ⟨rfl, hb⟩; refine ⟨_, rfl, ?_⟩; have n0_ := Aside0.mk (blk_below (g := gb202) (o := .cells #[.int .i64 a1_0, .int .i64 a1_1] 28 (0, 0)) (by (with_reducible repeat (first | refine blk_drewN ?_ _ | refine blk_drew ?_ | refine blk_alloc ?_ _)); exact BK202.out) hb); have n1_ := Aside0.mk (below_step (by repeat (first | (with_reducible first | exact HB.out | apply below_alloc | apply pw_below_drewN | apply below_drew1 | refine below_set ?_ GE202.out) | exact HB.out)) hb); clear BK202; clear HB; have BK202 := n0_; have HB := n1_; clear n0_ n1_; (try clear hb); (try clear hb2); (try clear hk); (try clear hi); have hcz19_0 : w18.cell? ⟨gb202, 0, none⟩ = some (.int .i64 a1_0) := (blk_cell BK202.out 0).trans rfl; have hcz19_1 : w18.cell? ⟨gb202, 1, none⟩ = some (.int .i64 a1_1) := (blk_cell BK202.out 1).trans rfl; have hfz19_0 := blk_frozen BK202.out 0; have hfz19_1 := blk_frozen BK202.out 1) | ((with_reducible refine gate_callee (f := 23) rfl ?_); refine goesL_ (some 25) rfl rfl Try.func23 (by kernel_rfl) rfl #[.slice A0 l0.length c0, .agg #[.int .i64 a1_0, .int .i64 a1_1]] rfl (by (try simp only [List.map_toArray, List.map_cons, List.map_nil]); first | done | rfl | (simp only [List.length_drop, List.length_take]; rfl)) ?_; (with_reducible refine (impl_RangesCut.calls kj4 _ _ l0 a1_0 a1_1 t206 _ ?side1 ?side2 A17.out).mono ?_); (case side1 => repeat (first | exact (Kd.C_below HR0.out HB.out) | (with_reducible refine Kd.C_alloc ?_ _) | (with_reducible refine Kd.C_drewN ?_ _) | (with_reducible refine Kd.C_drew ?_))); (case side2 => exact HC0.out); rintro e w20 ⟨v207, rfl, ho0, hb⟩; refine ⟨_, rfl, ?_⟩; have n0_ := Aside0.mk (Kd.R_lower (Kd.R_newB ho0 (g := gb202) (o := .cells #[.int .i64 a1_0, .int .i64 a1_1] 28 (0, 0)) (by (with_reducible repeat (first | refine blk_drewN ?_ _ | refine blk_drew ?_ | refine blk_alloc ?_ _)); exact BK202.out)) (below_size (by repeat (first | (with_reducible first | exact HB.out | apply below_alloc | apply pw_below_drewN | apply below_drew1 | refine below_set ?_ GE202.out) | exact HB.out)))); have n1_ := Aside0.mk (blk_below (g := gb202) (o := .cells #[.int .i64 a1_0, .int .i64 a1_1] 28 (0, 0)) (by (with_reducible repeat (first | refine blk_drewN ?_ _ | refine blk_drew ?_ | refine blk_alloc ?_ _)); exact BK202.out) hb); have n2_ := Aside0.mk (below_step (by repeat (first | (with_reducible first | exact HB.out | apply below_alloc | apply pw_below_drewN | apply below_drew1 | refine below_set ?_ GE202.out) | exact HB.out)) hb); clear BK202; clear HB; have HO208 := n0_; have BK202 := n1_; have HB := n2_; clear n0_ n1_ n2_; (try clear hb); (try clear hb2); (try clear hk); (try clear hi); (try clear ho0); obtain ⟨Ao21, co21, eo21⟩ := Kd.R_slice HO208.out; subst eo21))
            go_loopg [5, 27] kj4 (fun kq v5 v27 w' => ∃ (x5_2 : Int) (x27_2 : Int), v5 = .int .i64 x5_2 ∧ v27 = .int .i64 x27_2 ∧ Aside0 (laws_FnRangesSize.l0 kq l0 x5_2 t206 (t206.length : Int) x27_2 a1_0 a1_1 = some r) ∧ Aside0 (kq ≤ kj4) ∧ Aside0 (Kd.R k28 28 w' w.heap.size (fun k_ => k_ ≠ gb202) (.slice Ao21 t206.length co21) t206) ∧ Aside0 (w'.heap[gb202]? = some (.cells #[.int .i64 a1_0, .int .i64 a1_1] 28 (0, 0))) ∧ Aside0 (Below w.heap.size w w'))
            case atStart => exact ⟨(0), (0), (by first | rfl | (simp; done) | (simp [*]; done) | (simp [xt_ne_nil]; done)), (by first | rfl | (simp; done) | (simp [*]; done) | (simp [xt_ne_nil]; done)), H', ⟨Nat.le_refl _⟩, ⟨by (with_reducible repeat (first | apply Kd.R_alloc | apply Kd.R_drewN | apply Kd.R_drew)); exact Kd.R_mono HO208.out (fun _ hk => hk.2)⟩, ⟨by (with_reducible repeat (first | refine blk_drewN ?_ _ | refine blk_drew ?_ | refine blk_alloc ?_ _)); exact BK202.out⟩, ⟨by repeat (first | (with_reducible first | exact HB.out | apply below_alloc | apply pw_below_drewN | apply below_drew1 | refine below_set ?_ GE202.out) | exact HB.out)⟩⟩
            case round =>
              clear H'
              try clear c1
              try clear c2
              try clear p2
              try clear c3
              try clear c3b0
              try clear c3b1
              try clear c8
              try clear c9
              try clear c12
              try clear c13
              try clear c14
              try clear c16
              try clear hcz11_0
              try clear hcz11_1
              try clear hcz19_0
              try clear hcz19_1
              try clear hfz11_0
              try clear hfz11_1
              try clear hfz19_0
              try clear hfz19_1
              try clear p2
              obtain ⟨x5_2, x27_2, rfl, rfl, HA, HK2, HO_25, BK202, HB⟩ := hrel
              cases gk with
              | zero => exact absurd HA.out (by simp [laws_FnRangesSize.l0])
              | succ k2 =>
                have H := HA.out
                clear HA
                simp only [laws_FnRangesSize.l0] at H
                by_cases c22 : x27_2 < (t206.length : Int)
                · rw [if_pos c22] at H
                  have c22b0 : decide (x27_2 < (t206.length : Int)) = true := decide_eq_true c22
                  clear c22
                  by_cases c23 : 0 ≤ x27_2
                  · rw [if_pos c23] at H
                    have c23b0 : decide (0 ≤ x27_2) = true := decide_eq_true c23
                    clear c23
                    by_cases c24 : x27_2 < (t206.length : Int)
                    · rw [if_pos c24] at H
                      have c24b0 : decide (x27_2 < (t206.length : Int)) = true := decide_eq_true c24
                      clear c24
                      have H' := Aside0.mk H
                      clear H
                      have p209 : 0 ≤ (x27_2 : Int) := of_decide_eq_true (by first | (with_reducible assumption) | assumption)
                      have q209 : x27_2 < (t206.length : Int) := of_decide_eq_true (by first | (with_reducible assumption) | assumption)
                      obtain ⟨ad209, e209, hx209_0, hx209_1⟩ := at_T28 (Kd.R_reads' HO_25.out).2.2 x27_2 p209 q209
                      cases e209
                      replace p209 := eq_true p209
                      replace q209 := eq_true q209
                      go_wp2_with (first | ((with_reducible refine gate_dst (N := 7) rfl ?_); refine box_event ?hg (N := 7) ?hd (cs := #[.int .i64 0, .int .i64 0]) (t := 28) ?hr ?_; (case hd => rfl); (case hg => rfl); (case hr => first | (go_simp; done) | (go_simp; rfl)); intro gb210 hg w25 hbox hb; have n0_ := Aside0.mk (Kd.R_below (Kd.R_elderB (by (with_reducible repeat (first | apply Kd.R_alloc | apply Kd.R_drewN | apply Kd.R_drew)); exact HO_25.out) gb210 (Nat.le_of_eq hg.symm)) hb); have n1_ := Aside0.mk (blk_below (g := gb202) (o := .cells #[.int .i64 a1_0, .int .i64 a1_1] 28 (0, 0)) (by (with_reducible repeat (first | refine blk_drewN ?_ _ | refine blk_drew ?_ | refine blk_alloc ?_ _)); exact BK202.out) hb); have n2_ := Aside0.mk (below_step (by repeat (first | (with_reducible first | exact HB.out | apply below_alloc | apply pw_below_drewN | apply below_drew1 | refine below_set ?_ GE202.out) | exact HB.out)) hb); have n3_ := Aside0.mk (hbox); have n4_ := Aside0.mk ((by rw [hg]; exact (below_size (by repeat (first | (with_reducible first | exact HB.out | apply below_alloc | apply pw_below_drewN | apply below_drew1 | refine below_set ?_ GE202.out) | exact HB.out))) : w.heap.size ≤ gb210)); have n5_ := Aside0.mk ((by rw [hg]; exact (below_size (by repeat (first | (with_reducible first | exact HB.out | apply below_alloc | apply pw_below_drewN | apply below_drew1 | refine below_set ?_ GE202.out) | exact HB.out))) : w.heap.size ≤ gb210)); have n6_ := Aside0.mk ((by rw [hg]; exact Nat.ne_of_lt (blk_lt (g := gb202) (o := .cells #[.int .i64 a1_0, .int .i64 a1_1] 28 (0, 0)) (by (with_reducible repeat (first | refine blk_drewN ?_ _ | refine blk_drew ?_ | refine blk_alloc ?_ _)); exact BK202.out)) : gb202 ≠ gb210)); have n7_ := Aside0.mk ((by rw [hg]; exact Nat.ne_of_gt (blk_lt (g := gb202) (o := .cells #[.int .i64 a1_0, .int .i64 a1_1] 28 (0, 0)) (by (with_reducible repeat (first | refine blk_drewN ?_ _ | refine blk_drew ?_ | refine blk_alloc ?_ _)); exact BK202.out)) : gb210 ≠ gb202)); clear HO_25; clear BK202; clear HB; have HO_25 := n0_; have BK202 := n1_; have HB := n2_; have BK210 := n3_; have GW210 := n4_; have GE210 := n5_; have NB202_210 := n6_; have NB210_202 := n7_; clear n0_ n1_ n2_ n3_ n4_ n5_ n6_ n7_; clear hb hbox hg; have hnb26 := NB210_202.out; have hnc26 := NB202_210.out; have hcz27_0 : w25.cell? ⟨gb210, 0, none⟩ = some (.int .i64 0) := (blk_cell BK210.out 0).trans rfl; have hcz27_1 : w25.cell? ⟨gb210, 1, none⟩ = some (.int .i64 0) := (blk_cell BK210.out 1).trans rfl; have hfz27_0 := blk_frozen BK210.out 0; have hfz27_1 := blk_frozen BK210.out 1))
                      go_roundg k2
                      case measure => have := HJ4.out; have := HK2.out; omega
                      case rel => exact ⟨(wrap64 (x5_2 + ((rd_T28 t206 x27_2).f1))), (wrap64 (x27_2 + 1)), (by first | rfl | (simp; done) | (simp [*]; done) | (simp [xt_ne_nil]; done)), (by first | rfl | (simp; done) | (simp [*]; done) | (simp [xt_ne_nil]; done)), H', ⟨by have := HJ4.out; have := HK2.out; omega⟩, ⟨by (with_reducible repeat (first | apply Kd.R_alloc | apply Kd.R_drewN | apply Kd.R_drew)); exact Kd.R_mono (Kd.R_far (p := ⟨gb210, 1, none⟩) (Kd.R_far (p := ⟨gb210, 0, none⟩) (Kd.R_mono HO_25.out (fun k_ hk => (⟨hk, hk.2⟩ : _ ∧ k_ ≠ gb210))) (fun _ hk => hk.2) (.int .i64 ((rd_T28 t206 x27_2).f0))) (fun _ hk => hk.2) (.int .i64 ((rd_T28 t206 x27_2).f1))) (fun _ hk => hk.1.1)⟩, ⟨by (with_reducible repeat (first | refine blk_drewN ?_ _ | refine blk_drew ?_ | refine blk_alloc ?_ _)); refine blk_far ?_ NB202_210.out _; (with_reducible repeat (first | refine blk_drewN ?_ _ | refine blk_drew ?_ | refine blk_alloc ?_ _)); refine blk_far ?_ NB202_210.out _; (with_reducible repeat (first | refine blk_drewN ?_ _ | refine blk_drew ?_ | refine blk_alloc ?_ _)); exact BK202.out⟩, ⟨by repeat (first | (with_reducible first | exact HB.out | apply below_alloc | apply pw_below_drewN | apply below_drew1 | refine below_set ?_ GE202.out | refine below_set ?_ GE210.out) | exact HB.out)⟩⟩
                    · rw [if_neg c24] at H
                      exact absurd H (by simp)
                  · rw [if_neg c23] at H
                    exact absurd H (by simp)
                · rw [if_neg c22] at H
                  have c22b0 : decide (x27_2 < (t206.length : Int)) = false := decide_eq_false c22
                  clear c22
                  replace H := Option.bind_eq_some_iff.mp H
                  obtain ⟨t211, A280, H⟩ := H
                  replace H : (laws_FnRangesSize.l1 k2 l0 x5_2 t211 (t211.length : Int) 0 a1_0 a1_1) = some r := H
                  have A28 := Aside0.mk A280
                  clear A280
                  have H' := Aside0.mk H
                  clear H
                  have hcz29_0 : wr.cell? ⟨gb202, 0, none⟩ = some (.int .i64 a1_0) := (blk_cell BK202.out 0).trans rfl
                  have hcz29_1 : wr.cell? ⟨gb202, 1, none⟩ = some (.int .i64 a1_1) := (blk_cell BK202.out 1).trans rfl
                  have hfz29_0 := blk_frozen BK202.out 0
                  have hfz29_1 := blk_frozen BK202.out 1
                  go_wp2_with (first | ((with_reducible refine gate_callee (f := 18) rfl ?_); refine goesL_ (some 38) rfl rfl Try.func18 (by kernel_rfl) rfl #[.slice A0 l0.length c0, .agg #[.int .i64 a1_0, .int .i64 a1_1]] rfl (by (try simp only [List.map_toArray, List.map_cons, List.map_nil]); first | done | rfl | (simp only [List.length_drop, List.length_take]; rfl)) ?_; (with_reducible refine (impl_RangesFindAll.calls k2 _ _ l0 a1_0 a1_1 t211 _ ?side1 ?side2 A28.out).mono ?_); (case side1 => repeat (first | exact (Kd.C_below HR0.out HB.out) | (with_reducible refine Kd.C_alloc ?_ _) | (with_reducible refine Kd.C_drewN ?_ _) | (with_reducible refine Kd.C_drew ?_))); (case side2 => exact HC0.out); rintro e w30 ⟨v212, rfl, ho0, hb⟩; refine ⟨_, rfl, ?_⟩; have n0_ := Aside0.mk (Kd.R_below (by (with_reducible repeat (first | apply Kd.R_alloc | apply Kd.R_drewN | apply Kd.R_drew)); exact HO_25.out) hb); have n1_ := Aside0.mk (Kd.R_lower ho0 (below_size (by repeat (first | (with_reducible first | exact HB.out | apply below_alloc | apply pw_below_drewN | apply below_drew1 | refine below_set ?_ GE202.out) | exact HB.out)))); have n2_ := Aside0.mk (blk_below (g := gb202) (o := .cells #[.int .i64 a1_0, .int .i64 a1_1] 28 (0, 0)) (by (with_reducible repeat (first | refine blk_drewN ?_ _ | refine blk_drew ?_ | refine blk_alloc ?_ _)); exact BK202.out) hb); have n3_ := Aside0.mk (below_step (by repeat (first | (with_reducible first | exact HB.out | apply below_alloc | apply pw_below_drewN | apply below_drew1 | refine below_set ?_ GE202.out) | exact HB.out)) hb); clear HO_25; clear BK202; clear HB; have HO_25 := n0_; have HO213 := n1_; have BK202 := n2_; have HB := n3_; clear n0_ n1_ n2_ n3_; (try clear hb); (try clear hb2); (try clear hk); (try clear hi); (try clear ho0); obtain ⟨Ao31, co31, eo31⟩ := Kd.R_slice HO213.out; subst eo31))
                  go_loopg [5, 40] k2 (fun kq v5 v40 w' => ∃ (x5_3 : Int) (x40_3 : Int), v5 = .int .i64 x5_3 ∧ v40 = .int .i64 x40_3 ∧ Aside0 (laws_FnRangesSize.l1 kq l0 x5_3 t211 (t211.length : Int) x40_3 a1_0 a1_1 = some r) ∧ Aside0 (kq ≤ k2) ∧ Aside0 (Kd.R k37 37 w' w.heap.size (fun _ => True) (.slice Ao31 t211.length co31) t211) ∧ Aside0 (w'.heap[gb202]? = some (.cells #[.int .i64 a1_0, .int .i64 a1_1] 28 (0, 0))) ∧ Aside0 (Below w.heap.size w w'))
                  case atStart => exact ⟨(x5_2), (0), (by first | rfl | (simp; done) | (simp [*]; done) | (simp [xt_ne_nil]; done)), (by first | rfl | (simp; done) | (simp [*]; done) | (simp [xt_ne_nil]; done)), H', ⟨Nat.le_refl _⟩, ⟨by (with_reducible repeat (first | apply Kd.R_alloc | apply Kd.R_drewN | apply Kd.R_drew)); exact HO213.out⟩, ⟨by (with_reducible repeat (first | refine blk_drewN ?_ _ | refine blk_drew ?_ | refine blk_alloc ?_ _)); exact BK202.out⟩, ⟨by repeat (first | (with_reducible first | exact HB.out | apply below_alloc | apply pw_below_drewN | apply below_drew1 | refine below_set ?_ GE202.out) | exact HB.out)⟩⟩
                  case round =>
                    clear H'
                    try clear c1
                    try clear c2
                    try clear p2
                    try clear q2
                    try clear hx2
                    try clear c3
                    try clear c3b0
                    try clear c3b1
                    try clear p6
                    try clear c8
                    try clear c9
                    try clear c12
                    try clear c13
                    try clear c14
                    try clear c16
                    try clear c18
                    try clear p20
                    try clear q20
                    try clear hx20
                    try clear c22
                    try clear c22b0
                    try clear c23
                    try clear c23b0
                    try clear c24
                    try clear c24b0
                    try clear c26
                    try clear hcz11_0
                    try clear hcz11_1
                    try clear hcz19_0
                    try clear hcz19_1
                    try clear hcz27_0
                    try clear hcz27_1
                    try clear hcz29_0
                    try clear hcz29_1
                    try clear hfz11_0
                    try clear hfz11_1
                    try clear hfz19_0
                    try clear hfz19_1
                    try clear hfz27_0
                    try clear hfz27_1
                    try clear hfz29_0
                    try clear hfz29_1
                    try clear hx209_0
                    try clear hx209_1
                    try clear p2
                    try clear p209
                    try clear q209
                    obtain ⟨x5_3, x40_3, rfl, rfl, HA, HK3, HO_38, BK202, HB⟩ := hrel
                    cases gk with
                    | zero => exact absurd HA.out (by simp [laws_FnRangesSize.l1])
                    | succ k3 =>
                      have H := HA.out
                      clear HA
                      simp only [laws_FnRangesSize.l1] at H
                      by_cases c32 : x40_3 < (t211.length : Int)
                      · rw [if_pos c32] at H
                        have c32b0 : decide (x40_3 < (t211.length : Int)) = true := decide_eq_true c32
                        clear c32
                        by_cases c33 : 0 ≤ x40_3
                        · rw [if_pos c33] at H
                          have c33b0 : decide (0 ≤ x40_3) = true := decide_eq_true c33
                          clear c33
                          by_cases c34 : x40_3 < (t211.length : Int)
                          · rw [if_pos c34] at H
                            have c34b0 : decide (x40_3 < (t211.length : Int)) = true := decide_eq_true c34
                            clear c34
                            obtain ⟨bq35, hbq35⟩ : ∃ b_ : Bool, b_ = ((rd_T37 t211 x40_3).f1) := ⟨_, rfl⟩
                            replace H : (if (bq35 = true) then (laws_FnRangesSize.l1 k3 l0 x5_3 t211 (t211.length : Int) (wrap64 (x40_3 + 1)) a1_0 a1_1) else (laws_FnRangesSize.l1 k3 l0 (wrap64 (x5_3 + ((rd_T37 t211 x40_3).f0.f1))) t211 (t211.length : Int) (wrap64 (x40_3 + 1)) a1_0 a1_1)) = some r := by rw [← hbq35] at H; exact H
                            have Nbq35 := Aside0.mk hbq35
                            clear hbq35
                            by_cases c36 : (bq35 = true)
                            · subst c36
                              have H1 : (laws_FnRangesSize.l1 k3 l0 x5_3 t211 (t211.length : Int) (wrap64 (x40_3 + 1)) a1_0 a1_1) = some r := by rw [if_pos rfl] at H; exact H
                              clear H
                              have H := H1
                              clear H1
                              have H' := Aside0.mk H
                              clear H
                              have p214 : 0 ≤ (x40_3 : Int) := of_decide_eq_true (by first | (with_reducible assumption) | assumption)
                              have q214 : x40_3 < (t211.length : Int) := of_decide_eq_true (by first | (with_reducible assumption) | assumption)
                              obtain ⟨ad214, e214, hx214_0, hx214_1, hx214_2⟩ := at_T37 (Kd.R_reads' HO_38.out).2.2 x40_3 p214 q214
                              (try rw [← Nbq35.out] at hx214_2)
                              cases e214
                              replace p214 := eq_true p214
                              replace q214 := eq_true q214
                              go_wp2_with (first | ((with_reducible refine gate_dst (N := 9) rfl ?_); refine box_event ?hg (N := 9) ?hd (cs := #[.int .i64 0, .int .i64 0, .bool false]) (t := 37) ?hr ?_; (case hd => rfl); (case hg => rfl); (case hr => first | (go_simp; done) | (go_simp; rfl)); intro gb215 hg w37 hbox hb; have n0_ := Aside0.mk (Kd.R_below (Kd.R_elderB (by (with_reducible repeat (first | apply Kd.R_alloc | apply Kd.R_drewN | apply Kd.R_drew)); exact HO_38.out) gb215 (Nat.le_of_eq hg.symm)) hb); have n1_ := Aside0.mk (blk_below (g := gb202) (o := .cells #[.int .i64 a1_0, .int .i64 a1_1] 28 (0, 0)) (by (with_reducible repeat (first | refine blk_drewN ?_ _ | refine blk_drew ?_ | refine blk_alloc ?_ _)); exact BK202.out) hb); have n2_ := Aside0.mk (below_step (by repeat (first | (with_reducible first | exact HB.out | apply below_alloc | apply pw_below_drewN | apply below_drew1 | refine below_set ?_ GE202.out) | exact HB.out)) hb); have n3_ := Aside0.mk (hbox); have n4_ := Aside0.mk ((by rw [hg]; exact (below_size (by repeat (first | (with_reducible first | exact HB.out | apply below_alloc | apply pw_below_drewN | apply below_drew1 | refine below_set ?_ GE202.out) | exact HB.out))) : w.heap.size ≤ gb215)); have n5_ := Aside0.mk ((by rw [hg]; exact (below_size (by repeat (first | (with_reducible first | exact HB.out | apply below_alloc | apply pw_below_drewN | apply below_drew1 | refine below_set ?_ GE202.out) | exact HB.out))) : w.heap.size ≤ gb215)); have n6_ := Aside0.mk ((by rw [hg]; exact Nat.ne_of_lt (blk_lt (g := gb202) (o := .cells #[.int .i64 a1_0, .int .i64 a1_1] 28 (0, 0)) (by (with_reducible repeat (first | refine blk_drewN ?_ _ | refine blk_drew ?_ | refine blk_alloc ?_ _)); exact BK202.out)) : gb202 ≠ gb215)); have n7_ := Aside0.mk ((by rw [hg]; exact Nat.ne_of_gt (blk_lt (g := gb202) (o := .cells #[.int .i64 a1_0, .int .i64 a1_1] 28 (0, 0)) (by (with_reducible repeat (first | refine blk_drewN ?_ _ | refine blk_drew ?_ | refine blk_alloc ?_ _)); exact BK202.out)) : gb215 ≠ gb202)); clear HO_38; clear BK202; clear HB; have HO_38 := n0_; have BK202 := n1_; have HB := n2_; have BK215 := n3_; have GW215 := n4_; have GE215 := n5_; have NB202_215 := n6_; have NB215_202 := n7_; clear n0_ n1_ n2_ n3_ n4_ n5_ n6_ n7_; clear hb hbox hg; have hnb38 := NB215_202.out; have hnc38 := NB202_215.out; have hcz39_0 : w37.cell? ⟨gb215, 0, none⟩ = some (.int .i64 0) := (blk_cell BK215.out 0).trans rfl; have hcz39_1 : w37.cell? ⟨gb215, 1, none⟩ = some (.int .i64 0) := (blk_cell BK215.out 1).trans rfl; have hcz39_2 : w37.cell? ⟨gb215, 2, none⟩ = some (.bool false) := (blk_cell BK215.out 2).trans rfl; have hfz39_0 := blk_frozen BK215.out 0; have hfz39_1 := blk_frozen BK215.out 1; have hfz39_2 := blk_frozen BK215.out 2))
                              go_roundg k3
                              case measure => have := HJ4.out; have := HK2.out; have := HK3.out; omega
                              case rel => exact ⟨(x5_3), (wrap64 (x40_3 + 1)), (by first | rfl | (simp; done) | (simp [*]; done) | (simp [xt_ne_nil]; done)), (by first | rfl | (simp; done) | (simp [*]; done) | (simp [xt_ne_nil]; done)), H', ⟨by have := HJ4.out; have := HK2.out; have := HK3.out; omega⟩, ⟨by (with_reducible repeat (first | apply Kd.R_alloc | apply Kd.R_drewN | apply Kd.R_drew)); exact Kd.R_mono (Kd.R_far (p := ⟨gb215, 2, none⟩) (Kd.R_far (p := ⟨gb215, 1, none⟩) (Kd.R_far (p := ⟨gb215, 0, none⟩) (Kd.R_mono HO_38.out (fun k_ hk => (⟨hk, hk.2⟩ : _ ∧ k_ ≠ gb215))) (fun _ hk => hk.2) (.int .i64 ((rd_T37 t211 x40_3).f0.f0))) (fun _ hk => hk.2) (.int .i64 ((rd_T37 t211 x40_3).f0.f1))) (fun _ hk => hk.2) (.bool true)) (fun _ hk => trivial)⟩, ⟨by (with_reducible repeat (first | refine blk_drewN ?_ _ | refine blk_drew ?_ | refine blk_alloc ?_ _)); refine blk_far ?_ NB202_215.out _; (with_reducible repeat (first | refine blk_drewN ?_ _ | refine blk_drew ?_ | refine blk_alloc ?_ _)); refine blk_far ?_ NB202_215.out _; (with_reducible repeat (first | refine blk_drewN ?_ _ | refine blk_drew ?_ | refine blk_alloc ?_ _)); refine blk_far ?_ NB202_215.out _; (with_reducible repeat (first | refine blk_drewN ?_ _ | refine blk_drew ?_ | refine blk_alloc ?_ _)); exact BK202.out⟩, ⟨by repeat (first | (with_reducible first | exact HB.out | apply below_alloc | apply pw_below_drewN | apply below_drew1 | refine below_set ?_ GE202.out | refine below_set ?_ GE215.out) | exact HB.out)⟩⟩
                            · replace c36 := Bool.eq_false_iff.mpr c36
                              subst c36
                              have H1 : (laws_FnRangesSize.l1 k3 l0 (wrap64 (x5_3 + ((rd_T37 t211 x40_3).f0.f1))) t211 (t211.length : Int) (wrap64 (x40_3 + 1)) a1_0 a1_1) = some r := by rw [if_neg (show ¬ (false = true) by decide)] at H; exact H
                              clear H
                              have H := H1
                              clear H1
                              have H' := Aside0.mk H
                              clear H
                              have p214 : 0 ≤ (x40_3 : Int) := of_decide_eq_true (by first | (with_reducible assumption) | assumption)
                              have q214 : x40_3 < (t211.length : Int) := of_decide_eq_true (by first | (with_reducible assumption) | assumption)
                              obtain ⟨ad214, e214, hx214_0, hx214_1, hx214_2⟩ := at_T37 (Kd.R_reads' HO_38.out).2.2 x40_3 p214 q214
                              (try rw [← Nbq35.out] at hx214_2)
                              cases e214
                              replace p214 := eq_true p214
                              replace q214 := eq_true q214
                              go_wp2_with (first | ((with_reducible refine gate_dst (N := 9) rfl ?_); refine box_event ?hg (N := 9) ?hd (cs := #[.int .i64 0, .int .i64 0, .bool false]) (t := 37) ?hr ?_; (case hd => rfl); (case hg => rfl); (case hr => first | (go_simp; done) | (go_simp; rfl)); intro gb215 hg w40 hbox hb; have n0_ := Aside0.mk (Kd.R_below (Kd.R_elderB (by (with_reducible repeat (first | apply Kd.R_alloc | apply Kd.R_drewN | apply Kd.R_drew)); exact HO_38.out) gb215 (Nat.le_of_eq hg.symm)) hb); have n1_ := Aside0.mk (blk_below (g := gb202) (o := .cells #[.int .i64 a1_0, .int .i64 a1_1] 28 (0, 0)) (by (with_reducible repeat (first | refine blk_drewN ?_ _ | refine blk_drew ?_ | refine blk_alloc ?_ _)); exact BK202.out) hb); have n2_ := Aside0.mk (below_step (by repeat (first | (with_reducible first | exact HB.out | apply below_alloc | apply pw_below_drewN | apply below_drew1 | refine below_set ?_ GE202.out) | exact HB.out)) hb); have n3_ := Aside0.mk (hbox); have n4_ := Aside0.mk ((by rw [hg]; exact (below_size (by repeat (first | (with_reducible first | exact HB.out | apply below_alloc | apply pw_below_drewN | apply below_drew1 | refine below_set ?_ GE202.out) | exact HB.out))) : w.heap.size ≤ gb215)); have n5_ := Aside0.mk ((by rw [hg]; exact (below_size (by repeat (first | (with_reducible first | exact HB.out | apply below_alloc | apply pw_below_drewN | apply below_drew1 | refine below_set ?_ GE202.out) | exact HB.out))) : w.heap.size ≤ gb215)); have n6_ := Aside0.mk ((by rw [hg]; exact Nat.ne_of_lt (blk_lt (g := gb202) (o := .cells #[.int .i64 a1_0, .int .i64 a1_1] 28 (0, 0)) (by (with_reducible repeat (first | refine blk_drewN ?_ _ | refine blk_drew ?_ | refine blk_alloc ?_ _)); exact BK202.out)) : gb202 ≠ gb215)); have n7_ := Aside0.mk ((by rw [hg]; exact Nat.ne_of_gt (blk_lt (g := gb202) (o := .cells #[.int .i64 a1_0, .int .i64 a1_1] 28 (0, 0)) (by (with_reducible repeat (first | refine blk_drewN ?_ _ | refine blk_drew ?_ | refine blk_alloc ?_ _)); exact BK202.out)) : gb215 ≠ gb202)); clear HO_38; clear BK202; clear HB; have HO_38 := n0_; have BK202 := n1_; have HB := n2_; have BK215 := n3_; have GW215 := n4_; have GE215 := n5_; have NB202_215 := n6_; have NB215_202 := n7_; clear n0_ n1_ n2_ n3_ n4_ n5_ n6_ n7_; clear hb hbox hg; have hnb41 := NB215_202.out; have hnc41 := NB202_215.out; have hcz42_0 : w40.cell? ⟨gb215, 0, none⟩ = some (.int .i64 0) := (blk_cell BK215.out 0).trans rfl; have hcz42_1 : w40.cell? ⟨gb215, 1, none⟩ = some (.int .i64 0) := (blk_cell BK215.out 1).trans rfl; have hcz42_2 : w40.cell? ⟨gb215, 2, none⟩ = some (.bool false) := (blk_cell BK215.out 2).trans rfl; have hfz42_0 := blk_frozen BK215.out 0; have hfz42_1 := blk_frozen BK215.out 1; have hfz42_2 := blk_frozen BK215.out 2))
                              go_roundg k3
                              case measure => have := HJ4.out; have := HK2.out; have := HK3.out; omega
                              case rel => exact ⟨(wrap64 (x5_3 + ((rd_T37 t211 x40_3).f0.f1))), (wrap64 (x40_3 + 1)), (by first | rfl | (simp; done) | (simp [*]; done) | (simp [xt_ne_nil]; done)), (by first | rfl | (simp; done) | (simp [*]; done) | (simp [xt_ne_nil]; done)), H', ⟨by have := HJ4.out; have := HK2.out; have := HK3.out; omega⟩, ⟨by (with_reducible repeat (first | apply Kd.R_alloc | apply Kd.R_drewN | apply Kd.R_drew)); exact Kd.R_mono (Kd.R_far (p := ⟨gb215, 2, none⟩) (Kd.R_far (p := ⟨gb215, 1, none⟩) (Kd.R_far (p := ⟨gb215, 0, none⟩) (Kd.R_mono HO_38.out (fun k_ hk => (⟨hk, hk.2⟩ : _ ∧ k_ ≠ gb215))) (fun _ hk => hk.2) (.int .i64 ((rd_T37 t211 x40_3).f0.f0))) (fun _ hk => hk.2) (.int .i64 ((rd_T37 t211 x40_3).f0.f1))) (fun _ hk => hk.2) (.bool false)) (fun _ hk => trivial)⟩, ⟨by (with_reducible repeat (first | refine blk_drewN ?_ _ | refine blk_drew ?_ | refine blk_alloc ?_ _)); refine blk_far ?_ NB202_215.out _; (with_reducible repeat (first | refine blk_drewN ?_ _ | refine blk_drew ?_ | refine blk_alloc ?_ _)); refine blk_far ?_ NB202_215.out _; (with_reducible repeat (first | refine blk_drewN ?_ _ | refine blk_drew ?_ | refine blk_alloc ?_ _)); refine blk_far ?_ NB202_215.out _; (with_reducible repeat (first | refine blk_drewN ?_ _ | refine blk_drew ?_ | refine blk_alloc ?_ _)); exact BK202.out⟩, ⟨by repeat (first | (with_reducible first | exact HB.out | apply below_alloc | apply pw_below_drewN | apply below_drew1 | refine below_set ?_ GE202.out | refine below_set ?_ GE215.out) | exact HB.out)⟩⟩
                          · rw [if_neg c34] at H
                            exact absurd H (by simp)
                        · rw [if_neg c33] at H
                          exact absurd H (by simp)
                      · rw [if_neg c32] at H
                        have c32b0 : decide (x40_3 < (t211.length : Int)) = false := decide_eq_false c32
                        clear c32
                        replace H := Option.bind_eq_some_iff.mp H
                        obtain ⟨t216, A430, H⟩ := H
                        replace H : ((spec_RangesSize.f k3 l0).bind fun t217 => (if t216 = t217 then (some (x5_3 == a1_1)) else (some false))) = some r := H
                        have A43 := Aside0.mk A430
                        clear A430
                        replace H := Option.bind_eq_some_iff.mp H
                        obtain ⟨t217, A440, H⟩ := H
                        replace H : (if t216 = t217 then (some (x5_3 == a1_1)) else (some false)) = some r := H
                        have A44 := Aside0.mk A440
                        clear A440
                        by_cases c45 : t216 = t217
                        · rw [if_pos c45] at H
                          have c45b0 : (t216 == t217) = true := beq_iff_eq.mpr c45
                          have c45b1 : (t216 != t217) = false := bne_eq_false_iff_eq.mpr c45
                          clear c45
                          obtain rfl := Option.some.inj H
                          go_wp2_with (first | ((with_reducible refine gate_callee (f := 28) rfl ?_); refine goesL_ (some 54) rfl rfl Try.func28 (by kernel_rfl) rfl #[.slice A0 l0.length c0] rfl (by (try simp only [List.map_toArray, List.map_cons, List.map_nil]); first | done | rfl | (simp only [List.length_drop, List.length_take]; rfl)) ?_; (with_reducible refine (impl_RangesSize.calls k3 _ _ l0 t216 _ ?side1 ?side2 A43.out).mono ?_); (case side1 => repeat (first | exact (Kd.C_below HR0.out HB.out) | (with_reducible refine Kd.C_alloc ?_ _) | (with_reducible refine Kd.C_drewN ?_ _) | (with_reducible refine Kd.C_drew ?_))); (case side2 => exact HC0.out); rintro e w46 ⟨rfl, hb⟩; refine ⟨_, rfl, ?_⟩; have n0_ := Aside0.mk (Kd.R_below (by (with_reducible repeat (first | apply Kd.R_alloc | apply Kd.R_drewN | apply Kd.R_drew)); exact HO_38.out) hb); have n1_ := Aside0.mk (blk_below (g := gb202) (o := .cells #[.int .i64 a1_0, .int .i64 a1_1] 28 (0, 0)) (by (with_reducible repeat (first | refine blk_drewN ?_ _ | refine blk_drew ?_ | refine blk_alloc ?_ _)); exact BK202.out) hb); have n2_ := Aside0.mk (below_step (by repeat (first | (with_reducible first | exact HB.out | apply below_alloc | apply pw_below_drewN | apply below_drew1 | refine below_set ?_ GE202.out) | exact HB.out)) hb); clear HO_38; clear BK202; clear HB; have HO_38 := n0_; have BK202 := n1_; have HB := n2_; clear n0_ n1_ n2_; (try clear hb); (try clear hb2); (try clear hk); (try clear hi)) | ((with_reducible refine gate_callee (f := 29) rfl ?_); refine goesL_ (some 56) rfl rfl Try.func29 (by kernel_rfl) rfl #[.slice A0 l0.length c0] rfl (by (try simp only [List.map_toArray, List.map_cons, List.map_nil]); first | done | rfl | (simp only [List.length_drop, List.length_take]; rfl)) ?_; (with_reducible refine (spec_RangesSize.calls k3 _ _ l0 t217 _ ?side1 ?side2 A44.out).mono ?_); (case side1 => repeat (first | exact (Kd.C_below HR0.out HB.out) | (with_reducible refine Kd.C_alloc ?_ _) | (with_reducible refine Kd.C_drewN ?_ _) | (with_reducible refine Kd.C_drew ?_))); (case side2 => exact HC0.out); rintro e w47 ⟨rfl, hb⟩; refine ⟨_, rfl, ?_⟩; have n0_ := Aside0.mk (Kd.R_below (by (with_reducible repeat (first | apply Kd.R_alloc | apply Kd.R_drewN | apply Kd.R_drew)); exact HO_38.out) hb); have n1_ := Aside0.mk (blk_below (g := gb202) (o := .cells #[.int .i64 a1_0, .int .i64 a1_1] 28 (0, 0)) (by (with_reducible repeat (first | refine blk_drewN ?_ _ | refine blk_drew ?_ | refine blk_alloc ?_ _)); exact BK202.out) hb); have n2_ := Aside0.mk (below_step (by repeat (first | (with_reducible first | exact HB.out | apply below_alloc | apply pw_below_drewN | apply below_drew1 | refine below_set ?_ GE202.out) | exact HB.out)) hb); clear HO_38; clear BK202; clear HB; have HO_38 := n0_; have BK202 := n1_; have HB := n2_; clear n0_ n1_ n2_; (try clear hb); (try clear hb2); (try clear hk); (try clear hi); have hcz48_0 : w47.cell? ⟨gb202, 0, none⟩ = some (.int .i64 a1_0) := (blk_cell BK202.out 0).trans rfl; have hcz48_1 : w47.cell? ⟨gb202, 1, none⟩ = some (.int .i64 a1_1) := (blk_cell BK202.out 1).trans rfl; have hfz48_0 := blk_frozen BK202.out 0; have hfz48_1 := blk_frozen BK202.out 1))
                          go_ret
                          exact ⟨by first | rfl | (simp [errW_none, errW_some] <;> rfl) | (simp [*, errW_none, errW_some] <;> rfl), by repeat (first | (with_reducible first | exact HB.out | apply below_alloc | apply pw_below_drewN | apply below_drew1 | refine below_set ?_ GE202.out) | exact HB.out)⟩
                        · rw [if_neg c45] at H
                          have c45b0 : (t216 == t217) = false := beq_eq_false_iff_ne.mpr c45
                          have c45b1 : (t216 != t217) = true := bne_iff_ne.mpr c45
                          obtain rfl := Option.some.inj H
                          go_wp2_with (first | ((with_reducible refine gate_callee (f := 28) rfl ?_); refine goesL_ (some 54) rfl rfl Try.func28 (by kernel_rfl) rfl #[.slice A0 l0.length c0] rfl (by (try simp only [List.map_toArray, List.map_cons, List.map_nil]); first | done | rfl | (simp only [List.length_drop, List.length_take]; rfl)) ?_; (with_reducible refine (impl_RangesSize.calls k3 _ _ l0 t216 _ ?side1 ?side2 A43.out).mono ?_); (case side1 => repeat (first | exact (Kd.C_below HR0.out HB.out) | (with_reducible refine Kd.C_alloc ?_ _) | (with_reducible refine Kd.C_drewN ?_ _) | (with_reducible refine Kd.C_drew ?_))); (case side2 => exact HC0.out); rintro e w49 ⟨rfl, hb⟩; refine ⟨_, rfl, ?_⟩; have n0_ := Aside0.mk (Kd.R_below (by (with_reducible repeat (first | apply Kd.R_alloc | apply Kd.R_drewN | apply Kd.R_drew)); exact HO_38.out) hb); have n1_ := Aside0.mk (blk_below (g := gb202) (o := .cells #[.int .i64 a1_0, .int .i64 a1_1] 28 (0, 0)) (by (with_reducible repeat (first | refine blk_drewN ?_ _ | refine blk_drew ?_ | refine blk_alloc ?_ _)); exact BK202.out) hb); have n2_ := Aside0.mk (below_step (by repeat (first | (with_reducible first | exact HB.out | apply below_alloc | apply pw_below_drewN | apply below_drew1 | refine below_set ?_ GE202.out) | exact HB.out)) hb); clear HO_38; clear BK202; clear HB; have HO_38 := n0_; have BK202 := n1_; have HB := n2_; clear n0_ n1_ n2_; (try clear hb); (try clear hb2); (try clear hk); (try clear hi)) | ((with_reducible refine gate_callee (f := 29) rfl ?_); refine goesL_ (some 56) rfl rfl Try.func29 (by kernel_rfl) rfl #[.slice A0 l0.length c0] rfl (by (try simp only [List.map_toArray, List.map_cons, List.map_nil]); first | done | rfl | (simp only [List.length_drop, List.length_take]; rfl)) ?_; (with_reducible refine (spec_RangesSize.calls k3 _ _ l0 t217 _ ?side1 ?side2 A44.out).mono ?_); (case side1 => repeat (first | exact (Kd.C_below HR0.out HB.out) | (with_reducible refine Kd.C_alloc ?_ _) | (with_reducible refine Kd.C_drewN ?_ _) | (with_reducible refine Kd.C_drew ?_))); (case side2 => exact HC0.out); rintro e w50 ⟨rfl, hb⟩; refine ⟨_, rfl, ?_⟩; have n0_ := Aside0.mk (Kd.R_below (by (with_reducible repeat (first | apply Kd.R_alloc | apply Kd.R_drewN | apply Kd.R_drew)); exact HO_38.out) hb); have n1_ := Aside0.mk (blk_below (g := gb202) (o := .cells #[.int .i64 a1_0, .int .i64 a1_1] 28 (0, 0)) (by (with_reducible repeat (first | refine blk_drewN ?_ _ | refine blk_drew ?_ | refine blk_alloc ?_ _)); exact BK202.out) hb); have n2_ := Aside0.mk (below_step (by repeat (first | (with_reducible first | exact HB.out | apply below_alloc | apply pw_below_drewN | apply below_drew1 | refine below_set ?_ GE202.out) | exact HB.out)) hb); clear HO_38; clear BK202; clear HB; have HO_38 := n0_; have BK202 := n1_; have HB := n2_; clear n0_ n1_ n2_; (try clear hb); (try clear hb2); (try clear hk); (try clear hi)))
                          go_ret
                          exact ⟨by first | rfl | (simp [errW_none, errW_some] <;> rfl) | (simp [*, errW_none, errW_some] <;> rfl), by repeat (first | (with_reducible first | exact HB.out | apply below_alloc | apply pw_below_drewN | apply below_drew1 | refine below_set ?_ GE202.out) | exact HB.out)⟩
          · replace c16 := Bool.eq_false_iff.mpr c16
            subst c16
            have H1 : (some false) = some r := by rw [if_neg (show ¬ (false = true) by decide)] at H; exact H
            clear H
            have H := H1
            clear H1
            obtain rfl := Option.some.inj H
            go_wp2_with (first | ((with_reducible refine gate_callee (f := 13) rfl ?_); refine goesL_ (some 21) rfl rfl Try.func13 (by kernel_rfl) rfl #[] rfl (by (try simp only [List.map_toArray, List.map_cons, List.map_nil]); first | done | rfl | (simp only [List.length_drop, List.length_take]; rfl)) ?_; (with_reducible refine (laws_rangeAwake.calls kj4  false _ A15.out).mono ?_); rintro e w51 ⟨rfl, hb⟩; refine ⟨_, rfl, ?_⟩; have n0_ := Aside0.mk (blk_below (g := gb202) (o := .cells #[.int .i64 a1_0, .int .i64 a1_1] 28 (0, 0)) (by (with_reducible repeat (first | refine blk_drewN ?_ _ | refine blk_drew ?_ | refine blk_alloc ?_ _)); exact BK202.out) hb); have n1_ := Aside0.mk (below_step (by repeat (first | (with_reducible first | exact HB.out | apply below_alloc | apply pw_below_drewN | apply below_drew1 | refine below_set ?_ GE202.out) | exact HB.out)) hb); clear BK202; clear HB; have BK202 := n0_; have HB := n1_; clear n0_ n1_; (try clear hb); (try clear hb2); (try clear hk); (try clear hi)))
            go_ret
            exact ⟨by first | rfl | (simp [errW_none, errW_some] <;> rfl) | (simp [*, errW_none, errW_some] <;> rfl), by repeat (first | (with_reducible first | exact HB.out | apply below_alloc | apply pw_below_drewN | apply below_drew1 | refine below_set ?_ GE202.out) | exact HB.out)⟩

end Go.Proofs.Ytfegihmnpcjdgaa.PFnRangesSize

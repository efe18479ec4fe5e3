-- Written by a program of this session's (over the kit's print), with contracts proved by hand among what it calls.
import Derived.Test.YtfegihmnpcjdgaaPFnRangesFillx0
import Derived.Test.YtfegihmnpcjdgaaPFnRangesFillx3
import Derived.Test.YtfegihmnpcjdgaaPFnRangesFillx4
import Derived.Test.YtfegihmnpcjdgaaPFnRangesFillx5
import Derived.Test.YtfegihmnpcjdgaaPFnRangesFillx6
namespace Go.Proofs.Ytfegihmnpcjdgaa.PFnRangesFill
open Go.RowKit Go.Proofs.YtfegihmnpcjdgaaW.PrintWords Go.Proofs.YtfegihmnpcjdgaaW.PrintLast Go.Proofs.YtfegihmnpcjdgaaW.PrintMore
attribute [local go_sem] max2_int min2_int max_two min_two max_three min_three max_four min_four   -- for this text's walks alone
set_option linter.unusedVariables false
set_option linter.unusedSimpArgs false

/-! ### laws_FnRangesFill: function 10 -/
mutual
def laws_FnRangesFill.j0 : Nat → List (S28) → Int → Bool → Int → Int → Option (Bool)
  | 0, _, _, _, _, _ => none
  | k + 1, x0, x2, x34, x248000, x248001 => if x34 = true then (some true) else ((laws_rangeAwake.f k).bind fun t250 => (if t250 = true then (if x2 = 0 then (none) else (if (wrap64 (Int.tdiv x248001 x2)) > 30 then (laws_FnRangesFill.j1 k x0 x2 true x248000 x248001) else (laws_FnRangesFill.j1 k x0 x2 (decide (x248001 < 1)) x248000 x248001))) else (some false)))
def laws_FnRangesFill.j1 : Nat → List (S28) → Int → Bool → Int → Int → Option (Bool)
  | 0, _, _, _, _, _ => none
  | k + 1, x0, x2, x47, x248000, x248001 => if x47 = true then (some true) else ((some (([] : List (S28)) : List (S28))).bind fun y251 => (if y251.length + x0.length < 8796093022208 then (laws_FnRangesFill.l0 k x0 x2 (y251 ++ x0) 0 x248000 x248001) else (none)))
def laws_FnRangesFill.l0 : Nat → List (S28) → Int → List (S28) → Int → Int → Int → Option (Bool)
  | 0, _, _, _, _, _, _ => none
  | k + 1, x0, x2, x8, x9, x248000, x248001 => (impl_RangesPresent.f x8 x248000 x248001).bind fun t257 => (if t257 = true then ((some (([] : List (S28)) : List (S28))).bind fun y258 => (if y258.length + x0.length < 8796093022208 then ((some (y258 ++ x0 : List (S28))).bind fun y261 => ((some (([(⟨x248000, x248001⟩ : S28)] : List (S28)) : List (S28))).bind fun y264 => (if y261.length + y264.length < 8796093022208 then ((some (y261 ++ y264 : List (S28))).bind fun y267 => ((impl_RangesEqual.f x8 y267).bind fun t270 => (if t270 = true then ((impl_RangesSize.f k x0).bind fun t271 => ((impl_RangesSize.f k y267).bind fun t272 => (some ((wrap64 (t271 + x9)) == t272)))) else (some false)))) else (none)))) else (none))) else (if (x8.length : Int) > 120 then (some false) else ((impl_RangesMissing.f x8 x248000 x248001).bind fun bt273 => (if bt273.2 < 1 then (some false) else ((impl_RangesFind.f x8 bt273.1 bt273.2).bind fun bt276 => (if bt276.2.2.2.2 = true then (some false) else (if bt276.1 = bt273.1 then (if (mn bt276.2.1 x2) < 1 then (some false) else ((some (([(⟨bt276.1, mn bt276.2.1 x2⟩ : S28)] : List (S28)) : List (S28))).bind fun y283 => (if x8.length + y283.length < 8796093022208 then (laws_FnRangesFill.l0 k x0 x2 (x8 ++ y283) (wrap64 (x9 + (mn bt276.2.1 x2))) x248000 x248001) else (none)))) else (some false))))))))
end
def laws_FnRangesFill.f (k : Nat) (l0 : List (S28)) (a1_0 : Int) (a1_1 : Int) (a2 : Int) : Option (Bool) := if (l0.length : Int) > 2147483647 then (some true) else ((spec_RangesIn.f k l0).bind fun t248 => (if t248 = true then (if (l0.length : Int) > 20 then (laws_FnRangesFill.j0 k l0 a2 true a1_0 a1_1) else ((spec_RangeAsk.f a1_0 a1_1).bind fun t249 => (if t249 = true then (laws_FnRangesFill.j0 k l0 a2 (decide (a2 < 1)) a1_0 a1_1) else (laws_FnRangesFill.j0 k l0 a2 true a1_0 a1_1)))) else (laws_FnRangesFill.j0 k l0 a2 true a1_0 a1_1)))
theorem laws_FnRangesFill.mono_l : ∀ k, (∀ y0 y1 y2 y3 y4, LeO (laws_FnRangesFill.j0 k y0 y1 y2 y3 y4) (laws_FnRangesFill.j0 (k + 1) y0 y1 y2 y3 y4)) ∧ (∀ y0 y1 y2 y3 y4, LeO (laws_FnRangesFill.j1 k y0 y1 y2 y3 y4) (laws_FnRangesFill.j1 (k + 1) y0 y1 y2 y3 y4)) ∧ (∀ y0 y1 y2 y3 y4 y5, LeO (laws_FnRangesFill.l0 k y0 y1 y2 y3 y4 y5) (laws_FnRangesFill.l0 (k + 1) y0 y1 y2 y3 y4 y5))
  | 0 => ⟨fun _ _ _ _ _ r h => by simp [laws_FnRangesFill.j0] at h, fun _ _ _ _ _ r h => by simp [laws_FnRangesFill.j1] at h, fun _ _ _ _ _ _ r h => by simp [laws_FnRangesFill.l0] at h⟩
  | k + 1 => by
    obtain ⟨ih0, ih1, ih2⟩ := laws_FnRangesFill.mono_l k
    refine ⟨?_, ?_, ?_⟩
    · intro y0 y1 y2 y3 y4
      unfold laws_FnRangesFill.j0
      repeat' first
      | (with_reducible exact ih0 _ _ _ _ _)
      | (with_reducible exact ih1 _ _ _ _ _)
      | (with_reducible exact ih2 _ _ _ _ _ _)
      | (with_reducible exact impl_RangesSize.mono _ _)
      | (with_reducible exact laws_rangeAwake.mono _)
      | (with_reducible exact spec_RangesIn.mono _ _)
      | (with_reducible exact LeO.refl _)
      | (with_reducible exact LeO.none _)
      | (with_reducible refine LeO.ite ?_ ?_)
      | (with_reducible refine LeO.bind ?_ (fun _ => ?_))
      | exact ih0 _ _ _ _ _
      | exact ih1 _ _ _ _ _
      | exact ih2 _ _ _ _ _ _
      | exact impl_RangesSize.mono _ _
      | exact laws_rangeAwake.mono _
      | exact spec_RangesIn.mono _ _
      | exact LeO.none _
      | refine LeO.ite ?_ ?_
      | refine LeO.bind ?_ (fun _ => ?_)
    · intro y0 y1 y2 y3 y4
      unfold laws_FnRangesFill.j1
      repeat' first
      | (with_reducible exact ih0 _ _ _ _ _)
      | (with_reducible exact ih1 _ _ _ _ _)
      | (with_reducible exact ih2 _ _ _ _ _ _)
      | (with_reducible exact impl_RangesSize.mono _ _)
      | (with_reducible exact laws_rangeAwake.mono _)
      | (with_reducible exact spec_RangesIn.mono _ _)
      | (with_reducible exact LeO.refl _)
      | (with_reducible exact LeO.none _)
      | (with_reducible refine LeO.ite ?_ ?_)
      | (with_reducible refine LeO.bind ?_ (fun _ => ?_))
      | exact ih0 _ _ _ _ _
      | exact ih1 _ _ _ _ _
      | exact ih2 _ _ _ _ _ _
      | exact impl_RangesSize.mono _ _
      | exact laws_rangeAwake.mono _
      | exact spec_RangesIn.mono _ _
      | exact LeO.none _
      | refine LeO.ite ?_ ?_
      | refine LeO.bind ?_ (fun _ => ?_)
    · intro y0 y1 y2 y3 y4 y5
      unfold laws_FnRangesFill.l0
      repeat' first
      | (with_reducible exact ih0 _ _ _ _ _)
      | (with_reducible exact ih1 _ _ _ _ _)
      | (with_reducible exact ih2 _ _ _ _ _ _)
      | (with_reducible exact impl_RangesSize.mono _ _)
      | (with_reducible exact laws_rangeAwake.mono _)
      | (with_reducible exact spec_RangesIn.mono _ _)
      | (with_reducible exact LeO.refl _)
      | (with_reducible exact LeO.none _)
      | (with_reducible refine LeO.ite ?_ ?_)
      | (with_reducible refine LeO.bind ?_ (fun _ => ?_))
      | exact ih0 _ _ _ _ _
      | exact ih1 _ _ _ _ _
      | exact ih2 _ _ _ _ _ _
      | exact impl_RangesSize.mono _ _
      | exact laws_rangeAwake.mono _
      | exact spec_RangesIn.mono _ _
      | exact LeO.none _
      | refine LeO.ite ?_ ?_
      | refine LeO.bind ?_ (fun _ => ?_)
theorem laws_FnRangesFill.mono : ∀ a0 a1 a2 a3 k, LeO (laws_FnRangesFill.f k a0 a1 a2 a3) (laws_FnRangesFill.f (k + 1) a0 a1 a2 a3) := by
  intro a0 a1 a2 a3 k
  obtain ⟨ih0, ih1, ih2⟩ := laws_FnRangesFill.mono_l k
  unfold laws_FnRangesFill.f
  repeat' first
      | (with_reducible exact ih0 _ _ _ _ _)
      | (with_reducible exact ih1 _ _ _ _ _)
      | (with_reducible exact ih2 _ _ _ _ _ _)
      | (with_reducible exact impl_RangesSize.mono _ _)
      | (with_reducible exact laws_rangeAwake.mono _)
      | (with_reducible exact spec_RangesIn.mono _ _)
      | (with_reducible exact LeO.refl _)
      | (with_reducible exact LeO.none _)
      | (with_reducible refine LeO.ite ?_ ?_)
      | (with_reducible refine LeO.bind ?_ (fun _ => ?_))
      | exact ih0 _ _ _ _ _
      | exact ih1 _ _ _ _ _
      | exact ih2 _ _ _ _ _ _
      | exact impl_RangesSize.mono _ _
      | exact laws_rangeAwake.mono _
      | exact spec_RangesIn.mono _ _
      | exact LeO.none _
      | refine LeO.ite ?_ ?_
      | refine LeO.bind ?_ (fun _ => ?_)
theorem at_world {P : Program} {c : Code} {Q : Exit → Act → World → Prop} {a : Act} {W : World} (h : ∀ wz, wz = W → Code.wp P c Q a wz) : Code.wp P c Q a W := h W rfl
set_option maxHeartbeats 40000000 in
set_option maxRecDepth 100000 in
theorem laws_FnRangesFill.calls (k : Nat) (A0 : Option Addr) (c0 : Nat) (l0 : List (S28)) (a1_0 : Int) (a1_1 : Int) (a2 : Int) (r : Bool) (w : World) (hr0 : Kd.C k28 w A0 l0.length l0) (hc0 : l0.length ≤ c0) (h : laws_FnRangesFill.f k l0 a1_0 a1_1 a2 = some r) :
    Calls Try.prog 10 #[.slice A0 l0.length c0, .agg #[.int .i64 a1_0, .int .i64 a1_1], .int .i64 a2] w fun e w' => e = .returned (.bool r) ∧ Below w.heap.size w w' := by
  have hu28 := Try.underlying28
  have HR0 := Aside0.mk hr0
  have HC0 := Aside0.mk hc0
  clear hr0 hc0
  have HB := Aside0.mk (Below.refl w.heap.size w)
  have H : (if (l0.length : Int) > 2147483647 then (some true) else ((spec_RangesIn.f k l0).bind fun t248 => (if t248 = true then (if (l0.length : Int) > 20 then (laws_FnRangesFill.j0 k l0 a2 true a1_0 a1_1) else ((spec_RangeAsk.f a1_0 a1_1).bind fun t249 => (if t249 = true then (laws_FnRangesFill.j0 k l0 a2 (decide (a2 < 1)) a1_0 a1_1) else (laws_FnRangesFill.j0 k l0 a2 true a1_0 a1_1)))) else (laws_FnRangesFill.j0 k l0 a2 true a1_0 a1_1)))) = some r := h
  clear h
  by_cases c4 : (l0.length : Int) > 2147483647
  · rw [if_pos c4] at H
    have c4b0 : decide (2147483647 < (l0.length : Int)) = true := decide_eq_true c4
    have c4b1 : decide (2147483647 < l0.length) = true := decide_eq_true (by omega)
    clear c4
    obtain rfl := Option.some.inj H
    go_enter Try.func10, Try.ntmps10
    go_wp2_with (first | ((with_reducible refine gate_dst (N := 4) rfl ?_); (try (refine gate_guard (by rfl) ?_; dsimp only)); refine box_event ?hg (N := 4) ?hd (cs := #[.int .i64 a1_0, .int .i64 a1_1]) (t := 28) ?hr ?_; (case hd => rfl); (case hg => rfl); (case hr => first | (go_simp; done) | (go_simp; rfl)); intro gb247 hg w5 hbox hb; have n0_ := Aside0.mk (below_step (by repeat (first | (with_reducible first | exact HB.out | apply below_alloc | apply pw_below_drewN | apply below_drew1) | exact HB.out)) hb); have n1_ := Aside0.mk (hbox); have n2_ := Aside0.mk ((by rw [hg]; exact (below_size (by repeat (first | (with_reducible first | exact HB.out | apply below_alloc | apply pw_below_drewN | apply below_drew1) | exact HB.out))) : w.heap.size ≤ gb247)); have n3_ := Aside0.mk ((by rw [hg]; exact (below_size (by repeat (first | (with_reducible first | exact HB.out | apply below_alloc | apply pw_below_drewN | apply below_drew1) | exact HB.out))) : w.heap.size ≤ gb247)); clear HB; have HB := n0_; have BK247 := n1_; have GW247 := n2_; have GE247 := n3_; clear n0_ n1_ n2_ n3_; clear hb hbox hg))
    go_ret
    exact ⟨by first | rfl | (simp [errW_none, errW_some] <;> rfl) | (simp [*, errW_none, errW_some] <;> rfl), by repeat (first | (with_reducible first | exact HB.out | apply below_alloc | apply pw_below_drewN | apply below_drew1 | refine below_set ?_ GE247.out) | exact HB.out)⟩
  · rw [if_neg c4] at H
    have c4b0 : decide (2147483647 < (l0.length : Int)) = false := decide_eq_false c4
    have c4b1 : decide (2147483647 < l0.length) = false := decide_eq_false (by omega)
    clear c4
    have HC6 := Aside0.mk H
    clear H
    go_enter Try.func10, Try.ntmps10
    go_upto_region 3 with (first | ((with_reducible refine gate_dst (N := 4) rfl ?_); (try (refine gate_guard (by rfl) ?_; dsimp only)); refine box_event ?hg (N := 4) ?hd (cs := #[.int .i64 a1_0, .int .i64 a1_1]) (t := 28) ?hr ?_; (case hd => rfl); (case hg => rfl); (case hr => first | (go_simp; done) | (go_simp; rfl)); intro gb247 hg w7 hbox hb; have n0_ := Aside0.mk (below_step (by repeat (first | (with_reducible first | exact HB.out | apply below_alloc | apply pw_below_drewN | apply below_drew1) | exact HB.out)) hb); have n1_ := Aside0.mk (hbox); have n2_ := Aside0.mk ((by rw [hg]; exact (below_size (by repeat (first | (with_reducible first | exact HB.out | apply below_alloc | apply pw_below_drewN | apply below_drew1) | exact HB.out))) : w.heap.size ≤ gb247)); have n3_ := Aside0.mk ((by rw [hg]; exact (below_size (by repeat (first | (with_reducible first | exact HB.out | apply below_alloc | apply pw_below_drewN | apply below_drew1) | exact HB.out))) : w.heap.size ≤ gb247)); clear HB; have HB := n0_; have BK247 := n1_; have GW247 := n2_; have GE247 := n3_; clear n0_ n1_ n2_ n3_; clear hb hbox hg))
    (try simp only [Act.put, List.setIfInBounds_toArray, List.set_cons_zero, List.set_cons_succ])
    go_cut [34] (fun v34 wc => ∃ (kq : Nat) (x34_5 : Bool), v34 = .bool x34_5 ∧ Aside0 (laws_FnRangesFill.j0 kq l0 a2 x34_5 a1_0 a1_1 = some r) ∧ Aside0 (kq ≤ k) ∧ Aside0 (wc.heap[gb247]? = some (.cells #[.int .i64 a1_0, .int .i64 a1_1] 28 (0, 0))) ∧ Aside0 (Below w.heap.size w wc))
    case first =>
      have H := HC6.out
      clear HC6
      replace H := Option.bind_eq_some_iff.mp H
      obtain ⟨t248, A80, H⟩ := H
      replace H : (if t248 = true then (if (l0.length : Int) > 20 then (laws_FnRangesFill.j0 k l0 a2 true a1_0 a1_1) else ((spec_RangeAsk.f a1_0 a1_1).bind fun t249 => (if t249 = true then (laws_FnRangesFill.j0 k l0 a2 (decide (a2 < 1)) a1_0 a1_1) else (laws_FnRangesFill.j0 k l0 a2 true a1_0 a1_1)))) else (laws_FnRangesFill.j0 k l0 a2 true a1_0 a1_1)) = some r := H
      have A8 := Aside0.mk A80
      clear A80
      by_cases c9 : t248 = true
      · subst c9
        have H1 : (if (l0.length : Int) > 20 then (laws_FnRangesFill.j0 k l0 a2 true a1_0 a1_1) else ((spec_RangeAsk.f a1_0 a1_1).bind fun t249 => (if t249 = true then (laws_FnRangesFill.j0 k l0 a2 (decide (a2 < 1)) a1_0 a1_1) else (laws_FnRangesFill.j0 k l0 a2 true a1_0 a1_1)))) = some r := by rw [if_pos rfl] at H; exact H
        clear H
        have H := H1
        clear H1
        by_cases c10 : (l0.length : Int) > 20
        · rw [if_pos c10] at H
          have c10b0 : decide (20 < (l0.length : Int)) = true := decide_eq_true c10
          have c10b1 : decide (20 < l0.length) = true := decide_eq_true (by omega)
          clear c10
          (first | rw [c10b0] | (simp only [i64_w, i32_w]; rw [c10b0]) | skip)
          have H' := Aside0.mk H
          clear H
          go_wp2_with (first | ((with_reducible refine gate_callee (f := 12) rfl ?_); refine goesL_ (some 19) rfl rfl Try.func12 (by kernel_rfl) rfl #[.slice A0 l0.length c0] rfl (by (try simp only [List.map_toArray, List.map_cons, List.map_nil]); first | done | rfl | (simp only [List.length_drop, List.length_take]; rfl)) ?_; (with_reducible refine (spec_RangesIn.calls k _ _ l0 true _ ?side1 ?side2 A8.out).mono ?_); (case side1 => repeat (first | exact (Kd.C_below HR0.out HB.out) | (with_reducible refine Kd.C_alloc ?_ _) | (with_reducible refine Kd.C_drewN ?_ _) | (with_reducible refine Kd.C_drew ?_))); (case side2 => exact HC0.out); rintro e w11 ⟨rfl, hb⟩; refine ⟨_, rfl, ?_⟩; have n0_ := Aside0.mk (blk_below (g := gb247) (o := .cells #[.int .i64 a1_0, .int .i64 a1_1] 28 (0, 0)) (by (with_reducible repeat (first | refine blk_drewN ?_ _ | refine blk_drew ?_ | refine blk_alloc ?_ _)); exact BK247.out) hb); have n1_ := Aside0.mk (below_step (by repeat (first | (with_reducible first | exact HB.out | apply below_alloc | apply pw_below_drewN | apply below_drew1 | refine below_set ?_ GE247.out) | exact HB.out)) hb); clear BK247; clear HB; have BK247 := n0_; have HB := n1_; clear n0_ n1_; (try clear hb); (try clear hb2); (try clear hk); (try clear hi)))
          go_meet
          case rel => exact ⟨_, (true), (by first | rfl | (simp; done) | (simp [*]; done) | (simp [xt_ne_nil]; done)), H', ⟨by first | omega | exact Nat.le_refl _⟩, ⟨by (with_reducible repeat (first | refine blk_drewN ?_ _ | refine blk_drew ?_ | refine blk_alloc ?_ _)); exact BK247.out⟩, ⟨by repeat (first | (with_reducible first | exact HB.out | apply below_alloc | apply pw_below_drewN | apply below_drew1 | refine below_set ?_ GE247.out) | exact HB.out)⟩⟩
        · rw [if_neg c10] at H
          have c10b0 : decide (20 < (l0.length : Int)) = false := decide_eq_false c10
          have c10b1 : decide (20 < l0.length) = false := decide_eq_false (by omega)
          clear c10
          (first | rw [c10b0] | (simp only [i64_w, i32_w]; rw [c10b0]) | skip)
          replace H := Option.bind_eq_some_iff.mp H
          obtain ⟨t249, A120, H⟩ := H
          replace H : (if t249 = true then (laws_FnRangesFill.j0 k l0 a2 (decide (a2 < 1)) a1_0 a1_1) else (laws_FnRangesFill.j0 k l0 a2 true a1_0 a1_1)) = some r := H
          have A12 := Aside0.mk A120
          clear A120
          by_cases c13 : t249 = true
          · subst c13
            have H1 : (laws_FnRangesFill.j0 k l0 a2 (decide (a2 < 1)) a1_0 a1_1) = some r := by rw [if_pos rfl] at H; exact H
            clear H
            have H := H1
            clear H1
            have H' := Aside0.mk H
            clear H
            go_wp2_with (first | ((with_reducible refine gate_callee (f := 12) rfl ?_); refine goesL_ (some 19) rfl rfl Try.func12 (by kernel_rfl) rfl #[.slice A0 l0.length c0] rfl (by (try simp only [List.map_toArray, List.map_cons, List.map_nil]); first | done | rfl | (simp only [List.length_drop, List.length_take]; rfl)) ?_; (with_reducible refine (spec_RangesIn.calls k _ _ l0 true _ ?side1 ?side2 A8.out).mono ?_); (case side1 => repeat (first | exact (Kd.C_below HR0.out HB.out) | (with_reducible refine Kd.C_alloc ?_ _) | (with_reducible refine Kd.C_drewN ?_ _) | (with_reducible refine Kd.C_drew ?_))); (case side2 => exact HC0.out); rintro e w14 ⟨rfl, hb⟩; refine ⟨_, rfl, ?_⟩; have n0_ := Aside0.mk (blk_below (g := gb247) (o := .cells #[.int .i64 a1_0, .int .i64 a1_1] 28 (0, 0)) (by (with_reducible repeat (first | refine blk_drewN ?_ _ | refine blk_drew ?_ | refine blk_alloc ?_ _)); exact BK247.out) hb); have n1_ := Aside0.mk (below_step (by repeat (first | (with_reducible first | exact HB.out | apply below_alloc | apply pw_below_drewN | apply below_drew1 | refine below_set ?_ GE247.out) | exact HB.out)) hb); clear BK247; clear HB; have BK247 := n0_; have HB := n1_; clear n0_ n1_; (try clear hb); (try clear hb2); (try clear hk); (try clear hi); have hcz15_0 : w14.cell? ⟨gb247, 0, none⟩ = some (.int .i64 a1_0) := (blk_cell BK247.out 0).trans rfl; have hcz15_1 : w14.cell? ⟨gb247, 1, none⟩ = some (.int .i64 a1_1) := (blk_cell BK247.out 1).trans rfl; have hfz15_0 := blk_frozen BK247.out 0; have hfz15_1 := blk_frozen BK247.out 1) | (go_at_call 16; (with_reducible refine (spec_RangeAsk.calls a1_0 a1_1 true _ A12.out).mono ?_); rintro e w16 ⟨rfl, hb⟩; have n0_ := Aside0.mk (blk_below (g := gb247) (o := .cells #[.int .i64 a1_0, .int .i64 a1_1] 28 (0, 0)) (by (with_reducible repeat (first | refine blk_drewN ?_ _ | refine blk_drew ?_ | refine blk_alloc ?_ _)); exact BK247.out) hb); have n1_ := Aside0.mk (below_step (by repeat (first | (with_reducible first | exact HB.out | apply below_alloc | apply pw_below_drewN | apply below_drew1 | refine below_set ?_ GE247.out) | exact HB.out)) hb); clear BK247; clear HB; have BK247 := n0_; have HB := n1_; clear n0_ n1_; (try clear hb); (try clear hb2); (try clear hk); (try clear hi)))
            go_meet
            case rel => exact ⟨_, (decide (a2 < 1)), (by first | rfl | (simp; done) | (simp [*]; done) | (simp [xt_ne_nil]; done)), H', ⟨by first | omega | exact Nat.le_refl _⟩, ⟨by (with_reducible repeat (first | refine blk_drewN ?_ _ | refine blk_drew ?_ | refine blk_alloc ?_ _)); exact BK247.out⟩, ⟨by repeat (first | (with_reducible first | exact HB.out | apply below_alloc | apply pw_below_drewN | apply below_drew1 | refine below_set ?_ GE247.out) | exact HB.out)⟩⟩
          · replace c13 := Bool.eq_false_iff.mpr c13
            subst c13
            have H1 : (laws_FnRangesFill.j0 k l0 a2 true a1_0 a1_1) = some r := by rw [if_neg (show ¬ (false = true) by decide)] at H; exact H
            clear H
            have H := H1
            clear H1
            have H' := Aside0.mk H
            clear H
            go_wp2_with (first | ((with_reducible refine gate_callee (f := 12) rfl ?_); refine goesL_ (some 19) rfl rfl Try.func12 (by kernel_rfl) rfl #[.slice A0 l0.length c0] rfl (by (try simp only [List.map_toArray, List.map_cons, List.map_nil]); first | done | rfl | (simp only [List.length_drop, List.length_take]; rfl)) ?_; (with_reducible refine (spec_RangesIn.calls k _ _ l0 true _ ?side1 ?side2 A8.out).mono ?_); (case side1 => repeat (first | exact (Kd.C_below HR0.out HB.out) | (with_reducible refine Kd.C_alloc ?_ _) | (with_reducible refine Kd.C_drewN ?_ _) | (with_reducible refine Kd.C_drew ?_))); (case side2 => exact HC0.out); rintro e w17 ⟨rfl, hb⟩; refine ⟨_, rfl, ?_⟩; have n0_ := Aside0.mk (blk_below (g := gb247) (o := .cells #[.int .i64 a1_0, .int .i64 a1_1] 28 (0, 0)) (by (with_reducible repeat (first | refine blk_drewN ?_ _ | refine blk_drew ?_ | refine blk_alloc ?_ _)); exact BK247.out) hb); have n1_ := Aside0.mk (below_step (by repeat (first | (with_reducible first | exact HB.out | apply below_alloc | apply pw_below_drewN | apply below_drew1 | refine below_set ?_ GE247.out) | exact HB.out)) hb); clear BK247; clear HB; have BK247 := n0_; have HB := n1_; clear n0_ n1_; (try clear hb); (try clear hb2); (try clear hk); (try clear hi); have hcz18_0 : w17.cell? ⟨gb247, 0, none⟩ = some (.int .i64 a1_0) := (blk_cell BK247.out 0).trans rfl; have hcz18_1 : w17.cell? ⟨gb247, 1, none⟩ = some (.int .i64 a1_1) := (blk_cell BK247.out 1).trans rfl; have hfz18_0 := blk_frozen BK247.out 0; have hfz18_1 := blk_frozen BK247.out 1) | (go_at_call 16; (with_reducible refine (spec_RangeAsk.calls a1_0 a1_1 false _ A12.out).mono ?_); rintro e w19 ⟨rfl, hb⟩; have n0_ := Aside0.mk (blk_below (g := gb247) (o := .cells #[.int .i64 a1_0, .int .i64 a1_1] 28 (0, 0)) (by (with_reducible repeat (first | refine blk_drewN ?_ _ | refine blk_drew ?_ | refine blk_alloc ?_ _)); exact BK247.out) hb); have n1_ := Aside0.mk (below_step (by repeat (first | (with_reducible first | exact HB.out | apply below_alloc | apply pw_below_drewN | apply below_drew1 | refine below_set ?_ GE247.out) | exact HB.out)) hb); clear BK247; clear HB; have BK247 := n0_; have HB := n1_; clear n0_ n1_; (try clear hb); (try clear hb2); (try clear hk); (try clear hi)))
            go_meet
            case rel => exact ⟨_, (true), (by first | rfl | (simp; done) | (simp [*]; done) | (simp [xt_ne_nil]; done)), H', ⟨by first | omega | exact Nat.le_refl _⟩, ⟨by (with_reducible repeat (first | refine blk_drewN ?_ _ | refine blk_drew ?_ | refine blk_alloc ?_ _)); exact BK247.out⟩, ⟨by repeat (first | (with_reducible first | exact HB.out | apply below_alloc | apply pw_below_drewN | apply below_drew1 | refine below_set ?_ GE247.out) | exact HB.out)⟩⟩
      · replace c9 := Bool.eq_false_iff.mpr c9
        subst c9
        have H1 : (laws_FnRangesFill.j0 k l0 a2 true a1_0 a1_1) = some r := by rw [if_neg (show ¬ (false = true) by decide)] at H; exact H
        clear H
        have H := H1
        clear H1
        have H' := Aside0.mk H
        clear H
        go_wp2_with (first | ((with_reducible refine gate_callee (f := 12) rfl ?_); refine goesL_ (some 19) rfl rfl Try.func12 (by kernel_rfl) rfl #[.slice A0 l0.length c0] rfl (by (try simp only [List.map_toArray, List.map_cons, List.map_nil]); first | done | rfl | (simp only [List.length_drop, List.length_take]; rfl)) ?_; (with_reducible refine (spec_RangesIn.calls k _ _ l0 false _ ?side1 ?side2 A8.out).mono ?_); (case side1 => repeat (first | exact (Kd.C_below HR0.out HB.out) | (with_reducible refine Kd.C_alloc ?_ _) | (with_reducible refine Kd.C_drewN ?_ _) | (with_reducible refine Kd.C_drew ?_))); (case side2 => exact HC0.out); rintro e w20 ⟨rfl, hb⟩; refine ⟨_, rfl, ?_⟩; have n0_ := Aside0.mk (blk_below (g := gb247) (o := .cells #[.int .i64 a1_0, .int .i64 a1_1] 28 (0, 0)) (by (with_reducible repeat (first | refine blk_drewN ?_ _ | refine blk_drew ?_ | refine blk_alloc ?_ _)); exact BK247.out) hb); have n1_ := Aside0.mk (below_step (by repeat (first | (with_reducible first | exact HB.out | apply below_alloc | apply pw_below_drewN | apply below_drew1 | refine below_set ?_ GE247.out) | exact HB.out)) hb); clear BK247; clear HB; have BK247 := n0_; have HB := n1_; clear n0_ n1_; (try clear hb); (try clear hb2); (try clear hk); (try clear hi)))
        go_meet
        case rel => exact ⟨_, (true), (by first | rfl | (simp; done) | (simp [*]; done) | (simp [xt_ne_nil]; done)), H', ⟨by first | omega | exact Nat.le_refl _⟩, ⟨by (with_reducible repeat (first | refine blk_drewN ?_ _ | refine blk_drew ?_ | refine blk_alloc ?_ _)); exact BK247.out⟩, ⟨by repeat (first | (with_reducible first | exact HB.out | apply below_alloc | apply pw_below_drewN | apply below_drew1 | refine below_set ?_ GE247.out) | exact HB.out)⟩⟩
    case rest =>
      clear HC6
      try clear c1
      try clear p2
      try clear c4
      try clear c4b0
      try clear c4b1
      try clear c9
      try clear c10
      try clear c10b0
      try clear c10b1
      try clear c12
      try clear c13
      try clear hcz15_0
      try clear hcz15_1
      try clear hcz18_0
      try clear hcz18_1
      try clear hfz15_0
      try clear hfz15_1
      try clear hfz18_0
      try clear hfz18_1
      obtain ⟨kq, x34_5, rfl, HA, HJ5, BK247, HB⟩ := hcut
      cases kq with
      | zero => exact absurd HA.out (by simp [laws_FnRangesFill.j0])
      | succ kj5 =>
        have H := HA.out
        clear HA
        simp only [laws_FnRangesFill.j0] at H
        by_cases c21 : x34_5 = true
        · subst c21
          have H1 : (some true) = some r := by rw [if_pos rfl] at H; exact H
          clear H
          have H := H1
          clear H1
          obtain rfl := Option.some.inj H
          go_wp2
          go_ret
          exact ⟨by first | rfl | (simp [errW_none, errW_some] <;> rfl) | (simp [*, errW_none, errW_some] <;> rfl), by repeat (first | (with_reducible first | exact HB.out | apply below_alloc | apply pw_below_drewN | apply below_drew1 | refine below_set ?_ GE247.out) | exact HB.out)⟩
        · replace c21 := Bool.eq_false_iff.mpr c21
          subst c21
          have H1 : ((laws_rangeAwake.f kj5).bind fun t250 => (if t250 = true then (if a2 = 0 then (none) else (if (wrap64 (Int.tdiv a1_1 a2)) > 30 then (laws_FnRangesFill.j1 kj5 l0 a2 true a1_0 a1_1) else (laws_FnRangesFill.j1 kj5 l0 a2 (decide (a1_1 < 1)) a1_0 a1_1))) else (some false))) = some r := by rw [if_neg (show ¬ (false = true) by decide)] at H; exact H
          clear H
          have H := H1
          clear H1
          replace H := Option.bind_eq_some_iff.mp H
          obtain ⟨t250, A220, H⟩ := H
          replace H : (if t250 = true then (if a2 = 0 then (none) else (if (wrap64 (Int.tdiv a1_1 a2)) > 30 then (laws_FnRangesFill.j1 kj5 l0 a2 true a1_0 a1_1) else (laws_FnRangesFill.j1 kj5 l0 a2 (decide (a1_1 < 1)) a1_0 a1_1))) else (some false)) = some r := H
          have A22 := Aside0.mk A220
          clear A220
          by_cases c23 : t250 = true
          · subst c23
            have H1 : (if a2 = 0 then (none) else (if (wrap64 (Int.tdiv a1_1 a2)) > 30 then (laws_FnRangesFill.j1 kj5 l0 a2 true a1_0 a1_1) else (laws_FnRangesFill.j1 kj5 l0 a2 (decide (a1_1 < 1)) a1_0 a1_1))) = some r := by rw [if_pos rfl] at H; exact H
            clear H
            have H := H1
            clear H1
            by_cases c24 : a2 = 0
            · rw [if_pos c24] at H
              exact absurd H (by simp)
            · rw [if_neg c24] at H
              have c24b0 : (a2 == 0) = false := beq_eq_false_iff_ne.mpr c24
              have c24b1 : (a2 != 0) = true := bne_iff_ne.mpr c24
              have HC25 := Aside0.mk H
              clear H
              go_upto_region 8 with (first | ((with_reducible refine gate_callee (f := 13) rfl ?_); refine goesL_ (some 35) rfl rfl Try.func13 (by kernel_rfl) rfl #[] rfl (by (try simp only [List.map_toArray, List.map_cons, List.map_nil]); first | done | rfl | (simp only [List.length_drop, List.length_take]; rfl)) ?_; (with_reducible refine (laws_rangeAwake.calls kj5  true _ A22.out).mono ?_); rintro e w26 ⟨rfl, hb⟩; refine ⟨_, rfl, ?_⟩; have n0_ := Aside0.mk (blk_below (g := gb247) (o := .cells #[.int .i64 a1_0, .int .i64 a1_1] 28 (0, 0)) (by (with_reducible repeat (first | refine blk_drewN ?_ _ | refine blk_drew ?_ | refine blk_alloc ?_ _)); exact BK247.out) hb); have n1_ := Aside0.mk (below_step (by repeat (first | (with_reducible first | exact HB.out | apply below_alloc | apply pw_below_drewN | apply below_drew1 | refine below_set ?_ GE247.out) | exact HB.out)) hb); clear BK247; clear HB; have BK247 := n0_; have HB := n1_; clear n0_ n1_; (try clear hb); (try clear hb2); (try clear hk); (try clear hi); have hcz27_0 : w26.cell? ⟨gb247, 0, none⟩ = some (.int .i64 a1_0) := (blk_cell BK247.out 0).trans rfl; have hcz27_1 : w26.cell? ⟨gb247, 1, none⟩ = some (.int .i64 a1_1) := (blk_cell BK247.out 1).trans rfl; have hfz27_0 := blk_frozen BK247.out 0; have hfz27_1 := blk_frozen BK247.out 1))
              (try simp only [Act.put, List.setIfInBounds_toArray, List.set_cons_zero, List.set_cons_succ])
              go_cut [47] (fun v47 wc => ∃ (kq : Nat) (x47_24 : Bool), v47 = .bool x47_24 ∧ Aside0 (laws_FnRangesFill.j1 kq l0 a2 x47_24 a1_0 a1_1 = some r) ∧ Aside0 (kq ≤ kj5) ∧ Aside0 (wc.heap[gb247]? = some (.cells #[.int .i64 a1_0, .int .i64 a1_1] 28 (0, 0))) ∧ Aside0 (Below w.heap.size w wc))
              case first =>
                have H := HC25.out
                clear HC25
                by_cases c28 : (wrap64 (Int.tdiv a1_1 a2)) > 30
                · rw [if_pos c28] at H
                  have c28b0 : decide (30 < (wrap64 (Int.tdiv a1_1 a2))) = true := decide_eq_true c28
                  clear c28
                  (first | rw [c28b0] | (simp only [i64_w, i32_w]; rw [c28b0]) | skip)
                  have H' := Aside0.mk H
                  clear H
                  go_wp2
                  go_meet
                  case rel => exact ⟨_, (true), (by first | rfl | (simp; done) | (simp [*]; done) | (simp [xt_ne_nil]; done)), H', ⟨by have := HJ5.out; first | omega | exact Nat.le_refl _⟩, ⟨by (with_reducible repeat (first | refine blk_drewN ?_ _ | refine blk_drew ?_ | refine blk_alloc ?_ _)); exact BK247.out⟩, ⟨by repeat (first | (with_reducible first | exact HB.out | apply below_alloc | apply pw_below_drewN | apply below_drew1 | refine below_set ?_ GE247.out) | exact HB.out)⟩⟩
                · rw [if_neg c28] at H
                  have c28b0 : decide (30 < (wrap64 (Int.tdiv a1_1 a2))) = false := decide_eq_false c28
                  clear c28
                  (first | rw [c28b0] | (simp only [i64_w, i32_w]; rw [c28b0]) | skip)
                  have H' := Aside0.mk H
                  clear H
                  have hcz29_0 : w26.cell? ⟨gb247, 0, none⟩ = some (.int .i64 a1_0) := (blk_cell BK247.out 0).trans rfl
                  have hcz29_1 : w26.cell? ⟨gb247, 1, none⟩ = some (.int .i64 a1_1) := (blk_cell BK247.out 1).trans rfl
                  have hfz29_0 := blk_frozen BK247.out 0
                  have hfz29_1 := blk_frozen BK247.out 1
                  go_wp2
                  go_meet
                  case rel => exact ⟨_, (decide (a1_1 < 1)), (by first | rfl | (simp; done) | (simp [*]; done) | (simp [xt_ne_nil]; done)), H', ⟨by have := HJ5.out; first | omega | exact Nat.le_refl _⟩, ⟨by (with_reducible repeat (first | refine blk_drewN ?_ _ | refine blk_drew ?_ | refine blk_alloc ?_ _)); exact BK247.out⟩, ⟨by repeat (first | (with_reducible first | exact HB.out | apply below_alloc | apply pw_below_drewN | apply below_drew1 | refine below_set ?_ GE247.out) | exact HB.out)⟩⟩
              case rest =>
                clear HC25
                try clear c1
                try clear c2
                try clear p2
                try clear c4
                try clear c4b0
                try clear c4b1
                try clear p6
                try clear c9
                try clear c10
                try clear c10b0
                try clear c10b1
                try clear c12
                try clear c13
                try clear c21
                try clear c23
                try clear c24
                try clear c24b0
                try clear c24b1
                try clear c28
                try clear c28b0
                try clear hcz15_0
                try clear hcz15_1
                try clear hcz18_0
                try clear hcz18_1
                try clear hcz27_0
                try clear hcz27_1
                try clear hcz29_0
                try clear hcz29_1
                try clear hfz15_0
                try clear hfz15_1
                try clear hfz18_0
                try clear hfz18_1
                try clear hfz27_0
                try clear hfz27_1
                try clear hfz29_0
                try clear hfz29_1
                try clear p2
                obtain ⟨kq, x47_24, rfl, HA, HJ24, BK247, HB⟩ := hcut
                cases kq with
                | zero => exact absurd HA.out (by simp [laws_FnRangesFill.j1])
                | succ kj24 =>
                  have H := HA.out
                  clear HA
                  simp only [laws_FnRangesFill.j1] at H
                  by_cases c30 : x47_24 = true
                  · subst c30
                    have H1 : (some true) = some r := by rw [if_pos rfl] at H; exact H
                    clear H
                    have H := H1
                    clear H1
                    obtain rfl := Option.some.inj H
                    go_wp2
                    go_ret
                    exact ⟨by first | rfl | (simp [errW_none, errW_some] <;> rfl) | (simp [*, errW_none, errW_some] <;> rfl), by repeat (first | (with_reducible first | exact HB.out | apply below_alloc | apply pw_below_drewN | apply below_drew1 | refine below_set ?_ GE247.out) | exact HB.out)⟩
                  · replace c30 := Bool.eq_false_iff.mpr c30
                    subst c30
                    have H1 : ((some (([] : List (S28)) : List (S28))).bind fun y251 => (if y251.length + l0.length < 8796093022208 then (laws_FnRangesFill.l0 kj24 l0 a2 (y251 ++ l0) 0 a1_0 a1_1) else (none))) = some r := by rw [if_neg (show ¬ (false = true) by decide)] at H; exact H
                    clear H
                    have H := H1
                    clear H1
                    obtain ⟨y251, hy251⟩ : ∃ y_ : List (S28), y_ = (([] : List (S28))) := ⟨_, rfl⟩
                    replace H : (if y251.length + l0.length < 8796093022208 then (laws_FnRangesFill.l0 kj24 l0 a2 (y251 ++ l0) 0 a1_0 a1_1) else (none)) = some r := by first | (rw [hy251]; with_reducible exact H) | (have H2_ := (Option.bind_some _ _).symm.trans H; rw [hy251]; with_reducible exact H2_) | (have H2_ := (Option.bind_some _ _).symm.trans H; with_reducible exact H2_) | with_reducible exact H | (rw [hy251]; exact H) | exact H
                    have Ny251 := Aside0.mk hy251
                    clear hy251
                    by_cases c31 : y251.length + l0.length < 8796093022208
                    · rw [if_pos c31] at H
                      have LMc31 := Aside0.mk c31
                      clear c31
                      obtain ⟨y254, hy254⟩ : ∃ y_ : List (S28), y_ = (y251 ++ l0) := ⟨_, rfl⟩
                      replace H : (laws_FnRangesFill.l0 kj24 l0 a2 y254 0 a1_0 a1_1) = some r := by first | (rw [hy254]; with_reducible exact H) | (have H2_ := (Option.bind_some _ _).symm.trans H; rw [hy254]; with_reducible exact H2_) | (have H2_ := (Option.bind_some _ _).symm.trans H; with_reducible exact H2_) | with_reducible exact H | (rw [hy254]; exact H) | exact H
                      have Ny254 := Aside0.mk hy254
                      clear hy254
                      have H' := Aside0.mk H
                      clear H
                      go_wp2_with (first | ((with_reducible refine gate_dst (N := 48) rfl ?_); (try (refine gate_guard (by rfl) ?_; dsimp only)); refine Kd.R_lit k28 _ 28 ?hg (N := 48) ?hd (xs := ([] : List (S28))) (inner := []) (ok := fun _ => True) (okp := fun _ => True) ?hr ?hp (fun _ hk => hk) trivial (Below.refl _ _) (Nat.le_refl _) (by simp) ?_; (case hd => rfl); (case hg => rfl); (case hr => first | (go_simp; done) | (go_simp; rfl)); (case hp => exact (Reps.none _ _)); intro v252 w32 ho33 hb hg_ hnew_; clear hg_ hnew_; (first | rw [← Ny251.out] at ho33 | (simp only [Int.reduceToNat] at ho33; rw [← Ny251.out] at ho33)); have n0_ := Aside0.mk (Kd.R_lower (Kd.R_newB ho33 (g := gb247) (o := .cells #[.int .i64 a1_0, .int .i64 a1_1] 28 (0, 0)) (by (with_reducible repeat (first | refine blk_drewN ?_ _ | refine blk_drew ?_ | refine blk_alloc ?_ _)); exact BK247.out)) (below_size (by repeat (first | (with_reducible first | exact HB.out | apply below_alloc | apply pw_below_drewN | apply below_drew1 | refine below_set ?_ GE247.out) | exact HB.out)))); have n1_ := Aside0.mk (blk_below (g := gb247) (o := .cells #[.int .i64 a1_0, .int .i64 a1_1] 28 (0, 0)) (by (with_reducible repeat (first | refine blk_drewN ?_ _ | refine blk_drew ?_ | refine blk_alloc ?_ _)); exact BK247.out) hb); have n2_ := Aside0.mk (below_step (by repeat (first | (with_reducible first | exact HB.out | apply below_alloc | apply pw_below_drewN | apply below_drew1 | refine below_set ?_ GE247.out) | exact HB.out)) hb); clear BK247; clear HB; have HO253 := n0_; have BK247 := n1_; have HB := n2_; clear n0_ n1_ n2_; clear hb ho33) | ((with_reducible refine gate_builtin (b := .append) (xs := #[.tmp 48, .tmp 49]) rfl ?_); (try (refine gate_guard (by rfl) ?_; dsimp only)); at_builtin; refine Kd.R_append_rows k28 (w0 := w) w.heap.size rfl (.tmp 48) (.tmp 49) 22 28 (.agg #[(.int .i64 0), (.int .i64 0)]) 16 rfl Try.underlying22 info28 rfl (by decide) (by omega) v252 y251 l0 _ _ _ (fun k_ => k_ ≠ gb247) (fun _ => False) rfl rfl ?aO ?aR (fun _ _ h => h) (fun _ h => h.elim) ?aF ?aB ?aS ?aL ?_; (case aR => repeat (first | exact (Kd.C_below HR0.out HB.out) | (with_reducible refine Kd.C_alloc ?_ _) | (with_reducible refine Kd.C_drewN ?_ _) | (with_reducible refine Kd.C_drew ?_))); (case aB => exact (by repeat (first | (with_reducible first | exact HB.out | apply below_alloc | apply pw_below_drewN | apply below_drew1 | refine below_set ?_ GE247.out) | exact HB.out))); (case aF => exact (fun k_ hk => Kd.freshB (g := gb247) (o := .cells #[.int .i64 a1_0, .int .i64 a1_1] 28 (0, 0)) (by (with_reducible repeat (first | refine blk_drewN ?_ _ | refine blk_drew ?_ | refine blk_alloc ?_ _)); exact BK247.out) k_ hk)); (case aO => exact (by (with_reducible repeat (first | apply Kd.R_alloc | apply Kd.R_drewN | apply Kd.R_drew)); exact Kd.R_mono HO253.out (fun _ hk => hk.2))); (case aS => exact (below_size (by repeat (first | (with_reducible first | exact HB.out | apply below_alloc | apply pw_below_drewN | apply below_drew1 | refine below_set ?_ GE247.out) | exact HB.out)))); (case aL => have := LMc31.out; omega); intro v255 w34 ho hb hg hat; rw [← Ny254.out] at ho; have n0_ := Aside0.mk (blk_grown (g := gb247) (o := .cells #[.int .i64 a1_0, .int .i64 a1_1] 28 (0, 0)) (by (with_reducible repeat (first | refine blk_drewN ?_ _ | refine blk_drew ?_ | refine blk_alloc ?_ _)); exact BK247.out) hg (Kd.R_away HO253.out (fun _ hk => hk.2))); have n1_ := Aside0.mk (hb); have n2_ := Aside0.mk (ho); clear BK247; clear HB; clear HO253; have BK247 := n0_; have HB := n1_; have HO256 := n2_; clear n0_ n1_ n2_; clear ho hb hg hat))
                      go_loopg [8, 9] kj24 (fun kq v8 v9 w' => ∃ (x8_3 : List (S28)) (x9_3 : Int), v9 = .int .i64 x9_3 ∧ Aside0 (laws_FnRangesFill.l0 kq l0 a2 x8_3 x9_3 a1_0 a1_1 = some r) ∧ Aside0 (kq ≤ kj24) ∧ Aside0 (Kd.R k28 28 w' w.heap.size (fun k_ => k_ ≠ gb247) v8 x8_3) ∧ Aside0 (w'.heap[gb247]? = some (.cells #[.int .i64 a1_0, .int .i64 a1_1] 28 (0, 0))) ∧ Aside0 (Below w.heap.size w w'))
                      case atStart => exact ⟨(y254), (0), (by first | rfl | (simp; done) | (simp [*]; done) | (simp [xt_ne_nil]; done)), H', ⟨Nat.le_refl _⟩, ⟨by (with_reducible repeat (first | apply Kd.R_alloc | apply Kd.R_drewN | apply Kd.R_drew)); exact HO256.out⟩, ⟨by (with_reducible repeat (first | refine blk_drewN ?_ _ | refine blk_drew ?_ | refine blk_alloc ?_ _)); exact BK247.out⟩, ⟨by repeat (first | (with_reducible first | exact HB.out | apply below_alloc | apply pw_below_drewN | apply below_drew1 | refine below_set ?_ GE247.out) | exact HB.out)⟩⟩
                      case round =>
                        clear H'
                        try clear c1
                        try clear c2
                        try clear p2
                        try clear c3
                        try clear c4
                        try clear c4b0
                        try clear c4b1
                        try clear p6
                        try clear c9
                        try clear c10
                        try clear c10b0
                        try clear c10b1
                        try clear c12
                        try clear c13
                        try clear c21
                        try clear c23
                        try clear c24
                        try clear c24b0
                        try clear c24b1
                        try clear c28
                        try clear c28b0
                        try clear c30
                        try clear c31
                        try clear hcz15_0
                        try clear hcz15_1
                        try clear hcz18_0
                        try clear hcz18_1
                        try clear hcz27_0
                        try clear hcz27_1
                        try clear hcz29_0
                        try clear hcz29_1
                        try clear hfz15_0
                        try clear hfz15_1
                        try clear hfz18_0
                        try clear hfz18_1
                        try clear hfz27_0
                        try clear hfz27_1
                        try clear hfz29_0
                        try clear hfz29_1
                        try clear p2
                        try clear p6
                        obtain ⟨x8_3, x9_3, rfl, HA, HK3, HO_8, BK247, HB⟩ := hrel
                        cases gk with
                        | zero => exact absurd HA.out (by simp [laws_FnRangesFill.l0])
                        | succ k3 =>
                          have H := HA.out
                          clear HA
                          simp only [laws_FnRangesFill.l0] at H
                          replace H := Option.bind_eq_some_iff.mp H
                          obtain ⟨t257, A350, H⟩ := H
                          replace H : (if t257 = true then ((some (([] : List (S28)) : List (S28))).bind fun y258 => (if y258.length + l0.length < 8796093022208 then ((some (y258 ++ l0 : List (S28))).bind fun y261 => ((some (([(⟨a1_0, a1_1⟩ : S28)] : List (S28)) : List (S28))).bind fun y264 => (if y261.length + y264.length < 8796093022208 then ((some (y261 ++ y264 : List (S28))).bind fun y267 => ((impl_RangesEqual.f x8_3 y267).bind fun t270 => (if t270 = true then ((impl_RangesSize.f k3 l0).bind fun t271 => ((impl_RangesSize.f k3 y267).bind fun t272 => (some ((wrap64 (t271 + x9_3)) == t272)))) else (some false)))) else (none)))) else (none))) else (if (x8_3.length : Int) > 120 then (some false) else ((impl_RangesMissing.f x8_3 a1_0 a1_1).bind fun bt273 => (if bt273.2 < 1 then (some false) else ((impl_RangesFind.f x8_3 bt273.1 bt273.2).bind fun bt276 => (if bt276.2.2.2.2 = true then (some false) else (if bt276.1 = bt273.1 then (if (mn bt276.2.1 a2) < 1 then (some false) else ((some (([(⟨bt276.1, mn bt276.2.1 a2⟩ : S28)] : List (S28)) : List (S28))).bind fun y283 => (if x8_3.length + y283.length < 8796093022208 then (laws_FnRangesFill.l0 k3 l0 a2 (x8_3 ++ y283) (wrap64 (x9_3 + (mn bt276.2.1 a2))) a1_0 a1_1) else (none)))) else (some false)))))))) = some r := H
                          have A35 := Aside0.mk A350
                          clear A350
                          by_cases c36 : t257 = true
                          · subst c36
                            have H1 : ((some (([] : List (S28)) : List (S28))).bind fun y258 => (if y258.length + l0.length < 8796093022208 then ((some (y258 ++ l0 : List (S28))).bind fun y261 => ((some (([(⟨a1_0, a1_1⟩ : S28)] : List (S28)) : List (S28))).bind fun y264 => (if y261.length + y264.length < 8796093022208 then ((some (y261 ++ y264 : List (S28))).bind fun y267 => ((impl_RangesEqual.f x8_3 y267).bind fun t270 => (if t270 = true then ((impl_RangesSize.f k3 l0).bind fun t271 => ((impl_RangesSize.f k3 y267).bind fun t272 => (some ((wrap64 (t271 + x9_3)) == t272)))) else (some false)))) else (none)))) else (none))) = some r := by rw [if_pos rfl] at H; exact H
                            clear H
                            have H := H1
                            clear H1
                            obtain ⟨y258, hy258⟩ : ∃ y_ : List (S28), y_ = (([] : List (S28))) := ⟨_, rfl⟩
                            replace H : (if y258.length + l0.length < 8796093022208 then ((some (y258 ++ l0 : List (S28))).bind fun y261 => ((some (([(⟨a1_0, a1_1⟩ : S28)] : List (S28)) : List (S28))).bind fun y264 => (if y261.length + y264.length < 8796093022208 then ((some (y261 ++ y264 : List (S28))).bind fun y267 => ((impl_RangesEqual.f x8_3 y267).bind fun t270 => (if t270 = true then ((impl_RangesSize.f k3 l0).bind fun t271 => ((impl_RangesSize.f k3 y267).bind fun t272 => (some ((wrap64 (t271 + x9_3)) == t272)))) else (some false)))) else (none)))) else (none)) = some r := by first | (rw [hy258]; with_reducible exact H) | (have H2_ := (Option.bind_some _ _).symm.trans H; rw [hy258]; with_reducible exact H2_) | (have H2_ := (Option.bind_some _ _).symm.trans H; with_reducible exact H2_) | with_reducible exact H | (rw [hy258]; exact H) | exact H
                            have Ny258 := Aside0.mk hy258
                            clear hy258
                            by_cases c37 : y258.length + l0.length < 8796093022208
                            · rw [if_pos c37] at H
                              have LMc37 := Aside0.mk c37
                              clear c37
                              obtain ⟨y261, hy261⟩ : ∃ y_ : List (S28), y_ = (y258 ++ l0) := ⟨_, rfl⟩
                              replace H : ((some (([(⟨a1_0, a1_1⟩ : S28)] : List (S28)) : List (S28))).bind fun y264 => (if y261.length + y264.length < 8796093022208 then ((some (y261 ++ y264 : List (S28))).bind fun y267 => ((impl_RangesEqual.f x8_3 y267).bind fun t270 => (if t270 = true then ((impl_RangesSize.f k3 l0).bind fun t271 => ((impl_RangesSize.f k3 y267).bind fun t272 => (some ((wrap64 (t271 + x9_3)) == t272)))) else (some false)))) else (none))) = some r := by first | (rw [hy261]; with_reducible exact H) | (have H2_ := (Option.bind_some _ _).symm.trans H; rw [hy261]; with_reducible exact H2_) | (have H2_ := (Option.bind_some _ _).symm.trans H; with_reducible exact H2_) | with_reducible exact H | (rw [hy261]; exact H) | exact H
                              have Ny261 := Aside0.mk hy261
                              clear hy261
                              obtain ⟨y264, hy264⟩ : ∃ y_ : List (S28), y_ = (([(⟨a1_0, a1_1⟩ : S28)] : List (S28))) := ⟨_, rfl⟩
                              replace H : (if y261.length + y264.length < 8796093022208 then ((some (y261 ++ y264 : List (S28))).bind fun y267 => ((impl_RangesEqual.f x8_3 y267).bind fun t270 => (if t270 = true then ((impl_RangesSize.f k3 l0).bind fun t271 => ((impl_RangesSize.f k3 y267).bind fun t272 => (some ((wrap64 (t271 + x9_3)) == t272)))) else (some false)))) else (none)) = some r := by first | (rw [hy264]; with_reducible exact H) | (have H2_ := (Option.bind_some _ _).symm.trans H; rw [hy264]; with_reducible exact H2_) | (have H2_ := (Option.bind_some _ _).symm.trans H; with_reducible exact H2_) | with_reducible exact H | (rw [hy264]; exact H) | exact H
                              have Ny264 := Aside0.mk hy264
                              clear hy264
                              by_cases c38 : y261.length + y264.length < 8796093022208
                              · rw [if_pos c38] at H
                                have LMc38 := Aside0.mk c38
                                clear c38
                                obtain ⟨y267, hy267⟩ : ∃ y_ : List (S28), y_ = (y261 ++ y264) := ⟨_, rfl⟩
                                replace H : ((impl_RangesEqual.f x8_3 y267).bind fun t270 => (if t270 = true then ((impl_RangesSize.f k3 l0).bind fun t271 => ((impl_RangesSize.f k3 y267).bind fun t272 => (some ((wrap64 (t271 + x9_3)) == t272)))) else (some false))) = some r := by first | (rw [hy267]; with_reducible exact H) | (have H2_ := (Option.bind_some _ _).symm.trans H; rw [hy267]; with_reducible exact H2_) | (have H2_ := (Option.bind_some _ _).symm.trans H; with_reducible exact H2_) | with_reducible exact H | (rw [hy267]; exact H) | exact H
                                have Ny267 := Aside0.mk hy267
                                clear hy267
                                replace H := Option.bind_eq_some_iff.mp H
                                obtain ⟨t270, A390, H⟩ := H
                                replace H : (if t270 = true then ((impl_RangesSize.f k3 l0).bind fun t271 => ((impl_RangesSize.f k3 y267).bind fun t272 => (some ((wrap64 (t271 + x9_3)) == t272)))) else (some false)) = some r := H
                                have A39 := Aside0.mk A390
                                clear A390
                                by_cases c40 : t270 = true
                                · subst c40
                                  have H1 : ((impl_RangesSize.f k3 l0).bind fun t271 => ((impl_RangesSize.f k3 y267).bind fun t272 => (some ((wrap64 (t271 + x9_3)) == t272)))) = some r := by rw [if_pos rfl] at H; exact H
                                  clear H
                                  have H := H1
                                  clear H1
                                  replace H := Option.bind_eq_some_iff.mp H
                                  obtain ⟨t271, A410, H⟩ := H
                                  replace H : ((impl_RangesSize.f k3 y267).bind fun t272 => (some ((wrap64 (t271 + x9_3)) == t272))) = some r := H
                                  have A41 := Aside0.mk A410
                                  clear A410
                                  replace H := Option.bind_eq_some_iff.mp H
                                  obtain ⟨t272, A420, H⟩ := H
                                  replace H : (some ((wrap64 (t271 + x9_3)) == t272)) = some r := H
                                  have A42 := Aside0.mk A420
                                  clear A420
                                  obtain rfl := Option.some.inj H
                                  have hcz43_0 : wr.cell? ⟨gb247, 0, none⟩ = some (.int .i64 a1_0) := (blk_cell BK247.out 0).trans rfl
                                  have hcz43_1 : wr.cell? ⟨gb247, 1, none⟩ = some (.int .i64 a1_1) := (blk_cell BK247.out 1).trans rfl
                                  have hfz43_0 := blk_frozen BK247.out 0
                                  have hfz43_1 := blk_frozen BK247.out 1
                                  obtain ⟨Ao44, co44, eo44⟩ := Kd.R_slice HO_8.out
                                  subst eo44
                                  try go_wp2_with (first | ((with_reducible refine gate_callee (f := 30) rfl ?_); refine goesL_ (some 53) rfl rfl Try.func30 (by kernel_rfl) rfl #[.slice Ao44 x8_3.length co44, .agg #[.int .i64 a1_0, .int .i64 a1_1]] rfl (by (try simp only [List.map_toArray, List.map_cons, List.map_nil]); first | done | rfl | (simp only [List.length_drop, List.length_take]; rfl)) ?_; (with_reducible refine (impl_RangesPresent.calls _ _ x8_3 a1_0 a1_1 true _ ?side1 ?side2 A35.out).mono ?_); (case side1 => repeat (first | exact (Kd.R_reads' HO_8.out).2.2 | (with_reducible refine Kd.C_alloc ?_ _) | (with_reducible refine Kd.C_drewN ?_ _) | (with_reducible refine Kd.C_drew ?_))); (case side2 => exact (Kd.R_reads' HO_8.out).2.1); rintro e w45 ⟨rfl, hb⟩; refine ⟨_, rfl, ?_⟩; have n0_ := Aside0.mk (Kd.R_below (by (with_reducible repeat (first | apply Kd.R_alloc | apply Kd.R_drewN | apply Kd.R_drew)); exact HO_8.out) hb); have n1_ := Aside0.mk (blk_below (g := gb247) (o := .cells #[.int .i64 a1_0, .int .i64 a1_1] 28 (0, 0)) (by (with_reducible repeat (first | refine blk_drewN ?_ _ | refine blk_drew ?_ | refine blk_alloc ?_ _)); exact BK247.out) hb); have n2_ := Aside0.mk (below_step (by repeat (first | (with_reducible first | exact HB.out | apply below_alloc | apply pw_below_drewN | apply below_drew1 | refine below_set ?_ GE247.out) | exact HB.out)) hb); clear HO_8; clear BK247; clear HB; have HO_8 := n0_; have BK247 := n1_; have HB := n2_; clear n0_ n1_ n2_; (try clear hb); (try clear hb2); (try clear hk); (try clear hi)))
                                  have n0_ := Aside0.mk (Kd.R_drew HO_8.out)
                                  have n1_ := Aside0.mk (blk_drew BK247.out)
                                  have n2_ := Aside0.mk (below_drew1 HB.out)
                                  clear HO_8
                                  clear BK247
                                  clear HB
                                  have HO_8 := n0_
                                  have BK247 := n1_
                                  have HB := n2_
                                  clear n0_ n1_ n2_
                                  refine start_ (n := 7) (S := fun w' => w'.cell? ⟨gb247, 0, none⟩ = some (.int .i64 a1_0) ∧ w'.cell? ⟨gb247, 1, none⟩ = some (.int .i64 a1_1)) (ds := []) #[false, false, false, false, false, false, false] (by kernel_rfl) rfl rfl ⟨(blk_cell BK247.out 0).trans rfl, (blk_cell BK247.out 1).trans rfl⟩ (fun hHeld => ?_)
                                  generalize w45.drew = w46 at HO_8 BK247 HB hHeld ⊢
                                  refine pure_ (i := 1) (N := some 98) (v := ?_) (a' := ?_) #[false, true, false, false, false, false, false] rfl rfl (by kernel_rfl) (fun _ _ _ h => h) (Or.inl ⟨by rfl, ?_⟩) ?_ ?_
                                  rotate_left
                                  · intro w'
                                    go_simp
                                    with_reducible rfl
                                  rotate_left
                                  · simp only [Act.put, List.setIfInBounds_toArray, List.set_cons_zero, List.set_cons_succ, i64_w, i32_w]
                                    rfl
                                  refine take_ (i := 3) (N := some 100) (v := ?_) (a' := ?_) #[false, true, false, true, false, false, false] rfl rfl (by kernel_rfl) (fun _ _ _ h => h) (Or.inl ⟨by rfl, ?_⟩) hHeld ?_ ?_
                                  rotate_left
                                  · rintro w' ⟨s0, s1⟩
                                    go_simp
                                    with_reducible rfl
                                  rotate_left
                                  · simp only [Act.put, List.setIfInBounds_toArray, List.set_cons_zero, List.set_cons_succ, i64_w, i32_w]
                                    rfl
                                  refine join_ (σ := Value × Value × Value) 2 #[true, true, true, true, true, false, false] (fun s_ => [(97, s_.1), (99, s_.2.1), (101, s_.2.2)]) (fun s_ w' => (w'.cell? ⟨gb247, 0, none⟩ = some (.int .i64 a1_0) ∧ w'.cell? ⟨gb247, 1, none⟩ = some (.int .i64 a1_1)) ∧ (Kd.R k28 28 w' w.heap.size (fun k_ => some k_ ≠ (s_.2.2 : Value).ownBlock ∧ some k_ ≠ (.slice Ao44 x8_3.length co44 : Value).ownBlock ∧ k_ ≠ gb247) s_.2.1 y261) ∧ (Kd.R k28 28 w' w.heap.size (fun k_ => some k_ ≠ (s_.2.1 : Value).ownBlock ∧ some k_ ≠ (.slice Ao44 x8_3.length co44 : Value).ownBlock ∧ k_ ≠ gb247) s_.2.2 y264) ∧ (Kd.R k28 28 w' w.heap.size (fun k_ => some k_ ≠ (s_.2.1 : Value).ownBlock ∧ some k_ ≠ (s_.2.2 : Value).ownBlock ∧ k_ ≠ gb247) (.slice Ao44 x8_3.length co44) x8_3) ∧ (w'.heap[gb247]? = some (.cells #[.int .i64 a1_0, .int .i64 a1_1] 28 (0, 0))) ∧ (Below w.heap.size w w')) ?_ ?_
                                  rotate_left
                                  · intro hCont
                                    refine two_ (i := 0) (j := 4) (Ni := some 97) (Nj := some 101) #[true, true, false, true, false, false, false] #[false, true, false, true, true, false, false] rfl rfl rfl rfl (by kernel_rfl) (by decide) (by decide) (fun K hK => ?_) (fun K hK => ?_)
                                    · skip
                                      refine Kd.R_lit_step k28 _ 28 ?hg (N := 97) ?hd (xs := ([] : List (S28))) (inner := []) (ok := fun _ => True) (okp := fun _ => True) ?hr ?hp (fun _ hk => hk) trivial (Below.refl _ _) (Nat.le_refl _) (by simp) ?_; (case hd => rfl); (case hg => rfl); (case hr => first | (go_simp; done) | (go_simp; rfl)); (case hp => exact (Reps.none _ _))
                                      intro v259 w47 ho48 hb hg_ hnew_
                                      clear hg_ hnew_
                                      (first | rw [← Ny258.out] at ho48 | (simp only [Int.reduceToNat] at ho48; rw [← Ny258.out] at ho48))
                                      have n0_ := Aside0.mk (Kd.R_elder' (by (with_reducible repeat (first | apply Kd.R_alloc | apply Kd.R_drewN | apply Kd.R_drew)); exact HO_8.out) (Kd.R_base ho48) hb)
                                      have n1_ := Aside0.mk (Kd.R_lower (Kd.R_newB (Kd.R_new' ho48 (Kd.R_lt (by (with_reducible repeat (first | apply Kd.R_alloc | apply Kd.R_drewN | apply Kd.R_drew)); exact HO_8.out))) (g := gb247) (o := .cells #[.int .i64 a1_0, .int .i64 a1_1] 28 (0, 0)) (by (with_reducible repeat (first | refine blk_drewN ?_ _ | refine blk_drew ?_ | refine blk_alloc ?_ _)); exact BK247.out)) (below_size (by repeat (first | (with_reducible first | exact HB.out | apply below_alloc | apply pw_below_drewN | apply below_drew1 | refine below_set ?_ GE247.out) | exact HB.out))))
                                      have n2_ := Aside0.mk (blk_below (g := gb247) (o := .cells #[.int .i64 a1_0, .int .i64 a1_1] 28 (0, 0)) (by (with_reducible repeat (first | refine blk_drewN ?_ _ | refine blk_drew ?_ | refine blk_alloc ?_ _)); exact BK247.out) hb)
                                      have n3_ := Aside0.mk (below_step (by repeat (first | (with_reducible first | exact HB.out | apply below_alloc | apply pw_below_drewN | apply below_drew1 | refine below_set ?_ GE247.out) | exact HB.out)) hb)
                                      clear HO_8
                                      clear BK247
                                      clear HB
                                      have HO_8 := n0_
                                      have HO260 := n1_
                                      have BK247 := n2_
                                      have HB := n3_
                                      clear n0_ n1_ n2_ n3_
                                      clear hb ho48
                                      refine hK.out _ _ ⟨(blk_cell BK247.out 0).trans rfl, (blk_cell BK247.out 1).trans rfl⟩ (fun hHeld => ?_)
                                      clear hK K
                                      refine norm_ (a' := ?_) ?_ ?_
                                      rotate_left
                                      · show Act.put _ (some 97) _ = _
                                        simp only [Act.put, List.setIfInBounds_toArray, List.set_cons_zero, List.set_cons_succ, i64_w, i32_w]
                                        rfl
                                      refine two_ (i := 2) (j := 4) (Ni := some 99) (Nj := some 101) #[true, true, true, true, false, false, false] #[true, true, false, true, true, false, false] rfl rfl rfl rfl (by kernel_rfl) (by decide) (by decide) (fun K hK => ?_) (fun K hK => ?_)
                                      · skip
                                        refine Kd.R_append_rows_step k28 (w0 := w) w.heap.size (by rfl) (.tmp 97) (.tmp 98) 22 28 (.agg #[(.int .i64 0), (.int .i64 0)]) 16 rfl Try.underlying22 info28 rfl (by decide) (by omega) v259 y258 l0 _ _ _ (fun k_ => some k_ ≠ (.slice Ao44 x8_3.length co44 : Value).ownBlock ∧ k_ ≠ gb247) (fun _ => False) rfl rfl ?aO ?aR (fun _ _ h => h) (fun _ h => h.elim) ?aF ?aB ?aS ?aL ?_
                                        (case aR => repeat (first | exact (Kd.C_below HR0.out HB.out) | (with_reducible refine Kd.C_alloc ?_ _) | (with_reducible refine Kd.C_drewN ?_ _) | (with_reducible refine Kd.C_drew ?_)))
                                        (case aB => exact (by repeat (first | (with_reducible first | exact HB.out | apply below_alloc | apply pw_below_drewN | apply below_drew1 | refine below_set ?_ GE247.out) | exact HB.out)))
                                        (case aF => exact (fun k_ hk => ⟨Kd.fresh' (Kd.R_lt (by (with_reducible repeat (first | apply Kd.R_alloc | apply Kd.R_drewN | apply Kd.R_drew)); exact HO_8.out)) k_ hk, Kd.freshB (g := gb247) (o := .cells #[.int .i64 a1_0, .int .i64 a1_1] 28 (0, 0)) (by (with_reducible repeat (first | refine blk_drewN ?_ _ | refine blk_drew ?_ | refine blk_alloc ?_ _)); exact BK247.out) k_ hk⟩))
                                        (case aO => exact (by (with_reducible repeat (first | apply Kd.R_alloc | apply Kd.R_drewN | apply Kd.R_drew)); exact Kd.R_mono HO260.out (fun _ hk => ⟨hk.1.2, hk.2⟩)))
                                        (case aS => exact (below_size (by repeat (first | (with_reducible first | exact HB.out | apply below_alloc | apply pw_below_drewN | apply below_drew1 | refine below_set ?_ GE247.out) | exact HB.out))))
                                        (case aL => have := LMc37.out; omega)
                                        intro v262 w49 ho hb hg hat
                                        rw [← Ny261.out] at ho
                                        have n0_ := Aside0.mk (Kd.R_after (ok := (fun k_ => k_ ≠ gb247)) (by (with_reducible repeat (first | apply Kd.R_alloc | apply Kd.R_drewN | apply Kd.R_drew)); exact HO_8.out) hg hat)
                                        have n1_ := Aside0.mk (blk_grown (g := gb247) (o := .cells #[.int .i64 a1_0, .int .i64 a1_1] 28 (0, 0)) (by (with_reducible repeat (first | refine blk_drewN ?_ _ | refine blk_drew ?_ | refine blk_alloc ?_ _)); exact BK247.out) hg (Kd.R_away HO260.out (fun _ hk => hk.2)))
                                        have n2_ := Aside0.mk (hb)
                                        have n3_ := Aside0.mk (ho)
                                        clear HO_8
                                        clear BK247
                                        clear HB
                                        clear HO260
                                        have HO_8 := n0_
                                        have BK247 := n1_
                                        have HB := n2_
                                        have HO263 := n3_
                                        clear n0_ n1_ n2_ n3_
                                        clear ho hb hg hat
                                        refine hK.out _ _ ⟨(blk_cell BK247.out 0).trans rfl, (blk_cell BK247.out 1).trans rfl⟩ (fun hHeld => ?_)
                                        clear hK K
                                        refine norm_ (a' := ?_) ?_ ?_
                                        rotate_left
                                        · show Act.put _ (some 99) _ = _
                                          simp only [Act.put, List.setIfInBounds_toArray, List.set_cons_zero, List.set_cons_succ, i64_w, i32_w]
                                          rfl
                                        refine one_ (i := 4) (N := some 101) #[true, true, true, true, true, false, false] rfl rfl (by kernel_rfl) (by decide) (fun K hK => ?_)
                                        refine Kd.R_lit_step k28 _ 28 ?hg (N := 101) ?hd (xs := ([(⟨a1_0, a1_1⟩ : S28)] : List (S28))) (inner := [.int .i64 a1_0, .int .i64 a1_1]) (ok := fun _ => True) (okp := fun _ => True) ?hr ?hp (fun _ hk => hk) trivial (Below.refl _ _) (Nat.le_refl _) (by simp) ?_; (case hd => rfl); (case hg => rfl); (case hr => first | (go_simp; done) | (go_simp; rfl)); (case hp => exact (Reps.c2 (show Kd.M k28 _ _ _ (⟨a1_0, a1_1⟩ : S28) [.int .i64 a1_0, .int .i64 a1_1] from (k28_mkM _ _ _ (⟨a1_0, a1_1⟩ : S28) )) (Reps.none _ _)))
                                        intro v265 w50 ho51 hb hg_ hnew_
                                        clear hg_ hnew_
                                        (first | rw [← Ny264.out] at ho51 | (simp only [Int.reduceToNat] at ho51; rw [← Ny264.out] at ho51))
                                        have n0_ := Aside0.mk (Kd.R_elder' (by (with_reducible repeat (first | apply Kd.R_alloc | apply Kd.R_drewN | apply Kd.R_drew)); exact HO_8.out) (Kd.R_base ho51) hb)
                                        have n1_ := Aside0.mk (Kd.R_elder' (by (with_reducible repeat (first | apply Kd.R_alloc | apply Kd.R_drewN | apply Kd.R_drew)); exact HO263.out) (Kd.R_base ho51) hb)
                                        have n2_ := Aside0.mk (Kd.R_lower (Kd.R_newB (Kd.R_new' (Kd.R_new' ho51 (Kd.R_lt (by (with_reducible repeat (first | apply Kd.R_alloc | apply Kd.R_drewN | apply Kd.R_drew)); exact HO_8.out))) (Kd.R_lt (by (with_reducible repeat (first | apply Kd.R_alloc | apply Kd.R_drewN | apply Kd.R_drew)); exact HO263.out))) (g := gb247) (o := .cells #[.int .i64 a1_0, .int .i64 a1_1] 28 (0, 0)) (by (with_reducible repeat (first | refine blk_drewN ?_ _ | refine blk_drew ?_ | refine blk_alloc ?_ _)); exact BK247.out)) (below_size (by repeat (first | (with_reducible first | exact HB.out | apply below_alloc | apply pw_below_drewN | apply below_drew1 | refine below_set ?_ GE247.out) | exact HB.out))))
                                        have n3_ := Aside0.mk (blk_below (g := gb247) (o := .cells #[.int .i64 a1_0, .int .i64 a1_1] 28 (0, 0)) (by (with_reducible repeat (first | refine blk_drewN ?_ _ | refine blk_drew ?_ | refine blk_alloc ?_ _)); exact BK247.out) hb)
                                        have n4_ := Aside0.mk (below_step (by repeat (first | (with_reducible first | exact HB.out | apply below_alloc | apply pw_below_drewN | apply below_drew1 | refine below_set ?_ GE247.out) | exact HB.out)) hb)
                                        clear HO_8
                                        clear HO263
                                        clear BK247
                                        clear HB
                                        have HO_8 := n0_
                                        have HO263 := n1_
                                        have HO266 := n2_
                                        have BK247 := n3_
                                        have HB := n4_
                                        clear n0_ n1_ n2_ n3_ n4_
                                        clear hb ho51
                                        refine hK.out _ _ ⟨(blk_cell BK247.out 0).trans rfl, (blk_cell BK247.out 1).trans rfl⟩ (fun hHeld => ?_)
                                        clear hK K
                                        refine norm_ (a' := ?_) ?_ ?_
                                        rotate_left
                                        · show Act.put _ (some 101) _ = _
                                          simp only [Act.put, List.setIfInBounds_toArray, List.set_cons_zero, List.set_cons_succ, i64_w, i32_w]
                                          rfl
                                        exact norm_ (by simp only [putAll, Act.put, List.setIfInBounds_toArray, List.set_cons_zero, List.set_cons_succ]) (hCont (v259, v262, v265) _ ⟨hHeld, (by (with_reducible repeat (first | apply Kd.R_alloc | apply Kd.R_drewN | apply Kd.R_drew)); exact Kd.R_mono HO263.out (fun _ hk => ⟨hk.2, ⟨hk.1.1, hk.1.2⟩⟩)), (by (with_reducible repeat (first | apply Kd.R_alloc | apply Kd.R_drewN | apply Kd.R_drew)); exact Kd.R_mono HO266.out (fun _ hk => ⟨hk.1.2, ⟨hk.1.1.2, hk.2⟩⟩)), (by (with_reducible repeat (first | apply Kd.R_alloc | apply Kd.R_drewN | apply Kd.R_drew)); exact Kd.R_mono HO_8.out (fun _ hk => ⟨hk.1.2, ⟨hk.2, hk.1.1⟩⟩)), (by (with_reducible repeat (first | refine blk_drewN ?_ _ | refine blk_drew ?_ | refine blk_alloc ?_ _)); exact BK247.out), (by repeat (first | (with_reducible first | exact HB.out | apply below_alloc | apply pw_below_drewN | apply below_drew1 | refine below_set ?_ GE247.out) | exact HB.out))⟩)
                                      · skip
                                        refine Kd.R_lit_step k28 _ 28 ?hg (N := 101) ?hd (xs := ([(⟨a1_0, a1_1⟩ : S28)] : List (S28))) (inner := [.int .i64 a1_0, .int .i64 a1_1]) (ok := fun _ => True) (okp := fun _ => True) ?hr ?hp (fun _ hk => hk) trivial (Below.refl _ _) (Nat.le_refl _) (by simp) ?_; (case hd => rfl); (case hg => rfl); (case hr => first | (go_simp; done) | (go_simp; rfl)); (case hp => exact (Reps.c2 (show Kd.M k28 _ _ _ (⟨a1_0, a1_1⟩ : S28) [.int .i64 a1_0, .int .i64 a1_1] from (k28_mkM _ _ _ (⟨a1_0, a1_1⟩ : S28) )) (Reps.none _ _)))
                                        intro v265 w49 ho50 hb hg_ hnew_
                                        clear hg_ hnew_
                                        (first | rw [← Ny264.out] at ho50 | (simp only [Int.reduceToNat] at ho50; rw [← Ny264.out] at ho50))
                                        have n0_ := Aside0.mk (Kd.R_elder' (by (with_reducible repeat (first | apply Kd.R_alloc | apply Kd.R_drewN | apply Kd.R_drew)); exact HO_8.out) (Kd.R_base ho50) hb)
                                        have n1_ := Aside0.mk (Kd.R_elder' (by (with_reducible repeat (first | apply Kd.R_alloc | apply Kd.R_drewN | apply Kd.R_drew)); exact HO260.out) (Kd.R_base ho50) hb)
                                        have n2_ := Aside0.mk (Kd.R_lower (Kd.R_newB (Kd.R_new' (Kd.R_new' ho50 (Kd.R_lt (by (with_reducible repeat (first | apply Kd.R_alloc | apply Kd.R_drewN | apply Kd.R_drew)); exact HO_8.out))) (Kd.R_lt (by (with_reducible repeat (first | apply Kd.R_alloc | apply Kd.R_drewN | apply Kd.R_drew)); exact HO260.out))) (g := gb247) (o := .cells #[.int .i64 a1_0, .int .i64 a1_1] 28 (0, 0)) (by (with_reducible repeat (first | refine blk_drewN ?_ _ | refine blk_drew ?_ | refine blk_alloc ?_ _)); exact BK247.out)) (below_size (by repeat (first | (with_reducible first | exact HB.out | apply below_alloc | apply pw_below_drewN | apply below_drew1 | refine below_set ?_ GE247.out) | exact HB.out))))
                                        have n3_ := Aside0.mk (blk_below (g := gb247) (o := .cells #[.int .i64 a1_0, .int .i64 a1_1] 28 (0, 0)) (by (with_reducible repeat (first | refine blk_drewN ?_ _ | refine blk_drew ?_ | refine blk_alloc ?_ _)); exact BK247.out) hb)
                                        have n4_ := Aside0.mk (below_step (by repeat (first | (with_reducible first | exact HB.out | apply below_alloc | apply pw_below_drewN | apply below_drew1 | refine below_set ?_ GE247.out) | exact HB.out)) hb)
                                        clear HO_8
                                        clear HO260
                                        clear BK247
                                        clear HB
                                        have HO_8 := n0_
                                        have HO260 := n1_
                                        have HO266 := n2_
                                        have BK247 := n3_
                                        have HB := n4_
                                        clear n0_ n1_ n2_ n3_ n4_
                                        clear hb ho50
                                        refine hK.out _ _ ⟨(blk_cell BK247.out 0).trans rfl, (blk_cell BK247.out 1).trans rfl⟩ (fun hHeld => ?_)
                                        clear hK K
                                        refine norm_ (a' := ?_) ?_ ?_
                                        rotate_left
                                        · show Act.put _ (some 101) _ = _
                                          simp only [Act.put, List.setIfInBounds_toArray, List.set_cons_zero, List.set_cons_succ, i64_w, i32_w]
                                          rfl
                                        refine one_ (i := 2) (N := some 99) #[true, true, true, true, true, false, false] rfl rfl (by kernel_rfl) (by decide) (fun K hK => ?_)
                                        refine Kd.R_append_rows_step k28 (w0 := w) w.heap.size (by rfl) (.tmp 97) (.tmp 98) 22 28 (.agg #[(.int .i64 0), (.int .i64 0)]) 16 rfl Try.underlying22 info28 rfl (by decide) (by omega) v259 y258 l0 _ _ _ (fun k_ => some k_ ≠ (.slice Ao44 x8_3.length co44 : Value).ownBlock ∧ some k_ ≠ (v265 : Value).ownBlock ∧ k_ ≠ gb247) (fun _ => False) rfl rfl ?aO ?aR (fun _ _ h => h) (fun _ h => h.elim) ?aF ?aB ?aS ?aL ?_
                                        (case aR => repeat (first | exact (Kd.C_below HR0.out HB.out) | (with_reducible refine Kd.C_alloc ?_ _) | (with_reducible refine Kd.C_drewN ?_ _) | (with_reducible refine Kd.C_drew ?_)))
                                        (case aB => exact (by repeat (first | (with_reducible first | exact HB.out | apply below_alloc | apply pw_below_drewN | apply below_drew1 | refine below_set ?_ GE247.out) | exact HB.out)))
                                        (case aF => exact (fun k_ hk => ⟨Kd.fresh' (Kd.R_lt (by (with_reducible repeat (first | apply Kd.R_alloc | apply Kd.R_drewN | apply Kd.R_drew)); exact HO_8.out)) k_ hk, Kd.fresh' (Kd.R_lt (by (with_reducible repeat (first | apply Kd.R_alloc | apply Kd.R_drewN | apply Kd.R_drew)); exact HO266.out)) k_ hk, Kd.freshB (g := gb247) (o := .cells #[.int .i64 a1_0, .int .i64 a1_1] 28 (0, 0)) (by (with_reducible repeat (first | refine blk_drewN ?_ _ | refine blk_drew ?_ | refine blk_alloc ?_ _)); exact BK247.out) k_ hk⟩))
                                        (case aO => exact (by (with_reducible repeat (first | apply Kd.R_alloc | apply Kd.R_drewN | apply Kd.R_drew)); exact Kd.R_mono HO260.out (fun _ hk => ⟨hk.1.1.2, ⟨hk.2, hk.1.2⟩⟩)))
                                        (case aS => exact (below_size (by repeat (first | (with_reducible first | exact HB.out | apply below_alloc | apply pw_below_drewN | apply below_drew1 | refine below_set ?_ GE247.out) | exact HB.out))))
                                        (case aL => have := LMc37.out; omega)
                                        intro v262 w51 ho hb hg hat
                                        rw [← Ny261.out] at ho
                                        have n0_ := Aside0.mk (Kd.R_after (ok := (fun k_ => some k_ ≠ (v265 : Value).ownBlock ∧ k_ ≠ gb247)) (by (with_reducible repeat (first | apply Kd.R_alloc | apply Kd.R_drewN | apply Kd.R_drew)); exact Kd.R_mono HO_8.out (fun _ hk => ⟨⟨hk.2, hk.1.1⟩, hk.1.2⟩)) hg hat)
                                        have n1_ := Aside0.mk (blk_grown (g := gb247) (o := .cells #[.int .i64 a1_0, .int .i64 a1_1] 28 (0, 0)) (by (with_reducible repeat (first | refine blk_drewN ?_ _ | refine blk_drew ?_ | refine blk_alloc ?_ _)); exact BK247.out) hg (Kd.R_away HO260.out (fun _ hk => hk.1.2)))
                                        have n2_ := Aside0.mk (Kd.R_after (ok := (fun k_ => some k_ ≠ (.slice Ao44 x8_3.length co44 : Value).ownBlock ∧ k_ ≠ gb247)) (by (with_reducible repeat (first | apply Kd.R_alloc | apply Kd.R_drewN | apply Kd.R_drew)); exact Kd.R_mono HO266.out (fun _ hk => ⟨⟨hk.1.1.2, hk.2⟩, hk.1.2⟩)) hg hat)
                                        have n3_ := Aside0.mk (hb)
                                        have n4_ := Aside0.mk (ho)
                                        clear HO_8
                                        clear BK247
                                        clear HO266
                                        clear HB
                                        clear HO260
                                        have HO_8 := n0_
                                        have BK247 := n1_
                                        have HO266 := n2_
                                        have HB := n3_
                                        have HO263 := n4_
                                        clear n0_ n1_ n2_ n3_ n4_
                                        clear ho hb hg hat
                                        refine hK.out _ _ ⟨(blk_cell BK247.out 0).trans rfl, (blk_cell BK247.out 1).trans rfl⟩ (fun hHeld => ?_)
                                        clear hK K
                                        refine norm_ (a' := ?_) ?_ ?_
                                        rotate_left
                                        · show Act.put _ (some 99) _ = _
                                          simp only [Act.put, List.setIfInBounds_toArray, List.set_cons_zero, List.set_cons_succ, i64_w, i32_w]
                                          rfl
                                        exact norm_ (by simp only [putAll, Act.put, List.setIfInBounds_toArray, List.set_cons_zero, List.set_cons_succ]) (hCont (v259, v262, v265) _ ⟨hHeld, (by (with_reducible repeat (first | apply Kd.R_alloc | apply Kd.R_drewN | apply Kd.R_drew)); exact Kd.R_mono HO263.out (fun _ hk => ⟨hk.2.1, ⟨hk.1, hk.2.2⟩⟩)), (by (with_reducible repeat (first | apply Kd.R_alloc | apply Kd.R_drewN | apply Kd.R_drew)); exact Kd.R_mono HO266.out (fun _ hk => ⟨hk.2, ⟨hk.1.1, hk.1.2⟩⟩)), (by (with_reducible repeat (first | apply Kd.R_alloc | apply Kd.R_drewN | apply Kd.R_drew)); exact Kd.R_mono HO_8.out (fun _ hk => ⟨hk.2, ⟨hk.1.1, hk.1.2⟩⟩)), (by (with_reducible repeat (first | refine blk_drewN ?_ _ | refine blk_drew ?_ | refine blk_alloc ?_ _)); exact BK247.out), (by repeat (first | (with_reducible first | exact HB.out | apply below_alloc | apply pw_below_drewN | apply below_drew1 | refine below_set ?_ GE247.out) | exact HB.out))⟩)
                                    · skip
                                      refine Kd.R_lit_step k28 _ 28 ?hg (N := 101) ?hd (xs := ([(⟨a1_0, a1_1⟩ : S28)] : List (S28))) (inner := [.int .i64 a1_0, .int .i64 a1_1]) (ok := fun _ => True) (okp := fun _ => True) ?hr ?hp (fun _ hk => hk) trivial (Below.refl _ _) (Nat.le_refl _) (by simp) ?_; (case hd => rfl); (case hg => rfl); (case hr => first | (go_simp; done) | (go_simp; rfl)); (case hp => exact (Reps.c2 (show Kd.M k28 _ _ _ (⟨a1_0, a1_1⟩ : S28) [.int .i64 a1_0, .int .i64 a1_1] from (k28_mkM _ _ _ (⟨a1_0, a1_1⟩ : S28) )) (Reps.none _ _)))
                                      intro v265 w47 ho48 hb hg_ hnew_
                                      clear hg_ hnew_
                                      (first | rw [← Ny264.out] at ho48 | (simp only [Int.reduceToNat] at ho48; rw [← Ny264.out] at ho48))
                                      have n0_ := Aside0.mk (Kd.R_elder' (by (with_reducible repeat (first | apply Kd.R_alloc | apply Kd.R_drewN | apply Kd.R_drew)); exact HO_8.out) (Kd.R_base ho48) hb)
                                      have n1_ := Aside0.mk (Kd.R_lower (Kd.R_newB (Kd.R_new' ho48 (Kd.R_lt (by (with_reducible repeat (first | apply Kd.R_alloc | apply Kd.R_drewN | apply Kd.R_drew)); exact HO_8.out))) (g := gb247) (o := .cells #[.int .i64 a1_0, .int .i64 a1_1] 28 (0, 0)) (by (with_reducible repeat (first | refine blk_drewN ?_ _ | refine blk_drew ?_ | refine blk_alloc ?_ _)); exact BK247.out)) (below_size (by repeat (first | (with_reducible first | exact HB.out | apply below_alloc | apply pw_below_drewN | apply below_drew1 | refine below_set ?_ GE247.out) | exact HB.out))))
                                      have n2_ := Aside0.mk (blk_below (g := gb247) (o := .cells #[.int .i64 a1_0, .int .i64 a1_1] 28 (0, 0)) (by (with_reducible repeat (first | refine blk_drewN ?_ _ | refine blk_drew ?_ | refine blk_alloc ?_ _)); exact BK247.out) hb)
                                      have n3_ := Aside0.mk (below_step (by repeat (first | (with_reducible first | exact HB.out | apply below_alloc | apply pw_below_drewN | apply below_drew1 | refine below_set ?_ GE247.out) | exact HB.out)) hb)
                                      clear HO_8
                                      clear BK247
                                      clear HB
                                      have HO_8 := n0_
                                      have HO266 := n1_
                                      have BK247 := n2_
                                      have HB := n3_
                                      clear n0_ n1_ n2_ n3_
                                      clear hb ho48
                                      refine hK.out _ _ ⟨(blk_cell BK247.out 0).trans rfl, (blk_cell BK247.out 1).trans rfl⟩ (fun hHeld => ?_)
                                      clear hK K
                                      refine norm_ (a' := ?_) ?_ ?_
                                      rotate_left
                                      · show Act.put _ (some 101) _ = _
                                        simp only [Act.put, List.setIfInBounds_toArray, List.set_cons_zero, List.set_cons_succ, i64_w, i32_w]
                                        rfl
                                      refine one_ (i := 0) (N := some 97) #[true, true, false, true, true, false, false] rfl rfl (by kernel_rfl) (by decide) (fun K hK => ?_)
                                      refine Kd.R_lit_step k28 _ 28 ?hg (N := 97) ?hd (xs := ([] : List (S28))) (inner := []) (ok := fun _ => True) (okp := fun _ => True) ?hr ?hp (fun _ hk => hk) trivial (Below.refl _ _) (Nat.le_refl _) (by simp) ?_; (case hd => rfl); (case hg => rfl); (case hr => first | (go_simp; done) | (go_simp; rfl)); (case hp => exact (Reps.none _ _))
                                      intro v259 w49 ho50 hb hg_ hnew_
                                      clear hg_ hnew_
                                      (first | rw [← Ny258.out] at ho50 | (simp only [Int.reduceToNat] at ho50; rw [← Ny258.out] at ho50))
                                      have n0_ := Aside0.mk (Kd.R_elder' (by (with_reducible repeat (first | apply Kd.R_alloc | apply Kd.R_drewN | apply Kd.R_drew)); exact HO_8.out) (Kd.R_base ho50) hb)
                                      have n1_ := Aside0.mk (Kd.R_elder' (by (with_reducible repeat (first | apply Kd.R_alloc | apply Kd.R_drewN | apply Kd.R_drew)); exact HO266.out) (Kd.R_base ho50) hb)
                                      have n2_ := Aside0.mk (Kd.R_lower (Kd.R_newB (Kd.R_new' (Kd.R_new' ho50 (Kd.R_lt (by (with_reducible repeat (first | apply Kd.R_alloc | apply Kd.R_drewN | apply Kd.R_drew)); exact HO_8.out))) (Kd.R_lt (by (with_reducible repeat (first | apply Kd.R_alloc | apply Kd.R_drewN | apply Kd.R_drew)); exact HO266.out))) (g := gb247) (o := .cells #[.int .i64 a1_0, .int .i64 a1_1] 28 (0, 0)) (by (with_reducible repeat (first | refine blk_drewN ?_ _ | refine blk_drew ?_ | refine blk_alloc ?_ _)); exact BK247.out)) (below_size (by repeat (first | (with_reducible first | exact HB.out | apply below_alloc | apply pw_below_drewN | apply below_drew1 | refine below_set ?_ GE247.out) | exact HB.out))))
                                      have n3_ := Aside0.mk (blk_below (g := gb247) (o := .cells #[.int .i64 a1_0, .int .i64 a1_1] 28 (0, 0)) (by (with_reducible repeat (first | refine blk_drewN ?_ _ | refine blk_drew ?_ | refine blk_alloc ?_ _)); exact BK247.out) hb)
                                      have n4_ := Aside0.mk (below_step (by repeat (first | (with_reducible first | exact HB.out | apply below_alloc | apply pw_below_drewN | apply below_drew1 | refine below_set ?_ GE247.out) | exact HB.out)) hb)
                                      clear HO_8
                                      clear HO266
                                      clear BK247
                                      clear HB
                                      have HO_8 := n0_
                                      have HO266 := n1_
                                      have HO260 := n2_
                                      have BK247 := n3_
                                      have HB := n4_
                                      clear n0_ n1_ n2_ n3_ n4_
                                      clear hb ho50
                                      refine hK.out _ _ ⟨(blk_cell BK247.out 0).trans rfl, (blk_cell BK247.out 1).trans rfl⟩ (fun hHeld => ?_)
                                      clear hK K
                                      refine norm_ (a' := ?_) ?_ ?_
                                      rotate_left
                                      · show Act.put _ (some 97) _ = _
                                        simp only [Act.put, List.setIfInBounds_toArray, List.set_cons_zero, List.set_cons_succ, i64_w, i32_w]
                                        rfl
                                      refine one_ (i := 2) (N := some 99) #[true, true, true, true, true, false, false] rfl rfl (by kernel_rfl) (by decide) (fun K hK => ?_)
                                      refine Kd.R_append_rows_step k28 (w0 := w) w.heap.size (by rfl) (.tmp 97) (.tmp 98) 22 28 (.agg #[(.int .i64 0), (.int .i64 0)]) 16 rfl Try.underlying22 info28 rfl (by decide) (by omega) v259 y258 l0 _ _ _ (fun k_ => some k_ ≠ (.slice Ao44 x8_3.length co44 : Value).ownBlock ∧ some k_ ≠ (v265 : Value).ownBlock ∧ k_ ≠ gb247) (fun _ => False) rfl rfl ?aO ?aR (fun _ _ h => h) (fun _ h => h.elim) ?aF ?aB ?aS ?aL ?_
                                      (case aR => repeat (first | exact (Kd.C_below HR0.out HB.out) | (with_reducible refine Kd.C_alloc ?_ _) | (with_reducible refine Kd.C_drewN ?_ _) | (with_reducible refine Kd.C_drew ?_)))
                                      (case aB => exact (by repeat (first | (with_reducible first | exact HB.out | apply below_alloc | apply pw_below_drewN | apply below_drew1 | refine below_set ?_ GE247.out) | exact HB.out)))
                                      (case aF => exact (fun k_ hk => ⟨Kd.fresh' (Kd.R_lt (by (with_reducible repeat (first | apply Kd.R_alloc | apply Kd.R_drewN | apply Kd.R_drew)); exact HO_8.out)) k_ hk, Kd.fresh' (Kd.R_lt (by (with_reducible repeat (first | apply Kd.R_alloc | apply Kd.R_drewN | apply Kd.R_drew)); exact HO266.out)) k_ hk, Kd.freshB (g := gb247) (o := .cells #[.int .i64 a1_0, .int .i64 a1_1] 28 (0, 0)) (by (with_reducible repeat (first | refine blk_drewN ?_ _ | refine blk_drew ?_ | refine blk_alloc ?_ _)); exact BK247.out) k_ hk⟩))
                                      (case aO => exact (by (with_reducible repeat (first | apply Kd.R_alloc | apply Kd.R_drewN | apply Kd.R_drew)); exact Kd.R_mono HO260.out (fun _ hk => ⟨hk.1.1.2, ⟨hk.1.2, hk.2⟩⟩)))
                                      (case aS => exact (below_size (by repeat (first | (with_reducible first | exact HB.out | apply below_alloc | apply pw_below_drewN | apply below_drew1 | refine below_set ?_ GE247.out) | exact HB.out))))
                                      (case aL => have := LMc37.out; omega)
                                      intro v262 w51 ho hb hg hat
                                      rw [← Ny261.out] at ho
                                      have n0_ := Aside0.mk (Kd.R_after (ok := (fun k_ => some k_ ≠ (v265 : Value).ownBlock ∧ k_ ≠ gb247)) (by (with_reducible repeat (first | apply Kd.R_alloc | apply Kd.R_drewN | apply Kd.R_drew)); exact Kd.R_mono HO_8.out (fun _ hk => ⟨⟨hk.1.2, hk.1.1⟩, hk.2⟩)) hg hat)
                                      have n1_ := Aside0.mk (blk_grown (g := gb247) (o := .cells #[.int .i64 a1_0, .int .i64 a1_1] 28 (0, 0)) (by (with_reducible repeat (first | refine blk_drewN ?_ _ | refine blk_drew ?_ | refine blk_alloc ?_ _)); exact BK247.out) hg (Kd.R_away HO260.out (fun _ hk => hk.2)))
                                      have n2_ := Aside0.mk (Kd.R_after (ok := (fun k_ => some k_ ≠ (.slice Ao44 x8_3.length co44 : Value).ownBlock ∧ k_ ≠ gb247)) (by (with_reducible repeat (first | apply Kd.R_alloc | apply Kd.R_drewN | apply Kd.R_drew)); exact Kd.R_mono HO266.out (fun _ hk => ⟨⟨hk.1.1.2, hk.1.2⟩, hk.2⟩)) hg hat)
                                      have n3_ := Aside0.mk (hb)
                                      have n4_ := Aside0.mk (ho)
                                      clear HO_8
                                      clear BK247
                                      clear HO266
                                      clear HB
                                      clear HO260
                                      have HO_8 := n0_
                                      have BK247 := n1_
                                      have HO266 := n2_
                                      have HB := n3_
                                      have HO263 := n4_
                                      clear n0_ n1_ n2_ n3_ n4_
                                      clear ho hb hg hat
                                      refine hK.out _ _ ⟨(blk_cell BK247.out 0).trans rfl, (blk_cell BK247.out 1).trans rfl⟩ (fun hHeld => ?_)
                                      clear hK K
                                      refine norm_ (a' := ?_) ?_ ?_
                                      rotate_left
                                      · show Act.put _ (some 99) _ = _
                                        simp only [Act.put, List.setIfInBounds_toArray, List.set_cons_zero, List.set_cons_succ, i64_w, i32_w]
                                        rfl
                                      exact norm_ (by simp only [putAll, Act.put, List.setIfInBounds_toArray, List.set_cons_zero, List.set_cons_succ]) (hCont (v259, v262, v265) _ ⟨hHeld, (by (with_reducible repeat (first | apply Kd.R_alloc | apply Kd.R_drewN | apply Kd.R_drew)); exact Kd.R_mono HO263.out (fun _ hk => ⟨hk.2.1, ⟨hk.1, hk.2.2⟩⟩)), (by (with_reducible repeat (first | apply Kd.R_alloc | apply Kd.R_drewN | apply Kd.R_drew)); exact Kd.R_mono HO266.out (fun _ hk => ⟨hk.2, ⟨hk.1.1, hk.1.2⟩⟩)), (by (with_reducible repeat (first | apply Kd.R_alloc | apply Kd.R_drewN | apply Kd.R_drew)); exact Kd.R_mono HO_8.out (fun _ hk => ⟨hk.2, ⟨hk.1.1, hk.1.2⟩⟩)), (by (with_reducible repeat (first | refine blk_drewN ?_ _ | refine blk_drew ?_ | refine blk_alloc ?_ _)); exact BK247.out), (by repeat (first | (with_reducible first | exact HB.out | apply below_alloc | apply pw_below_drewN | apply below_drew1 | refine below_set ?_ GE247.out) | exact HB.out))⟩)
                                  rintro ⟨v259, v262, v265⟩ w52 ⟨hS_, h0_, h1_, h2_, h3_, h4_⟩
                                  have n0_ : Aside0 (Kd.R k28 28 w52 w.heap.size (fun k_ => some k_ ≠ (v265 : Value).ownBlock ∧ some k_ ≠ (.slice Ao44 x8_3.length co44 : Value).ownBlock ∧ k_ ≠ gb247) v262 y261) := ⟨h0_⟩
                                  have n1_ : Aside0 (Kd.R k28 28 w52 w.heap.size (fun k_ => some k_ ≠ (v262 : Value).ownBlock ∧ some k_ ≠ (.slice Ao44 x8_3.length co44 : Value).ownBlock ∧ k_ ≠ gb247) v265 y264) := ⟨h1_⟩
                                  have n2_ : Aside0 (Kd.R k28 28 w52 w.heap.size (fun k_ => some k_ ≠ (v262 : Value).ownBlock ∧ some k_ ≠ (v265 : Value).ownBlock ∧ k_ ≠ gb247) (.slice Ao44 x8_3.length co44) x8_3) := ⟨h2_⟩
                                  have n3_ : Aside0 (w52.heap[gb247]? = some (.cells #[.int .i64 a1_0, .int .i64 a1_1] 28 (0, 0))) := ⟨h3_⟩
                                  have n4_ : Aside0 (Below w.heap.size w w52) := ⟨h4_⟩
                                  clear HO_8
                                  clear BK247
                                  clear HB
                                  clear h0_ h1_ h2_ h3_ h4_
                                  have HO263 := n0_
                                  have HO266 := n1_
                                  have HO_8 := n2_
                                  have BK247 := n3_
                                  have HB := n4_
                                  clear n0_ n1_ n2_ n3_ n4_
                                  have hHeld : w52.cell? ⟨gb247, 0, none⟩ = some (.int .i64 a1_0) ∧ w52.cell? ⟨gb247, 1, none⟩ = some (.int .i64 a1_1) := hS_
                                  obtain ⟨Ao54, co54, eo54⟩ := Kd.R_slice HO266.out
                                  (first | subst eo54 | (injection eo54 with f1_ f2_ f3_; have f4_ := f1_.symm; have f5_ := f3_.symm; clear f1_ f2_ f3_; subst f4_; subst f5_))
                                  refine norm_ (a' := ?_) ?_ ?_
                                  rotate_left
                                  · simp only [putAll, Act.put, List.setIfInBounds_toArray, List.set_cons_zero, List.set_cons_succ]
                                    rfl
                                  refine one_ (i := 5) (N := some 102) #[true, true, true, true, true, true, false] rfl rfl (by kernel_rfl) (by decide) (fun K hK => ?_)
                                  refine Kd.R_append_rows_step k28 (w0 := w) w.heap.size (by rfl) (.tmp 99) (.tmp 101) 22 28 (.agg #[(.int .i64 0), (.int .i64 0)]) 16 rfl Try.underlying22 info28 rfl (by decide) (by omega) v262 y261 y264 _ _ _ (fun k_ => some k_ ≠ (.slice Ao44 x8_3.length co44 : Value).ownBlock ∧ some k_ ≠ (.slice Ao54 y264.length co54 : Value).ownBlock ∧ k_ ≠ gb247) (fun _ => False) rfl rfl ?aO ?aR (fun _ _ h => h) (fun _ h => h.elim) ?aF ?aB ?aS ?aL ?_
                                  (case aR => repeat (first | exact (Kd.R_reads' HO266.out).2.2 | (with_reducible refine Kd.C_alloc ?_ _) | (with_reducible refine Kd.C_drewN ?_ _) | (with_reducible refine Kd.C_drew ?_)))
                                  (case aB => exact (by repeat (first | (with_reducible first | exact HB.out | apply below_alloc | apply pw_below_drewN | apply below_drew1 | refine below_set ?_ GE247.out) | exact HB.out)))
                                  (case aF => exact (fun k_ hk => ⟨Kd.fresh' (Kd.R_lt (by (with_reducible repeat (first | apply Kd.R_alloc | apply Kd.R_drewN | apply Kd.R_drew)); exact HO_8.out)) k_ hk, Kd.fresh' (Kd.R_lt (by (with_reducible repeat (first | apply Kd.R_alloc | apply Kd.R_drewN | apply Kd.R_drew)); exact HO266.out)) k_ hk, Kd.freshB (g := gb247) (o := .cells #[.int .i64 a1_0, .int .i64 a1_1] 28 (0, 0)) (by (with_reducible repeat (first | refine blk_drewN ?_ _ | refine blk_drew ?_ | refine blk_alloc ?_ _)); exact BK247.out) k_ hk⟩))
                                  (case aO => exact (by (with_reducible repeat (first | apply Kd.R_alloc | apply Kd.R_drewN | apply Kd.R_drew)); exact Kd.R_mono HO263.out (fun _ hk => ⟨hk.2.1, ⟨hk.1, hk.2.2⟩⟩)))
                                  (case aS => exact (below_size (by repeat (first | (with_reducible first | exact HB.out | apply below_alloc | apply pw_below_drewN | apply below_drew1 | refine below_set ?_ GE247.out) | exact HB.out))))
                                  (case aL => have := LMc38.out; omega)
                                  intro v268 w53 ho hb hg hat
                                  rw [← Ny267.out] at ho
                                  have n0_ := Aside0.mk (Kd.R_after (ok := (fun k_ => some k_ ≠ (.slice Ao54 y264.length co54 : Value).ownBlock ∧ k_ ≠ gb247)) (by (with_reducible repeat (first | apply Kd.R_alloc | apply Kd.R_drewN | apply Kd.R_drew)); exact Kd.R_mono HO_8.out (fun _ hk => ⟨⟨hk.2.1, hk.2.2⟩, hk.1⟩)) hg hat)
                                  have n1_ := Aside0.mk (blk_grown (g := gb247) (o := .cells #[.int .i64 a1_0, .int .i64 a1_1] 28 (0, 0)) (by (with_reducible repeat (first | refine blk_drewN ?_ _ | refine blk_drew ?_ | refine blk_alloc ?_ _)); exact BK247.out) hg (Kd.R_away HO263.out (fun _ hk => hk.2.2)))
                                  have n2_ := Aside0.mk (Kd.R_after (ok := (fun k_ => some k_ ≠ (.slice Ao44 x8_3.length co44 : Value).ownBlock ∧ k_ ≠ gb247)) (by (with_reducible repeat (first | apply Kd.R_alloc | apply Kd.R_drewN | apply Kd.R_drew)); exact Kd.R_mono HO266.out (fun _ hk => ⟨⟨hk.2.1, hk.2.2⟩, hk.1⟩)) hg hat)
                                  have n3_ := Aside0.mk (hb)
                                  have n4_ := Aside0.mk (ho)
                                  clear HO_8
                                  clear BK247
                                  clear HO266
                                  clear HB
                                  clear HO263
                                  have HO_8 := n0_
                                  have BK247 := n1_
                                  have HO266 := n2_
                                  have HB := n3_
                                  have HO269 := n4_
                                  clear n0_ n1_ n2_ n3_ n4_
                                  clear ho hb hg hat
                                  refine hK.out _ _ ⟨(blk_cell BK247.out 0).trans rfl, (blk_cell BK247.out 1).trans rfl⟩ (fun hHeld => ?_)
                                  clear hK K
                                  refine norm_ (a' := ?_) ?_ ?_
                                  rotate_left
                                  · show Act.put _ (some 102) _ = _
                                    simp only [Act.put, List.setIfInBounds_toArray, List.set_cons_zero, List.set_cons_succ, i64_w, i32_w]
                                    rfl
                                  refine pure_ (i := 6) (N := some 14) (v := ?_) (a' := ?_) #[true, true, true, true, true, true, true] rfl rfl (by kernel_rfl) (fun _ _ _ h => h) (Or.inl ⟨by rfl, ?_⟩) ?_ ?_
                                  rotate_left
                                  · intro w'
                                    go_simp
                                    with_reducible rfl
                                  rotate_left
                                  · simp only [Act.put, List.setIfInBounds_toArray, List.set_cons_zero, List.set_cons_succ, i64_w, i32_w]
                                    rfl
                                  refine done_ (by kernel_rfl) ?_
                                  obtain ⟨Ao55, co55, eo55⟩ := Kd.R_slice HO269.out
                                  subst eo55
                                  try go_wp2_with (first | ((with_reducible refine gate_callee (f := 32) rfl ?_); refine goesL_ (some 105) rfl rfl Try.func32 (by kernel_rfl) rfl #[.slice Ao44 x8_3.length co44, .slice Ao55 y267.length co55] rfl (by (try simp only [List.map_toArray, List.map_cons, List.map_nil]); first | done | rfl | (simp only [List.length_drop, List.length_take]; rfl)) ?_; (with_reducible refine (impl_RangesEqual.calls _ _ x8_3 _ _ y267 true _ ?side1 ?side2 ?side3 ?side4 A39.out).mono ?_); (case side1 => repeat (first | exact (Kd.R_reads' HO_8.out).2.2 | (with_reducible refine Kd.C_alloc ?_ _) | (with_reducible refine Kd.C_drewN ?_ _) | (with_reducible refine Kd.C_drew ?_))); (case side2 => exact (Kd.R_reads' HO_8.out).2.1); (case side3 => repeat (first | exact (Kd.R_reads' HO269.out).2.2 | (with_reducible refine Kd.C_alloc ?_ _) | (with_reducible refine Kd.C_drewN ?_ _) | (with_reducible refine Kd.C_drew ?_))); (case side4 => exact (Kd.R_reads' HO269.out).2.1); rintro e w56 ⟨rfl, hb⟩; refine ⟨_, rfl, ?_⟩; have n0_ := Aside0.mk (Kd.R_below (by (with_reducible repeat (first | apply Kd.R_alloc | apply Kd.R_drewN | apply Kd.R_drew)); exact HO_8.out) hb); have n1_ := Aside0.mk (Kd.R_below (by (with_reducible repeat (first | apply Kd.R_alloc | apply Kd.R_drewN | apply Kd.R_drew)); exact HO266.out) hb); have n2_ := Aside0.mk (Kd.R_below (by (with_reducible repeat (first | apply Kd.R_alloc | apply Kd.R_drewN | apply Kd.R_drew)); exact HO269.out) hb); have n3_ := Aside0.mk (blk_below (g := gb247) (o := .cells #[.int .i64 a1_0, .int .i64 a1_1] 28 (0, 0)) (by (with_reducible repeat (first | refine blk_drewN ?_ _ | refine blk_drew ?_ | refine blk_alloc ?_ _)); exact BK247.out) hb); have n4_ := Aside0.mk (below_step (by repeat (first | (with_reducible first | exact HB.out | apply below_alloc | apply pw_below_drewN | apply below_drew1 | refine below_set ?_ GE247.out) | exact HB.out)) hb); clear HO_8; clear HO266; clear HO269; clear BK247; clear HB; have HO_8 := n0_; have HO266 := n1_; have HO269 := n2_; have BK247 := n3_; have HB := n4_; clear n0_ n1_ n2_ n3_ n4_; (try clear hb); (try clear hb2); (try clear hk); (try clear hi)) | (go_at_call 28; (with_reducible refine (impl_RangesSize.calls k3 _ _ l0 t271 _ ?side1 ?side2 A41.out).mono ?_); (case side1 => repeat (first | exact (Kd.C_below HR0.out HB.out) | (with_reducible refine Kd.C_alloc ?_ _) | (with_reducible refine Kd.C_drewN ?_ _) | (with_reducible refine Kd.C_drew ?_))); (case side2 => exact HC0.out); rintro e w57 ⟨rfl, hb⟩; have n0_ := Aside0.mk (Kd.R_below (by (with_reducible repeat (first | apply Kd.R_alloc | apply Kd.R_drewN | apply Kd.R_drew)); exact HO_8.out) hb); have n1_ := Aside0.mk (Kd.R_below (by (with_reducible repeat (first | apply Kd.R_alloc | apply Kd.R_drewN | apply Kd.R_drew)); exact HO266.out) hb); have n2_ := Aside0.mk (Kd.R_below (by (with_reducible repeat (first | apply Kd.R_alloc | apply Kd.R_drewN | apply Kd.R_drew)); exact HO269.out) hb); have n3_ := Aside0.mk (blk_below (g := gb247) (o := .cells #[.int .i64 a1_0, .int .i64 a1_1] 28 (0, 0)) (by (with_reducible repeat (first | refine blk_drewN ?_ _ | refine blk_drew ?_ | refine blk_alloc ?_ _)); exact BK247.out) hb); have n4_ := Aside0.mk (below_step (by repeat (first | (with_reducible first | exact HB.out | apply below_alloc | apply pw_below_drewN | apply below_drew1 | refine below_set ?_ GE247.out) | exact HB.out)) hb); clear HO_8; clear HO266; clear HO269; clear BK247; clear HB; have HO_8 := n0_; have HO266 := n1_; have HO269 := n2_; have BK247 := n3_; have HB := n4_; clear n0_ n1_ n2_ n3_ n4_; (try clear hb); (try clear hb2); (try clear hk); (try clear hi)) | (go_at_call 28; (with_reducible refine (impl_RangesSize.calls k3 _ _ y267 t272 _ ?side1 ?side2 A42.out).mono ?_); (case side1 => repeat (first | exact (Kd.R_reads' HO269.out).2.2 | (with_reducible refine Kd.C_alloc ?_ _) | (with_reducible refine Kd.C_drewN ?_ _) | (with_reducible refine Kd.C_drew ?_))); (case side2 => exact (Kd.R_reads' HO269.out).2.1); rintro e w58 ⟨rfl, hb⟩; have n0_ := Aside0.mk (Kd.R_below (by (with_reducible repeat (first | apply Kd.R_alloc | apply Kd.R_drewN | apply Kd.R_drew)); exact HO_8.out) hb); have n1_ := Aside0.mk (Kd.R_below (by (with_reducible repeat (first | apply Kd.R_alloc | apply Kd.R_drewN | apply Kd.R_drew)); exact HO266.out) hb); have n2_ := Aside0.mk (Kd.R_below (by (with_reducible repeat (first | apply Kd.R_alloc | apply Kd.R_drewN | apply Kd.R_drew)); exact HO269.out) hb); have n3_ := Aside0.mk (blk_below (g := gb247) (o := .cells #[.int .i64 a1_0, .int .i64 a1_1] 28 (0, 0)) (by (with_reducible repeat (first | refine blk_drewN ?_ _ | refine blk_drew ?_ | refine blk_alloc ?_ _)); exact BK247.out) hb); have n4_ := Aside0.mk (below_step (by repeat (first | (with_reducible first | exact HB.out | apply below_alloc | apply pw_below_drewN | apply below_drew1 | refine below_set ?_ GE247.out) | exact HB.out)) hb); clear HO_8; clear HO266; clear HO269; clear BK247; clear HB; have HO_8 := n0_; have HO266 := n1_; have HO269 := n2_; have BK247 := n3_; have HB := n4_; clear n0_ n1_ n2_ n3_ n4_; (try clear hb); (try clear hb2); (try clear hk); (try clear hi)))
                                  go_ret
                                  exact ⟨by first | rfl | (simp [errW_none, errW_some] <;> rfl) | (simp [*, errW_none, errW_some] <;> rfl), by repeat (first | (with_reducible first | exact HB.out | apply below_alloc | apply pw_below_drewN | apply below_drew1 | refine below_set ?_ GE247.out) | exact HB.out)⟩
                                · replace c40 := Bool.eq_false_iff.mpr c40
                                  subst c40
                                  have H1 : (some false) = some r := by rw [if_neg (show ¬ (false = true) by decide)] at H; exact H
                                  clear H
                                  have H := H1
                                  clear H1
                                  obtain rfl := Option.some.inj H
                                  have hcz59_0 : wr.cell? ⟨gb247, 0, none⟩ = some (.int .i64 a1_0) := (blk_cell BK247.out 0).trans rfl
                                  have hcz59_1 : wr.cell? ⟨gb247, 1, none⟩ = some (.int .i64 a1_1) := (blk_cell BK247.out 1).trans rfl
                                  have hfz59_0 := blk_frozen BK247.out 0
                                  have hfz59_1 := blk_frozen BK247.out 1
                                  obtain ⟨Ao60, co60, eo60⟩ := Kd.R_slice HO_8.out
                                  subst eo60
                                  try go_wp2_with (first | ((with_reducible refine gate_callee (f := 30) rfl ?_); refine goesL_ (some 53) rfl rfl Try.func30 (by kernel_rfl) rfl #[.slice Ao60 x8_3.length co60, .agg #[.int .i64 a1_0, .int .i64 a1_1]] rfl (by (try simp only [List.map_toArray, List.map_cons, List.map_nil]); first | done | rfl | (simp only [List.length_drop, List.length_take]; rfl)) ?_; (with_reducible refine (impl_RangesPresent.calls _ _ x8_3 a1_0 a1_1 true _ ?side1 ?side2 A35.out).mono ?_); (case side1 => repeat (first | exact (Kd.R_reads' HO_8.out).2.2 | (with_reducible refine Kd.C_alloc ?_ _) | (with_reducible refine Kd.C_drewN ?_ _) | (with_reducible refine Kd.C_drew ?_))); (case side2 => exact (Kd.R_reads' HO_8.out).2.1); rintro e w61 ⟨rfl, hb⟩; refine ⟨_, rfl, ?_⟩; have n0_ := Aside0.mk (Kd.R_below (by (with_reducible repeat (first | apply Kd.R_alloc | apply Kd.R_drewN | apply Kd.R_drew)); exact HO_8.out) hb); have n1_ := Aside0.mk (blk_below (g := gb247) (o := .cells #[.int .i64 a1_0, .int .i64 a1_1] 28 (0, 0)) (by (with_reducible repeat (first | refine blk_drewN ?_ _ | refine blk_drew ?_ | refine blk_alloc ?_ _)); exact BK247.out) hb); have n2_ := Aside0.mk (below_step (by repeat (first | (with_reducible first | exact HB.out | apply below_alloc | apply pw_below_drewN | apply below_drew1 | refine below_set ?_ GE247.out) | exact HB.out)) hb); clear HO_8; clear BK247; clear HB; have HO_8 := n0_; have BK247 := n1_; have HB := n2_; clear n0_ n1_ n2_; (try clear hb); (try clear hb2); (try clear hk); (try clear hi)))
                                  have n0_ := Aside0.mk (Kd.R_drew HO_8.out)
                                  have n1_ := Aside0.mk (blk_drew BK247.out)
                                  have n2_ := Aside0.mk (below_drew1 HB.out)
                                  clear HO_8
                                  clear BK247
                                  clear HB
                                  have HO_8 := n0_
                                  have BK247 := n1_
                                  have HB := n2_
                                  clear n0_ n1_ n2_
                                  refine start_ (n := 7) (S := fun w' => w'.cell? ⟨gb247, 0, none⟩ = some (.int .i64 a1_0) ∧ w'.cell? ⟨gb247, 1, none⟩ = some (.int .i64 a1_1)) (ds := []) #[false, false, false, false, false, false, false] (by kernel_rfl) rfl rfl ⟨(blk_cell BK247.out 0).trans rfl, (blk_cell BK247.out 1).trans rfl⟩ (fun hHeld => ?_)
                                  generalize w61.drew = w62 at HO_8 BK247 HB hHeld ⊢
                                  refine pure_ (i := 1) (N := some 98) (v := ?_) (a' := ?_) #[false, true, false, false, false, false, false] rfl rfl (by kernel_rfl) (fun _ _ _ h => h) (Or.inl ⟨by rfl, ?_⟩) ?_ ?_
                                  rotate_left
                                  · intro w'
                                    go_simp
                                    with_reducible rfl
                                  rotate_left
                                  · simp only [Act.put, List.setIfInBounds_toArray, List.set_cons_zero, List.set_cons_succ, i64_w, i32_w]
                                    rfl
                                  refine take_ (i := 3) (N := some 100) (v := ?_) (a' := ?_) #[false, true, false, true, false, false, false] rfl rfl (by kernel_rfl) (fun _ _ _ h => h) (Or.inl ⟨by rfl, ?_⟩) hHeld ?_ ?_
                                  rotate_left
                                  · rintro w' ⟨s0, s1⟩
                                    go_simp
                                    with_reducible rfl
                                  rotate_left
                                  · simp only [Act.put, List.setIfInBounds_toArray, List.set_cons_zero, List.set_cons_succ, i64_w, i32_w]
                                    rfl
                                  refine join_ (σ := Value × Value × Value) 2 #[true, true, true, true, true, false, false] (fun s_ => [(97, s_.1), (99, s_.2.1), (101, s_.2.2)]) (fun s_ w' => (w'.cell? ⟨gb247, 0, none⟩ = some (.int .i64 a1_0) ∧ w'.cell? ⟨gb247, 1, none⟩ = some (.int .i64 a1_1)) ∧ (Kd.R k28 28 w' w.heap.size (fun k_ => some k_ ≠ (s_.2.2 : Value).ownBlock ∧ some k_ ≠ (.slice Ao60 x8_3.length co60 : Value).ownBlock ∧ k_ ≠ gb247) s_.2.1 y261) ∧ (Kd.R k28 28 w' w.heap.size (fun k_ => some k_ ≠ (s_.2.1 : Value).ownBlock ∧ some k_ ≠ (.slice Ao60 x8_3.length co60 : Value).ownBlock ∧ k_ ≠ gb247) s_.2.2 y264) ∧ (Kd.R k28 28 w' w.heap.size (fun k_ => some k_ ≠ (s_.2.1 : Value).ownBlock ∧ some k_ ≠ (s_.2.2 : Value).ownBlock ∧ k_ ≠ gb247) (.slice Ao60 x8_3.length co60) x8_3) ∧ (w'.heap[gb247]? = some (.cells #[.int .i64 a1_0, .int .i64 a1_1] 28 (0, 0))) ∧ (Below w.heap.size w w')) ?_ ?_
                                  rotate_left
                                  · intro hCont
                                    refine two_ (i := 0) (j := 4) (Ni := some 97) (Nj := some 101) #[true, true, false, true, false, false, false] #[false, true, false, true, true, false, false] rfl rfl rfl rfl (by kernel_rfl) (by decide) (by decide) (fun K hK => ?_) (fun K hK => ?_)
                                    · skip
                                      refine Kd.R_lit_step k28 _ 28 ?hg (N := 97) ?hd (xs := ([] : List (S28))) (inner := []) (ok := fun _ => True) (okp := fun _ => True) ?hr ?hp (fun _ hk => hk) trivial (Below.refl _ _) (Nat.le_refl _) (by simp) ?_; (case hd => rfl); (case hg => rfl); (case hr => first | (go_simp; done) | (go_simp; rfl)); (case hp => exact (Reps.none _ _))
                                      intro v259 w63 ho64 hb hg_ hnew_
                                      clear hg_ hnew_
                                      (first | rw [← Ny258.out] at ho64 | (simp only [Int.reduceToNat] at ho64; rw [← Ny258.out] at ho64))
                                      have n0_ := Aside0.mk (Kd.R_elder' (by (with_reducible repeat (first | apply Kd.R_alloc | apply Kd.R_drewN | apply Kd.R_drew)); exact HO_8.out) (Kd.R_base ho64) hb)
                                      have n1_ := Aside0.mk (Kd.R_lower (Kd.R_newB (Kd.R_new' ho64 (Kd.R_lt (by (with_reducible repeat (first | apply Kd.R_alloc | apply Kd.R_drewN | apply Kd.R_drew)); exact HO_8.out))) (g := gb247) (o := .cells #[.int .i64 a1_0, .int .i64 a1_1] 28 (0, 0)) (by (with_reducible repeat (first | refine blk_drewN ?_ _ | refine blk_drew ?_ | refine blk_alloc ?_ _)); exact BK247.out)) (below_size (by repeat (first | (with_reducible first | exact HB.out | apply below_alloc | apply pw_below_drewN | apply below_drew1 | refine below_set ?_ GE247.out) | exact HB.out))))
                                      have n2_ := Aside0.mk (blk_below (g := gb247) (o := .cells #[.int .i64 a1_0, .int .i64 a1_1] 28 (0, 0)) (by (with_reducible repeat (first | refine blk_drewN ?_ _ | refine blk_drew ?_ | refine blk_alloc ?_ _)); exact BK247.out) hb)
                                      have n3_ := Aside0.mk (below_step (by repeat (first | (with_reducible first | exact HB.out | apply below_alloc | apply pw_below_drewN | apply below_drew1 | refine below_set ?_ GE247.out) | exact HB.out)) hb)
                                      clear HO_8
                                      clear BK247
                                      clear HB
                                      have HO_8 := n0_
                                      have HO260 := n1_
                                      have BK247 := n2_
                                      have HB := n3_
                                      clear n0_ n1_ n2_ n3_
                                      clear hb ho64
                                      refine hK.out _ _ ⟨(blk_cell BK247.out 0).trans rfl, (blk_cell BK247.out 1).trans rfl⟩ (fun hHeld => ?_)
                                      clear hK K
                                      refine norm_ (a' := ?_) ?_ ?_
                                      rotate_left
                                      · show Act.put _ (some 97) _ = _
                                        simp only [Act.put, List.setIfInBounds_toArray, List.set_cons_zero, List.set_cons_succ, i64_w, i32_w]
                                        rfl
                                      refine two_ (i := 2) (j := 4) (Ni := some 99) (Nj := some 101) #[true, true, true, true, false, false, false] #[true, true, false, true, true, false, false] rfl rfl rfl rfl (by kernel_rfl) (by decide) (by decide) (fun K hK => ?_) (fun K hK => ?_)
                                      · skip
                                        refine Kd.R_append_rows_step k28 (w0 := w) w.heap.size (by rfl) (.tmp 97) (.tmp 98) 22 28 (.agg #[(.int .i64 0), (.int .i64 0)]) 16 rfl Try.underlying22 info28 rfl (by decide) (by omega) v259 y258 l0 _ _ _ (fun k_ => some k_ ≠ (.slice Ao60 x8_3.length co60 : Value).ownBlock ∧ k_ ≠ gb247) (fun _ => False) rfl rfl ?aO ?aR (fun _ _ h => h) (fun _ h => h.elim) ?aF ?aB ?aS ?aL ?_
                                        (case aR => repeat (first | exact (Kd.C_below HR0.out HB.out) | (with_reducible refine Kd.C_alloc ?_ _) | (with_reducible refine Kd.C_drewN ?_ _) | (with_reducible refine Kd.C_drew ?_)))
                                        (case aB => exact (by repeat (first | (with_reducible first | exact HB.out | apply below_alloc | apply pw_below_drewN | apply below_drew1 | refine below_set ?_ GE247.out) | exact HB.out)))
                                        (case aF => exact (fun k_ hk => ⟨Kd.fresh' (Kd.R_lt (by (with_reducible repeat (first | apply Kd.R_alloc | apply Kd.R_drewN | apply Kd.R_drew)); exact HO_8.out)) k_ hk, Kd.freshB (g := gb247) (o := .cells #[.int .i64 a1_0, .int .i64 a1_1] 28 (0, 0)) (by (with_reducible repeat (first | refine blk_drewN ?_ _ | refine blk_drew ?_ | refine blk_alloc ?_ _)); exact BK247.out) k_ hk⟩))
                                        (case aO => exact (by (with_reducible repeat (first | apply Kd.R_alloc | apply Kd.R_drewN | apply Kd.R_drew)); exact Kd.R_mono HO260.out (fun _ hk => ⟨hk.1.2, hk.2⟩)))
                                        (case aS => exact (below_size (by repeat (first | (with_reducible first | exact HB.out | apply below_alloc | apply pw_below_drewN | apply below_drew1 | refine below_set ?_ GE247.out) | exact HB.out))))
                                        (case aL => have := LMc37.out; omega)
                                        intro v262 w65 ho hb hg hat
                                        rw [← Ny261.out] at ho
                                        have n0_ := Aside0.mk (Kd.R_after (ok := (fun k_ => k_ ≠ gb247)) (by (with_reducible repeat (first | apply Kd.R_alloc | apply Kd.R_drewN | apply Kd.R_drew)); exact HO_8.out) hg hat)
                                        have n1_ := Aside0.mk (blk_grown (g := gb247) (o := .cells #[.int .i64 a1_0, .int .i64 a1_1] 28 (0, 0)) (by (with_reducible repeat (first | refine blk_drewN ?_ _ | refine blk_drew ?_ | refine blk_alloc ?_ _)); exact BK247.out) hg (Kd.R_away HO260.out (fun _ hk => hk.2)))
                                        have n2_ := Aside0.mk (hb)
                                        have n3_ := Aside0.mk (ho)
                                        clear HO_8
                                        clear BK247
                                        clear HB
                                        clear HO260
                                        have HO_8 := n0_
                                        have BK247 := n1_
                                        have HB := n2_
                                        have HO263 := n3_
                                        clear n0_ n1_ n2_ n3_
                                        clear ho hb hg hat
                                        refine hK.out _ _ ⟨(blk_cell BK247.out 0).trans rfl, (blk_cell BK247.out 1).trans rfl⟩ (fun hHeld => ?_)
                                        clear hK K
                                        refine norm_ (a' := ?_) ?_ ?_
                                        rotate_left
                                        · show Act.put _ (some 99) _ = _
                                          simp only [Act.put, List.setIfInBounds_toArray, List.set_cons_zero, List.set_cons_succ, i64_w, i32_w]
                                          rfl
                                        refine one_ (i := 4) (N := some 101) #[true, true, true, true, true, false, false] rfl rfl (by kernel_rfl) (by decide) (fun K hK => ?_)
                                        refine Kd.R_lit_step k28 _ 28 ?hg (N := 101) ?hd (xs := ([(⟨a1_0, a1_1⟩ : S28)] : List (S28))) (inner := [.int .i64 a1_0, .int .i64 a1_1]) (ok := fun _ => True) (okp := fun _ => True) ?hr ?hp (fun _ hk => hk) trivial (Below.refl _ _) (Nat.le_refl _) (by simp) ?_; (case hd => rfl); (case hg => rfl); (case hr => first | (go_simp; done) | (go_simp; rfl)); (case hp => exact (Reps.c2 (show Kd.M k28 _ _ _ (⟨a1_0, a1_1⟩ : S28) [.int .i64 a1_0, .int .i64 a1_1] from (k28_mkM _ _ _ (⟨a1_0, a1_1⟩ : S28) )) (Reps.none _ _)))
                                        intro v265 w66 ho67 hb hg_ hnew_
                                        clear hg_ hnew_
                                        (first | rw [← Ny264.out] at ho67 | (simp only [Int.reduceToNat] at ho67; rw [← Ny264.out] at ho67))
                                        have n0_ := Aside0.mk (Kd.R_elder' (by (with_reducible repeat (first | apply Kd.R_alloc | apply Kd.R_drewN | apply Kd.R_drew)); exact HO_8.out) (Kd.R_base ho67) hb)
                                        have n1_ := Aside0.mk (Kd.R_elder' (by (with_reducible repeat (first | apply Kd.R_alloc | apply Kd.R_drewN | apply Kd.R_drew)); exact HO263.out) (Kd.R_base ho67) hb)
                                        have n2_ := Aside0.mk (Kd.R_lower (Kd.R_newB (Kd.R_new' (Kd.R_new' ho67 (Kd.R_lt (by (with_reducible repeat (first | apply Kd.R_alloc | apply Kd.R_drewN | apply Kd.R_drew)); exact HO_8.out))) (Kd.R_lt (by (with_reducible repeat (first | apply Kd.R_alloc | apply Kd.R_drewN | apply Kd.R_drew)); exact HO263.out))) (g := gb247) (o := .cells #[.int .i64 a1_0, .int .i64 a1_1] 28 (0, 0)) (by (with_reducible repeat (first | refine blk_drewN ?_ _ | refine blk_drew ?_ | refine blk_alloc ?_ _)); exact BK247.out)) (below_size (by repeat (first | (with_reducible first | exact HB.out | apply below_alloc | apply pw_below_drewN | apply below_drew1 | refine below_set ?_ GE247.out) | exact HB.out))))
                                        have n3_ := Aside0.mk (blk_below (g := gb247) (o := .cells #[.int .i64 a1_0, .int .i64 a1_1] 28 (0, 0)) (by (with_reducible repeat (first | refine blk_drewN ?_ _ | refine blk_drew ?_ | refine blk_alloc ?_ _)); exact BK247.out) hb)
                                        have n4_ := Aside0.mk (below_step (by repeat (first | (with_reducible first | exact HB.out | apply below_alloc | apply pw_below_drewN | apply below_drew1 | refine below_set ?_ GE247.out) | exact HB.out)) hb)
                                        clear HO_8
                                        clear HO263
                                        clear BK247
                                        clear HB
                                        have HO_8 := n0_
                                        have HO263 := n1_
                                        have HO266 := n2_
                                        have BK247 := n3_
                                        have HB := n4_
                                        clear n0_ n1_ n2_ n3_ n4_
                                        clear hb ho67
                                        refine hK.out _ _ ⟨(blk_cell BK247.out 0).trans rfl, (blk_cell BK247.out 1).trans rfl⟩ (fun hHeld => ?_)
                                        clear hK K
                                        refine norm_ (a' := ?_) ?_ ?_
                                        rotate_left
                                        · show Act.put _ (some 101) _ = _
                                          simp only [Act.put, List.setIfInBounds_toArray, List.set_cons_zero, List.set_cons_succ, i64_w, i32_w]
                                          rfl
                                        exact norm_ (by simp only [putAll, Act.put, List.setIfInBounds_toArray, List.set_cons_zero, List.set_cons_succ]) (hCont (v259, v262, v265) _ ⟨hHeld, (by (with_reducible repeat (first | apply Kd.R_alloc | apply Kd.R_drewN | apply Kd.R_drew)); exact Kd.R_mono HO263.out (fun _ hk => ⟨hk.2, ⟨hk.1.1, hk.1.2⟩⟩)), (by (with_reducible repeat (first | apply Kd.R_alloc | apply Kd.R_drewN | apply Kd.R_drew)); exact Kd.R_mono HO266.out (fun _ hk => ⟨hk.1.2, ⟨hk.1.1.2, hk.2⟩⟩)), (by (with_reducible repeat (first | apply Kd.R_alloc | apply Kd.R_drewN | apply Kd.R_drew)); exact Kd.R_mono HO_8.out (fun _ hk => ⟨hk.1.2, ⟨hk.2, hk.1.1⟩⟩)), (by (with_reducible repeat (first | refine blk_drewN ?_ _ | refine blk_drew ?_ | refine blk_alloc ?_ _)); exact BK247.out), (by repeat (first | (with_reducible first | exact HB.out | apply below_alloc | apply pw_below_drewN | apply below_drew1 | refine below_set ?_ GE247.out) | exact HB.out))⟩)
                                      · skip
                                        refine Kd.R_lit_step k28 _ 28 ?hg (N := 101) ?hd (xs := ([(⟨a1_0, a1_1⟩ : S28)] : List (S28))) (inner := [.int .i64 a1_0, .int .i64 a1_1]) (ok := fun _ => True) (okp := fun _ => True) ?hr ?hp (fun _ hk => hk) trivial (Below.refl _ _) (Nat.le_refl _) (by simp) ?_; (case hd => rfl); (case hg => rfl); (case hr => first | (go_simp; done) | (go_simp; rfl)); (case hp => exact (Reps.c2 (show Kd.M k28 _ _ _ (⟨a1_0, a1_1⟩ : S28) [.int .i64 a1_0, .int .i64 a1_1] from (k28_mkM _ _ _ (⟨a1_0, a1_1⟩ : S28) )) (Reps.none _ _)))
                                        intro v265 w65 ho66 hb hg_ hnew_
                                        clear hg_ hnew_
                                        (first | rw [← Ny264.out] at ho66 | (simp only [Int.reduceToNat] at ho66; rw [← Ny264.out] at ho66))
                                        have n0_ := Aside0.mk (Kd.R_elder' (by (with_reducible repeat (first | apply Kd.R_alloc | apply Kd.R_drewN | apply Kd.R_drew)); exact HO_8.out) (Kd.R_base ho66) hb)
                                        have n1_ := Aside0.mk (Kd.R_elder' (by (with_reducible repeat (first | apply Kd.R_alloc | apply Kd.R_drewN | apply Kd.R_drew)); exact HO260.out) (Kd.R_base ho66) hb)
                                        have n2_ := Aside0.mk (Kd.R_lower (Kd.R_newB (Kd.R_new' (Kd.R_new' ho66 (Kd.R_lt (by (with_reducible repeat (first | apply Kd.R_alloc | apply Kd.R_drewN | apply Kd.R_drew)); exact HO_8.out))) (Kd.R_lt (by (with_reducible repeat (first | apply Kd.R_alloc | apply Kd.R_drewN | apply Kd.R_drew)); exact HO260.out))) (g := gb247) (o := .cells #[.int .i64 a1_0, .int .i64 a1_1] 28 (0, 0)) (by (with_reducible repeat (first | refine blk_drewN ?_ _ | refine blk_drew ?_ | refine blk_alloc ?_ _)); exact BK247.out)) (below_size (by repeat (first | (with_reducible first | exact HB.out | apply below_alloc | apply pw_below_drewN | apply below_drew1 | refine below_set ?_ GE247.out) | exact HB.out))))
                                        have n3_ := Aside0.mk (blk_below (g := gb247) (o := .cells #[.int .i64 a1_0, .int .i64 a1_1] 28 (0, 0)) (by (with_reducible repeat (first | refine blk_drewN ?_ _ | refine blk_drew ?_ | refine blk_alloc ?_ _)); exact BK247.out) hb)
                                        have n4_ := Aside0.mk (below_step (by repeat (first | (with_reducible first | exact HB.out | apply below_alloc | apply pw_below_drewN | apply below_drew1 | refine below_set ?_ GE247.out) | exact HB.out)) hb)
                                        clear HO_8
                                        clear HO260
                                        clear BK247
                                        clear HB
                                        have HO_8 := n0_
                                        have HO260 := n1_
                                        have HO266 := n2_
                                        have BK247 := n3_
                                        have HB := n4_
                                        clear n0_ n1_ n2_ n3_ n4_
                                        clear hb ho66
                                        refine hK.out _ _ ⟨(blk_cell BK247.out 0).trans rfl, (blk_cell BK247.out 1).trans rfl⟩ (fun hHeld => ?_)
                                        clear hK K
                                        refine norm_ (a' := ?_) ?_ ?_
                                        rotate_left
                                        · show Act.put _ (some 101) _ = _
                                          simp only [Act.put, List.setIfInBounds_toArray, List.set_cons_zero, List.set_cons_succ, i64_w, i32_w]
                                          rfl
                                        refine one_ (i := 2) (N := some 99) #[true, true, true, true, true, false, false] rfl rfl (by kernel_rfl) (by decide) (fun K hK => ?_)
                                        refine Kd.R_append_rows_step k28 (w0 := w) w.heap.size (by rfl) (.tmp 97) (.tmp 98) 22 28 (.agg #[(.int .i64 0), (.int .i64 0)]) 16 rfl Try.underlying22 info28 rfl (by decide) (by omega) v259 y258 l0 _ _ _ (fun k_ => some k_ ≠ (.slice Ao60 x8_3.length co60 : Value).ownBlock ∧ some k_ ≠ (v265 : Value).ownBlock ∧ k_ ≠ gb247) (fun _ => False) rfl rfl ?aO ?aR (fun _ _ h => h) (fun _ h => h.elim) ?aF ?aB ?aS ?aL ?_
                                        (case aR => repeat (first | exact (Kd.C_below HR0.out HB.out) | (with_reducible refine Kd.C_alloc ?_ _) | (with_reducible refine Kd.C_drewN ?_ _) | (with_reducible refine Kd.C_drew ?_)))
                                        (case aB => exact (by repeat (first | (with_reducible first | exact HB.out | apply below_alloc | apply pw_below_drewN | apply below_drew1 | refine below_set ?_ GE247.out) | exact HB.out)))
                                        (case aF => exact (fun k_ hk => ⟨Kd.fresh' (Kd.R_lt (by (with_reducible repeat (first | apply Kd.R_alloc | apply Kd.R_drewN | apply Kd.R_drew)); exact HO_8.out)) k_ hk, Kd.fresh' (Kd.R_lt (by (with_reducible repeat (first | apply Kd.R_alloc | apply Kd.R_drewN | apply Kd.R_drew)); exact HO266.out)) k_ hk, Kd.freshB (g := gb247) (o := .cells #[.int .i64 a1_0, .int .i64 a1_1] 28 (0, 0)) (by (with_reducible repeat (first | refine blk_drewN ?_ _ | refine blk_drew ?_ | refine blk_alloc ?_ _)); exact BK247.out) k_ hk⟩))
                                        (case aO => exact (by (with_reducible repeat (first | apply Kd.R_alloc | apply Kd.R_drewN | apply Kd.R_drew)); exact Kd.R_mono HO260.out (fun _ hk => ⟨hk.1.1.2, ⟨hk.2, hk.1.2⟩⟩)))
                                        (case aS => exact (below_size (by repeat (first | (with_reducible first | exact HB.out | apply below_alloc | apply pw_below_drewN | apply below_drew1 | refine below_set ?_ GE247.out) | exact HB.out))))
                                        (case aL => have := LMc37.out; omega)
                                        intro v262 w67 ho hb hg hat
                                        rw [← Ny261.out] at ho
                                        have n0_ := Aside0.mk (Kd.R_after (ok := (fun k_ => some k_ ≠ (v265 : Value).ownBlock ∧ k_ ≠ gb247)) (by (with_reducible repeat (first | apply Kd.R_alloc | apply Kd.R_drewN | apply Kd.R_drew)); exact Kd.R_mono HO_8.out (fun _ hk => ⟨⟨hk.2, hk.1.1⟩, hk.1.2⟩)) hg hat)
                                        have n1_ := Aside0.mk (blk_grown (g := gb247) (o := .cells #[.int .i64 a1_0, .int .i64 a1_1] 28 (0, 0)) (by (with_reducible repeat (first | refine blk_drewN ?_ _ | refine blk_drew ?_ | refine blk_alloc ?_ _)); exact BK247.out) hg (Kd.R_away HO260.out (fun _ hk => hk.1.2)))
                                        have n2_ := Aside0.mk (Kd.R_after (ok := (fun k_ => some k_ ≠ (.slice Ao60 x8_3.length co60 : Value).ownBlock ∧ k_ ≠ gb247)) (by (with_reducible repeat (first | apply Kd.R_alloc | apply Kd.R_drewN | apply Kd.R_drew)); exact Kd.R_mono HO266.out (fun _ hk => ⟨⟨hk.1.1.2, hk.2⟩, hk.1.2⟩)) hg hat)
                                        have n3_ := Aside0.mk (hb)
                                        have n4_ := Aside0.mk (ho)
                                        clear HO_8
                                        clear BK247
                                        clear HO266
                                        clear HB
                                        clear HO260
                                        have HO_8 := n0_
                                        have BK247 := n1_
                                        have HO266 := n2_
                                        have HB := n3_
                                        have HO263 := n4_
                                        clear n0_ n1_ n2_ n3_ n4_
                                        clear ho hb hg hat
                                        refine hK.out _ _ ⟨(blk_cell BK247.out 0).trans rfl, (blk_cell BK247.out 1).trans rfl⟩ (fun hHeld => ?_)
                                        clear hK K
                                        refine norm_ (a' := ?_) ?_ ?_
                                        rotate_left
                                        · show Act.put _ (some 99) _ = _
                                          simp only [Act.put, List.setIfInBounds_toArray, List.set_cons_zero, List.set_cons_succ, i64_w, i32_w]
                                          rfl
                                        exact norm_ (by simp only [putAll, Act.put, List.setIfInBounds_toArray, List.set_cons_zero, List.set_cons_succ]) (hCont (v259, v262, v265) _ ⟨hHeld, (by (with_reducible repeat (first | apply Kd.R_alloc | apply Kd.R_drewN | apply Kd.R_drew)); exact Kd.R_mono HO263.out (fun _ hk => ⟨hk.2.1, ⟨hk.1, hk.2.2⟩⟩)), (by (with_reducible repeat (first | apply Kd.R_alloc | apply Kd.R_drewN | apply Kd.R_drew)); exact Kd.R_mono HO266.out (fun _ hk => ⟨hk.2, ⟨hk.1.1, hk.1.2⟩⟩)), (by (with_reducible repeat (first | apply Kd.R_alloc | apply Kd.R_drewN | apply Kd.R_drew)); exact Kd.R_mono HO_8.out (fun _ hk => ⟨hk.2, ⟨hk.1.1, hk.1.2⟩⟩)), (by (with_reducible repeat (first | refine blk_drewN ?_ _ | refine blk_drew ?_ | refine blk_alloc ?_ _)); exact BK247.out), (by repeat (first | (with_reducible first | exact HB.out | apply below_alloc | apply pw_below_drewN | apply below_drew1 | refine below_set ?_ GE247.out) | exact HB.out))⟩)
                                    · skip
                                      refine Kd.R_lit_step k28 _ 28 ?hg (N := 101) ?hd (xs := ([(⟨a1_0, a1_1⟩ : S28)] : List (S28))) (inner := [.int .i64 a1_0, .int .i64 a1_1]) (ok := fun _ => True) (okp := fun _ => True) ?hr ?hp (fun _ hk => hk) trivial (Below.refl _ _) (Nat.le_refl _) (by simp) ?_; (case hd => rfl); (case hg => rfl); (case hr => first | (go_simp; done) | (go_simp; rfl)); (case hp => exact (Reps.c2 (show Kd.M k28 _ _ _ (⟨a1_0, a1_1⟩ : S28) [.int .i64 a1_0, .int .i64 a1_1] from (k28_mkM _ _ _ (⟨a1_0, a1_1⟩ : S28) )) (Reps.none _ _)))
                                      intro v265 w63 ho64 hb hg_ hnew_
                                      clear hg_ hnew_
                                      (first | rw [← Ny264.out] at ho64 | (simp only [Int.reduceToNat] at ho64; rw [← Ny264.out] at ho64))
                                      have n0_ := Aside0.mk (Kd.R_elder' (by (with_reducible repeat (first | apply Kd.R_alloc | apply Kd.R_drewN | apply Kd.R_drew)); exact HO_8.out) (Kd.R_base ho64) hb)
                                      have n1_ := Aside0.mk (Kd.R_lower (Kd.R_newB (Kd.R_new' ho64 (Kd.R_lt (by (with_reducible repeat (first | apply Kd.R_alloc | apply Kd.R_drewN | apply Kd.R_drew)); exact HO_8.out))) (g := gb247) (o := .cells #[.int .i64 a1_0, .int .i64 a1_1] 28 (0, 0)) (by (with_reducible repeat (first | refine blk_drewN ?_ _ | refine blk_drew ?_ | refine blk_alloc ?_ _)); exact BK247.out)) (below_size (by repeat (first | (with_reducible first | exact HB.out | apply below_alloc | apply pw_below_drewN | apply below_drew1 | refine below_set ?_ GE247.out) | exact HB.out))))
                                      have n2_ := Aside0.mk (blk_below (g := gb247) (o := .cells #[.int .i64 a1_0, .int .i64 a1_1] 28 (0, 0)) (by (with_reducible repeat (first | refine blk_drewN ?_ _ | refine blk_drew ?_ | refine blk_alloc ?_ _)); exact BK247.out) hb)
                                      have n3_ := Aside0.mk (below_step (by repeat (first | (with_reducible first | exact HB.out | apply below_alloc | apply pw_below_drewN | apply below_drew1 | refine below_set ?_ GE247.out) | exact HB.out)) hb)
                                      clear HO_8
                                      clear BK247
                                      clear HB
                                      have HO_8 := n0_
                                      have HO266 := n1_
                                      have BK247 := n2_
                                      have HB := n3_
                                      clear n0_ n1_ n2_ n3_
                                      clear hb ho64
                                      refine hK.out _ _ ⟨(blk_cell BK247.out 0).trans rfl, (blk_cell BK247.out 1).trans rfl⟩ (fun hHeld => ?_)
                                      clear hK K
                                      refine norm_ (a' := ?_) ?_ ?_
                                      rotate_left
                                      · show Act.put _ (some 101) _ = _
                                        simp only [Act.put, List.setIfInBounds_toArray, List.set_cons_zero, List.set_cons_succ, i64_w, i32_w]
                                        rfl
                                      refine one_ (i := 0) (N := some 97) #[true, true, false, true, true, false, false] rfl rfl (by kernel_rfl) (by decide) (fun K hK => ?_)
                                      refine Kd.R_lit_step k28 _ 28 ?hg (N := 97) ?hd (xs := ([] : List (S28))) (inner := []) (ok := fun _ => True) (okp := fun _ => True) ?hr ?hp (fun _ hk => hk) trivial (Below.refl _ _) (Nat.le_refl _) (by simp) ?_; (case hd => rfl); (case hg => rfl); (case hr => first | (go_simp; done) | (go_simp; rfl)); (case hp => exact (Reps.none _ _))
                                      intro v259 w65 ho66 hb hg_ hnew_
                                      clear hg_ hnew_
                                      (first | rw [← Ny258.out] at ho66 | (simp only [Int.reduceToNat] at ho66; rw [← Ny258.out] at ho66))
                                      have n0_ := Aside0.mk (Kd.R_elder' (by (with_reducible repeat (first | apply Kd.R_alloc | apply Kd.R_drewN | apply Kd.R_drew)); exact HO_8.out) (Kd.R_base ho66) hb)
                                      have n1_ := Aside0.mk (Kd.R_elder' (by (with_reducible repeat (first | apply Kd.R_alloc | apply Kd.R_drewN | apply Kd.R_drew)); exact HO266.out) (Kd.R_base ho66) hb)
                                      have n2_ := Aside0.mk (Kd.R_lower (Kd.R_newB (Kd.R_new' (Kd.R_new' ho66 (Kd.R_lt (by (with_reducible repeat (first | apply Kd.R_alloc | apply Kd.R_drewN | apply Kd.R_drew)); exact HO_8.out))) (Kd.R_lt (by (with_reducible repeat (first | apply Kd.R_alloc | apply Kd.R_drewN | apply Kd.R_drew)); exact HO266.out))) (g := gb247) (o := .cells #[.int .i64 a1_0, .int .i64 a1_1] 28 (0, 0)) (by (with_reducible repeat (first | refine blk_drewN ?_ _ | refine blk_drew ?_ | refine blk_alloc ?_ _)); exact BK247.out)) (below_size (by repeat (first | (with_reducible first | exact HB.out | apply below_alloc | apply pw_below_drewN | apply below_drew1 | refine below_set ?_ GE247.out) | exact HB.out))))
                                      have n3_ := Aside0.mk (blk_below (g := gb247) (o := .cells #[.int .i64 a1_0, .int .i64 a1_1] 28 (0, 0)) (by (with_reducible repeat (first | refine blk_drewN ?_ _ | refine blk_drew ?_ | refine blk_alloc ?_ _)); exact BK247.out) hb)
                                      have n4_ := Aside0.mk (below_step (by repeat (first | (with_reducible first | exact HB.out | apply below_alloc | apply pw_below_drewN | apply below_drew1 | refine below_set ?_ GE247.out) | exact HB.out)) hb)
                                      clear HO_8
                                      clear HO266
                                      clear BK247
                                      clear HB
                                      have HO_8 := n0_
                                      have HO266 := n1_
                                      have HO260 := n2_
                                      have BK247 := n3_
                                      have HB := n4_
                                      clear n0_ n1_ n2_ n3_ n4_
                                      clear hb ho66
                                      refine hK.out _ _ ⟨(blk_cell BK247.out 0).trans rfl, (blk_cell BK247.out 1).trans rfl⟩ (fun hHeld => ?_)
                                      clear hK K
                                      refine norm_ (a' := ?_) ?_ ?_
                                      rotate_left
                                      · show Act.put _ (some 97) _ = _
                                        simp only [Act.put, List.setIfInBounds_toArray, List.set_cons_zero, List.set_cons_succ, i64_w, i32_w]
                                        rfl
                                      refine one_ (i := 2) (N := some 99) #[true, true, true, true, true, false, false] rfl rfl (by kernel_rfl) (by decide) (fun K hK => ?_)
                                      refine Kd.R_append_rows_step k28 (w0 := w) w.heap.size (by rfl) (.tmp 97) (.tmp 98) 22 28 (.agg #[(.int .i64 0), (.int .i64 0)]) 16 rfl Try.underlying22 info28 rfl (by decide) (by omega) v259 y258 l0 _ _ _ (fun k_ => some k_ ≠ (.slice Ao60 x8_3.length co60 : Value).ownBlock ∧ some k_ ≠ (v265 : Value).ownBlock ∧ k_ ≠ gb247) (fun _ => False) rfl rfl ?aO ?aR (fun _ _ h => h) (fun _ h => h.elim) ?aF ?aB ?aS ?aL ?_
                                      (case aR => repeat (first | exact (Kd.C_below HR0.out HB.out) | (with_reducible refine Kd.C_alloc ?_ _) | (with_reducible refine Kd.C_drewN ?_ _) | (with_reducible refine Kd.C_drew ?_)))
                                      (case aB => exact (by repeat (first | (with_reducible first | exact HB.out | apply below_alloc | apply pw_below_drewN | apply below_drew1 | refine below_set ?_ GE247.out) | exact HB.out)))
                                      (case aF => exact (fun k_ hk => ⟨Kd.fresh' (Kd.R_lt (by (with_reducible repeat (first | apply Kd.R_alloc | apply Kd.R_drewN | apply Kd.R_drew)); exact HO_8.out)) k_ hk, Kd.fresh' (Kd.R_lt (by (with_reducible repeat (first | apply Kd.R_alloc | apply Kd.R_drewN | apply Kd.R_drew)); exact HO266.out)) k_ hk, Kd.freshB (g := gb247) (o := .cells #[.int .i64 a1_0, .int .i64 a1_1] 28 (0, 0)) (by (with_reducible repeat (first | refine blk_drewN ?_ _ | refine blk_drew ?_ | refine blk_alloc ?_ _)); exact BK247.out) k_ hk⟩))
                                      (case aO => exact (by (with_reducible repeat (first | apply Kd.R_alloc | apply Kd.R_drewN | apply Kd.R_drew)); exact Kd.R_mono HO260.out (fun _ hk => ⟨hk.1.1.2, ⟨hk.1.2, hk.2⟩⟩)))
                                      (case aS => exact (below_size (by repeat (first | (with_reducible first | exact HB.out | apply below_alloc | apply pw_below_drewN | apply below_drew1 | refine below_set ?_ GE247.out) | exact HB.out))))
                                      (case aL => have := LMc37.out; omega)
                                      intro v262 w67 ho hb hg hat
                                      rw [← Ny261.out] at ho
                                      have n0_ := Aside0.mk (Kd.R_after (ok := (fun k_ => some k_ ≠ (v265 : Value).ownBlock ∧ k_ ≠ gb247)) (by (with_reducible repeat (first | apply Kd.R_alloc | apply Kd.R_drewN | apply Kd.R_drew)); exact Kd.R_mono HO_8.out (fun _ hk => ⟨⟨hk.1.2, hk.1.1⟩, hk.2⟩)) hg hat)
                                      have n1_ := Aside0.mk (blk_grown (g := gb247) (o := .cells #[.int .i64 a1_0, .int .i64 a1_1] 28 (0, 0)) (by (with_reducible repeat (first | refine blk_drewN ?_ _ | refine blk_drew ?_ | refine blk_alloc ?_ _)); exact BK247.out) hg (Kd.R_away HO260.out (fun _ hk => hk.2)))
                                      have n2_ := Aside0.mk (Kd.R_after (ok := (fun k_ => some k_ ≠ (.slice Ao60 x8_3.length co60 : Value).ownBlock ∧ k_ ≠ gb247)) (by (with_reducible repeat (first | apply Kd.R_alloc | apply Kd.R_drewN | apply Kd.R_drew)); exact Kd.R_mono HO266.out (fun _ hk => ⟨⟨hk.1.1.2, hk.1.2⟩, hk.2⟩)) hg hat)
                                      have n3_ := Aside0.mk (hb)
                                      have n4_ := Aside0.mk (ho)
                                      clear HO_8
                                      clear BK247
                                      clear HO266
                                      clear HB
                                      clear HO260
                                      have HO_8 := n0_
                                      have BK247 := n1_
                                      have HO266 := n2_
                                      have HB := n3_
                                      have HO263 := n4_
                                      clear n0_ n1_ n2_ n3_ n4_
                                      clear ho hb hg hat
                                      refine hK.out _ _ ⟨(blk_cell BK247.out 0).trans rfl, (blk_cell BK247.out 1).trans rfl⟩ (fun hHeld => ?_)
                                      clear hK K
                                      refine norm_ (a' := ?_) ?_ ?_
                                      rotate_left
                                      · show Act.put _ (some 99) _ = _
                                        simp only [Act.put, List.setIfInBounds_toArray, List.set_cons_zero, List.set_cons_succ, i64_w, i32_w]
                                        rfl
                                      exact norm_ (by simp only [putAll, Act.put, List.setIfInBounds_toArray, List.set_cons_zero, List.set_cons_succ]) (hCont (v259, v262, v265) _ ⟨hHeld, (by (with_reducible repeat (first | apply Kd.R_alloc | apply Kd.R_drewN | apply Kd.R_drew)); exact Kd.R_mono HO263.out (fun _ hk => ⟨hk.2.1, ⟨hk.1, hk.2.2⟩⟩)), (by (with_reducible repeat (first | apply Kd.R_alloc | apply Kd.R_drewN | apply Kd.R_drew)); exact Kd.R_mono HO266.out (fun _ hk => ⟨hk.2, ⟨hk.1.1, hk.1.2⟩⟩)), (by (with_reducible repeat (first | apply Kd.R_alloc | apply Kd.R_drewN | apply Kd.R_drew)); exact Kd.R_mono HO_8.out (fun _ hk => ⟨hk.2, ⟨hk.1.1, hk.1.2⟩⟩)), (by (with_reducible repeat (first | refine blk_drewN ?_ _ | refine blk_drew ?_ | refine blk_alloc ?_ _)); exact BK247.out), (by repeat (first | (with_reducible first | exact HB.out | apply below_alloc | apply pw_below_drewN | apply below_drew1 | refine below_set ?_ GE247.out) | exact HB.out))⟩)
                                  rintro ⟨v259, v262, v265⟩ w68 ⟨hS_, h0_, h1_, h2_, h3_, h4_⟩
                                  have n0_ : Aside0 (Kd.R k28 28 w68 w.heap.size (fun k_ => some k_ ≠ (v265 : Value).ownBlock ∧ some k_ ≠ (.slice Ao60 x8_3.length co60 : Value).ownBlock ∧ k_ ≠ gb247) v262 y261) := ⟨h0_⟩
                                  have n1_ : Aside0 (Kd.R k28 28 w68 w.heap.size (fun k_ => some k_ ≠ (v262 : Value).ownBlock ∧ some k_ ≠ (.slice Ao60 x8_3.length co60 : Value).ownBlock ∧ k_ ≠ gb247) v265 y264) := ⟨h1_⟩
                                  have n2_ : Aside0 (Kd.R k28 28 w68 w.heap.size (fun k_ => some k_ ≠ (v262 : Value).ownBlock ∧ some k_ ≠ (v265 : Value).ownBlock ∧ k_ ≠ gb247) (.slice Ao60 x8_3.length co60) x8_3) := ⟨h2_⟩
                                  have n3_ : Aside0 (w68.heap[gb247]? = some (.cells #[.int .i64 a1_0, .int .i64 a1_1] 28 (0, 0))) := ⟨h3_⟩
                                  have n4_ : Aside0 (Below w.heap.size w w68) := ⟨h4_⟩
                                  clear HO_8
                                  clear BK247
                                  clear HB
                                  clear h0_ h1_ h2_ h3_ h4_
                                  have HO263 := n0_
                                  have HO266 := n1_
                                  have HO_8 := n2_
                                  have BK247 := n3_
                                  have HB := n4_
                                  clear n0_ n1_ n2_ n3_ n4_
                                  have hHeld : w68.cell? ⟨gb247, 0, none⟩ = some (.int .i64 a1_0) ∧ w68.cell? ⟨gb247, 1, none⟩ = some (.int .i64 a1_1) := hS_
                                  obtain ⟨Ao70, co70, eo70⟩ := Kd.R_slice HO266.out
                                  (first | subst eo70 | (injection eo70 with f1_ f2_ f3_; have f4_ := f1_.symm; have f5_ := f3_.symm; clear f1_ f2_ f3_; subst f4_; subst f5_))
                                  refine norm_ (a' := ?_) ?_ ?_
                                  rotate_left
                                  · simp only [putAll, Act.put, List.setIfInBounds_toArray, List.set_cons_zero, List.set_cons_succ]
                                    rfl
                                  refine one_ (i := 5) (N := some 102) #[true, true, true, true, true, true, false] rfl rfl (by kernel_rfl) (by decide) (fun K hK => ?_)
                                  refine Kd.R_append_rows_step k28 (w0 := w) w.heap.size (by rfl) (.tmp 99) (.tmp 101) 22 28 (.agg #[(.int .i64 0), (.int .i64 0)]) 16 rfl Try.underlying22 info28 rfl (by decide) (by omega) v262 y261 y264 _ _ _ (fun k_ => some k_ ≠ (.slice Ao60 x8_3.length co60 : Value).ownBlock ∧ some k_ ≠ (.slice Ao70 y264.length co70 : Value).ownBlock ∧ k_ ≠ gb247) (fun _ => False) rfl rfl ?aO ?aR (fun _ _ h => h) (fun _ h => h.elim) ?aF ?aB ?aS ?aL ?_
                                  (case aR => repeat (first | exact (Kd.R_reads' HO266.out).2.2 | (with_reducible refine Kd.C_alloc ?_ _) | (with_reducible refine Kd.C_drewN ?_ _) | (with_reducible refine Kd.C_drew ?_)))
                                  (case aB => exact (by repeat (first | (with_reducible first | exact HB.out | apply below_alloc | apply pw_below_drewN | apply below_drew1 | refine below_set ?_ GE247.out) | exact HB.out)))
                                  (case aF => exact (fun k_ hk => ⟨Kd.fresh' (Kd.R_lt (by (with_reducible repeat (first | apply Kd.R_alloc | apply Kd.R_drewN | apply Kd.R_drew)); exact HO_8.out)) k_ hk, Kd.fresh' (Kd.R_lt (by (with_reducible repeat (first | apply Kd.R_alloc | apply Kd.R_drewN | apply Kd.R_drew)); exact HO266.out)) k_ hk, Kd.freshB (g := gb247) (o := .cells #[.int .i64 a1_0, .int .i64 a1_1] 28 (0, 0)) (by (with_reducible repeat (first | refine blk_drewN ?_ _ | refine blk_drew ?_ | refine blk_alloc ?_ _)); exact BK247.out) k_ hk⟩))
                                  (case aO => exact (by (with_reducible repeat (first | apply Kd.R_alloc | apply Kd.R_drewN | apply Kd.R_drew)); exact Kd.R_mono HO263.out (fun _ hk => ⟨hk.2.1, ⟨hk.1, hk.2.2⟩⟩)))
                                  (case aS => exact (below_size (by repeat (first | (with_reducible first | exact HB.out | apply below_alloc | apply pw_below_drewN | apply below_drew1 | refine below_set ?_ GE247.out) | exact HB.out))))
                                  (case aL => have := LMc38.out; omega)
                                  intro v268 w69 ho hb hg hat
                                  rw [← Ny267.out] at ho
                                  have n0_ := Aside0.mk (Kd.R_after (ok := (fun k_ => some k_ ≠ (.slice Ao70 y264.length co70 : Value).ownBlock ∧ k_ ≠ gb247)) (by (with_reducible repeat (first | apply Kd.R_alloc | apply Kd.R_drewN | apply Kd.R_drew)); exact Kd.R_mono HO_8.out (fun _ hk => ⟨⟨hk.2.1, hk.2.2⟩, hk.1⟩)) hg hat)
                                  have n1_ := Aside0.mk (blk_grown (g := gb247) (o := .cells #[.int .i64 a1_0, .int .i64 a1_1] 28 (0, 0)) (by (with_reducible repeat (first | refine blk_drewN ?_ _ | refine blk_drew ?_ | refine blk_alloc ?_ _)); exact BK247.out) hg (Kd.R_away HO263.out (fun _ hk => hk.2.2)))
                                  have n2_ := Aside0.mk (Kd.R_after (ok := (fun k_ => some k_ ≠ (.slice Ao60 x8_3.length co60 : Value).ownBlock ∧ k_ ≠ gb247)) (by (with_reducible repeat (first | apply Kd.R_alloc | apply Kd.R_drewN | apply Kd.R_drew)); exact Kd.R_mono HO266.out (fun _ hk => ⟨⟨hk.2.1, hk.2.2⟩, hk.1⟩)) hg hat)
                                  have n3_ := Aside0.mk (hb)
                                  have n4_ := Aside0.mk (ho)
                                  clear HO_8
                                  clear BK247
                                  clear HO266
                                  clear HB
                                  clear HO263
                                  have HO_8 := n0_
                                  have BK247 := n1_
                                  have HO266 := n2_
                                  have HB := n3_
                                  have HO269 := n4_
                                  clear n0_ n1_ n2_ n3_ n4_
                                  clear ho hb hg hat
                                  refine hK.out _ _ ⟨(blk_cell BK247.out 0).trans rfl, (blk_cell BK247.out 1).trans rfl⟩ (fun hHeld => ?_)
                                  clear hK K
                                  refine norm_ (a' := ?_) ?_ ?_
                                  rotate_left
                                  · show Act.put _ (some 102) _ = _
                                    simp only [Act.put, List.setIfInBounds_toArray, List.set_cons_zero, List.set_cons_succ, i64_w, i32_w]
                                    rfl
                                  refine pure_ (i := 6) (N := some 14) (v := ?_) (a' := ?_) #[true, true, true, true, true, true, true] rfl rfl (by kernel_rfl) (fun _ _ _ h => h) (Or.inl ⟨by rfl, ?_⟩) ?_ ?_
                                  rotate_left
                                  · intro w'
                                    go_simp
                                    with_reducible rfl
                                  rotate_left
                                  · simp only [Act.put, List.setIfInBounds_toArray, List.set_cons_zero, List.set_cons_succ, i64_w, i32_w]
                                    rfl
                                  refine done_ (by kernel_rfl) ?_
                                  obtain ⟨Ao71, co71, eo71⟩ := Kd.R_slice HO269.out
                                  subst eo71
                                  try go_wp2_with (first | ((with_reducible refine gate_callee (f := 32) rfl ?_); refine goesL_ (some 105) rfl rfl Try.func32 (by kernel_rfl) rfl #[.slice Ao60 x8_3.length co60, .slice Ao71 y267.length co71] rfl (by (try simp only [List.map_toArray, List.map_cons, List.map_nil]); first | done | rfl | (simp only [List.length_drop, List.length_take]; rfl)) ?_; (with_reducible refine (impl_RangesEqual.calls _ _ x8_3 _ _ y267 false _ ?side1 ?side2 ?side3 ?side4 A39.out).mono ?_); (case side1 => repeat (first | exact (Kd.R_reads' HO_8.out).2.2 | (with_reducible refine Kd.C_alloc ?_ _) | (with_reducible refine Kd.C_drewN ?_ _) | (with_reducible refine Kd.C_drew ?_))); (case side2 => exact (Kd.R_reads' HO_8.out).2.1); (case side3 => repeat (first | exact (Kd.R_reads' HO269.out).2.2 | (with_reducible refine Kd.C_alloc ?_ _) | (with_reducible refine Kd.C_drewN ?_ _) | (with_reducible refine Kd.C_drew ?_))); (case side4 => exact (Kd.R_reads' HO269.out).2.1); rintro e w72 ⟨rfl, hb⟩; refine ⟨_, rfl, ?_⟩; have n0_ := Aside0.mk (Kd.R_below (by (with_reducible repeat (first | apply Kd.R_alloc | apply Kd.R_drewN | apply Kd.R_drew)); exact HO_8.out) hb); have n1_ := Aside0.mk (Kd.R_below (by (with_reducible repeat (first | apply Kd.R_alloc | apply Kd.R_drewN | apply Kd.R_drew)); exact HO266.out) hb); have n2_ := Aside0.mk (Kd.R_below (by (with_reducible repeat (first | apply Kd.R_alloc | apply Kd.R_drewN | apply Kd.R_drew)); exact HO269.out) hb); have n3_ := Aside0.mk (blk_below (g := gb247) (o := .cells #[.int .i64 a1_0, .int .i64 a1_1] 28 (0, 0)) (by (with_reducible repeat (first | refine blk_drewN ?_ _ | refine blk_drew ?_ | refine blk_alloc ?_ _)); exact BK247.out) hb); have n4_ := Aside0.mk (below_step (by repeat (first | (with_reducible first | exact HB.out | apply below_alloc | apply pw_below_drewN | apply below_drew1 | refine below_set ?_ GE247.out) | exact HB.out)) hb); clear HO_8; clear HO266; clear HO269; clear BK247; clear HB; have HO_8 := n0_; have HO266 := n1_; have HO269 := n2_; have BK247 := n3_; have HB := n4_; clear n0_ n1_ n2_ n3_ n4_; (try clear hb); (try clear hb2); (try clear hk); (try clear hi)))
                                  go_ret
                                  exact ⟨by first | rfl | (simp [errW_none, errW_some] <;> rfl) | (simp [*, errW_none, errW_some] <;> rfl), by repeat (first | (with_reducible first | exact HB.out | apply below_alloc | apply pw_below_drewN | apply below_drew1 | refine below_set ?_ GE247.out) | exact HB.out)⟩
                              · rw [if_neg c38] at H
                                exact absurd H (by simp)
                            · rw [if_neg c37] at H
                              exact absurd H (by simp)
                          · replace c36 := Bool.eq_false_iff.mpr c36
                            subst c36
                            have H1 : (if (x8_3.length : Int) > 120 then (some false) else ((impl_RangesMissing.f x8_3 a1_0 a1_1).bind fun bt273 => (if bt273.2 < 1 then (some false) else ((impl_RangesFind.f x8_3 bt273.1 bt273.2).bind fun bt276 => (if bt276.2.2.2.2 = true then (some false) else (if bt276.1 = bt273.1 then (if (mn bt276.2.1 a2) < 1 then (some false) else ((some (([(⟨bt276.1, mn bt276.2.1 a2⟩ : S28)] : List (S28)) : List (S28))).bind fun y283 => (if x8_3.length + y283.length < 8796093022208 then (laws_FnRangesFill.l0 k3 l0 a2 (x8_3 ++ y283) (wrap64 (x9_3 + (mn bt276.2.1 a2))) a1_0 a1_1) else (none)))) else (some false))))))) = some r := by rw [if_neg (show ¬ (false = true) by decide)] at H; exact H
                            clear H
                            have H := H1
                            clear H1
                            by_cases c73 : (x8_3.length : Int) > 120
                            · rw [if_pos c73] at H
                              have c73b0 : decide (120 < (x8_3.length : Int)) = true := decide_eq_true c73
                              have c73b1 : decide (120 < x8_3.length) = true := decide_eq_true (by omega)
                              clear c73
                              obtain rfl := Option.some.inj H
                              have hcz74_0 : wr.cell? ⟨gb247, 0, none⟩ = some (.int .i64 a1_0) := (blk_cell BK247.out 0).trans rfl
                              have hcz74_1 : wr.cell? ⟨gb247, 1, none⟩ = some (.int .i64 a1_1) := (blk_cell BK247.out 1).trans rfl
                              have hfz74_0 := blk_frozen BK247.out 0
                              have hfz74_1 := blk_frozen BK247.out 1
                              obtain ⟨Ao75, co75, eo75⟩ := Kd.R_slice HO_8.out
                              subst eo75
                              go_wp2_with (first | ((with_reducible refine gate_callee (f := 30) rfl ?_); refine goesL_ (some 53) rfl rfl Try.func30 (by kernel_rfl) rfl #[.slice Ao75 x8_3.length co75, .agg #[.int .i64 a1_0, .int .i64 a1_1]] rfl (by (try simp only [List.map_toArray, List.map_cons, List.map_nil]); first | done | rfl | (simp only [List.length_drop, List.length_take]; rfl)) ?_; (with_reducible refine (impl_RangesPresent.calls _ _ x8_3 a1_0 a1_1 false _ ?side1 ?side2 A35.out).mono ?_); (case side1 => repeat (first | exact (Kd.R_reads' HO_8.out).2.2 | (with_reducible refine Kd.C_alloc ?_ _) | (with_reducible refine Kd.C_drewN ?_ _) | (with_reducible refine Kd.C_drew ?_))); (case side2 => exact (Kd.R_reads' HO_8.out).2.1); rintro e w76 ⟨rfl, hb⟩; refine ⟨_, rfl, ?_⟩; have n0_ := Aside0.mk (Kd.R_below (by (with_reducible repeat (first | apply Kd.R_alloc | apply Kd.R_drewN | apply Kd.R_drew)); exact HO_8.out) hb); have n1_ := Aside0.mk (blk_below (g := gb247) (o := .cells #[.int .i64 a1_0, .int .i64 a1_1] 28 (0, 0)) (by (with_reducible repeat (first | refine blk_drewN ?_ _ | refine blk_drew ?_ | refine blk_alloc ?_ _)); exact BK247.out) hb); have n2_ := Aside0.mk (below_step (by repeat (first | (with_reducible first | exact HB.out | apply below_alloc | apply pw_below_drewN | apply below_drew1 | refine below_set ?_ GE247.out) | exact HB.out)) hb); clear HO_8; clear BK247; clear HB; have HO_8 := n0_; have BK247 := n1_; have HB := n2_; clear n0_ n1_ n2_; (try clear hb); (try clear hb2); (try clear hk); (try clear hi)))
                              go_ret
                              exact ⟨by first | rfl | (simp [errW_none, errW_some] <;> rfl) | (simp [*, errW_none, errW_some] <;> rfl), by repeat (first | (with_reducible first | exact HB.out | apply below_alloc | apply pw_below_drewN | apply below_drew1 | refine below_set ?_ GE247.out) | exact HB.out)⟩
                            · rw [if_neg c73] at H
                              have c73b0 : decide (120 < (x8_3.length : Int)) = false := decide_eq_false c73
                              have c73b1 : decide (120 < x8_3.length) = false := decide_eq_false (by omega)
                              clear c73
                              replace H := Option.bind_eq_some_iff.mp H
                              obtain ⟨⟨t273, t274⟩, A770, H⟩ := H
                              replace H : (if t274 < 1 then (some false) else ((impl_RangesFind.f x8_3 t273 t274).bind fun bt276 => (if bt276.2.2.2.2 = true then (some false) else (if bt276.1 = t273 then (if (mn bt276.2.1 a2) < 1 then (some false) else ((some (([(⟨bt276.1, mn bt276.2.1 a2⟩ : S28)] : List (S28)) : List (S28))).bind fun y283 => (if x8_3.length + y283.length < 8796093022208 then (laws_FnRangesFill.l0 k3 l0 a2 (x8_3 ++ y283) (wrap64 (x9_3 + (mn bt276.2.1 a2))) a1_0 a1_1) else (none)))) else (some false))))) = some r := H
                              have A77 := Aside0.mk A770
                              clear A770
                              by_cases c78 : t274 < 1
                              · rw [if_pos c78] at H
                                have c78b0 : decide (t274 < 1) = true := decide_eq_true c78
                                clear c78
                                obtain rfl := Option.some.inj H
                                have hcz79_0 : wr.cell? ⟨gb247, 0, none⟩ = some (.int .i64 a1_0) := (blk_cell BK247.out 0).trans rfl
                                have hcz79_1 : wr.cell? ⟨gb247, 1, none⟩ = some (.int .i64 a1_1) := (blk_cell BK247.out 1).trans rfl
                                have hfz79_0 := blk_frozen BK247.out 0
                                have hfz79_1 := blk_frozen BK247.out 1
                                obtain ⟨Ao80, co80, eo80⟩ := Kd.R_slice HO_8.out
                                subst eo80
                                go_wp2_with (first | ((with_reducible refine gate_callee (f := 30) rfl ?_); refine goesL_ (some 53) rfl rfl Try.func30 (by kernel_rfl) rfl #[.slice Ao80 x8_3.length co80, .agg #[.int .i64 a1_0, .int .i64 a1_1]] rfl (by (try simp only [List.map_toArray, List.map_cons, List.map_nil]); first | done | rfl | (simp only [List.length_drop, List.length_take]; rfl)) ?_; (with_reducible refine (impl_RangesPresent.calls _ _ x8_3 a1_0 a1_1 false _ ?side1 ?side2 A35.out).mono ?_); (case side1 => repeat (first | exact (Kd.R_reads' HO_8.out).2.2 | (with_reducible refine Kd.C_alloc ?_ _) | (with_reducible refine Kd.C_drewN ?_ _) | (with_reducible refine Kd.C_drew ?_))); (case side2 => exact (Kd.R_reads' HO_8.out).2.1); rintro e w81 ⟨rfl, hb⟩; refine ⟨_, rfl, ?_⟩; have n0_ := Aside0.mk (Kd.R_below (by (with_reducible repeat (first | apply Kd.R_alloc | apply Kd.R_drewN | apply Kd.R_drew)); exact HO_8.out) hb); have n1_ := Aside0.mk (blk_below (g := gb247) (o := .cells #[.int .i64 a1_0, .int .i64 a1_1] 28 (0, 0)) (by (with_reducible repeat (first | refine blk_drewN ?_ _ | refine blk_drew ?_ | refine blk_alloc ?_ _)); exact BK247.out) hb); have n2_ := Aside0.mk (below_step (by repeat (first | (with_reducible first | exact HB.out | apply below_alloc | apply pw_below_drewN | apply below_drew1 | refine below_set ?_ GE247.out) | exact HB.out)) hb); clear HO_8; clear BK247; clear HB; have HO_8 := n0_; have BK247 := n1_; have HB := n2_; clear n0_ n1_ n2_; (try clear hb); (try clear hb2); (try clear hk); (try clear hi); have hcz82_0 : w81.cell? ⟨gb247, 0, none⟩ = some (.int .i64 a1_0) := (blk_cell BK247.out 0).trans rfl; have hcz82_1 : w81.cell? ⟨gb247, 1, none⟩ = some (.int .i64 a1_1) := (blk_cell BK247.out 1).trans rfl; have hfz82_0 := blk_frozen BK247.out 0; have hfz82_1 := blk_frozen BK247.out 1) | ((with_reducible refine gate_callee (f := 31) rfl ?_); refine goesL_ (some 60) rfl rfl Try.func31 (by kernel_rfl) rfl #[.slice Ao80 x8_3.length co80, .agg #[.int .i64 a1_0, .int .i64 a1_1]] rfl (by (try simp only [List.map_toArray, List.map_cons, List.map_nil]); first | done | rfl | (simp only [List.length_drop, List.length_take]; rfl)) ?_; (with_reducible refine (impl_RangesMissing.calls _ _ x8_3 a1_0 a1_1 t273 t274 _ ?side1 ?side2 A77.out).mono ?_); (case side1 => repeat (first | exact (Kd.R_reads' HO_8.out).2.2 | (with_reducible refine Kd.C_alloc ?_ _) | (with_reducible refine Kd.C_drewN ?_ _) | (with_reducible refine Kd.C_drew ?_))); (case side2 => exact (Kd.R_reads' HO_8.out).2.1); rintro e w83 ⟨rfl, hb⟩; refine ⟨_, rfl, ?_⟩; have n0_ := Aside0.mk (Kd.R_below (by (with_reducible repeat (first | apply Kd.R_alloc | apply Kd.R_drewN | apply Kd.R_drew)); exact HO_8.out) hb); have n1_ := Aside0.mk (blk_below (g := gb247) (o := .cells #[.int .i64 a1_0, .int .i64 a1_1] 28 (0, 0)) (by (with_reducible repeat (first | refine blk_drewN ?_ _ | refine blk_drew ?_ | refine blk_alloc ?_ _)); exact BK247.out) hb); have n2_ := Aside0.mk (below_step (by repeat (first | (with_reducible first | exact HB.out | apply below_alloc | apply pw_below_drewN | apply below_drew1 | refine below_set ?_ GE247.out) | exact HB.out)) hb); clear HO_8; clear BK247; clear HB; have HO_8 := n0_; have BK247 := n1_; have HB := n2_; clear n0_ n1_ n2_; (try clear hb); (try clear hb2); (try clear hk); (try clear hi)) | ((with_reducible refine gate_dst (N := 10) rfl ?_); (try (refine gate_guard (by rfl) ?_; dsimp only)); refine box_event ?hg (N := 10) ?hd (cs := #[.int .i64 0, .int .i64 0]) (t := 28) ?hr ?_; (case hd => rfl); (case hg => rfl); (case hr => first | (go_simp; done) | (go_simp; rfl)); intro gb275 hg w84 hbox hb; have n0_ := Aside0.mk (Kd.R_below (Kd.R_elderB (by (with_reducible repeat (first | apply Kd.R_alloc | apply Kd.R_drewN | apply Kd.R_drew)); exact HO_8.out) gb275 (Nat.le_of_eq hg.symm)) hb); have n1_ := Aside0.mk (blk_below (g := gb247) (o := .cells #[.int .i64 a1_0, .int .i64 a1_1] 28 (0, 0)) (by (with_reducible repeat (first | refine blk_drewN ?_ _ | refine blk_drew ?_ | refine blk_alloc ?_ _)); exact BK247.out) hb); have n2_ := Aside0.mk (below_step (by repeat (first | (with_reducible first | exact HB.out | apply below_alloc | apply pw_below_drewN | apply below_drew1 | refine below_set ?_ GE247.out) | exact HB.out)) hb); have n3_ := Aside0.mk (hbox); have n4_ := Aside0.mk ((by rw [hg]; exact (below_size (by repeat (first | (with_reducible first | exact HB.out | apply below_alloc | apply pw_below_drewN | apply below_drew1 | refine below_set ?_ GE247.out) | exact HB.out))) : w.heap.size ≤ gb275)); have n5_ := Aside0.mk ((by rw [hg]; exact (below_size (by repeat (first | (with_reducible first | exact HB.out | apply below_alloc | apply pw_below_drewN | apply below_drew1 | refine below_set ?_ GE247.out) | exact HB.out))) : w.heap.size ≤ gb275)); have n6_ := Aside0.mk ((by rw [hg]; exact Nat.ne_of_lt (blk_lt (g := gb247) (o := .cells #[.int .i64 a1_0, .int .i64 a1_1] 28 (0, 0)) (by (with_reducible repeat (first | refine blk_drewN ?_ _ | refine blk_drew ?_ | refine blk_alloc ?_ _)); exact BK247.out)) : gb247 ≠ gb275)); have n7_ := Aside0.mk ((by rw [hg]; exact Nat.ne_of_gt (blk_lt (g := gb247) (o := .cells #[.int .i64 a1_0, .int .i64 a1_1] 28 (0, 0)) (by (with_reducible repeat (first | refine blk_drewN ?_ _ | refine blk_drew ?_ | refine blk_alloc ?_ _)); exact BK247.out)) : gb275 ≠ gb247)); clear HO_8; clear BK247; clear HB; have HO_8 := n0_; have BK247 := n1_; have HB := n2_; have BK275 := n3_; have GW275 := n4_; have GE275 := n5_; have NB247_275 := n6_; have NB275_247 := n7_; clear n0_ n1_ n2_ n3_ n4_ n5_ n6_ n7_; clear hb hbox hg; have hnb85 := NB275_247.out; have hnc85 := NB247_275.out; have hcz86_0 : w84.cell? ⟨gb275, 0, none⟩ = some (.int .i64 0) := (blk_cell BK275.out 0).trans rfl; have hcz86_1 : w84.cell? ⟨gb275, 1, none⟩ = some (.int .i64 0) := (blk_cell BK275.out 1).trans rfl; have hfz86_0 := blk_frozen BK275.out 0; have hfz86_1 := blk_frozen BK275.out 1))
                                go_ret
                                exact ⟨by first | rfl | (simp [errW_none, errW_some] <;> rfl) | (simp [*, errW_none, errW_some] <;> rfl), by repeat (first | (with_reducible first | exact HB.out | apply below_alloc | apply pw_below_drewN | apply below_drew1 | refine below_set ?_ GE247.out | refine below_set ?_ GE275.out) | exact HB.out)⟩
                              · rw [if_neg c78] at H
                                have c78b0 : decide (t274 < 1) = false := decide_eq_false c78
                                clear c78
                                replace H := Option.bind_eq_some_iff.mp H
                                obtain ⟨⟨t276, t277, t278, t279, t280⟩, A870, H⟩ := H
                                replace H : (if t280 = true then (some false) else (if t276 = t273 then (if (mn t277 a2) < 1 then (some false) else ((some (([(⟨t276, mn t277 a2⟩ : S28)] : List (S28)) : List (S28))).bind fun y283 => (if x8_3.length + y283.length < 8796093022208 then (laws_FnRangesFill.l0 k3 l0 a2 (x8_3 ++ y283) (wrap64 (x9_3 + (mn t277 a2))) a1_0 a1_1) else (none)))) else (some false))) = some r := H
                                have A87 := Aside0.mk A870
                                clear A870
                                obtain ⟨ji88, hji88⟩ : ∃ j_ : Int, (mn t277 a2) = j_ := ⟨_, rfl⟩
                                replace H : (if t280 = true then (some false) else (if t276 = t273 then (if (ji88) < 1 then (some false) else ((some (([(⟨t276, ji88⟩ : S28)] : List (S28)) : List (S28))).bind fun y283 => (if x8_3.length + y283.length < 8796093022208 then (laws_FnRangesFill.l0 k3 l0 a2 (x8_3 ++ y283) (wrap64 (x9_3 + (ji88))) a1_0 a1_1) else (none)))) else (some false))) = some r := by first | (rw [hji88] at H; exact H) | (simp only [hji88] at H ⊢; exact H)
                                (try rw [hji88] at A35)
                                (try rw [hji88] at A77)
                                (try rw [hji88] at A87)
                                have hji88_ : (if a2 < t277 then a2 else t277) = ji88 := hji88
                                by_cases c89 : t280 = true
                                · subst c89
                                  have H1 : (some false) = some r := by rw [if_pos rfl] at H; exact H
                                  clear H
                                  have H := H1
                                  clear H1
                                  obtain rfl := Option.some.inj H
                                  have hcz90_0 : wr.cell? ⟨gb247, 0, none⟩ = some (.int .i64 a1_0) := (blk_cell BK247.out 0).trans rfl
                                  have hcz90_1 : wr.cell? ⟨gb247, 1, none⟩ = some (.int .i64 a1_1) := (blk_cell BK247.out 1).trans rfl
                                  have hfz90_0 := blk_frozen BK247.out 0
                                  have hfz90_1 := blk_frozen BK247.out 1
                                  obtain ⟨Ao91, co91, eo91⟩ := Kd.R_slice HO_8.out
                                  subst eo91
                                  go_wp2_with (first | ((with_reducible refine gate_callee (f := 30) rfl ?_); refine goesL_ (some 53) rfl rfl Try.func30 (by kernel_rfl) rfl #[.slice Ao91 x8_3.length co91, .agg #[.int .i64 a1_0, .int .i64 a1_1]] rfl (by (try simp only [List.map_toArray, List.map_cons, List.map_nil]); first | done | rfl | (simp only [List.length_drop, List.length_take]; rfl)) ?_; (with_reducible refine (impl_RangesPresent.calls _ _ x8_3 a1_0 a1_1 false _ ?side1 ?side2 A35.out).mono ?_); (case side1 => repeat (first | exact (Kd.R_reads' HO_8.out).2.2 | (with_reducible refine Kd.C_alloc ?_ _) | (with_reducible refine Kd.C_drewN ?_ _) | (with_reducible refine Kd.C_drew ?_))); (case side2 => exact (Kd.R_reads' HO_8.out).2.1); rintro e w92 ⟨rfl, hb⟩; refine ⟨_, rfl, ?_⟩; have n0_ := Aside0.mk (Kd.R_below (by (with_reducible repeat (first | apply Kd.R_alloc | apply Kd.R_drewN | apply Kd.R_drew)); exact HO_8.out) hb); have n1_ := Aside0.mk (blk_below (g := gb247) (o := .cells #[.int .i64 a1_0, .int .i64 a1_1] 28 (0, 0)) (by (with_reducible repeat (first | refine blk_drewN ?_ _ | refine blk_drew ?_ | refine blk_alloc ?_ _)); exact BK247.out) hb); have n2_ := Aside0.mk (below_step (by repeat (first | (with_reducible first | exact HB.out | apply below_alloc | apply pw_below_drewN | apply below_drew1 | refine below_set ?_ GE247.out) | exact HB.out)) hb); clear HO_8; clear BK247; clear HB; have HO_8 := n0_; have BK247 := n1_; have HB := n2_; clear n0_ n1_ n2_; (try clear hb); (try clear hb2); (try clear hk); (try clear hi); have hcz93_0 : w92.cell? ⟨gb247, 0, none⟩ = some (.int .i64 a1_0) := (blk_cell BK247.out 0).trans rfl; have hcz93_1 : w92.cell? ⟨gb247, 1, none⟩ = some (.int .i64 a1_1) := (blk_cell BK247.out 1).trans rfl; have hfz93_0 := blk_frozen BK247.out 0; have hfz93_1 := blk_frozen BK247.out 1) | ((with_reducible refine gate_callee (f := 31) rfl ?_); refine goesL_ (some 60) rfl rfl Try.func31 (by kernel_rfl) rfl #[.slice Ao91 x8_3.length co91, .agg #[.int .i64 a1_0, .int .i64 a1_1]] rfl (by (try simp only [List.map_toArray, List.map_cons, List.map_nil]); first | done | rfl | (simp only [List.length_drop, List.length_take]; rfl)) ?_; (with_reducible refine (impl_RangesMissing.calls _ _ x8_3 a1_0 a1_1 t273 t274 _ ?side1 ?side2 A77.out).mono ?_); (case side1 => repeat (first | exact (Kd.R_reads' HO_8.out).2.2 | (with_reducible refine Kd.C_alloc ?_ _) | (with_reducible refine Kd.C_drewN ?_ _) | (with_reducible refine Kd.C_drew ?_))); (case side2 => exact (Kd.R_reads' HO_8.out).2.1); rintro e w94 ⟨rfl, hb⟩; refine ⟨_, rfl, ?_⟩; have n0_ := Aside0.mk (Kd.R_below (by (with_reducible repeat (first | apply Kd.R_alloc | apply Kd.R_drewN | apply Kd.R_drew)); exact HO_8.out) hb); have n1_ := Aside0.mk (blk_below (g := gb247) (o := .cells #[.int .i64 a1_0, .int .i64 a1_1] 28 (0, 0)) (by (with_reducible repeat (first | refine blk_drewN ?_ _ | refine blk_drew ?_ | refine blk_alloc ?_ _)); exact BK247.out) hb); have n2_ := Aside0.mk (below_step (by repeat (first | (with_reducible first | exact HB.out | apply below_alloc | apply pw_below_drewN | apply below_drew1 | refine below_set ?_ GE247.out) | exact HB.out)) hb); clear HO_8; clear BK247; clear HB; have HO_8 := n0_; have BK247 := n1_; have HB := n2_; clear n0_ n1_ n2_; (try clear hb); (try clear hb2); (try clear hk); (try clear hi)) | ((with_reducible refine gate_dst (N := 10) rfl ?_); (try (refine gate_guard (by rfl) ?_; dsimp only)); refine box_event ?hg (N := 10) ?hd (cs := #[.int .i64 0, .int .i64 0]) (t := 28) ?hr ?_; (case hd => rfl); (case hg => rfl); (case hr => first | (go_simp; done) | (go_simp; rfl)); intro gb275 hg w95 hbox hb; have n0_ := Aside0.mk (Kd.R_below (Kd.R_elderB (by (with_reducible repeat (first | apply Kd.R_alloc | apply Kd.R_drewN | apply Kd.R_drew)); exact HO_8.out) gb275 (Nat.le_of_eq hg.symm)) hb); have n1_ := Aside0.mk (blk_below (g := gb247) (o := .cells #[.int .i64 a1_0, .int .i64 a1_1] 28 (0, 0)) (by (with_reducible repeat (first | refine blk_drewN ?_ _ | refine blk_drew ?_ | refine blk_alloc ?_ _)); exact BK247.out) hb); have n2_ := Aside0.mk (below_step (by repeat (first | (with_reducible first | exact HB.out | apply below_alloc | apply pw_below_drewN | apply below_drew1 | refine below_set ?_ GE247.out) | exact HB.out)) hb); have n3_ := Aside0.mk (hbox); have n4_ := Aside0.mk ((by rw [hg]; exact (below_size (by repeat (first | (with_reducible first | exact HB.out | apply below_alloc | apply pw_below_drewN | apply below_drew1 | refine below_set ?_ GE247.out) | exact HB.out))) : w.heap.size ≤ gb275)); have n5_ := Aside0.mk ((by rw [hg]; exact (below_size (by repeat (first | (with_reducible first | exact HB.out | apply below_alloc | apply pw_below_drewN | apply below_drew1 | refine below_set ?_ GE247.out) | exact HB.out))) : w.heap.size ≤ gb275)); have n6_ := Aside0.mk ((by rw [hg]; exact Nat.ne_of_lt (blk_lt (g := gb247) (o := .cells #[.int .i64 a1_0, .int .i64 a1_1] 28 (0, 0)) (by (with_reducible repeat (first | refine blk_drewN ?_ _ | refine blk_drew ?_ | refine blk_alloc ?_ _)); exact BK247.out)) : gb247 ≠ gb275)); have n7_ := Aside0.mk ((by rw [hg]; exact Nat.ne_of_gt (blk_lt (g := gb247) (o := .cells #[.int .i64 a1_0, .int .i64 a1_1] 28 (0, 0)) (by (with_reducible repeat (first | refine blk_drewN ?_ _ | refine blk_drew ?_ | refine blk_alloc ?_ _)); exact BK247.out)) : gb275 ≠ gb247)); clear HO_8; clear BK247; clear HB; have HO_8 := n0_; have BK247 := n1_; have HB := n2_; have BK275 := n3_; have GW275 := n4_; have GE275 := n5_; have NB247_275 := n6_; have NB275_247 := n7_; clear n0_ n1_ n2_ n3_ n4_ n5_ n6_ n7_; clear hb hbox hg; have hnb96 := NB275_247.out; have hnc96 := NB247_275.out; have hcz97_0 : w95.cell? ⟨gb275, 0, none⟩ = some (.int .i64 0) := (blk_cell BK275.out 0).trans rfl; have hcz97_1 : w95.cell? ⟨gb275, 1, none⟩ = some (.int .i64 0) := (blk_cell BK275.out 1).trans rfl; have hfz97_0 := blk_frozen BK275.out 0; have hfz97_1 := blk_frozen BK275.out 1) | ((with_reducible refine gate_callee (f := 22) rfl ?_); refine goesL_ (some 67) rfl rfl Try.func22 (by kernel_rfl) rfl #[.slice Ao91 x8_3.length co91, .agg #[.int .i64 t273, .int .i64 t274]] rfl (by (try simp only [List.map_toArray, List.map_cons, List.map_nil]); first | done | rfl | (simp only [List.length_drop, List.length_take]; rfl)) ?_; (with_reducible refine (impl_RangesFind.calls _ _ x8_3 t273 t274 t276 t277 t278 t279 true _ ?side1 ?side2 A87.out).mono ?_); (case side1 => refine (Kd.R_reads' (e := 28) (base := w.heap.size) (ok := fun k_ => (k_ ≠ gb247 ∧ k_ ≠ gb275)) (n := x8_3.length) (c := co91) ?_).2.2; exact (by (with_reducible repeat (first | apply Kd.R_alloc | apply Kd.R_drewN | apply Kd.R_drew)); exact (Kd.R_mono (Kd.R_far (p := ⟨gb275, 1, none⟩) (Kd.R_far (p := ⟨gb275, 0, none⟩) (Kd.R_mono HO_8.out (fun k_ hk => (⟨hk, hk.2⟩ : _ ∧ k_ ≠ gb275))) (fun _ hk => hk.2) (.int .i64 t273)) (fun _ hk => hk.2) (.int .i64 t274)) (fun _ h_ => h_.1)))); (case side2 => exact (Kd.R_reads' HO_8.out).2.1); rintro e w98 ⟨rfl, hb⟩; refine ⟨_, rfl, ?_⟩; have n0_ := Aside0.mk (Kd.R_below (by (with_reducible repeat (first | apply Kd.R_alloc | apply Kd.R_drewN | apply Kd.R_drew)); exact (Kd.R_mono (Kd.R_far (p := ⟨gb275, 1, none⟩) (Kd.R_far (p := ⟨gb275, 0, none⟩) (Kd.R_mono HO_8.out (fun k_ hk => (⟨hk, hk.2⟩ : _ ∧ k_ ≠ gb275))) (fun _ hk => hk.2) (.int .i64 t273)) (fun _ hk => hk.2) (.int .i64 t274)) (fun _ h_ => h_.1))) hb); have n1_ := Aside0.mk (blk_below (g := gb247) (o := .cells #[.int .i64 a1_0, .int .i64 a1_1] 28 (0, 0)) (by (with_reducible repeat (first | refine blk_drewN ?_ _ | refine blk_drew ?_ | refine blk_alloc ?_ _)); refine blk_far ?_ NB247_275.out _; (with_reducible repeat (first | refine blk_drewN ?_ _ | refine blk_drew ?_ | refine blk_alloc ?_ _)); refine blk_far ?_ NB247_275.out _; (with_reducible repeat (first | refine blk_drewN ?_ _ | refine blk_drew ?_ | refine blk_alloc ?_ _)); exact BK247.out) hb); have n2_ := Aside0.mk (blk_below (g := gb275) (o := .cells #[.int .i64 t273, .int .i64 t274] 28 (0, 0)) (by (with_reducible repeat (first | refine blk_drewN ?_ _ | refine blk_drew ?_ | refine blk_alloc ?_ _)); refine blk_put (cs := #[.int .i64 t273, .int .i64 0]) ?_ 1 _ rfl; (with_reducible repeat (first | refine blk_drewN ?_ _ | refine blk_drew ?_ | refine blk_alloc ?_ _)); refine blk_put (cs := #[.int .i64 0, .int .i64 0]) ?_ 0 _ rfl; (with_reducible repeat (first | refine blk_drewN ?_ _ | refine blk_drew ?_ | refine blk_alloc ?_ _)); exact BK275.out) hb); have n3_ := Aside0.mk (below_step (by repeat (first | (with_reducible first | exact HB.out | apply below_alloc | apply pw_below_drewN | apply below_drew1 | refine below_set ?_ GE247.out | refine below_set ?_ GE275.out) | exact HB.out)) hb); clear HO_8; clear BK247; clear BK275; clear HB; have HO_8 := n0_; have BK247 := n1_; have BK275 := n2_; have HB := n3_; clear n0_ n1_ n2_ n3_; (try clear hb); (try clear hb2); (try clear hk); (try clear hi)) | ((with_reducible refine gate_dst (N := 11) rfl ?_); (try (refine gate_guard (by rfl) ?_; dsimp only)); refine box_event ?hg (N := 11) ?hd (cs := #[.int .i64 0, .int .i64 0]) (t := 28) ?hr ?_; (case hd => rfl); (case hg => rfl); (case hr => first | (go_simp; done) | (go_simp; rfl)); intro gb281 hg w99 hbox hb; have n0_ := Aside0.mk (Kd.R_below (Kd.R_elderB (by (with_reducible repeat (first | apply Kd.R_alloc | apply Kd.R_drewN | apply Kd.R_drew)); exact HO_8.out) gb281 (Nat.le_of_eq hg.symm)) hb); have n1_ := Aside0.mk (blk_below (g := gb247) (o := .cells #[.int .i64 a1_0, .int .i64 a1_1] 28 (0, 0)) (by (with_reducible repeat (first | refine blk_drewN ?_ _ | refine blk_drew ?_ | refine blk_alloc ?_ _)); exact BK247.out) hb); have n2_ := Aside0.mk (blk_below (g := gb275) (o := .cells #[.int .i64 t273, .int .i64 t274] 28 (0, 0)) (by (with_reducible repeat (first | refine blk_drewN ?_ _ | refine blk_drew ?_ | refine blk_alloc ?_ _)); exact BK275.out) hb); have n3_ := Aside0.mk (below_step (by repeat (first | (with_reducible first | exact HB.out | apply below_alloc | apply pw_below_drewN | apply below_drew1 | refine below_set ?_ GE247.out | refine below_set ?_ GE275.out) | exact HB.out)) hb); have n4_ := Aside0.mk (hbox); have n5_ := Aside0.mk ((by rw [hg]; exact (below_size (by repeat (first | (with_reducible first | exact HB.out | apply below_alloc | apply pw_below_drewN | apply below_drew1 | refine below_set ?_ GE247.out | refine below_set ?_ GE275.out) | exact HB.out))) : w.heap.size ≤ gb281)); have n6_ := Aside0.mk ((by rw [hg]; exact (below_size (by repeat (first | (with_reducible first | exact HB.out | apply below_alloc | apply pw_below_drewN | apply below_drew1 | refine below_set ?_ GE247.out | refine below_set ?_ GE275.out) | exact HB.out))) : w.heap.size ≤ gb281)); have n7_ := Aside0.mk ((by rw [hg]; exact Nat.ne_of_lt (blk_lt (g := gb247) (o := .cells #[.int .i64 a1_0, .int .i64 a1_1] 28 (0, 0)) (by (with_reducible repeat (first | refine blk_drewN ?_ _ | refine blk_drew ?_ | refine blk_alloc ?_ _)); exact BK247.out)) : gb247 ≠ gb281)); have n8_ := Aside0.mk ((by rw [hg]; exact Nat.ne_of_gt (blk_lt (g := gb247) (o := .cells #[.int .i64 a1_0, .int .i64 a1_1] 28 (0, 0)) (by (with_reducible repeat (first | refine blk_drewN ?_ _ | refine blk_drew ?_ | refine blk_alloc ?_ _)); exact BK247.out)) : gb281 ≠ gb247)); have n9_ := Aside0.mk ((by rw [hg]; exact Nat.ne_of_lt (blk_lt (g := gb275) (o := .cells #[.int .i64 t273, .int .i64 t274] 28 (0, 0)) (by (with_reducible repeat (first | refine blk_drewN ?_ _ | refine blk_drew ?_ | refine blk_alloc ?_ _)); exact BK275.out)) : gb275 ≠ gb281)); have n10_ := Aside0.mk ((by rw [hg]; exact Nat.ne_of_gt (blk_lt (g := gb275) (o := .cells #[.int .i64 t273, .int .i64 t274] 28 (0, 0)) (by (with_reducible repeat (first | refine blk_drewN ?_ _ | refine blk_drew ?_ | refine blk_alloc ?_ _)); exact BK275.out)) : gb281 ≠ gb275)); clear HO_8; clear BK247; clear BK275; clear HB; have HO_8 := n0_; have BK247 := n1_; have BK275 := n2_; have HB := n3_; have BK281 := n4_; have GW281 := n5_; have GE281 := n6_; have NB247_281 := n7_; have NB281_247 := n8_; have NB275_281 := n9_; have NB281_275 := n10_; clear n0_ n1_ n2_ n3_ n4_ n5_ n6_ n7_ n8_ n9_ n10_; clear hb hbox hg) | ((with_reducible refine gate_dst (N := 12) rfl ?_); (try (refine gate_guard (by rfl) ?_; dsimp only)); refine box_event ?hg (N := 12) ?hd (cs := #[.int .i64 0, .int .i64 0]) (t := 28) ?hr ?_; (case hd => rfl); (case hg => rfl); (case hr => first | (go_simp; done) | (go_simp; rfl)); intro gb282 hg w100 hbox hb; have n0_ := Aside0.mk (Kd.R_below (Kd.R_elderB (by (with_reducible repeat (first | apply Kd.R_alloc | apply Kd.R_drewN | apply Kd.R_drew)); exact HO_8.out) gb282 (Nat.le_of_eq hg.symm)) hb); have n1_ := Aside0.mk (blk_below (g := gb247) (o := .cells #[.int .i64 a1_0, .int .i64 a1_1] 28 (0, 0)) (by (with_reducible repeat (first | refine blk_drewN ?_ _ | refine blk_drew ?_ | refine blk_alloc ?_ _)); exact BK247.out) hb); have n2_ := Aside0.mk (blk_below (g := gb275) (o := .cells #[.int .i64 t273, .int .i64 t274] 28 (0, 0)) (by (with_reducible repeat (first | refine blk_drewN ?_ _ | refine blk_drew ?_ | refine blk_alloc ?_ _)); exact BK275.out) hb); have n3_ := Aside0.mk (blk_below (g := gb281) (o := .cells #[.int .i64 0, .int .i64 0] 28 (0, 0)) (by (with_reducible repeat (first | refine blk_drewN ?_ _ | refine blk_drew ?_ | refine blk_alloc ?_ _)); exact BK281.out) hb); have n4_ := Aside0.mk (below_step (by repeat (first | (with_reducible first | exact HB.out | apply below_alloc | apply pw_below_drewN | apply below_drew1 | refine below_set ?_ GE247.out | refine below_set ?_ GE275.out | refine below_set ?_ GE281.out) | exact HB.out)) hb); have n5_ := Aside0.mk (hbox); have n6_ := Aside0.mk ((by rw [hg]; exact (below_size (by repeat (first | (with_reducible first | exact HB.out | apply below_alloc | apply pw_below_drewN | apply below_drew1 | refine below_set ?_ GE247.out | refine below_set ?_ GE275.out | refine below_set ?_ GE281.out) | exact HB.out))) : w.heap.size ≤ gb282)); have n7_ := Aside0.mk ((by rw [hg]; exact (below_size (by repeat (first | (with_reducible first | exact HB.out | apply below_alloc | apply pw_below_drewN | apply below_drew1 | refine below_set ?_ GE247.out | refine below_set ?_ GE275.out | refine below_set ?_ GE281.out) | exact HB.out))) : w.heap.size ≤ gb282)); have n8_ := Aside0.mk ((by rw [hg]; exact Nat.ne_of_lt (blk_lt (g := gb247) (o := .cells #[.int .i64 a1_0, .int .i64 a1_1] 28 (0, 0)) (by (with_reducible repeat (first | refine blk_drewN ?_ _ | refine blk_drew ?_ | refine blk_alloc ?_ _)); exact BK247.out)) : gb247 ≠ gb282)); have n9_ := Aside0.mk ((by rw [hg]; exact Nat.ne_of_gt (blk_lt (g := gb247) (o := .cells #[.int .i64 a1_0, .int .i64 a1_1] 28 (0, 0)) (by (with_reducible repeat (first | refine blk_drewN ?_ _ | refine blk_drew ?_ | refine blk_alloc ?_ _)); exact BK247.out)) : gb282 ≠ gb247)); have n10_ := Aside0.mk ((by rw [hg]; exact Nat.ne_of_lt (blk_lt (g := gb275) (o := .cells #[.int .i64 t273, .int .i64 t274] 28 (0, 0)) (by (with_reducible repeat (first | refine blk_drewN ?_ _ | refine blk_drew ?_ | refine blk_alloc ?_ _)); exact BK275.out)) : gb275 ≠ gb282)); have n11_ := Aside0.mk ((by rw [hg]; exact Nat.ne_of_gt (blk_lt (g := gb275) (o := .cells #[.int .i64 t273, .int .i64 t274] 28 (0, 0)) (by (with_reducible repeat (first | refine blk_drewN ?_ _ | refine blk_drew ?_ | refine blk_alloc ?_ _)); exact BK275.out)) : gb282 ≠ gb275)); have n12_ := Aside0.mk ((by rw [hg]; exact Nat.ne_of_lt (blk_lt (g := gb281) (o := .cells #[.int .i64 0, .int .i64 0] 28 (0, 0)) (by (with_reducible repeat (first | refine blk_drewN ?_ _ | refine blk_drew ?_ | refine blk_alloc ?_ _)); exact BK281.out)) : gb281 ≠ gb282)); have n13_ := Aside0.mk ((by rw [hg]; exact Nat.ne_of_gt (blk_lt (g := gb281) (o := .cells #[.int .i64 0, .int .i64 0] 28 (0, 0)) (by (with_reducible repeat (first | refine blk_drewN ?_ _ | refine blk_drew ?_ | refine blk_alloc ?_ _)); exact BK281.out)) : gb282 ≠ gb281)); clear HO_8; clear BK247; clear BK275; clear BK281; clear HB; have HO_8 := n0_; have BK247 := n1_; have BK275 := n2_; have BK281 := n3_; have HB := n4_; have BK282 := n5_; have GW282 := n6_; have GE282 := n7_; have NB247_282 := n8_; have NB282_247 := n9_; have NB275_282 := n10_; have NB282_275 := n11_; have NB281_282 := n12_; have NB282_281 := n13_; clear n0_ n1_ n2_ n3_ n4_ n5_ n6_ n7_ n8_ n9_ n10_ n11_ n12_ n13_; clear hb hbox hg; have hnb101 := NB281_247.out; have hnc101 := NB247_281.out; have hnb102 := NB281_275.out; have hnc102 := NB275_281.out; have hnb103 := NB281_282.out; have hnc103 := NB282_281.out; have hcz104_0 : w100.cell? ⟨gb281, 0, none⟩ = some (.int .i64 0) := (blk_cell BK281.out 0).trans rfl; have hcz104_1 : w100.cell? ⟨gb281, 1, none⟩ = some (.int .i64 0) := (blk_cell BK281.out 1).trans rfl; have hfz104_0 := blk_frozen BK281.out 0; have hfz104_1 := blk_frozen BK281.out 1; have hnb105 := NB282_247.out; have hnc105 := NB247_282.out; have hnb106 := NB282_275.out; have hnc106 := NB275_282.out; have hcz107_0 : w100.cell? ⟨gb282, 0, none⟩ = some (.int .i64 0) := (blk_cell BK282.out 0).trans rfl; have hcz107_1 : w100.cell? ⟨gb282, 1, none⟩ = some (.int .i64 0) := (blk_cell BK282.out 1).trans rfl; have hfz107_0 := blk_frozen BK282.out 0; have hfz107_1 := blk_frozen BK282.out 1))
                                  go_ret
                                  exact ⟨by first | rfl | (simp [errW_none, errW_some] <;> rfl) | (simp only [← hji88]; first | rfl | (simp [errW_none, errW_some] <;> rfl)) | (simp [*, errW_none, errW_some] <;> rfl), by repeat (first | (with_reducible first | exact HB.out | apply below_alloc | apply pw_below_drewN | apply below_drew1 | refine below_set ?_ GE247.out | refine below_set ?_ GE275.out | refine below_set ?_ GE281.out | refine below_set ?_ GE282.out) | exact HB.out)⟩
                                · replace c89 := Bool.eq_false_iff.mpr c89
                                  subst c89
                                  have H1 : (if t276 = t273 then (if (ji88) < 1 then (some false) else ((some (([(⟨t276, ji88⟩ : S28)] : List (S28)) : List (S28))).bind fun y283 => (if x8_3.length + y283.length < 8796093022208 then (laws_FnRangesFill.l0 k3 l0 a2 (x8_3 ++ y283) (wrap64 (x9_3 + (ji88))) a1_0 a1_1) else (none)))) else (some false)) = some r := by rw [if_neg (show ¬ (false = true) by decide)] at H; exact H
                                  clear H
                                  have H := H1
                                  clear H1
                                  by_cases c108 : t276 = t273
                                  · rw [if_pos c108] at H
                                    have c108b0 : (t276 == t273) = true := beq_iff_eq.mpr c108
                                    have c108b1 : (t276 != t273) = false := bne_eq_false_iff_eq.mpr c108
                                    clear c108
                                    by_cases c109 : (ji88) < 1
                                    · rw [if_pos c109] at H
                                      have c109b0 : decide ((ji88) < 1) = true := decide_eq_true c109
                                      clear c109
                                      obtain rfl := Option.some.inj H
                                      have hcz110_0 : wr.cell? ⟨gb247, 0, none⟩ = some (.int .i64 a1_0) := (blk_cell BK247.out 0).trans rfl
                                      have hcz110_1 : wr.cell? ⟨gb247, 1, none⟩ = some (.int .i64 a1_1) := (blk_cell BK247.out 1).trans rfl
                                      have hfz110_0 := blk_frozen BK247.out 0
                                      have hfz110_1 := blk_frozen BK247.out 1
                                      obtain ⟨Ao111, co111, eo111⟩ := Kd.R_slice HO_8.out
                                      subst eo111
                                      go_upto_region 20 with (first | ((with_reducible refine gate_callee (f := 30) rfl ?_); refine goesL_ (some 53) rfl rfl Try.func30 (by kernel_rfl) rfl #[.slice Ao111 x8_3.length co111, .agg #[.int .i64 a1_0, .int .i64 a1_1]] rfl (by (try simp only [List.map_toArray, List.map_cons, List.map_nil]); first | done | rfl | (simp only [List.length_drop, List.length_take]; rfl)) ?_; (with_reducible refine (impl_RangesPresent.calls _ _ x8_3 a1_0 a1_1 false _ ?side1 ?side2 A35.out).mono ?_); (case side1 => repeat (first | exact (Kd.R_reads' HO_8.out).2.2 | (with_reducible refine Kd.C_alloc ?_ _) | (with_reducible refine Kd.C_drewN ?_ _) | (with_reducible refine Kd.C_drew ?_))); (case side2 => exact (Kd.R_reads' HO_8.out).2.1); rintro e w112 ⟨rfl, hb⟩; refine ⟨_, rfl, ?_⟩; have n0_ := Aside0.mk (Kd.R_below (by (with_reducible repeat (first | apply Kd.R_alloc | apply Kd.R_drewN | apply Kd.R_drew)); exact HO_8.out) hb); have n1_ := Aside0.mk (blk_below (g := gb247) (o := .cells #[.int .i64 a1_0, .int .i64 a1_1] 28 (0, 0)) (by (with_reducible repeat (first | refine blk_drewN ?_ _ | refine blk_drew ?_ | refine blk_alloc ?_ _)); exact BK247.out) hb); have n2_ := Aside0.mk (below_step (by repeat (first | (with_reducible first | exact HB.out | apply below_alloc | apply pw_below_drewN | apply below_drew1 | refine below_set ?_ GE247.out) | exact HB.out)) hb); clear HO_8; clear BK247; clear HB; have HO_8 := n0_; have BK247 := n1_; have HB := n2_; clear n0_ n1_ n2_; (try clear hb); (try clear hb2); (try clear hk); (try clear hi); have hcz113_0 : w112.cell? ⟨gb247, 0, none⟩ = some (.int .i64 a1_0) := (blk_cell BK247.out 0).trans rfl; have hcz113_1 : w112.cell? ⟨gb247, 1, none⟩ = some (.int .i64 a1_1) := (blk_cell BK247.out 1).trans rfl; have hfz113_0 := blk_frozen BK247.out 0; have hfz113_1 := blk_frozen BK247.out 1) | ((with_reducible refine gate_callee (f := 31) rfl ?_); refine goesL_ (some 60) rfl rfl Try.func31 (by kernel_rfl) rfl #[.slice Ao111 x8_3.length co111, .agg #[.int .i64 a1_0, .int .i64 a1_1]] rfl (by (try simp only [List.map_toArray, List.map_cons, List.map_nil]); first | done | rfl | (simp only [List.length_drop, List.length_take]; rfl)) ?_; (with_reducible refine (impl_RangesMissing.calls _ _ x8_3 a1_0 a1_1 t273 t274 _ ?side1 ?side2 A77.out).mono ?_); (case side1 => repeat (first | exact (Kd.R_reads' HO_8.out).2.2 | (with_reducible refine Kd.C_alloc ?_ _) | (with_reducible refine Kd.C_drewN ?_ _) | (with_reducible refine Kd.C_drew ?_))); (case side2 => exact (Kd.R_reads' HO_8.out).2.1); rintro e w114 ⟨rfl, hb⟩; refine ⟨_, rfl, ?_⟩; have n0_ := Aside0.mk (Kd.R_below (by (with_reducible repeat (first | apply Kd.R_alloc | apply Kd.R_drewN | apply Kd.R_drew)); exact HO_8.out) hb); have n1_ := Aside0.mk (blk_below (g := gb247) (o := .cells #[.int .i64 a1_0, .int .i64 a1_1] 28 (0, 0)) (by (with_reducible repeat (first | refine blk_drewN ?_ _ | refine blk_drew ?_ | refine blk_alloc ?_ _)); exact BK247.out) hb); have n2_ := Aside0.mk (below_step (by repeat (first | (with_reducible first | exact HB.out | apply below_alloc | apply pw_below_drewN | apply below_drew1 | refine below_set ?_ GE247.out) | exact HB.out)) hb); clear HO_8; clear BK247; clear HB; have HO_8 := n0_; have BK247 := n1_; have HB := n2_; clear n0_ n1_ n2_; (try clear hb); (try clear hb2); (try clear hk); (try clear hi)) | ((with_reducible refine gate_dst (N := 10) rfl ?_); (try (refine gate_guard (by rfl) ?_; dsimp only)); refine box_event ?hg (N := 10) ?hd (cs := #[.int .i64 0, .int .i64 0]) (t := 28) ?hr ?_; (case hd => rfl); (case hg => rfl); (case hr => first | (go_simp; done) | (go_simp; rfl)); intro gb275 hg w115 hbox hb; have n0_ := Aside0.mk (Kd.R_below (Kd.R_elderB (by (with_reducible repeat (first | apply Kd.R_alloc | apply Kd.R_drewN | apply Kd.R_drew)); exact HO_8.out) gb275 (Nat.le_of_eq hg.symm)) hb); have n1_ := Aside0.mk (blk_below (g := gb247) (o := .cells #[.int .i64 a1_0, .int .i64 a1_1] 28 (0, 0)) (by (with_reducible repeat (first | refine blk_drewN ?_ _ | refine blk_drew ?_ | refine blk_alloc ?_ _)); exact BK247.out) hb); have n2_ := Aside0.mk (below_step (by repeat (first | (with_reducible first | exact HB.out | apply below_alloc | apply pw_below_drewN | apply below_drew1 | refine below_set ?_ GE247.out) | exact HB.out)) hb); have n3_ := Aside0.mk (hbox); have n4_ := Aside0.mk ((by rw [hg]; exact (below_size (by repeat (first | (with_reducible first | exact HB.out | apply below_alloc | apply pw_below_drewN | apply below_drew1 | refine below_set ?_ GE247.out) | exact HB.out))) : w.heap.size ≤ gb275)); have n5_ := Aside0.mk ((by rw [hg]; exact (below_size (by repeat (first | (with_reducible first | exact HB.out | apply below_alloc | apply pw_below_drewN | apply below_drew1 | refine below_set ?_ GE247.out) | exact HB.out))) : w.heap.size ≤ gb275)); have n6_ := Aside0.mk ((by rw [hg]; exact Nat.ne_of_lt (blk_lt (g := gb247) (o := .cells #[.int .i64 a1_0, .int .i64 a1_1] 28 (0, 0)) (by (with_reducible repeat (first | refine blk_drewN ?_ _ | refine blk_drew ?_ | refine blk_alloc ?_ _)); exact BK247.out)) : gb247 ≠ gb275)); have n7_ := Aside0.mk ((by rw [hg]; exact Nat.ne_of_gt (blk_lt (g := gb247) (o := .cells #[.int .i64 a1_0, .int .i64 a1_1] 28 (0, 0)) (by (with_reducible repeat (first | refine blk_drewN ?_ _ | refine blk_drew ?_ | refine blk_alloc ?_ _)); exact BK247.out)) : gb275 ≠ gb247)); clear HO_8; clear BK247; clear HB; have HO_8 := n0_; have BK247 := n1_; have HB := n2_; have BK275 := n3_; have GW275 := n4_; have GE275 := n5_; have NB247_275 := n6_; have NB275_247 := n7_; clear n0_ n1_ n2_ n3_ n4_ n5_ n6_ n7_; clear hb hbox hg; have hnb116 := NB275_247.out; have hnc116 := NB247_275.out; have hcz117_0 : w115.cell? ⟨gb275, 0, none⟩ = some (.int .i64 0) := (blk_cell BK275.out 0).trans rfl; have hcz117_1 : w115.cell? ⟨gb275, 1, none⟩ = some (.int .i64 0) := (blk_cell BK275.out 1).trans rfl; have hfz117_0 := blk_frozen BK275.out 0; have hfz117_1 := blk_frozen BK275.out 1) | ((with_reducible refine gate_callee (f := 22) rfl ?_); refine goesL_ (some 67) rfl rfl Try.func22 (by kernel_rfl) rfl #[.slice Ao111 x8_3.length co111, .agg #[.int .i64 t273, .int .i64 t274]] rfl (by (try simp only [List.map_toArray, List.map_cons, List.map_nil]); first | done | rfl | (simp only [List.length_drop, List.length_take]; rfl)) ?_; (with_reducible refine (impl_RangesFind.calls _ _ x8_3 t273 t274 t276 t277 t278 t279 false _ ?side1 ?side2 A87.out).mono ?_); (case side1 => refine (Kd.R_reads' (e := 28) (base := w.heap.size) (ok := fun k_ => (k_ ≠ gb247 ∧ k_ ≠ gb275)) (n := x8_3.length) (c := co111) ?_).2.2; exact (by (with_reducible repeat (first | apply Kd.R_alloc | apply Kd.R_drewN | apply Kd.R_drew)); exact (Kd.R_mono (Kd.R_far (p := ⟨gb275, 1, none⟩) (Kd.R_far (p := ⟨gb275, 0, none⟩) (Kd.R_mono HO_8.out (fun k_ hk => (⟨hk, hk.2⟩ : _ ∧ k_ ≠ gb275))) (fun _ hk => hk.2) (.int .i64 t273)) (fun _ hk => hk.2) (.int .i64 t274)) (fun _ h_ => h_.1)))); (case side2 => exact (Kd.R_reads' HO_8.out).2.1); rintro e w118 ⟨rfl, hb⟩; refine ⟨_, rfl, ?_⟩; have n0_ := Aside0.mk (Kd.R_below (by (with_reducible repeat (first | apply Kd.R_alloc | apply Kd.R_drewN | apply Kd.R_drew)); exact (Kd.R_mono (Kd.R_far (p := ⟨gb275, 1, none⟩) (Kd.R_far (p := ⟨gb275, 0, none⟩) (Kd.R_mono HO_8.out (fun k_ hk => (⟨hk, hk.2⟩ : _ ∧ k_ ≠ gb275))) (fun _ hk => hk.2) (.int .i64 t273)) (fun _ hk => hk.2) (.int .i64 t274)) (fun _ h_ => h_.1))) hb); have n1_ := Aside0.mk (blk_below (g := gb247) (o := .cells #[.int .i64 a1_0, .int .i64 a1_1] 28 (0, 0)) (by (with_reducible repeat (first | refine blk_drewN ?_ _ | refine blk_drew ?_ | refine blk_alloc ?_ _)); refine blk_far ?_ NB247_275.out _; (with_reducible repeat (first | refine blk_drewN ?_ _ | refine blk_drew ?_ | refine blk_alloc ?_ _)); refine blk_far ?_ NB247_275.out _; (with_reducible repeat (first | refine blk_drewN ?_ _ | refine blk_drew ?_ | refine blk_alloc ?_ _)); exact BK247.out) hb); have n2_ := Aside0.mk (blk_below (g := gb275) (o := .cells #[.int .i64 t273, .int .i64 t274] 28 (0, 0)) (by (with_reducible repeat (first | refine blk_drewN ?_ _ | refine blk_drew ?_ | refine blk_alloc ?_ _)); refine blk_put (cs := #[.int .i64 t273, .int .i64 0]) ?_ 1 _ rfl; (with_reducible repeat (first | refine blk_drewN ?_ _ | refine blk_drew ?_ | refine blk_alloc ?_ _)); refine blk_put (cs := #[.int .i64 0, .int .i64 0]) ?_ 0 _ rfl; (with_reducible repeat (first | refine blk_drewN ?_ _ | refine blk_drew ?_ | refine blk_alloc ?_ _)); exact BK275.out) hb); have n3_ := Aside0.mk (below_step (by repeat (first | (with_reducible first | exact HB.out | apply below_alloc | apply pw_below_drewN | apply below_drew1 | refine below_set ?_ GE247.out | refine below_set ?_ GE275.out) | exact HB.out)) hb); clear HO_8; clear BK247; clear BK275; clear HB; have HO_8 := n0_; have BK247 := n1_; have BK275 := n2_; have HB := n3_; clear n0_ n1_ n2_ n3_; (try clear hb); (try clear hb2); (try clear hk); (try clear hi)) | ((with_reducible refine gate_dst (N := 11) rfl ?_); (try (refine gate_guard (by rfl) ?_; dsimp only)); refine box_event ?hg (N := 11) ?hd (cs := #[.int .i64 0, .int .i64 0]) (t := 28) ?hr ?_; (case hd => rfl); (case hg => rfl); (case hr => first | (go_simp; done) | (go_simp; rfl)); intro gb281 hg w119 hbox hb; have n0_ := Aside0.mk (Kd.R_below (Kd.R_elderB (by (with_reducible repeat (first | apply Kd.R_alloc | apply Kd.R_drewN | apply Kd.R_drew)); exact HO_8.out) gb281 (Nat.le_of_eq hg.symm)) hb); have n1_ := Aside0.mk (blk_below (g := gb247) (o := .cells #[.int .i64 a1_0, .int .i64 a1_1] 28 (0, 0)) (by (with_reducible repeat (first | refine blk_drewN ?_ _ | refine blk_drew ?_ | refine blk_alloc ?_ _)); exact BK247.out) hb); have n2_ := Aside0.mk (blk_below (g := gb275) (o := .cells #[.int .i64 t273, .int .i64 t274] 28 (0, 0)) (by (with_reducible repeat (first | refine blk_drewN ?_ _ | refine blk_drew ?_ | refine blk_alloc ?_ _)); exact BK275.out) hb); have n3_ := Aside0.mk (below_step (by repeat (first | (with_reducible first | exact HB.out | apply below_alloc | apply pw_below_drewN | apply below_drew1 | refine below_set ?_ GE247.out | refine below_set ?_ GE275.out) | exact HB.out)) hb); have n4_ := Aside0.mk (hbox); have n5_ := Aside0.mk ((by rw [hg]; exact (below_size (by repeat (first | (with_reducible first | exact HB.out | apply below_alloc | apply pw_below_drewN | apply below_drew1 | refine below_set ?_ GE247.out | refine below_set ?_ GE275.out) | exact HB.out))) : w.heap.size ≤ gb281)); have n6_ := Aside0.mk ((by rw [hg]; exact (below_size (by repeat (first | (with_reducible first | exact HB.out | apply below_alloc | apply pw_below_drewN | apply below_drew1 | refine below_set ?_ GE247.out | refine below_set ?_ GE275.out) | exact HB.out))) : w.heap.size ≤ gb281)); have n7_ := Aside0.mk ((by rw [hg]; exact Nat.ne_of_lt (blk_lt (g := gb247) (o := .cells #[.int .i64 a1_0, .int .i64 a1_1] 28 (0, 0)) (by (with_reducible repeat (first | refine blk_drewN ?_ _ | refine blk_drew ?_ | refine blk_alloc ?_ _)); exact BK247.out)) : gb247 ≠ gb281)); have n8_ := Aside0.mk ((by rw [hg]; exact Nat.ne_of_gt (blk_lt (g := gb247) (o := .cells #[.int .i64 a1_0, .int .i64 a1_1] 28 (0, 0)) (by (with_reducible repeat (first | refine blk_drewN ?_ _ | refine blk_drew ?_ | refine blk_alloc ?_ _)); exact BK247.out)) : gb281 ≠ gb247)); have n9_ := Aside0.mk ((by rw [hg]; exact Nat.ne_of_lt (blk_lt (g := gb275) (o := .cells #[.int .i64 t273, .int .i64 t274] 28 (0, 0)) (by (with_reducible repeat (first | refine blk_drewN ?_ _ | refine blk_drew ?_ | refine blk_alloc ?_ _)); exact BK275.out)) : gb275 ≠ gb281)); have n10_ := Aside0.mk ((by rw [hg]; exact Nat.ne_of_gt (blk_lt (g := gb275) (o := .cells #[.int .i64 t273, .int .i64 t274] 28 (0, 0)) (by (with_reducible repeat (first | refine blk_drewN ?_ _ | refine blk_drew ?_ | refine blk_alloc ?_ _)); exact BK275.out)) : gb281 ≠ gb275)); clear HO_8; clear BK247; clear BK275; clear HB; have HO_8 := n0_; have BK247 := n1_; have BK275 := n2_; have HB := n3_; have BK281 := n4_; have GW281 := n5_; have GE281 := n6_; have NB247_281 := n7_; have NB281_247 := n8_; have NB275_281 := n9_; have NB281_275 := n10_; clear n0_ n1_ n2_ n3_ n4_ n5_ n6_ n7_ n8_ n9_ n10_; clear hb hbox hg) | ((with_reducible refine gate_dst (N := 12) rfl ?_); (try (refine gate_guard (by rfl) ?_; dsimp only)); refine box_event ?hg (N := 12) ?hd (cs := #[.int .i64 0, .int .i64 0]) (t := 28) ?hr ?_; (case hd => rfl); (case hg => rfl); (case hr => first | (go_simp; done) | (go_simp; rfl)); intro gb282 hg w120 hbox hb; have n0_ := Aside0.mk (Kd.R_below (Kd.R_elderB (by (with_reducible repeat (first | apply Kd.R_alloc | apply Kd.R_drewN | apply Kd.R_drew)); exact HO_8.out) gb282 (Nat.le_of_eq hg.symm)) hb); have n1_ := Aside0.mk (blk_below (g := gb247) (o := .cells #[.int .i64 a1_0, .int .i64 a1_1] 28 (0, 0)) (by (with_reducible repeat (first | refine blk_drewN ?_ _ | refine blk_drew ?_ | refine blk_alloc ?_ _)); exact BK247.out) hb); have n2_ := Aside0.mk (blk_below (g := gb275) (o := .cells #[.int .i64 t273, .int .i64 t274] 28 (0, 0)) (by (with_reducible repeat (first | refine blk_drewN ?_ _ | refine blk_drew ?_ | refine blk_alloc ?_ _)); exact BK275.out) hb); have n3_ := Aside0.mk (blk_below (g := gb281) (o := .cells #[.int .i64 0, .int .i64 0] 28 (0, 0)) (by (with_reducible repeat (first | refine blk_drewN ?_ _ | refine blk_drew ?_ | refine blk_alloc ?_ _)); exact BK281.out) hb); have n4_ := Aside0.mk (below_step (by repeat (first | (with_reducible first | exact HB.out | apply below_alloc | apply pw_below_drewN | apply below_drew1 | refine below_set ?_ GE247.out | refine below_set ?_ GE275.out | refine below_set ?_ GE281.out) | exact HB.out)) hb); have n5_ := Aside0.mk (hbox); have n6_ := Aside0.mk ((by rw [hg]; exact (below_size (by repeat (first | (with_reducible first | exact HB.out | apply below_alloc | apply pw_below_drewN | apply below_drew1 | refine below_set ?_ GE247.out | refine below_set ?_ GE275.out | refine below_set ?_ GE281.out) | exact HB.out))) : w.heap.size ≤ gb282)); have n7_ := Aside0.mk ((by rw [hg]; exact (below_size (by repeat (first | (with_reducible first | exact HB.out | apply below_alloc | apply pw_below_drewN | apply below_drew1 | refine below_set ?_ GE247.out | refine below_set ?_ GE275.out | refine below_set ?_ GE281.out) | exact HB.out))) : w.heap.size ≤ gb282)); have n8_ := Aside0.mk ((by rw [hg]; exact Nat.ne_of_lt (blk_lt (g := gb247) (o := .cells #[.int .i64 a1_0, .int .i64 a1_1] 28 (0, 0)) (by (with_reducible repeat (first | refine blk_drewN ?_ _ | refine blk_drew ?_ | refine blk_alloc ?_ _)); exact BK247.out)) : gb247 ≠ gb282)); have n9_ := Aside0.mk ((by rw [hg]; exact Nat.ne_of_gt (blk_lt (g := gb247) (o := .cells #[.int .i64 a1_0, .int .i64 a1_1] 28 (0, 0)) (by (with_reducible repeat (first | refine blk_drewN ?_ _ | refine blk_drew ?_ | refine blk_alloc ?_ _)); exact BK247.out)) : gb282 ≠ gb247)); have n10_ := Aside0.mk ((by rw [hg]; exact Nat.ne_of_lt (blk_lt (g := gb275) (o := .cells #[.int .i64 t273, .int .i64 t274] 28 (0, 0)) (by (with_reducible repeat (first | refine blk_drewN ?_ _ | refine blk_drew ?_ | refine blk_alloc ?_ _)); exact BK275.out)) : gb275 ≠ gb282)); have n11_ := Aside0.mk ((by rw [hg]; exact Nat.ne_of_gt (blk_lt (g := gb275) (o := .cells #[.int .i64 t273, .int .i64 t274] 28 (0, 0)) (by (with_reducible repeat (first | refine blk_drewN ?_ _ | refine blk_drew ?_ | refine blk_alloc ?_ _)); exact BK275.out)) : gb282 ≠ gb275)); have n12_ := Aside0.mk ((by rw [hg]; exact Nat.ne_of_lt (blk_lt (g := gb281) (o := .cells #[.int .i64 0, .int .i64 0] 28 (0, 0)) (by (with_reducible repeat (first | refine blk_drewN ?_ _ | refine blk_drew ?_ | refine blk_alloc ?_ _)); exact BK281.out)) : gb281 ≠ gb282)); have n13_ := Aside0.mk ((by rw [hg]; exact Nat.ne_of_gt (blk_lt (g := gb281) (o := .cells #[.int .i64 0, .int .i64 0] 28 (0, 0)) (by (with_reducible repeat (first | refine blk_drewN ?_ _ | refine blk_drew ?_ | refine blk_alloc ?_ _)); exact BK281.out)) : gb282 ≠ gb281)); clear HO_8; clear BK247; clear BK275; clear BK281; clear HB; have HO_8 := n0_; have BK247 := n1_; have BK275 := n2_; have BK281 := n3_; have HB := n4_; have BK282 := n5_; have GW282 := n6_; have GE282 := n7_; have NB247_282 := n8_; have NB282_247 := n9_; have NB275_282 := n10_; have NB282_275 := n11_; have NB281_282 := n12_; have NB282_281 := n13_; clear n0_ n1_ n2_ n3_ n4_ n5_ n6_ n7_ n8_ n9_ n10_ n11_ n12_ n13_; clear hb hbox hg; have hnb121 := NB281_247.out; have hnc121 := NB247_281.out; have hnb122 := NB281_275.out; have hnc122 := NB275_281.out; have hnb123 := NB281_282.out; have hnc123 := NB282_281.out; have hcz124_0 : w120.cell? ⟨gb281, 0, none⟩ = some (.int .i64 0) := (blk_cell BK281.out 0).trans rfl; have hcz124_1 : w120.cell? ⟨gb281, 1, none⟩ = some (.int .i64 0) := (blk_cell BK281.out 1).trans rfl; have hfz124_0 := blk_frozen BK281.out 0; have hfz124_1 := blk_frozen BK281.out 1; have hnb125 := NB282_247.out; have hnc125 := NB247_282.out; have hnb126 := NB282_275.out; have hnc126 := NB275_282.out; have hcz127_0 : w120.cell? ⟨gb282, 0, none⟩ = some (.int .i64 0) := (blk_cell BK282.out 0).trans rfl; have hcz127_1 : w120.cell? ⟨gb282, 1, none⟩ = some (.int .i64 0) := (blk_cell BK282.out 1).trans rfl; have hfz127_0 := blk_frozen BK282.out 0; have hfz127_1 := blk_frozen BK282.out 1; have hcz128_0 : w120.cell? ⟨gb275, 0, none⟩ = some (.int .i64 t273) := (blk_cell BK275.out 0).trans rfl; have hcz128_1 : w120.cell? ⟨gb275, 1, none⟩ = some (.int .i64 t274) := (blk_cell BK275.out 1).trans rfl; have hfz128_0 := blk_frozen BK275.out 0; have hfz128_1 := blk_frozen BK275.out 1))
                                      refine at_world fun wz hwz => ?_
                                      have n0_ : Kd.R k28 28 wz w.heap.size (fun k_ => ((k_ ≠ gb247 ∧ k_ ≠ gb275) ∧ k_ ≠ gb281) ∧ k_ ≠ gb282) (.slice Ao111 x8_3.length co111) x8_3 := by rw [hwz]; exact (Kd.R_mono (Kd.R_mono (Kd.R_far (p := ⟨gb281, 1, none⟩) (Kd.R_far (p := ⟨gb282, 1, none⟩) (Kd.R_far (p := ⟨gb282, 0, none⟩) (Kd.R_far (p := ⟨gb281, 1, none⟩) (Kd.R_far (p := ⟨gb281, 0, none⟩) (Kd.R_mono (Kd.R_mono HO_8.out (fun k_ hk => (⟨hk, hk.1.2⟩ : _ ∧ k_ ≠ gb281))) (fun k_ hk => (⟨hk, hk.1.2⟩ : _ ∧ k_ ≠ gb282))) (fun _ hk => hk.1.2) (.int .i64 t276)) (fun _ hk => hk.1.2) (.int .i64 t277)) (fun _ hk => hk.2) (.int .i64 t278)) (fun _ hk => hk.2) (.int .i64 t279)) (fun _ hk => hk.1.2) (.int .i64 ji88)) (fun _ h_ => h_.1)) (fun _ h_ => h_.1))
                                      have n1_ : wz.heap[gb247]? = some (.cells #[.int .i64 a1_0, .int .i64 a1_1] 28 (0, 0)) := by rw [hwz]; refine blk_far ?_ NB247_281.out _; refine blk_far ?_ NB247_282.out _; refine blk_far ?_ NB247_282.out _; refine blk_far ?_ NB247_281.out _; refine blk_far ?_ NB247_281.out _; exact BK247.out
                                      have n2_ : wz.heap[gb275]? = some (.cells #[.int .i64 t273, .int .i64 t274] 28 (0, 0)) := by rw [hwz]; refine blk_far ?_ NB275_281.out _; refine blk_far ?_ NB275_282.out _; refine blk_far ?_ NB275_282.out _; refine blk_far ?_ NB275_281.out _; refine blk_far ?_ NB275_281.out _; exact BK275.out
                                      have n3_ : wz.heap[gb281]? = some (.cells #[.int .i64 t276, .int .i64 ji88] 28 (0, 0)) := by rw [hwz]; refine blk_put (cs := #[.int .i64 t276, .int .i64 t277]) ?_ 1 _ rfl; refine blk_far ?_ NB281_282.out _; refine blk_far ?_ NB281_282.out _; refine blk_put (cs := #[.int .i64 t276, .int .i64 0]) ?_ 1 _ rfl; refine blk_put (cs := #[.int .i64 0, .int .i64 0]) ?_ 0 _ rfl; exact BK281.out
                                      have n4_ : wz.heap[gb282]? = some (.cells #[.int .i64 t278, .int .i64 t279] 28 (0, 0)) := by rw [hwz]; refine blk_far ?_ NB282_281.out _; refine blk_put (cs := #[.int .i64 t278, .int .i64 0]) ?_ 1 _ rfl; refine blk_put (cs := #[.int .i64 0, .int .i64 0]) ?_ 0 _ rfl; refine blk_far ?_ NB282_281.out _; refine blk_far ?_ NB282_281.out _; exact BK282.out
                                      have n5_ : Below w.heap.size w wz := by rw [hwz]; repeat (first | (with_reducible first | exact HB.out | apply below_alloc | apply pw_below_drewN | apply below_drew1 | refine below_set ?_ GE247.out | refine below_set ?_ GE275.out | refine below_set ?_ GE281.out | refine below_set ?_ GE282.out) | exact HB.out)
                                      clear hwz; clear HO_8; clear BK247; clear BK275; clear BK281; clear BK282; clear HB
                                      have HO_8 := Aside0.mk n0_; have BK247 := Aside0.mk n1_; have BK275 := Aside0.mk n2_; have BK281 := Aside0.mk n3_; have BK282 := Aside0.mk n4_; have HB := Aside0.mk n5_
                                      clear n0_ n1_ n2_ n3_ n4_ n5_
                                      have hz1 : wz.cell? ⟨gb281, 0, none⟩ = some (.int .i64 t276) := (blk_cell BK281.out 0).trans rfl
                                      have hz2 : wz.cell? ⟨gb281, 1, none⟩ = some (.int .i64 ji88) := (blk_cell BK281.out 1).trans rfl
                                      have hz3 : wz.cell? ⟨gb275, 0, none⟩ = some (.int .i64 t273) := (blk_cell BK275.out 0).trans rfl
                                      go_wp2
                                      go_ret
                                      exact ⟨by first | rfl | (simp [errW_none, errW_some] <;> rfl) | (simp only [← hji88]; first | rfl | (simp [errW_none, errW_some] <;> rfl)) | (simp [*, errW_none, errW_some] <;> rfl), by repeat (first | (with_reducible first | exact HB.out | apply below_alloc | apply pw_below_drewN | apply below_drew1 | refine below_set ?_ GE247.out | refine below_set ?_ GE275.out | refine below_set ?_ GE281.out | refine below_set ?_ GE282.out) | exact HB.out)⟩
                                    · rw [if_neg c109] at H
                                      have c109b0 : decide ((ji88) < 1) = false := decide_eq_false c109
                                      clear c109
                                      obtain ⟨y283, hy283⟩ : ∃ y_ : List (S28), y_ = (([(⟨t276, ji88⟩ : S28)] : List (S28))) := ⟨_, rfl⟩
                                      replace H : (if x8_3.length + y283.length < 8796093022208 then (laws_FnRangesFill.l0 k3 l0 a2 (x8_3 ++ y283) (wrap64 (x9_3 + (ji88))) a1_0 a1_1) else (none)) = some r := by first | (rw [hy283]; with_reducible exact H) | (have H2_ := (Option.bind_some _ _).symm.trans H; rw [hy283]; with_reducible exact H2_) | (have H2_ := (Option.bind_some _ _).symm.trans H; with_reducible exact H2_) | with_reducible exact H | (rw [hy283]; exact H) | exact H
                                      have Ny283 := Aside0.mk hy283
                                      clear hy283
                                      by_cases c129 : x8_3.length + y283.length < 8796093022208
                                      · rw [if_pos c129] at H
                                        have LMc129 := Aside0.mk c129
                                        clear c129
                                        obtain ⟨y286, hy286⟩ : ∃ y_ : List (S28), y_ = (x8_3 ++ y283) := ⟨_, rfl⟩
                                        replace H : (laws_FnRangesFill.l0 k3 l0 a2 y286 (wrap64 (x9_3 + (ji88))) a1_0 a1_1) = some r := by first | (rw [hy286]; with_reducible exact H) | (have H2_ := (Option.bind_some _ _).symm.trans H; rw [hy286]; with_reducible exact H2_) | (have H2_ := (Option.bind_some _ _).symm.trans H; with_reducible exact H2_) | with_reducible exact H | (rw [hy286]; exact H) | exact H
                                        have Ny286 := Aside0.mk hy286
                                        clear hy286
                                        have H' := Aside0.mk H
                                        clear H
                                        have hcz130_0 : wr.cell? ⟨gb247, 0, none⟩ = some (.int .i64 a1_0) := (blk_cell BK247.out 0).trans rfl
                                        have hcz130_1 : wr.cell? ⟨gb247, 1, none⟩ = some (.int .i64 a1_1) := (blk_cell BK247.out 1).trans rfl
                                        have hfz130_0 := blk_frozen BK247.out 0
                                        have hfz130_1 := blk_frozen BK247.out 1
                                        obtain ⟨Ao131, co131, eo131⟩ := Kd.R_slice HO_8.out
                                        subst eo131
                                        go_upto_region 20 with (first | ((with_reducible refine gate_callee (f := 30) rfl ?_); refine goesL_ (some 53) rfl rfl Try.func30 (by kernel_rfl) rfl #[.slice Ao131 x8_3.length co131, .agg #[.int .i64 a1_0, .int .i64 a1_1]] rfl (by (try simp only [List.map_toArray, List.map_cons, List.map_nil]); first | done | rfl | (simp only [List.length_drop, List.length_take]; rfl)) ?_; (with_reducible refine (impl_RangesPresent.calls _ _ x8_3 a1_0 a1_1 false _ ?side1 ?side2 A35.out).mono ?_); (case side1 => repeat (first | exact (Kd.R_reads' HO_8.out).2.2 | (with_reducible refine Kd.C_alloc ?_ _) | (with_reducible refine Kd.C_drewN ?_ _) | (with_reducible refine Kd.C_drew ?_))); (case side2 => exact (Kd.R_reads' HO_8.out).2.1); rintro e w132 ⟨rfl, hb⟩; refine ⟨_, rfl, ?_⟩; have n0_ := Aside0.mk (Kd.R_below (by (with_reducible repeat (first | apply Kd.R_alloc | apply Kd.R_drewN | apply Kd.R_drew)); exact HO_8.out) hb); have n1_ := Aside0.mk (blk_below (g := gb247) (o := .cells #[.int .i64 a1_0, .int .i64 a1_1] 28 (0, 0)) (by (with_reducible repeat (first | refine blk_drewN ?_ _ | refine blk_drew ?_ | refine blk_alloc ?_ _)); exact BK247.out) hb); have n2_ := Aside0.mk (below_step (by repeat (first | (with_reducible first | exact HB.out | apply below_alloc | apply pw_below_drewN | apply below_drew1 | refine below_set ?_ GE247.out) | exact HB.out)) hb); clear HO_8; clear BK247; clear HB; have HO_8 := n0_; have BK247 := n1_; have HB := n2_; clear n0_ n1_ n2_; (try clear hb); (try clear hb2); (try clear hk); (try clear hi); have hcz133_0 : w132.cell? ⟨gb247, 0, none⟩ = some (.int .i64 a1_0) := (blk_cell BK247.out 0).trans rfl; have hcz133_1 : w132.cell? ⟨gb247, 1, none⟩ = some (.int .i64 a1_1) := (blk_cell BK247.out 1).trans rfl; have hfz133_0 := blk_frozen BK247.out 0; have hfz133_1 := blk_frozen BK247.out 1) | ((with_reducible refine gate_callee (f := 31) rfl ?_); refine goesL_ (some 60) rfl rfl Try.func31 (by kernel_rfl) rfl #[.slice Ao131 x8_3.length co131, .agg #[.int .i64 a1_0, .int .i64 a1_1]] rfl (by (try simp only [List.map_toArray, List.map_cons, List.map_nil]); first | done | rfl | (simp only [List.length_drop, List.length_take]; rfl)) ?_; (with_reducible refine (impl_RangesMissing.calls _ _ x8_3 a1_0 a1_1 t273 t274 _ ?side1 ?side2 A77.out).mono ?_); (case side1 => repeat (first | exact (Kd.R_reads' HO_8.out).2.2 | (with_reducible refine Kd.C_alloc ?_ _) | (with_reducible refine Kd.C_drewN ?_ _) | (with_reducible refine Kd.C_drew ?_))); (case side2 => exact (Kd.R_reads' HO_8.out).2.1); rintro e w134 ⟨rfl, hb⟩; refine ⟨_, rfl, ?_⟩; have n0_ := Aside0.mk (Kd.R_below (by (with_reducible repeat (first | apply Kd.R_alloc | apply Kd.R_drewN | apply Kd.R_drew)); exact HO_8.out) hb); have n1_ := Aside0.mk (blk_below (g := gb247) (o := .cells #[.int .i64 a1_0, .int .i64 a1_1] 28 (0, 0)) (by (with_reducible repeat (first | refine blk_drewN ?_ _ | refine blk_drew ?_ | refine blk_alloc ?_ _)); exact BK247.out) hb); have n2_ := Aside0.mk (below_step (by repeat (first | (with_reducible first | exact HB.out | apply below_alloc | apply pw_below_drewN | apply below_drew1 | refine below_set ?_ GE247.out) | exact HB.out)) hb); clear HO_8; clear BK247; clear HB; have HO_8 := n0_; have BK247 := n1_; have HB := n2_; clear n0_ n1_ n2_; (try clear hb); (try clear hb2); (try clear hk); (try clear hi)) | ((with_reducible refine gate_dst (N := 10) rfl ?_); (try (refine gate_guard (by rfl) ?_; dsimp only)); refine box_event ?hg (N := 10) ?hd (cs := #[.int .i64 0, .int .i64 0]) (t := 28) ?hr ?_; (case hd => rfl); (case hg => rfl); (case hr => first | (go_simp; done) | (go_simp; rfl)); intro gb275 hg w135 hbox hb; have n0_ := Aside0.mk (Kd.R_below (Kd.R_elderB (by (with_reducible repeat (first | apply Kd.R_alloc | apply Kd.R_drewN | apply Kd.R_drew)); exact HO_8.out) gb275 (Nat.le_of_eq hg.symm)) hb); have n1_ := Aside0.mk (blk_below (g := gb247) (o := .cells #[.int .i64 a1_0, .int .i64 a1_1] 28 (0, 0)) (by (with_reducible repeat (first | refine blk_drewN ?_ _ | refine blk_drew ?_ | refine blk_alloc ?_ _)); exact BK247.out) hb); have n2_ := Aside0.mk (below_step (by repeat (first | (with_reducible first | exact HB.out | apply below_alloc | apply pw_below_drewN | apply below_drew1 | refine below_set ?_ GE247.out) | exact HB.out)) hb); have n3_ := Aside0.mk (hbox); have n4_ := Aside0.mk ((by rw [hg]; exact (below_size (by repeat (first | (with_reducible first | exact HB.out | apply below_alloc | apply pw_below_drewN | apply below_drew1 | refine below_set ?_ GE247.out) | exact HB.out))) : w.heap.size ≤ gb275)); have n5_ := Aside0.mk ((by rw [hg]; exact (below_size (by repeat (first | (with_reducible first | exact HB.out | apply below_alloc | apply pw_below_drewN | apply below_drew1 | refine below_set ?_ GE247.out) | exact HB.out))) : w.heap.size ≤ gb275)); have n6_ := Aside0.mk ((by rw [hg]; exact Nat.ne_of_lt (blk_lt (g := gb247) (o := .cells #[.int .i64 a1_0, .int .i64 a1_1] 28 (0, 0)) (by (with_reducible repeat (first | refine blk_drewN ?_ _ | refine blk_drew ?_ | refine blk_alloc ?_ _)); exact BK247.out)) : gb247 ≠ gb275)); have n7_ := Aside0.mk ((by rw [hg]; exact Nat.ne_of_gt (blk_lt (g := gb247) (o := .cells #[.int .i64 a1_0, .int .i64 a1_1] 28 (0, 0)) (by (with_reducible repeat (first | refine blk_drewN ?_ _ | refine blk_drew ?_ | refine blk_alloc ?_ _)); exact BK247.out)) : gb275 ≠ gb247)); clear HO_8; clear BK247; clear HB; have HO_8 := n0_; have BK247 := n1_; have HB := n2_; have BK275 := n3_; have GW275 := n4_; have GE275 := n5_; have NB247_275 := n6_; have NB275_247 := n7_; clear n0_ n1_ n2_ n3_ n4_ n5_ n6_ n7_; clear hb hbox hg; have hnb136 := NB275_247.out; have hnc136 := NB247_275.out; have hcz137_0 : w135.cell? ⟨gb275, 0, none⟩ = some (.int .i64 0) := (blk_cell BK275.out 0).trans rfl; have hcz137_1 : w135.cell? ⟨gb275, 1, none⟩ = some (.int .i64 0) := (blk_cell BK275.out 1).trans rfl; have hfz137_0 := blk_frozen BK275.out 0; have hfz137_1 := blk_frozen BK275.out 1) | ((with_reducible refine gate_callee (f := 22) rfl ?_); refine goesL_ (some 67) rfl rfl Try.func22 (by kernel_rfl) rfl #[.slice Ao131 x8_3.length co131, .agg #[.int .i64 t273, .int .i64 t274]] rfl (by (try simp only [List.map_toArray, List.map_cons, List.map_nil]); first | done | rfl | (simp only [List.length_drop, List.length_take]; rfl)) ?_; (with_reducible refine (impl_RangesFind.calls _ _ x8_3 t273 t274 t276 t277 t278 t279 false _ ?side1 ?side2 A87.out).mono ?_); (case side1 => refine (Kd.R_reads' (e := 28) (base := w.heap.size) (ok := fun k_ => (k_ ≠ gb247 ∧ k_ ≠ gb275)) (n := x8_3.length) (c := co131) ?_).2.2; exact (by (with_reducible repeat (first | apply Kd.R_alloc | apply Kd.R_drewN | apply Kd.R_drew)); exact (Kd.R_mono (Kd.R_far (p := ⟨gb275, 1, none⟩) (Kd.R_far (p := ⟨gb275, 0, none⟩) (Kd.R_mono HO_8.out (fun k_ hk => (⟨hk, hk.2⟩ : _ ∧ k_ ≠ gb275))) (fun _ hk => hk.2) (.int .i64 t273)) (fun _ hk => hk.2) (.int .i64 t274)) (fun _ h_ => h_.1)))); (case side2 => exact (Kd.R_reads' HO_8.out).2.1); rintro e w138 ⟨rfl, hb⟩; refine ⟨_, rfl, ?_⟩; have n0_ := Aside0.mk (Kd.R_below (by (with_reducible repeat (first | apply Kd.R_alloc | apply Kd.R_drewN | apply Kd.R_drew)); exact (Kd.R_mono (Kd.R_far (p := ⟨gb275, 1, none⟩) (Kd.R_far (p := ⟨gb275, 0, none⟩) (Kd.R_mono HO_8.out (fun k_ hk => (⟨hk, hk.2⟩ : _ ∧ k_ ≠ gb275))) (fun _ hk => hk.2) (.int .i64 t273)) (fun _ hk => hk.2) (.int .i64 t274)) (fun _ h_ => h_.1))) hb); have n1_ := Aside0.mk (blk_below (g := gb247) (o := .cells #[.int .i64 a1_0, .int .i64 a1_1] 28 (0, 0)) (by (with_reducible repeat (first | refine blk_drewN ?_ _ | refine blk_drew ?_ | refine blk_alloc ?_ _)); refine blk_far ?_ NB247_275.out _; (with_reducible repeat (first | refine blk_drewN ?_ _ | refine blk_drew ?_ | refine blk_alloc ?_ _)); refine blk_far ?_ NB247_275.out _; (with_reducible repeat (first | refine blk_drewN ?_ _ | refine blk_drew ?_ | refine blk_alloc ?_ _)); exact BK247.out) hb); have n2_ := Aside0.mk (blk_below (g := gb275) (o := .cells #[.int .i64 t273, .int .i64 t274] 28 (0, 0)) (by (with_reducible repeat (first | refine blk_drewN ?_ _ | refine blk_drew ?_ | refine blk_alloc ?_ _)); refine blk_put (cs := #[.int .i64 t273, .int .i64 0]) ?_ 1 _ rfl; (with_reducible repeat (first | refine blk_drewN ?_ _ | refine blk_drew ?_ | refine blk_alloc ?_ _)); refine blk_put (cs := #[.int .i64 0, .int .i64 0]) ?_ 0 _ rfl; (with_reducible repeat (first | refine blk_drewN ?_ _ | refine blk_drew ?_ | refine blk_alloc ?_ _)); exact BK275.out) hb); have n3_ := Aside0.mk (below_step (by repeat (first | (with_reducible first | exact HB.out | apply below_alloc | apply pw_below_drewN | apply below_drew1 | refine below_set ?_ GE247.out | refine below_set ?_ GE275.out) | exact HB.out)) hb); clear HO_8; clear BK247; clear BK275; clear HB; have HO_8 := n0_; have BK247 := n1_; have BK275 := n2_; have HB := n3_; clear n0_ n1_ n2_ n3_; (try clear hb); (try clear hb2); (try clear hk); (try clear hi)) | ((with_reducible refine gate_dst (N := 11) rfl ?_); (try (refine gate_guard (by rfl) ?_; dsimp only)); refine box_event ?hg (N := 11) ?hd (cs := #[.int .i64 0, .int .i64 0]) (t := 28) ?hr ?_; (case hd => rfl); (case hg => rfl); (case hr => first | (go_simp; done) | (go_simp; rfl)); intro gb281 hg w139 hbox hb; have n0_ := Aside0.mk (Kd.R_below (Kd.R_elderB (by (with_reducible repeat (first | apply Kd.R_alloc | apply Kd.R_drewN | apply Kd.R_drew)); exact HO_8.out) gb281 (Nat.le_of_eq hg.symm)) hb); have n1_ := Aside0.mk (blk_below (g := gb247) (o := .cells #[.int .i64 a1_0, .int .i64 a1_1] 28 (0, 0)) (by (with_reducible repeat (first | refine blk_drewN ?_ _ | refine blk_drew ?_ | refine blk_alloc ?_ _)); exact BK247.out) hb); have n2_ := Aside0.mk (blk_below (g := gb275) (o := .cells #[.int .i64 t273, .int .i64 t274] 28 (0, 0)) (by (with_reducible repeat (first | refine blk_drewN ?_ _ | refine blk_drew ?_ | refine blk_alloc ?_ _)); exact BK275.out) hb); have n3_ := Aside0.mk (below_step (by repeat (first | (with_reducible first | exact HB.out | apply below_alloc | apply pw_below_drewN | apply below_drew1 | refine below_set ?_ GE247.out | refine below_set ?_ GE275.out) | exact HB.out)) hb); have n4_ := Aside0.mk (hbox); have n5_ := Aside0.mk ((by rw [hg]; exact (below_size (by repeat (first | (with_reducible first | exact HB.out | apply below_alloc | apply pw_below_drewN | apply below_drew1 | refine below_set ?_ GE247.out | refine below_set ?_ GE275.out) | exact HB.out))) : w.heap.size ≤ gb281)); have n6_ := Aside0.mk ((by rw [hg]; exact (below_size (by repeat (first | (with_reducible first | exact HB.out | apply below_alloc | apply pw_below_drewN | apply below_drew1 | refine below_set ?_ GE247.out | refine below_set ?_ GE275.out) | exact HB.out))) : w.heap.size ≤ gb281)); have n7_ := Aside0.mk ((by rw [hg]; exact Nat.ne_of_lt (blk_lt (g := gb247) (o := .cells #[.int .i64 a1_0, .int .i64 a1_1] 28 (0, 0)) (by (with_reducible repeat (first | refine blk_drewN ?_ _ | refine blk_drew ?_ | refine blk_alloc ?_ _)); exact BK247.out)) : gb247 ≠ gb281)); have n8_ := Aside0.mk ((by rw [hg]; exact Nat.ne_of_gt (blk_lt (g := gb247) (o := .cells #[.int .i64 a1_0, .int .i64 a1_1] 28 (0, 0)) (by (with_reducible repeat (first | refine blk_drewN ?_ _ | refine blk_drew ?_ | refine blk_alloc ?_ _)); exact BK247.out)) : gb281 ≠ gb247)); have n9_ := Aside0.mk ((by rw [hg]; exact Nat.ne_of_lt (blk_lt (g := gb275) (o := .cells #[.int .i64 t273, .int .i64 t274] 28 (0, 0)) (by (with_reducible repeat (first | refine blk_drewN ?_ _ | refine blk_drew ?_ | refine blk_alloc ?_ _)); exact BK275.out)) : gb275 ≠ gb281)); have n10_ := Aside0.mk ((by rw [hg]; exact Nat.ne_of_gt (blk_lt (g := gb275) (o := .cells #[.int .i64 t273, .int .i64 t274] 28 (0, 0)) (by (with_reducible repeat (first | refine blk_drewN ?_ _ | refine blk_drew ?_ | refine blk_alloc ?_ _)); exact BK275.out)) : gb281 ≠ gb275)); clear HO_8; clear BK247; clear BK275; clear HB; have HO_8 := n0_; have BK247 := n1_; have BK275 := n2_; have HB := n3_; have BK281 := n4_; have GW281 := n5_; have GE281 := n6_; have NB247_281 := n7_; have NB281_247 := n8_; have NB275_281 := n9_; have NB281_275 := n10_; clear n0_ n1_ n2_ n3_ n4_ n5_ n6_ n7_ n8_ n9_ n10_; clear hb hbox hg) | ((with_reducible refine gate_dst (N := 12) rfl ?_); (try (refine gate_guard (by rfl) ?_; dsimp only)); refine box_event ?hg (N := 12) ?hd (cs := #[.int .i64 0, .int .i64 0]) (t := 28) ?hr ?_; (case hd => rfl); (case hg => rfl); (case hr => first | (go_simp; done) | (go_simp; rfl)); intro gb282 hg w140 hbox hb; have n0_ := Aside0.mk (Kd.R_below (Kd.R_elderB (by (with_reducible repeat (first | apply Kd.R_alloc | apply Kd.R_drewN | apply Kd.R_drew)); exact HO_8.out) gb282 (Nat.le_of_eq hg.symm)) hb); have n1_ := Aside0.mk (blk_below (g := gb247) (o := .cells #[.int .i64 a1_0, .int .i64 a1_1] 28 (0, 0)) (by (with_reducible repeat (first | refine blk_drewN ?_ _ | refine blk_drew ?_ | refine blk_alloc ?_ _)); exact BK247.out) hb); have n2_ := Aside0.mk (blk_below (g := gb275) (o := .cells #[.int .i64 t273, .int .i64 t274] 28 (0, 0)) (by (with_reducible repeat (first | refine blk_drewN ?_ _ | refine blk_drew ?_ | refine blk_alloc ?_ _)); exact BK275.out) hb); have n3_ := Aside0.mk (blk_below (g := gb281) (o := .cells #[.int .i64 0, .int .i64 0] 28 (0, 0)) (by (with_reducible repeat (first | refine blk_drewN ?_ _ | refine blk_drew ?_ | refine blk_alloc ?_ _)); exact BK281.out) hb); have n4_ := Aside0.mk (below_step (by repeat (first | (with_reducible first | exact HB.out | apply below_alloc | apply pw_below_drewN | apply below_drew1 | refine below_set ?_ GE247.out | refine below_set ?_ GE275.out | refine below_set ?_ GE281.out) | exact HB.out)) hb); have n5_ := Aside0.mk (hbox); have n6_ := Aside0.mk ((by rw [hg]; exact (below_size (by repeat (first | (with_reducible first | exact HB.out | apply below_alloc | apply pw_below_drewN | apply below_drew1 | refine below_set ?_ GE247.out | refine below_set ?_ GE275.out | refine below_set ?_ GE281.out) | exact HB.out))) : w.heap.size ≤ gb282)); have n7_ := Aside0.mk ((by rw [hg]; exact (below_size (by repeat (first | (with_reducible first | exact HB.out | apply below_alloc | apply pw_below_drewN | apply below_drew1 | refine below_set ?_ GE247.out | refine below_set ?_ GE275.out | refine below_set ?_ GE281.out) | exact HB.out))) : w.heap.size ≤ gb282)); have n8_ := Aside0.mk ((by rw [hg]; exact Nat.ne_of_lt (blk_lt (g := gb247) (o := .cells #[.int .i64 a1_0, .int .i64 a1_1] 28 (0, 0)) (by (with_reducible repeat (first | refine blk_drewN ?_ _ | refine blk_drew ?_ | refine blk_alloc ?_ _)); exact BK247.out)) : gb247 ≠ gb282)); have n9_ := Aside0.mk ((by rw [hg]; exact Nat.ne_of_gt (blk_lt (g := gb247) (o := .cells #[.int .i64 a1_0, .int .i64 a1_1] 28 (0, 0)) (by (with_reducible repeat (first | refine blk_drewN ?_ _ | refine blk_drew ?_ | refine blk_alloc ?_ _)); exact BK247.out)) : gb282 ≠ gb247)); have n10_ := Aside0.mk ((by rw [hg]; exact Nat.ne_of_lt (blk_lt (g := gb275) (o := .cells #[.int .i64 t273, .int .i64 t274] 28 (0, 0)) (by (with_reducible repeat (first | refine blk_drewN ?_ _ | refine blk_drew ?_ | refine blk_alloc ?_ _)); exact BK275.out)) : gb275 ≠ gb282)); have n11_ := Aside0.mk ((by rw [hg]; exact Nat.ne_of_gt (blk_lt (g := gb275) (o := .cells #[.int .i64 t273, .int .i64 t274] 28 (0, 0)) (by (with_reducible repeat (first | refine blk_drewN ?_ _ | refine blk_drew ?_ | refine blk_alloc ?_ _)); exact BK275.out)) : gb282 ≠ gb275)); have n12_ := Aside0.mk ((by rw [hg]; exact Nat.ne_of_lt (blk_lt (g := gb281) (o := .cells #[.int .i64 0, .int .i64 0] 28 (0, 0)) (by (with_reducible repeat (first | refine blk_drewN ?_ _ | refine blk_drew ?_ | refine blk_alloc ?_ _)); exact BK281.out)) : gb281 ≠ gb282)); have n13_ := Aside0.mk ((by rw [hg]; exact Nat.ne_of_gt (blk_lt (g := gb281) (o := .cells #[.int .i64 0, .int .i64 0] 28 (0, 0)) (by (with_reducible repeat (first | refine blk_drewN ?_ _ | refine blk_drew ?_ | refine blk_alloc ?_ _)); exact BK281.out)) : gb282 ≠ gb281)); clear HO_8; clear BK247; clear BK275; clear BK281; clear HB; have HO_8 := n0_; have BK247 := n1_; have BK275 := n2_; have BK281 := n3_; have HB := n4_; have BK282 := n5_; have GW282 := n6_; have GE282 := n7_; have NB247_282 := n8_; have NB282_247 := n9_; have NB275_282 := n10_; have NB282_275 := n11_; have NB281_282 := n12_; have NB282_281 := n13_; clear n0_ n1_ n2_ n3_ n4_ n5_ n6_ n7_ n8_ n9_ n10_ n11_ n12_ n13_; clear hb hbox hg; have hnb141 := NB281_247.out; have hnc141 := NB247_281.out; have hnb142 := NB281_275.out; have hnc142 := NB275_281.out; have hnb143 := NB281_282.out; have hnc143 := NB282_281.out; have hcz144_0 : w140.cell? ⟨gb281, 0, none⟩ = some (.int .i64 0) := (blk_cell BK281.out 0).trans rfl; have hcz144_1 : w140.cell? ⟨gb281, 1, none⟩ = some (.int .i64 0) := (blk_cell BK281.out 1).trans rfl; have hfz144_0 := blk_frozen BK281.out 0; have hfz144_1 := blk_frozen BK281.out 1; have hnb145 := NB282_247.out; have hnc145 := NB247_282.out; have hnb146 := NB282_275.out; have hnc146 := NB275_282.out; have hcz147_0 : w140.cell? ⟨gb282, 0, none⟩ = some (.int .i64 0) := (blk_cell BK282.out 0).trans rfl; have hcz147_1 : w140.cell? ⟨gb282, 1, none⟩ = some (.int .i64 0) := (blk_cell BK282.out 1).trans rfl; have hfz147_0 := blk_frozen BK282.out 0; have hfz147_1 := blk_frozen BK282.out 1; have hcz148_0 : w140.cell? ⟨gb275, 0, none⟩ = some (.int .i64 t273) := (blk_cell BK275.out 0).trans rfl; have hcz148_1 : w140.cell? ⟨gb275, 1, none⟩ = some (.int .i64 t274) := (blk_cell BK275.out 1).trans rfl; have hfz148_0 := blk_frozen BK275.out 0; have hfz148_1 := blk_frozen BK275.out 1))
                                        refine at_world fun wz hwz => ?_
                                        have n0_ : Kd.R k28 28 wz w.heap.size (fun k_ => ((k_ ≠ gb247 ∧ k_ ≠ gb275) ∧ k_ ≠ gb281) ∧ k_ ≠ gb282) (.slice Ao131 x8_3.length co131) x8_3 := by rw [hwz]; exact (Kd.R_mono (Kd.R_mono (Kd.R_far (p := ⟨gb281, 1, none⟩) (Kd.R_far (p := ⟨gb282, 1, none⟩) (Kd.R_far (p := ⟨gb282, 0, none⟩) (Kd.R_far (p := ⟨gb281, 1, none⟩) (Kd.R_far (p := ⟨gb281, 0, none⟩) (Kd.R_mono (Kd.R_mono HO_8.out (fun k_ hk => (⟨hk, hk.1.2⟩ : _ ∧ k_ ≠ gb281))) (fun k_ hk => (⟨hk, hk.1.2⟩ : _ ∧ k_ ≠ gb282))) (fun _ hk => hk.1.2) (.int .i64 t276)) (fun _ hk => hk.1.2) (.int .i64 t277)) (fun _ hk => hk.2) (.int .i64 t278)) (fun _ hk => hk.2) (.int .i64 t279)) (fun _ hk => hk.1.2) (.int .i64 ji88)) (fun _ h_ => h_.1)) (fun _ h_ => h_.1))
                                        have n1_ : wz.heap[gb247]? = some (.cells #[.int .i64 a1_0, .int .i64 a1_1] 28 (0, 0)) := by rw [hwz]; refine blk_far ?_ NB247_281.out _; refine blk_far ?_ NB247_282.out _; refine blk_far ?_ NB247_282.out _; refine blk_far ?_ NB247_281.out _; refine blk_far ?_ NB247_281.out _; exact BK247.out
                                        have n2_ : wz.heap[gb275]? = some (.cells #[.int .i64 t273, .int .i64 t274] 28 (0, 0)) := by rw [hwz]; refine blk_far ?_ NB275_281.out _; refine blk_far ?_ NB275_282.out _; refine blk_far ?_ NB275_282.out _; refine blk_far ?_ NB275_281.out _; refine blk_far ?_ NB275_281.out _; exact BK275.out
                                        have n3_ : wz.heap[gb281]? = some (.cells #[.int .i64 t276, .int .i64 ji88] 28 (0, 0)) := by rw [hwz]; refine blk_put (cs := #[.int .i64 t276, .int .i64 t277]) ?_ 1 _ rfl; refine blk_far ?_ NB281_282.out _; refine blk_far ?_ NB281_282.out _; refine blk_put (cs := #[.int .i64 t276, .int .i64 0]) ?_ 1 _ rfl; refine blk_put (cs := #[.int .i64 0, .int .i64 0]) ?_ 0 _ rfl; exact BK281.out
                                        have n4_ : wz.heap[gb282]? = some (.cells #[.int .i64 t278, .int .i64 t279] 28 (0, 0)) := by rw [hwz]; refine blk_far ?_ NB282_281.out _; refine blk_put (cs := #[.int .i64 t278, .int .i64 0]) ?_ 1 _ rfl; refine blk_put (cs := #[.int .i64 0, .int .i64 0]) ?_ 0 _ rfl; refine blk_far ?_ NB282_281.out _; refine blk_far ?_ NB282_281.out _; exact BK282.out
                                        have n5_ : Below w.heap.size w wz := by rw [hwz]; repeat (first | (with_reducible first | exact HB.out | apply below_alloc | apply pw_below_drewN | apply below_drew1 | refine below_set ?_ GE247.out | refine below_set ?_ GE275.out | refine below_set ?_ GE281.out | refine below_set ?_ GE282.out) | exact HB.out)
                                        clear hwz; clear HO_8; clear BK247; clear BK275; clear BK281; clear BK282; clear HB
                                        have HO_8 := Aside0.mk n0_; have BK247 := Aside0.mk n1_; have BK275 := Aside0.mk n2_; have BK281 := Aside0.mk n3_; have BK282 := Aside0.mk n4_; have HB := Aside0.mk n5_
                                        clear n0_ n1_ n2_ n3_ n4_ n5_
                                        have hz1 : wz.cell? ⟨gb281, 0, none⟩ = some (.int .i64 t276) := (blk_cell BK281.out 0).trans rfl
                                        have hz2 : wz.cell? ⟨gb281, 1, none⟩ = some (.int .i64 ji88) := (blk_cell BK281.out 1).trans rfl
                                        have hz3 : wz.cell? ⟨gb275, 0, none⟩ = some (.int .i64 t273) := (blk_cell BK275.out 0).trans rfl
                                        go_wp2_with (first | ((with_reducible refine gate_dst (N := 91) rfl ?_); (try (refine gate_guard (by rfl) ?_; dsimp only)); refine Kd.R_lit k28 _ 28 ?hg (N := 91) ?hd (xs := ([(⟨t276, ji88⟩ : S28)] : List (S28))) (inner := [.int .i64 t276, .int .i64 ji88]) (ok := fun _ => True) (okp := fun _ => True) ?hr ?hp (fun _ hk => hk) trivial (Below.refl _ _) (Nat.le_refl _) (by simp) ?_; (case hd => rfl); (case hg => rfl); (case hr => first | (go_simp; done) | (go_simp; rfl)); (case hp => exact (Reps.c2 (show Kd.M k28 _ _ _ (⟨t276, ji88⟩ : S28) [.int .i64 t276, .int .i64 ji88] from (k28_mkM _ _ _ (⟨t276, ji88⟩ : S28) )) (Reps.none _ _))); intro v284 w149 ho150 hb hg_ hnew_; clear hg_ hnew_; (first | rw [← Ny283.out] at ho150 | (simp only [Int.reduceToNat] at ho150; rw [← Ny283.out] at ho150)); have n0_ := Aside0.mk (Kd.R_elder' (by (with_reducible repeat (first | apply Kd.R_alloc | apply Kd.R_drewN | apply Kd.R_drew)); exact HO_8.out) (Kd.R_base ho150) hb); have n1_ := Aside0.mk (Kd.R_lower (Kd.R_newB (Kd.R_newB (Kd.R_newB (Kd.R_newB (Kd.R_new' ho150 (Kd.R_lt (by (with_reducible repeat (first | apply Kd.R_alloc | apply Kd.R_drewN | apply Kd.R_drew)); exact HO_8.out))) (g := gb247) (o := .cells #[.int .i64 a1_0, .int .i64 a1_1] 28 (0, 0)) (by (with_reducible repeat (first | refine blk_drewN ?_ _ | refine blk_drew ?_ | refine blk_alloc ?_ _)); exact BK247.out)) (g := gb275) (o := .cells #[.int .i64 t273, .int .i64 t274] 28 (0, 0)) (by (with_reducible repeat (first | refine blk_drewN ?_ _ | refine blk_drew ?_ | refine blk_alloc ?_ _)); exact BK275.out)) (g := gb281) (o := .cells #[.int .i64 t276, .int .i64 ji88] 28 (0, 0)) (by (with_reducible repeat (first | refine blk_drewN ?_ _ | refine blk_drew ?_ | refine blk_alloc ?_ _)); exact BK281.out)) (g := gb282) (o := .cells #[.int .i64 t278, .int .i64 t279] 28 (0, 0)) (by (with_reducible repeat (first | refine blk_drewN ?_ _ | refine blk_drew ?_ | refine blk_alloc ?_ _)); exact BK282.out)) (below_size (by repeat (first | (with_reducible first | exact HB.out | apply below_alloc | apply pw_below_drewN | apply below_drew1 | refine below_set ?_ GE247.out | refine below_set ?_ GE275.out | refine below_set ?_ GE281.out | refine below_set ?_ GE282.out) | exact HB.out)))); have n2_ := Aside0.mk (blk_below (g := gb247) (o := .cells #[.int .i64 a1_0, .int .i64 a1_1] 28 (0, 0)) (by (with_reducible repeat (first | refine blk_drewN ?_ _ | refine blk_drew ?_ | refine blk_alloc ?_ _)); exact BK247.out) hb); have n3_ := Aside0.mk (blk_below (g := gb275) (o := .cells #[.int .i64 t273, .int .i64 t274] 28 (0, 0)) (by (with_reducible repeat (first | refine blk_drewN ?_ _ | refine blk_drew ?_ | refine blk_alloc ?_ _)); exact BK275.out) hb); have n4_ := Aside0.mk (blk_below (g := gb281) (o := .cells #[.int .i64 t276, .int .i64 ji88] 28 (0, 0)) (by (with_reducible repeat (first | refine blk_drewN ?_ _ | refine blk_drew ?_ | refine blk_alloc ?_ _)); exact BK281.out) hb); have n5_ := Aside0.mk (blk_below (g := gb282) (o := .cells #[.int .i64 t278, .int .i64 t279] 28 (0, 0)) (by (with_reducible repeat (first | refine blk_drewN ?_ _ | refine blk_drew ?_ | refine blk_alloc ?_ _)); exact BK282.out) hb); have n6_ := Aside0.mk (below_step (by repeat (first | (with_reducible first | exact HB.out | apply below_alloc | apply pw_below_drewN | apply below_drew1 | refine below_set ?_ GE247.out | refine below_set ?_ GE275.out | refine below_set ?_ GE281.out | refine below_set ?_ GE282.out) | exact HB.out)) hb); clear HO_8; clear BK247; clear BK275; clear BK281; clear BK282; clear HB; have HO_8 := n0_; have HO285 := n1_; have BK247 := n2_; have BK275 := n3_; have BK281 := n4_; have BK282 := n5_; have HB := n6_; clear n0_ n1_ n2_ n3_ n4_ n5_ n6_; clear hb ho150; obtain ⟨Ao152, co152, eo152⟩ := Kd.R_slice HO285.out; subst eo152) | ((with_reducible refine gate_builtin (b := .append) (xs := #[.tmp 89, .tmp 91]) rfl ?_); (try (refine gate_guard (by rfl) ?_; dsimp only)); at_builtin; refine Kd.R_append_rows k28 (w0 := w) w.heap.size rfl (.tmp 89) (.tmp 91) 22 28 (.agg #[(.int .i64 0), (.int .i64 0)]) 16 rfl Try.underlying22 info28 rfl (by decide) (by omega) (.slice Ao131 x8_3.length co131) x8_3 y283 _ _ _ (fun k_ => some k_ ≠ (.slice Ao152 y283.length co152 : Value).ownBlock ∧ k_ ≠ gb247 ∧ k_ ≠ gb275 ∧ k_ ≠ gb281 ∧ k_ ≠ gb282) (fun _ => False) rfl rfl ?aO ?aR (fun _ _ h => h) (fun _ h => h.elim) ?aF ?aB ?aS ?aL ?_; (case aR => repeat (first | exact (Kd.R_reads' HO285.out).2.2 | (with_reducible refine Kd.C_alloc ?_ _) | (with_reducible refine Kd.C_drewN ?_ _) | (with_reducible refine Kd.C_drew ?_))); (case aB => exact (by repeat (first | (with_reducible first | exact HB.out | apply below_alloc | apply pw_below_drewN | apply below_drew1 | refine below_set ?_ GE247.out | refine below_set ?_ GE275.out | refine below_set ?_ GE281.out | refine below_set ?_ GE282.out) | exact HB.out))); (case aF => exact (fun k_ hk => ⟨Kd.fresh' (Kd.R_lt (by (with_reducible repeat (first | apply Kd.R_alloc | apply Kd.R_drewN | apply Kd.R_drew)); exact HO285.out)) k_ hk, Kd.freshB (g := gb247) (o := .cells #[.int .i64 a1_0, .int .i64 a1_1] 28 (0, 0)) (by (with_reducible repeat (first | refine blk_drewN ?_ _ | refine blk_drew ?_ | refine blk_alloc ?_ _)); exact BK247.out) k_ hk, Kd.freshB (g := gb275) (o := .cells #[.int .i64 t273, .int .i64 t274] 28 (0, 0)) (by (with_reducible repeat (first | refine blk_drewN ?_ _ | refine blk_drew ?_ | refine blk_alloc ?_ _)); exact BK275.out) k_ hk, Kd.freshB (g := gb281) (o := .cells #[.int .i64 t276, .int .i64 ji88] 28 (0, 0)) (by (with_reducible repeat (first | refine blk_drewN ?_ _ | refine blk_drew ?_ | refine blk_alloc ?_ _)); exact BK281.out) k_ hk, Kd.freshB (g := gb282) (o := .cells #[.int .i64 t278, .int .i64 t279] 28 (0, 0)) (by (with_reducible repeat (first | refine blk_drewN ?_ _ | refine blk_drew ?_ | refine blk_alloc ?_ _)); exact BK282.out) k_ hk⟩)); (case aO => exact (by (with_reducible repeat (first | apply Kd.R_alloc | apply Kd.R_drewN | apply Kd.R_drew)); exact Kd.R_mono HO_8.out (fun _ hk => ⟨hk.2, ⟨hk.1.1.1.1, ⟨hk.1.1.1.2, ⟨hk.1.1.2, hk.1.2⟩⟩⟩⟩))); (case aS => exact (below_size (by repeat (first | (with_reducible first | exact HB.out | apply below_alloc | apply pw_below_drewN | apply below_drew1 | refine below_set ?_ GE247.out | refine below_set ?_ GE275.out | refine below_set ?_ GE281.out | refine below_set ?_ GE282.out) | exact HB.out)))); (case aL => have := LMc129.out; omega); intro v287 w151 ho hb hg hat; rw [← Ny286.out] at ho; have n0_ := Aside0.mk (blk_grown (g := gb247) (o := .cells #[.int .i64 a1_0, .int .i64 a1_1] 28 (0, 0)) (by (with_reducible repeat (first | refine blk_drewN ?_ _ | refine blk_drew ?_ | refine blk_alloc ?_ _)); exact BK247.out) hg (Kd.R_away HO_8.out (fun _ hk => hk.1.1.1.1))); have n1_ := Aside0.mk (blk_grown (g := gb275) (o := .cells #[.int .i64 t273, .int .i64 t274] 28 (0, 0)) (by (with_reducible repeat (first | refine blk_drewN ?_ _ | refine blk_drew ?_ | refine blk_alloc ?_ _)); exact BK275.out) hg (Kd.R_away HO_8.out (fun _ hk => hk.1.1.1.2))); have n2_ := Aside0.mk (blk_grown (g := gb281) (o := .cells #[.int .i64 t276, .int .i64 ji88] 28 (0, 0)) (by (with_reducible repeat (first | refine blk_drewN ?_ _ | refine blk_drew ?_ | refine blk_alloc ?_ _)); exact BK281.out) hg (Kd.R_away HO_8.out (fun _ hk => hk.1.1.2))); have n3_ := Aside0.mk (blk_grown (g := gb282) (o := .cells #[.int .i64 t278, .int .i64 t279] 28 (0, 0)) (by (with_reducible repeat (first | refine blk_drewN ?_ _ | refine blk_drew ?_ | refine blk_alloc ?_ _)); exact BK282.out) hg (Kd.R_away HO_8.out (fun _ hk => hk.1.2))); have n4_ := Aside0.mk (Kd.R_after (ok := (fun k_ => k_ ≠ gb247 ∧ k_ ≠ gb275 ∧ k_ ≠ gb281 ∧ k_ ≠ gb282)) (by (with_reducible repeat (first | apply Kd.R_alloc | apply Kd.R_drewN | apply Kd.R_drew)); exact Kd.R_mono HO285.out (fun _ hk => ⟨⟨hk.1.1.1.2, ⟨hk.1.1.2, ⟨hk.1.2, hk.2⟩⟩⟩, hk.1.1.1.1.2⟩)) hg hat); have n5_ := Aside0.mk (hb); have n6_ := Aside0.mk (ho); clear BK247; clear BK275; clear BK281; clear BK282; clear HO285; clear HB; clear HO_8; have BK247 := n0_; have BK275 := n1_; have BK281 := n2_; have BK282 := n3_; have HO285 := n4_; have HB := n5_; have HO288 := n6_; clear n0_ n1_ n2_ n3_ n4_ n5_ n6_; clear ho hb hg hat; have hcz153_0 : w151.cell? ⟨gb281, 0, none⟩ = some (.int .i64 t276) := (blk_cell BK281.out 0).trans rfl; have hcz153_1 : w151.cell? ⟨gb281, 1, none⟩ = some (.int .i64 ji88) := (blk_cell BK281.out 1).trans rfl; have hfz153_0 := blk_frozen BK281.out 0; have hfz153_1 := blk_frozen BK281.out 1))
                                        go_roundg k3
                                        case measure => have := HJ5.out; have := HJ24.out; have := HK3.out; omega
                                        case rel => exact ⟨(y286), (wrap64 (x9_3 + (ji88))), (by first | rfl | (simp; done) | (simp only [← hji88] <;> (first | rfl | simp)) | (simp [*]; done) | (simp [xt_ne_nil]; done)), H', ⟨by have := HJ5.out; have := HJ24.out; have := HK3.out; omega⟩, ⟨by (with_reducible repeat (first | apply Kd.R_alloc | apply Kd.R_drewN | apply Kd.R_drew)); exact Kd.R_mono HO288.out (fun _ hk => hk.2.1)⟩, ⟨by (with_reducible repeat (first | refine blk_drewN ?_ _ | refine blk_drew ?_ | refine blk_alloc ?_ _)); exact BK247.out⟩, ⟨by repeat (first | (with_reducible first | exact HB.out | apply below_alloc | apply pw_below_drewN | apply below_drew1 | refine below_set ?_ GE247.out | refine below_set ?_ GE275.out | refine below_set ?_ GE281.out | refine below_set ?_ GE282.out) | exact HB.out)⟩⟩
                                      · rw [if_neg c129] at H
                                        exact absurd H (by simp)
                                  · rw [if_neg c108] at H
                                    have c108b0 : (t276 == t273) = false := beq_eq_false_iff_ne.mpr c108
                                    have c108b1 : (t276 != t273) = true := bne_iff_ne.mpr c108
                                    obtain rfl := Option.some.inj H
                                    have hcz154_0 : wr.cell? ⟨gb247, 0, none⟩ = some (.int .i64 a1_0) := (blk_cell BK247.out 0).trans rfl
                                    have hcz154_1 : wr.cell? ⟨gb247, 1, none⟩ = some (.int .i64 a1_1) := (blk_cell BK247.out 1).trans rfl
                                    have hfz154_0 := blk_frozen BK247.out 0
                                    have hfz154_1 := blk_frozen BK247.out 1
                                    obtain ⟨Ao155, co155, eo155⟩ := Kd.R_slice HO_8.out
                                    subst eo155
                                    go_wp2_with (first | ((with_reducible refine gate_callee (f := 30) rfl ?_); refine goesL_ (some 53) rfl rfl Try.func30 (by kernel_rfl) rfl #[.slice Ao155 x8_3.length co155, .agg #[.int .i64 a1_0, .int .i64 a1_1]] rfl (by (try simp only [List.map_toArray, List.map_cons, List.map_nil]); first | done | rfl | (simp only [List.length_drop, List.length_take]; rfl)) ?_; (with_reducible refine (impl_RangesPresent.calls _ _ x8_3 a1_0 a1_1 false _ ?side1 ?side2 A35.out).mono ?_); (case side1 => repeat (first | exact (Kd.R_reads' HO_8.out).2.2 | (with_reducible refine Kd.C_alloc ?_ _) | (with_reducible refine Kd.C_drewN ?_ _) | (with_reducible refine Kd.C_drew ?_))); (case side2 => exact (Kd.R_reads' HO_8.out).2.1); rintro e w156 ⟨rfl, hb⟩; refine ⟨_, rfl, ?_⟩; have n0_ := Aside0.mk (Kd.R_below (by (with_reducible repeat (first | apply Kd.R_alloc | apply Kd.R_drewN | apply Kd.R_drew)); exact HO_8.out) hb); have n1_ := Aside0.mk (blk_below (g := gb247) (o := .cells #[.int .i64 a1_0, .int .i64 a1_1] 28 (0, 0)) (by (with_reducible repeat (first | refine blk_drewN ?_ _ | refine blk_drew ?_ | refine blk_alloc ?_ _)); exact BK247.out) hb); have n2_ := Aside0.mk (below_step (by repeat (first | (with_reducible first | exact HB.out | apply below_alloc | apply pw_below_drewN | apply below_drew1 | refine below_set ?_ GE247.out) | exact HB.out)) hb); clear HO_8; clear BK247; clear HB; have HO_8 := n0_; have BK247 := n1_; have HB := n2_; clear n0_ n1_ n2_; (try clear hb); (try clear hb2); (try clear hk); (try clear hi); have hcz157_0 : w156.cell? ⟨gb247, 0, none⟩ = some (.int .i64 a1_0) := (blk_cell BK247.out 0).trans rfl; have hcz157_1 : w156.cell? ⟨gb247, 1, none⟩ = some (.int .i64 a1_1) := (blk_cell BK247.out 1).trans rfl; have hfz157_0 := blk_frozen BK247.out 0; have hfz157_1 := blk_frozen BK247.out 1) | ((with_reducible refine gate_callee (f := 31) rfl ?_); refine goesL_ (some 60) rfl rfl Try.func31 (by kernel_rfl) rfl #[.slice Ao155 x8_3.length co155, .agg #[.int .i64 a1_0, .int .i64 a1_1]] rfl (by (try simp only [List.map_toArray, List.map_cons, List.map_nil]); first | done | rfl | (simp only [List.length_drop, List.length_take]; rfl)) ?_; (with_reducible refine (impl_RangesMissing.calls _ _ x8_3 a1_0 a1_1 t273 t274 _ ?side1 ?side2 A77.out).mono ?_); (case side1 => repeat (first | exact (Kd.R_reads' HO_8.out).2.2 | (with_reducible refine Kd.C_alloc ?_ _) | (with_reducible refine Kd.C_drewN ?_ _) | (with_reducible refine Kd.C_drew ?_))); (case side2 => exact (Kd.R_reads' HO_8.out).2.1); rintro e w158 ⟨rfl, hb⟩; refine ⟨_, rfl, ?_⟩; have n0_ := Aside0.mk (Kd.R_below (by (with_reducible repeat (first | apply Kd.R_alloc | apply Kd.R_drewN | apply Kd.R_drew)); exact HO_8.out) hb); have n1_ := Aside0.mk (blk_below (g := gb247) (o := .cells #[.int .i64 a1_0, .int .i64 a1_1] 28 (0, 0)) (by (with_reducible repeat (first | refine blk_drewN ?_ _ | refine blk_drew ?_ | refine blk_alloc ?_ _)); exact BK247.out) hb); have n2_ := Aside0.mk (below_step (by repeat (first | (with_reducible first | exact HB.out | apply below_alloc | apply pw_below_drewN | apply below_drew1 | refine below_set ?_ GE247.out) | exact HB.out)) hb); clear HO_8; clear BK247; clear HB; have HO_8 := n0_; have BK247 := n1_; have HB := n2_; clear n0_ n1_ n2_; (try clear hb); (try clear hb2); (try clear hk); (try clear hi)) | ((with_reducible refine gate_dst (N := 10) rfl ?_); (try (refine gate_guard (by rfl) ?_; dsimp only)); refine box_event ?hg (N := 10) ?hd (cs := #[.int .i64 0, .int .i64 0]) (t := 28) ?hr ?_; (case hd => rfl); (case hg => rfl); (case hr => first | (go_simp; done) | (go_simp; rfl)); intro gb275 hg w159 hbox hb; have n0_ := Aside0.mk (Kd.R_below (Kd.R_elderB (by (with_reducible repeat (first | apply Kd.R_alloc | apply Kd.R_drewN | apply Kd.R_drew)); exact HO_8.out) gb275 (Nat.le_of_eq hg.symm)) hb); have n1_ := Aside0.mk (blk_below (g := gb247) (o := .cells #[.int .i64 a1_0, .int .i64 a1_1] 28 (0, 0)) (by (with_reducible repeat (first | refine blk_drewN ?_ _ | refine blk_drew ?_ | refine blk_alloc ?_ _)); exact BK247.out) hb); have n2_ := Aside0.mk (below_step (by repeat (first | (with_reducible first | exact HB.out | apply below_alloc | apply pw_below_drewN | apply below_drew1 | refine below_set ?_ GE247.out) | exact HB.out)) hb); have n3_ := Aside0.mk (hbox); have n4_ := Aside0.mk ((by rw [hg]; exact (below_size (by repeat (first | (with_reducible first | exact HB.out | apply below_alloc | apply pw_below_drewN | apply below_drew1 | refine below_set ?_ GE247.out) | exact HB.out))) : w.heap.size ≤ gb275)); have n5_ := Aside0.mk ((by rw [hg]; exact (below_size (by repeat (first | (with_reducible first | exact HB.out | apply below_alloc | apply pw_below_drewN | apply below_drew1 | refine below_set ?_ GE247.out) | exact HB.out))) : w.heap.size ≤ gb275)); have n6_ := Aside0.mk ((by rw [hg]; exact Nat.ne_of_lt (blk_lt (g := gb247) (o := .cells #[.int .i64 a1_0, .int .i64 a1_1] 28 (0, 0)) (by (with_reducible repeat (first | refine blk_drewN ?_ _ | refine blk_drew ?_ | refine blk_alloc ?_ _)); exact BK247.out)) : gb247 ≠ gb275)); have n7_ := Aside0.mk ((by rw [hg]; exact Nat.ne_of_gt (blk_lt (g := gb247) (o := .cells #[.int .i64 a1_0, .int .i64 a1_1] 28 (0, 0)) (by (with_reducible repeat (first | refine blk_drewN ?_ _ | refine blk_drew ?_ | refine blk_alloc ?_ _)); exact BK247.out)) : gb275 ≠ gb247)); clear HO_8; clear BK247; clear HB; have HO_8 := n0_; have BK247 := n1_; have HB := n2_; have BK275 := n3_; have GW275 := n4_; have GE275 := n5_; have NB247_275 := n6_; have NB275_247 := n7_; clear n0_ n1_ n2_ n3_ n4_ n5_ n6_ n7_; clear hb hbox hg; have hnb160 := NB275_247.out; have hnc160 := NB247_275.out; have hcz161_0 : w159.cell? ⟨gb275, 0, none⟩ = some (.int .i64 0) := (blk_cell BK275.out 0).trans rfl; have hcz161_1 : w159.cell? ⟨gb275, 1, none⟩ = some (.int .i64 0) := (blk_cell BK275.out 1).trans rfl; have hfz161_0 := blk_frozen BK275.out 0; have hfz161_1 := blk_frozen BK275.out 1) | ((with_reducible refine gate_callee (f := 22) rfl ?_); refine goesL_ (some 67) rfl rfl Try.func22 (by kernel_rfl) rfl #[.slice Ao155 x8_3.length co155, .agg #[.int .i64 t273, .int .i64 t274]] rfl (by (try simp only [List.map_toArray, List.map_cons, List.map_nil]); first | done | rfl | (simp only [List.length_drop, List.length_take]; rfl)) ?_; (with_reducible refine (impl_RangesFind.calls _ _ x8_3 t273 t274 t276 t277 t278 t279 false _ ?side1 ?side2 A87.out).mono ?_); (case side1 => refine (Kd.R_reads' (e := 28) (base := w.heap.size) (ok := fun k_ => (k_ ≠ gb247 ∧ k_ ≠ gb275)) (n := x8_3.length) (c := co155) ?_).2.2; exact (by (with_reducible repeat (first | apply Kd.R_alloc | apply Kd.R_drewN | apply Kd.R_drew)); exact (Kd.R_mono (Kd.R_far (p := ⟨gb275, 1, none⟩) (Kd.R_far (p := ⟨gb275, 0, none⟩) (Kd.R_mono HO_8.out (fun k_ hk => (⟨hk, hk.2⟩ : _ ∧ k_ ≠ gb275))) (fun _ hk => hk.2) (.int .i64 t273)) (fun _ hk => hk.2) (.int .i64 t274)) (fun _ h_ => h_.1)))); (case side2 => exact (Kd.R_reads' HO_8.out).2.1); rintro e w162 ⟨rfl, hb⟩; refine ⟨_, rfl, ?_⟩; have n0_ := Aside0.mk (Kd.R_below (by (with_reducible repeat (first | apply Kd.R_alloc | apply Kd.R_drewN | apply Kd.R_drew)); exact (Kd.R_mono (Kd.R_far (p := ⟨gb275, 1, none⟩) (Kd.R_far (p := ⟨gb275, 0, none⟩) (Kd.R_mono HO_8.out (fun k_ hk => (⟨hk, hk.2⟩ : _ ∧ k_ ≠ gb275))) (fun _ hk => hk.2) (.int .i64 t273)) (fun _ hk => hk.2) (.int .i64 t274)) (fun _ h_ => h_.1))) hb); have n1_ := Aside0.mk (blk_below (g := gb247) (o := .cells #[.int .i64 a1_0, .int .i64 a1_1] 28 (0, 0)) (by (with_reducible repeat (first | refine blk_drewN ?_ _ | refine blk_drew ?_ | refine blk_alloc ?_ _)); refine blk_far ?_ NB247_275.out _; (with_reducible repeat (first | refine blk_drewN ?_ _ | refine blk_drew ?_ | refine blk_alloc ?_ _)); refine blk_far ?_ NB247_275.out _; (with_reducible repeat (first | refine blk_drewN ?_ _ | refine blk_drew ?_ | refine blk_alloc ?_ _)); exact BK247.out) hb); have n2_ := Aside0.mk (blk_below (g := gb275) (o := .cells #[.int .i64 t273, .int .i64 t274] 28 (0, 0)) (by (with_reducible repeat (first | refine blk_drewN ?_ _ | refine blk_drew ?_ | refine blk_alloc ?_ _)); refine blk_put (cs := #[.int .i64 t273, .int .i64 0]) ?_ 1 _ rfl; (with_reducible repeat (first | refine blk_drewN ?_ _ | refine blk_drew ?_ | refine blk_alloc ?_ _)); refine blk_put (cs := #[.int .i64 0, .int .i64 0]) ?_ 0 _ rfl; (with_reducible repeat (first | refine blk_drewN ?_ _ | refine blk_drew ?_ | refine blk_alloc ?_ _)); exact BK275.out) hb); have n3_ := Aside0.mk (below_step (by repeat (first | (with_reducible first | exact HB.out | apply below_alloc | apply pw_below_drewN | apply below_drew1 | refine below_set ?_ GE247.out | refine below_set ?_ GE275.out) | exact HB.out)) hb); clear HO_8; clear BK247; clear BK275; clear HB; have HO_8 := n0_; have BK247 := n1_; have BK275 := n2_; have HB := n3_; clear n0_ n1_ n2_ n3_; (try clear hb); (try clear hb2); (try clear hk); (try clear hi)) | ((with_reducible refine gate_dst (N := 11) rfl ?_); (try (refine gate_guard (by rfl) ?_; dsimp only)); refine box_event ?hg (N := 11) ?hd (cs := #[.int .i64 0, .int .i64 0]) (t := 28) ?hr ?_; (case hd => rfl); (case hg => rfl); (case hr => first | (go_simp; done) | (go_simp; rfl)); intro gb281 hg w163 hbox hb; have n0_ := Aside0.mk (Kd.R_below (Kd.R_elderB (by (with_reducible repeat (first | apply Kd.R_alloc | apply Kd.R_drewN | apply Kd.R_drew)); exact HO_8.out) gb281 (Nat.le_of_eq hg.symm)) hb); have n1_ := Aside0.mk (blk_below (g := gb247) (o := .cells #[.int .i64 a1_0, .int .i64 a1_1] 28 (0, 0)) (by (with_reducible repeat (first | refine blk_drewN ?_ _ | refine blk_drew ?_ | refine blk_alloc ?_ _)); exact BK247.out) hb); have n2_ := Aside0.mk (blk_below (g := gb275) (o := .cells #[.int .i64 t273, .int .i64 t274] 28 (0, 0)) (by (with_reducible repeat (first | refine blk_drewN ?_ _ | refine blk_drew ?_ | refine blk_alloc ?_ _)); exact BK275.out) hb); have n3_ := Aside0.mk (below_step (by repeat (first | (with_reducible first | exact HB.out | apply below_alloc | apply pw_below_drewN | apply below_drew1 | refine below_set ?_ GE247.out | refine below_set ?_ GE275.out) | exact HB.out)) hb); have n4_ := Aside0.mk (hbox); have n5_ := Aside0.mk ((by rw [hg]; exact (below_size (by repeat (first | (with_reducible first | exact HB.out | apply below_alloc | apply pw_below_drewN | apply below_drew1 | refine below_set ?_ GE247.out | refine below_set ?_ GE275.out) | exact HB.out))) : w.heap.size ≤ gb281)); have n6_ := Aside0.mk ((by rw [hg]; exact (below_size (by repeat (first | (with_reducible first | exact HB.out | apply below_alloc | apply pw_below_drewN | apply below_drew1 | refine below_set ?_ GE247.out | refine below_set ?_ GE275.out) | exact HB.out))) : w.heap.size ≤ gb281)); have n7_ := Aside0.mk ((by rw [hg]; exact Nat.ne_of_lt (blk_lt (g := gb247) (o := .cells #[.int .i64 a1_0, .int .i64 a1_1] 28 (0, 0)) (by (with_reducible repeat (first | refine blk_drewN ?_ _ | refine blk_drew ?_ | refine blk_alloc ?_ _)); exact BK247.out)) : gb247 ≠ gb281)); have n8_ := Aside0.mk ((by rw [hg]; exact Nat.ne_of_gt (blk_lt (g := gb247) (o := .cells #[.int .i64 a1_0, .int .i64 a1_1] 28 (0, 0)) (by (with_reducible repeat (first | refine blk_drewN ?_ _ | refine blk_drew ?_ | refine blk_alloc ?_ _)); exact BK247.out)) : gb281 ≠ gb247)); have n9_ := Aside0.mk ((by rw [hg]; exact Nat.ne_of_lt (blk_lt (g := gb275) (o := .cells #[.int .i64 t273, .int .i64 t274] 28 (0, 0)) (by (with_reducible repeat (first | refine blk_drewN ?_ _ | refine blk_drew ?_ | refine blk_alloc ?_ _)); exact BK275.out)) : gb275 ≠ gb281)); have n10_ := Aside0.mk ((by rw [hg]; exact Nat.ne_of_gt (blk_lt (g := gb275) (o := .cells #[.int .i64 t273, .int .i64 t274] 28 (0, 0)) (by (with_reducible repeat (first | refine blk_drewN ?_ _ | refine blk_drew ?_ | refine blk_alloc ?_ _)); exact BK275.out)) : gb281 ≠ gb275)); clear HO_8; clear BK247; clear BK275; clear HB; have HO_8 := n0_; have BK247 := n1_; have BK275 := n2_; have HB := n3_; have BK281 := n4_; have GW281 := n5_; have GE281 := n6_; have NB247_281 := n7_; have NB281_247 := n8_; have NB275_281 := n9_; have NB281_275 := n10_; clear n0_ n1_ n2_ n3_ n4_ n5_ n6_ n7_ n8_ n9_ n10_; clear hb hbox hg) | ((with_reducible refine gate_dst (N := 12) rfl ?_); (try (refine gate_guard (by rfl) ?_; dsimp only)); refine box_event ?hg (N := 12) ?hd (cs := #[.int .i64 0, .int .i64 0]) (t := 28) ?hr ?_; (case hd => rfl); (case hg => rfl); (case hr => first | (go_simp; done) | (go_simp; rfl)); intro gb282 hg w164 hbox hb; have n0_ := Aside0.mk (Kd.R_below (Kd.R_elderB (by (with_reducible repeat (first | apply Kd.R_alloc | apply Kd.R_drewN | apply Kd.R_drew)); exact HO_8.out) gb282 (Nat.le_of_eq hg.symm)) hb); have n1_ := Aside0.mk (blk_below (g := gb247) (o := .cells #[.int .i64 a1_0, .int .i64 a1_1] 28 (0, 0)) (by (with_reducible repeat (first | refine blk_drewN ?_ _ | refine blk_drew ?_ | refine blk_alloc ?_ _)); exact BK247.out) hb); have n2_ := Aside0.mk (blk_below (g := gb275) (o := .cells #[.int .i64 t273, .int .i64 t274] 28 (0, 0)) (by (with_reducible repeat (first | refine blk_drewN ?_ _ | refine blk_drew ?_ | refine blk_alloc ?_ _)); exact BK275.out) hb); have n3_ := Aside0.mk (blk_below (g := gb281) (o := .cells #[.int .i64 0, .int .i64 0] 28 (0, 0)) (by (with_reducible repeat (first | refine blk_drewN ?_ _ | refine blk_drew ?_ | refine blk_alloc ?_ _)); exact BK281.out) hb); have n4_ := Aside0.mk (below_step (by repeat (first | (with_reducible first | exact HB.out | apply below_alloc | apply pw_below_drewN | apply below_drew1 | refine below_set ?_ GE247.out | refine below_set ?_ GE275.out | refine below_set ?_ GE281.out) | exact HB.out)) hb); have n5_ := Aside0.mk (hbox); have n6_ := Aside0.mk ((by rw [hg]; exact (below_size (by repeat (first | (with_reducible first | exact HB.out | apply below_alloc | apply pw_below_drewN | apply below_drew1 | refine below_set ?_ GE247.out | refine below_set ?_ GE275.out | refine below_set ?_ GE281.out) | exact HB.out))) : w.heap.size ≤ gb282)); have n7_ := Aside0.mk ((by rw [hg]; exact (below_size (by repeat (first | (with_reducible first | exact HB.out | apply below_alloc | apply pw_below_drewN | apply below_drew1 | refine below_set ?_ GE247.out | refine below_set ?_ GE275.out | refine below_set ?_ GE281.out) | exact HB.out))) : w.heap.size ≤ gb282)); have n8_ := Aside0.mk ((by rw [hg]; exact Nat.ne_of_lt (blk_lt (g := gb247) (o := .cells #[.int .i64 a1_0, .int .i64 a1_1] 28 (0, 0)) (by (with_reducible repeat (first | refine blk_drewN ?_ _ | refine blk_drew ?_ | refine blk_alloc ?_ _)); exact BK247.out)) : gb247 ≠ gb282)); have n9_ := Aside0.mk ((by rw [hg]; exact Nat.ne_of_gt (blk_lt (g := gb247) (o := .cells #[.int .i64 a1_0, .int .i64 a1_1] 28 (0, 0)) (by (with_reducible repeat (first | refine blk_drewN ?_ _ | refine blk_drew ?_ | refine blk_alloc ?_ _)); exact BK247.out)) : gb282 ≠ gb247)); have n10_ := Aside0.mk ((by rw [hg]; exact Nat.ne_of_lt (blk_lt (g := gb275) (o := .cells #[.int .i64 t273, .int .i64 t274] 28 (0, 0)) (by (with_reducible repeat (first | refine blk_drewN ?_ _ | refine blk_drew ?_ | refine blk_alloc ?_ _)); exact BK275.out)) : gb275 ≠ gb282)); have n11_ := Aside0.mk ((by rw [hg]; exact Nat.ne_of_gt (blk_lt (g := gb275) (o := .cells #[.int .i64 t273, .int .i64 t274] 28 (0, 0)) (by (with_reducible repeat (first | refine blk_drewN ?_ _ | refine blk_drew ?_ | refine blk_alloc ?_ _)); exact BK275.out)) : gb282 ≠ gb275)); have n12_ := Aside0.mk ((by rw [hg]; exact Nat.ne_of_lt (blk_lt (g := gb281) (o := .cells #[.int .i64 0, .int .i64 0] 28 (0, 0)) (by (with_reducible repeat (first | refine blk_drewN ?_ _ | refine blk_drew ?_ | refine blk_alloc ?_ _)); exact BK281.out)) : gb281 ≠ gb282)); have n13_ := Aside0.mk ((by rw [hg]; exact Nat.ne_of_gt (blk_lt (g := gb281) (o := .cells #[.int .i64 0, .int .i64 0] 28 (0, 0)) (by (with_reducible repeat (first | refine blk_drewN ?_ _ | refine blk_drew ?_ | refine blk_alloc ?_ _)); exact BK281.out)) : gb282 ≠ gb281)); clear HO_8; clear BK247; clear BK275; clear BK281; clear HB; have HO_8 := n0_; have BK247 := n1_; have BK275 := n2_; have BK281 := n3_; have HB := n4_; have BK282 := n5_; have GW282 := n6_; have GE282 := n7_; have NB247_282 := n8_; have NB282_247 := n9_; have NB275_282 := n10_; have NB282_275 := n11_; have NB281_282 := n12_; have NB282_281 := n13_; clear n0_ n1_ n2_ n3_ n4_ n5_ n6_ n7_ n8_ n9_ n10_ n11_ n12_ n13_; clear hb hbox hg; have hnb165 := NB281_247.out; have hnc165 := NB247_281.out; have hnb166 := NB281_275.out; have hnc166 := NB275_281.out; have hnb167 := NB281_282.out; have hnc167 := NB282_281.out; have hcz168_0 : w164.cell? ⟨gb281, 0, none⟩ = some (.int .i64 0) := (blk_cell BK281.out 0).trans rfl; have hcz168_1 : w164.cell? ⟨gb281, 1, none⟩ = some (.int .i64 0) := (blk_cell BK281.out 1).trans rfl; have hfz168_0 := blk_frozen BK281.out 0; have hfz168_1 := blk_frozen BK281.out 1; have hnb169 := NB282_247.out; have hnc169 := NB247_282.out; have hnb170 := NB282_275.out; have hnc170 := NB275_282.out; have hcz171_0 : w164.cell? ⟨gb282, 0, none⟩ = some (.int .i64 0) := (blk_cell BK282.out 0).trans rfl; have hcz171_1 : w164.cell? ⟨gb282, 1, none⟩ = some (.int .i64 0) := (blk_cell BK282.out 1).trans rfl; have hfz171_0 := blk_frozen BK282.out 0; have hfz171_1 := blk_frozen BK282.out 1; have hcz172_0 : w164.cell? ⟨gb275, 0, none⟩ = some (.int .i64 t273) := (blk_cell BK275.out 0).trans rfl; have hcz172_1 : w164.cell? ⟨gb275, 1, none⟩ = some (.int .i64 t274) := (blk_cell BK275.out 1).trans rfl; have hfz172_0 := blk_frozen BK275.out 0; have hfz172_1 := blk_frozen BK275.out 1))
                                    go_ret
                                    exact ⟨by first | rfl | (simp [errW_none, errW_some] <;> rfl) | (simp only [← hji88]; first | rfl | (simp [errW_none, errW_some] <;> rfl)) | (simp [*, errW_none, errW_some] <;> rfl), by repeat (first | (with_reducible first | exact HB.out | apply below_alloc | apply pw_below_drewN | apply below_drew1 | refine below_set ?_ GE247.out | refine below_set ?_ GE275.out | refine below_set ?_ GE281.out | refine below_set ?_ GE282.out) | exact HB.out)⟩
                    · rw [if_neg c31] at H
                      exact absurd H (by simp)
          · replace c23 := Bool.eq_false_iff.mpr c23
            subst c23
            have H1 : (some false) = some r := by rw [if_neg (show ¬ (false = true) by decide)] at H; exact H
            clear H
            have H := H1
            clear H1
            obtain rfl := Option.some.inj H
            go_wp2_with (first | ((with_reducible refine gate_callee (f := 13) rfl ?_); refine goesL_ (some 35) rfl rfl Try.func13 (by kernel_rfl) rfl #[] rfl (by (try simp only [List.map_toArray, List.map_cons, List.map_nil]); first | done | rfl | (simp only [List.length_drop, List.length_take]; rfl)) ?_; (with_reducible refine (laws_rangeAwake.calls kj5  false _ A22.out).mono ?_); rintro e w173 ⟨rfl, hb⟩; refine ⟨_, rfl, ?_⟩; have n0_ := Aside0.mk (blk_below (g := gb247) (o := .cells #[.int .i64 a1_0, .int .i64 a1_1] 28 (0, 0)) (by (with_reducible repeat (first | refine blk_drewN ?_ _ | refine blk_drew ?_ | refine blk_alloc ?_ _)); exact BK247.out) hb); have n1_ := Aside0.mk (below_step (by repeat (first | (with_reducible first | exact HB.out | apply below_alloc | apply pw_below_drewN | apply below_drew1 | refine below_set ?_ GE247.out) | exact HB.out)) hb); clear BK247; clear HB; have BK247 := n0_; have HB := n1_; clear n0_ n1_; (try clear hb); (try clear hb2); (try clear hk); (try clear hi)))
            go_ret
            exact ⟨by first | rfl | (simp [errW_none, errW_some] <;> rfl) | (simp [*, errW_none, errW_some] <;> rfl), by repeat (first | (with_reducible first | exact HB.out | apply below_alloc | apply pw_below_drewN | apply below_drew1 | refine below_set ?_ GE247.out) | exact HB.out)⟩

end Go.Proofs.Ytfegihmnpcjdgaa.PFnRangesFill

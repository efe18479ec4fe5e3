-- Written by a program of this session's (over the kit's print), with contracts proved by hand among what it calls.
import Derived.Test.YtfegihmnpcjdgaaPFnRangesCutx0
import Derived.Test.YtfegihmnpcjdgaaPFnRangesCutx3
import Derived.Test.YtfegihmnpcjdgaaPFnRangesCutx4
namespace Go.Proofs.Ytfegihmnpcjdgaa.PFnRangesCut
open Go.RowKit Go.Proofs.YtfegihmnpcjdgaaW.PrintWords Go.Proofs.YtfegihmnpcjdgaaW.PrintLast Go.Proofs.YtfegihmnpcjdgaaW.PrintMore
attribute [local go_sem] max2_int min2_int max_two min_two max_three min_three max_four min_four   -- for this text's walks alone
set_option linter.unusedVariables false
set_option linter.unusedSimpArgs false

/-! ### laws_FnRangesCut: function 7 -/
def laws_FnRangesCut.j0 : Nat → List (S28) → Bool → Int → Int → Option (Bool)
  | 0, _, _, _, _ => none
  | k + 1, x0, x16, x188000, x188001 => if x16 = true then (some true) else ((laws_rangeAwake.f k).bind fun t190 => (if t190 = true then ((impl_RangesCut.f k x0 x188000 x188001).bind fun t191 => ((spec_RangesCut.f k x0 x188000 x188001).bind fun t194 => ((spec_RangesSame.f k t191 t194).bind fun t197 => (if t197 = true then ((laws_rangesShow.f k t191).bind fun t198 => (some t198)) else (some false))))) else (some false)))
def laws_FnRangesCut.f (k : Nat) (l0 : List (S28)) (a1_0 : Int) (a1_1 : Int) : Option (Bool) := if (l0.length : Int) > 2147483647 then (some true) else ((spec_RangesIn.f k l0).bind fun t188 => (if t188 = true then ((spec_RangeAsk.f a1_0 a1_1).bind fun t189 => (laws_FnRangesCut.j0 k l0 (!t189) a1_0 a1_1)) else (laws_FnRangesCut.j0 k l0 true a1_0 a1_1)))
theorem laws_FnRangesCut.mono_l : ∀ k, (∀ y0 y1 y2 y3, LeO (laws_FnRangesCut.j0 k y0 y1 y2 y3) (laws_FnRangesCut.j0 (k + 1) y0 y1 y2 y3))
  | 0 => fun _ _ _ _ r h => by simp [laws_FnRangesCut.j0] at h
  | k + 1 => by
    have ih0 := laws_FnRangesCut.mono_l k
    · intro y0 y1 y2 y3
      unfold laws_FnRangesCut.j0
      repeat' first
      | (with_reducible exact ih0 _ _ _ _)
      | (with_reducible exact impl_RangesCut.mono _ _ _ _)
      | (with_reducible exact laws_rangeAwake.mono _)
      | (with_reducible exact laws_rangesShow.mono _ _)
      | (with_reducible exact spec_RangesCut.mono _ _ _ _)
      | (with_reducible exact spec_RangesIn.mono _ _)
      | (with_reducible exact spec_RangesSame.mono _ _ _)
      | (with_reducible exact LeO.refl _)
      | (with_reducible exact LeO.none _)
      | (with_reducible refine LeO.ite ?_ ?_)
      | (with_reducible refine LeO.bind ?_ (fun _ => ?_))
      | exact ih0 _ _ _ _
      | exact impl_RangesCut.mono _ _ _ _
      | exact laws_rangeAwake.mono _
      | exact laws_rangesShow.mono _ _
      | exact spec_RangesCut.mono _ _ _ _
      | exact spec_RangesIn.mono _ _
      | exact spec_RangesSame.mono _ _ _
      | exact LeO.none _
      | refine LeO.ite ?_ ?_
      | refine LeO.bind ?_ (fun _ => ?_)
theorem laws_FnRangesCut.mono : ∀ a0 a1 a2 k, LeO (laws_FnRangesCut.f k a0 a1 a2) (laws_FnRangesCut.f (k + 1) a0 a1 a2) := by
  intro a0 a1 a2 k
  have ih0 := laws_FnRangesCut.mono_l k
  unfold laws_FnRangesCut.f
  repeat' first
      | (with_reducible exact ih0 _ _ _ _)
      | (with_reducible exact impl_RangesCut.mono _ _ _ _)
      | (with_reducible exact laws_rangeAwake.mono _)
      | (with_reducible exact laws_rangesShow.mono _ _)
      | (with_reducible exact spec_RangesCut.mono _ _ _ _)
      | (with_reducible exact spec_RangesIn.mono _ _)
      | (with_reducible exact spec_RangesSame.mono _ _ _)
      | (with_reducible exact LeO.refl _)
      | (with_reducible exact LeO.none _)
      | (with_reducible refine LeO.ite ?_ ?_)
      | (with_reducible refine LeO.bind ?_ (fun _ => ?_))
      | exact ih0 _ _ _ _
      | exact impl_RangesCut.mono _ _ _ _
      | exact laws_rangeAwake.mono _
      | exact laws_rangesShow.mono _ _
      | exact spec_RangesCut.mono _ _ _ _
      | exact spec_RangesIn.mono _ _
      | exact spec_RangesSame.mono _ _ _
      | exact LeO.none _
      | refine LeO.ite ?_ ?_
      | refine LeO.bind ?_ (fun _ => ?_)
set_option maxHeartbeats 8000000 in
set_option maxRecDepth 100000 in
theorem laws_FnRangesCut.calls (k : Nat) (A0 : Option Addr) (c0 : Nat) (l0 : List (S28)) (a1_0 : Int) (a1_1 : Int) (r : Bool) (w : World) (hr0 : Kd.C k28 w A0 l0.length l0) (hc0 : l0.length ≤ c0) (h : laws_FnRangesCut.f k l0 a1_0 a1_1 = some r) :
    Calls Try.prog 7 #[.slice A0 l0.length c0, .agg #[.int .i64 a1_0, .int .i64 a1_1]] w fun e w' => e = .returned (.bool r) ∧ Below w.heap.size w w' := by
  have hu28 := Try.underlying28
  have HR0 := Aside0.mk hr0
  have HC0 := Aside0.mk hc0
  clear hr0 hc0
  have HB := Aside0.mk (Below.refl w.heap.size w)
  have H : (if (l0.length : Int) > 2147483647 then (some true) else ((spec_RangesIn.f k l0).bind fun t188 => (if t188 = true then ((spec_RangeAsk.f a1_0 a1_1).bind fun t189 => (laws_FnRangesCut.j0 k l0 (!t189) a1_0 a1_1)) else (laws_FnRangesCut.j0 k l0 true a1_0 a1_1)))) = some r := h
  clear h
  by_cases c3 : (l0.length : Int) > 2147483647
  · rw [if_pos c3] at H
    have c3b0 : decide (2147483647 < (l0.length : Int)) = true := decide_eq_true c3
    have c3b1 : decide (2147483647 < l0.length) = true := decide_eq_true (by omega)
    clear c3
    obtain rfl := Option.some.inj H
    go_enter Try.func7, Try.ntmps7
    go_wp2_with (first | ((with_reducible refine gate_dst (N := 3) rfl ?_); refine box_event ?hg (N := 3) ?hd (cs := #[.int .i64 a1_0, .int .i64 a1_1]) (t := 28) ?hr ?_; (case hd => rfl); (case hg => rfl); (case hr => first | (go_simp; done) | (go_simp; rfl)); intro gb187 hg w4 hbox hb; have n0_ := Aside0.mk (below_step (by repeat (first | (with_reducible first | exact HB.out | apply below_alloc | apply pw_below_drewN | apply below_drew1) | exact HB.out)) hb); have n1_ := Aside0.mk (hbox); have n2_ := Aside0.mk ((by rw [hg]; exact (below_size (by repeat (first | (with_reducible first | exact HB.out | apply below_alloc | apply pw_below_drewN | apply below_drew1) | exact HB.out))) : w.heap.size ≤ gb187)); have n3_ := Aside0.mk ((by rw [hg]; exact (below_size (by repeat (first | (with_reducible first | exact HB.out | apply below_alloc | apply pw_below_drewN | apply below_drew1) | exact HB.out))) : w.heap.size ≤ gb187)); clear HB; have HB := n0_; have BK187 := n1_; have GW187 := n2_; have GE187 := n3_; clear n0_ n1_ n2_ n3_; clear hb hbox hg))
    go_ret
    exact ⟨by first | rfl | (simp [errW_none, errW_some] <;> rfl) | (simp [*, errW_none, errW_some] <;> rfl), by repeat (first | (with_reducible first | exact HB.out | apply below_alloc | apply pw_below_drewN | apply below_drew1 | refine below_set ?_ GE187.out) | exact HB.out)⟩
  · rw [if_neg c3] at H
    have c3b0 : decide (2147483647 < (l0.length : Int)) = false := decide_eq_false c3
    have c3b1 : decide (2147483647 < l0.length) = false := decide_eq_false (by omega)
    clear c3
    have HC5 := Aside0.mk H
    clear H
    go_enter Try.func7, Try.ntmps7
    go_upto_region 3 with (first | ((with_reducible refine gate_dst (N := 3) rfl ?_); refine box_event ?hg (N := 3) ?hd (cs := #[.int .i64 a1_0, .int .i64 a1_1]) (t := 28) ?hr ?_; (case hd => rfl); (case hg => rfl); (case hr => first | (go_simp; done) | (go_simp; rfl)); intro gb187 hg w6 hbox hb; have n0_ := Aside0.mk (below_step (by repeat (first | (with_reducible first | exact HB.out | apply below_alloc | apply pw_below_drewN | apply below_drew1) | exact HB.out)) hb); have n1_ := Aside0.mk (hbox); have n2_ := Aside0.mk ((by rw [hg]; exact (below_size (by repeat (first | (with_reducible first | exact HB.out | apply below_alloc | apply pw_below_drewN | apply below_drew1) | exact HB.out))) : w.heap.size ≤ gb187)); have n3_ := Aside0.mk ((by rw [hg]; exact (below_size (by repeat (first | (with_reducible first | exact HB.out | apply below_alloc | apply pw_below_drewN | apply below_drew1) | exact HB.out))) : w.heap.size ≤ gb187)); clear HB; have HB := n0_; have BK187 := n1_; have GW187 := n2_; have GE187 := n3_; clear n0_ n1_ n2_ n3_; clear hb hbox hg))
    (try simp only [Act.put, List.setIfInBounds_toArray, List.set_cons_zero, List.set_cons_succ])
    go_cut [16] (fun v16 wc => ∃ (kq : Nat) (x16_4 : Bool), v16 = .bool x16_4 ∧ Aside0 (laws_FnRangesCut.j0 kq l0 x16_4 a1_0 a1_1 = some r) ∧ Aside0 (kq ≤ k) ∧ Aside0 (wc.heap[gb187]? = some (.cells #[.int .i64 a1_0, .int .i64 a1_1] 28 (0, 0))) ∧ Aside0 (Below w.heap.size w wc))
    case first =>
      have H := HC5.out
      clear HC5
      replace H := Option.bind_eq_some_iff.mp H
      obtain ⟨t188, A70, H⟩ := H
      replace H : (if t188 = true then ((spec_RangeAsk.f a1_0 a1_1).bind fun t189 => (laws_FnRangesCut.j0 k l0 (!t189) a1_0 a1_1)) else (laws_FnRangesCut.j0 k l0 true a1_0 a1_1)) = some r := H
      have A7 := Aside0.mk A70
      clear A70
      by_cases c8 : t188 = true
      · subst c8
        have H1 : ((spec_RangeAsk.f a1_0 a1_1).bind fun t189 => (laws_FnRangesCut.j0 k l0 (!t189) a1_0 a1_1)) = some r := by rw [if_pos rfl] at H; exact H
        clear H
        have H := H1
        clear H1
        replace H := Option.bind_eq_some_iff.mp H
        obtain ⟨t189, A90, H⟩ := H
        replace H : (laws_FnRangesCut.j0 k l0 (!t189) a1_0 a1_1) = some r := H
        have A9 := Aside0.mk A90
        clear A90
        have H' := Aside0.mk H
        clear H
        go_wp2_with (first | ((with_reducible refine gate_callee (f := 12) rfl ?_); refine goesL_ (some 10) rfl rfl Try.func12 (by kernel_rfl) rfl #[.slice A0 l0.length c0] rfl (by (try simp only [List.map_toArray, List.map_cons, List.map_nil]); first | done | rfl | (simp only [List.length_drop, List.length_take]; rfl)) ?_; (with_reducible refine (spec_RangesIn.calls k _ _ l0 true _ ?side1 ?side2 A7.out).mono ?_); (case side1 => repeat (first | exact (Kd.C_below HR0.out HB.out) | (with_reducible refine Kd.C_alloc ?_ _) | (with_reducible refine Kd.C_drewN ?_ _) | (with_reducible refine Kd.C_drew ?_))); (case side2 => exact HC0.out); rintro e w10 ⟨rfl, hb⟩; refine ⟨_, rfl, ?_⟩; have n0_ := Aside0.mk (blk_below (g := gb187) (o := .cells #[.int .i64 a1_0, .int .i64 a1_1] 28 (0, 0)) (by (with_reducible repeat (first | refine blk_drewN ?_ _ | refine blk_drew ?_ | refine blk_alloc ?_ _)); exact BK187.out) hb); have n1_ := Aside0.mk (below_step (by repeat (first | (with_reducible first | exact HB.out | apply below_alloc | apply pw_below_drewN | apply below_drew1 | refine below_set ?_ GE187.out) | exact HB.out)) hb); clear BK187; clear HB; have BK187 := n0_; have HB := n1_; clear n0_ n1_; (try clear hb); (try clear hb2); (try clear hk); (try clear hi); have hcz11_0 : w10.cell? ⟨gb187, 0, none⟩ = some (.int .i64 a1_0) := (blk_cell BK187.out 0).trans rfl; have hcz11_1 : w10.cell? ⟨gb187, 1, none⟩ = some (.int .i64 a1_1) := (blk_cell BK187.out 1).trans rfl; have hfz11_0 := blk_frozen BK187.out 0; have hfz11_1 := blk_frozen BK187.out 1) | (go_at_call 16; (with_reducible refine (spec_RangeAsk.calls a1_0 a1_1 t189 _ A9.out).mono ?_); rintro e w12 ⟨rfl, hb⟩; have n0_ := Aside0.mk (blk_below (g := gb187) (o := .cells #[.int .i64 a1_0, .int .i64 a1_1] 28 (0, 0)) (by (with_reducible repeat (first | refine blk_drewN ?_ _ | refine blk_drew ?_ | refine blk_alloc ?_ _)); exact BK187.out) hb); have n1_ := Aside0.mk (below_step (by repeat (first | (with_reducible first | exact HB.out | apply below_alloc | apply pw_below_drewN | apply below_drew1 | refine below_set ?_ GE187.out) | exact HB.out)) hb); clear BK187; clear HB; have BK187 := n0_; have HB := n1_; clear n0_ n1_; (try clear hb); (try clear hb2); (try clear hk); (try clear hi)))
        go_meet
        case rel => exact ⟨_, (!t189), (by first | rfl | (simp; done) | (simp [*]; done) | (simp [xt_ne_nil]; done)), H', ⟨by first | omega | exact Nat.le_refl _⟩, ⟨by (with_reducible repeat (first | refine blk_drewN ?_ _ | refine blk_drew ?_ | refine blk_alloc ?_ _)); exact BK187.out⟩, ⟨by repeat (first | (with_reducible first | exact HB.out | apply below_alloc | apply pw_below_drewN | apply below_drew1 | refine below_set ?_ GE187.out) | exact HB.out)⟩⟩
      · replace c8 := Bool.eq_false_iff.mpr c8
        subst c8
        have H1 : (laws_FnRangesCut.j0 k l0 true a1_0 a1_1) = some r := by rw [if_neg (show ¬ (false = true) by decide)] at H; exact H
        clear H
        have H := H1
        clear H1
        have H' := Aside0.mk H
        clear H
        go_wp2_with (first | ((with_reducible refine gate_callee (f := 12) rfl ?_); refine goesL_ (some 10) rfl rfl Try.func12 (by kernel_rfl) rfl #[.slice A0 l0.length c0] rfl (by (try simp only [List.map_toArray, List.map_cons, List.map_nil]); first | done | rfl | (simp only [List.length_drop, List.length_take]; rfl)) ?_; (with_reducible refine (spec_RangesIn.calls k _ _ l0 false _ ?side1 ?side2 A7.out).mono ?_); (case side1 => repeat (first | exact (Kd.C_below HR0.out HB.out) | (with_reducible refine Kd.C_alloc ?_ _) | (with_reducible refine Kd.C_drewN ?_ _) | (with_reducible refine Kd.C_drew ?_))); (case side2 => exact HC0.out); rintro e w13 ⟨rfl, hb⟩; refine ⟨_, rfl, ?_⟩; have n0_ := Aside0.mk (blk_below (g := gb187) (o := .cells #[.int .i64 a1_0, .int .i64 a1_1] 28 (0, 0)) (by (with_reducible repeat (first | refine blk_drewN ?_ _ | refine blk_drew ?_ | refine blk_alloc ?_ _)); exact BK187.out) hb); have n1_ := Aside0.mk (below_step (by repeat (first | (with_reducible first | exact HB.out | apply below_alloc | apply pw_below_drewN | apply below_drew1 | refine below_set ?_ GE187.out) | exact HB.out)) hb); clear BK187; clear HB; have BK187 := n0_; have HB := n1_; clear n0_ n1_; (try clear hb); (try clear hb2); (try clear hk); (try clear hi)))
        go_meet
        case rel => exact ⟨_, (true), (by first | rfl | (simp; done) | (simp [*]; done) | (simp [xt_ne_nil]; done)), H', ⟨by first | omega | exact Nat.le_refl _⟩, ⟨by (with_reducible repeat (first | refine blk_drewN ?_ _ | refine blk_drew ?_ | refine blk_alloc ?_ _)); exact BK187.out⟩, ⟨by repeat (first | (with_reducible first | exact HB.out | apply below_alloc | apply pw_below_drewN | apply below_drew1 | refine below_set ?_ GE187.out) | exact HB.out)⟩⟩
    case rest =>
      clear HC5
      try clear c1
      try clear p2
      try clear c3
      try clear c3b0
      try clear c3b1
      try clear c7
      try clear c8
      try clear c12
      try clear hcz11_0
      try clear hcz11_1
      try clear hfz11_0
      try clear hfz11_1
      obtain ⟨kq, x16_4, rfl, HA, HJ4, BK187, HB⟩ := hcut
      cases kq with
      | zero => exact absurd HA.out (by simp [laws_FnRangesCut.j0])
      | succ kj4 =>
        have H := HA.out
        clear HA
        simp only [laws_FnRangesCut.j0] at H
        by_cases c14 : x16_4 = true
        · subst c14
          have H1 : (some true) = some r := by rw [if_pos rfl] at H; exact H
          clear H
          have H := H1
          clear H1
          obtain rfl := Option.some.inj H
          go_wp2
          go_ret
          exact ⟨by first | rfl | (simp [errW_none, errW_some] <;> rfl) | (simp [*, errW_none, errW_some] <;> rfl), by repeat (first | (with_reducible first | exact HB.out | apply below_alloc | apply pw_below_drewN | apply below_drew1 | refine below_set ?_ GE187.out) | exact HB.out)⟩
        · replace c14 := Bool.eq_false_iff.mpr c14
          subst c14
          have H1 : ((laws_rangeAwake.f kj4).bind fun t190 => (if t190 = true then ((impl_RangesCut.f kj4 l0 a1_0 a1_1).bind fun t191 => ((spec_RangesCut.f kj4 l0 a1_0 a1_1).bind fun t194 => ((spec_RangesSame.f kj4 t191 t194).bind fun t197 => (if t197 = true then ((laws_rangesShow.f kj4 t191).bind fun t198 => (some t198)) else (some false))))) else (some false))) = some r := by rw [if_neg (show ¬ (false = true) by decide)] at H; exact H
          clear H
          have H := H1
          clear H1
          replace H := Option.bind_eq_some_iff.mp H
          obtain ⟨t190, A150, H⟩ := H
          replace H : (if t190 = true then ((impl_RangesCut.f kj4 l0 a1_0 a1_1).bind fun t191 => ((spec_RangesCut.f kj4 l0 a1_0 a1_1).bind fun t194 => ((spec_RangesSame.f kj4 t191 t194).bind fun t197 => (if t197 = true then ((laws_rangesShow.f kj4 t191).bind fun t198 => (some t198)) else (some false))))) else (some false)) = some r := H
          have A15 := Aside0.mk A150
          clear A150
          by_cases c16 : t190 = true
          · subst c16
            have H1 : ((impl_RangesCut.f kj4 l0 a1_0 a1_1).bind fun t191 => ((spec_RangesCut.f kj4 l0 a1_0 a1_1).bind fun t194 => ((spec_RangesSame.f kj4 t191 t194).bind fun t197 => (if t197 = true then ((laws_rangesShow.f kj4 t191).bind fun t198 => (some t198)) else (some false))))) = some r := by rw [if_pos rfl] at H; exact H
            clear H
            have H := H1
            clear H1
            replace H := Option.bind_eq_some_iff.mp H
            obtain ⟨t191, A170, H⟩ := H
            replace H : ((spec_RangesCut.f kj4 l0 a1_0 a1_1).bind fun t194 => ((spec_RangesSame.f kj4 t191 t194).bind fun t197 => (if t197 = true then ((laws_rangesShow.f kj4 t191).bind fun t198 => (some t198)) else (some false)))) = some r := H
            have A17 := Aside0.mk A170
            clear A170
            replace H := Option.bind_eq_some_iff.mp H
            obtain ⟨t194, A180, H⟩ := H
            replace H : ((spec_RangesSame.f kj4 t191 t194).bind fun t197 => (if t197 = true then ((laws_rangesShow.f kj4 t191).bind fun t198 => (some t198)) else (some false))) = some r := H
            have A18 := Aside0.mk A180
            clear A180
            replace H := Option.bind_eq_some_iff.mp H
            obtain ⟨t197, A190, H⟩ := H
            replace H : (if t197 = true then ((laws_rangesShow.f kj4 t191).bind fun t198 => (some t198)) else (some false)) = some r := H
            have A19 := Aside0.mk A190
            clear A190
            by_cases c20 : t197 = true
            · subst c20
              have H1 : ((laws_rangesShow.f kj4 t191).bind fun t198 => (some t198)) = some r := by rw [if_pos rfl] at H; exact H
              clear H
              have H := H1
              clear H1
              replace H := Option.bind_eq_some_iff.mp H
              obtain ⟨t198, A210, H⟩ := H
              replace H : (some t198) = some r := H
              have A21 := Aside0.mk A210
              clear A210
              obtain rfl := Option.some.inj H
              go_wp2_with (first | ((with_reducible refine gate_callee (f := 13) rfl ?_); refine goesL_ (some 17) rfl rfl Try.func13 (by kernel_rfl) rfl #[] rfl (by (try simp only [List.map_toArray, List.map_cons, List.map_nil]); first | done | rfl | (simp only [List.length_drop, List.length_take]; rfl)) ?_; (with_reducible refine (laws_rangeAwake.calls kj4  true _ A15.out).mono ?_); rintro e w22 ⟨rfl, hb⟩; refine ⟨_, rfl, ?_⟩; have n0_ := Aside0.mk (blk_below (g := gb187) (o := .cells #[.int .i64 a1_0, .int .i64 a1_1] 28 (0, 0)) (by (with_reducible repeat (first | refine blk_drewN ?_ _ | refine blk_drew ?_ | refine blk_alloc ?_ _)); exact BK187.out) hb); have n1_ := Aside0.mk (below_step (by repeat (first | (with_reducible first | exact HB.out | apply below_alloc | apply pw_below_drewN | apply below_drew1 | refine below_set ?_ GE187.out) | exact HB.out)) hb); clear BK187; clear HB; have BK187 := n0_; have HB := n1_; clear n0_ n1_; (try clear hb); (try clear hb2); (try clear hk); (try clear hi); have hcz23_0 : w22.cell? ⟨gb187, 0, none⟩ = some (.int .i64 a1_0) := (blk_cell BK187.out 0).trans rfl; have hcz23_1 : w22.cell? ⟨gb187, 1, none⟩ = some (.int .i64 a1_1) := (blk_cell BK187.out 1).trans rfl; have hfz23_0 := blk_frozen BK187.out 0; have hfz23_1 := blk_frozen BK187.out 1) | ((with_reducible refine gate_callee (f := 23) rfl ?_); refine goesL_ (some 21) rfl rfl Try.func23 (by kernel_rfl) rfl #[.slice A0 l0.length c0, .agg #[.int .i64 a1_0, .int .i64 a1_1]] rfl (by (try simp only [List.map_toArray, List.map_cons, List.map_nil]); first | done | rfl | (simp only [List.length_drop, List.length_take]; rfl)) ?_; (with_reducible refine (impl_RangesCut.calls kj4 _ _ l0 a1_0 a1_1 t191 _ ?side1 ?side2 A17.out).mono ?_); (case side1 => repeat (first | exact (Kd.C_below HR0.out HB.out) | (with_reducible refine Kd.C_alloc ?_ _) | (with_reducible refine Kd.C_drewN ?_ _) | (with_reducible refine Kd.C_drew ?_))); (case side2 => exact HC0.out); rintro e w24 ⟨v192, rfl, ho0, hb⟩; refine ⟨_, rfl, ?_⟩; have n0_ := Aside0.mk (Kd.R_lower (Kd.R_newB ho0 (g := gb187) (o := .cells #[.int .i64 a1_0, .int .i64 a1_1] 28 (0, 0)) (by (with_reducible repeat (first | refine blk_drewN ?_ _ | refine blk_drew ?_ | refine blk_alloc ?_ _)); exact BK187.out)) (below_size (by repeat (first | (with_reducible first | exact HB.out | apply below_alloc | apply pw_below_drewN | apply below_drew1 | refine below_set ?_ GE187.out) | exact HB.out)))); have n1_ := Aside0.mk (blk_below (g := gb187) (o := .cells #[.int .i64 a1_0, .int .i64 a1_1] 28 (0, 0)) (by (with_reducible repeat (first | refine blk_drewN ?_ _ | refine blk_drew ?_ | refine blk_alloc ?_ _)); exact BK187.out) hb); have n2_ := Aside0.mk (below_step (by repeat (first | (with_reducible first | exact HB.out | apply below_alloc | apply pw_below_drewN | apply below_drew1 | refine below_set ?_ GE187.out) | exact HB.out)) hb); clear BK187; clear HB; have HO193 := n0_; have BK187 := n1_; have HB := n2_; clear n0_ n1_ n2_; (try clear hb); (try clear hb2); (try clear hk); (try clear hi); (try clear ho0); have hcz25_0 : w24.cell? ⟨gb187, 0, none⟩ = some (.int .i64 a1_0) := (blk_cell BK187.out 0).trans rfl; have hcz25_1 : w24.cell? ⟨gb187, 1, none⟩ = some (.int .i64 a1_1) := (blk_cell BK187.out 1).trans rfl; have hfz25_0 := blk_frozen BK187.out 0; have hfz25_1 := blk_frozen BK187.out 1) | ((with_reducible refine gate_callee (f := 24) rfl ?_); refine goesL_ (some 25) rfl rfl Try.func24 (by kernel_rfl) rfl #[.slice A0 l0.length c0, .agg #[.int .i64 a1_0, .int .i64 a1_1]] rfl (by (try simp only [List.map_toArray, List.map_cons, List.map_nil]); first | done | rfl | (simp only [List.length_drop, List.length_take]; rfl)) ?_; (with_reducible refine (spec_RangesCut.calls kj4 _ _ l0 a1_0 a1_1 t194 _ ?side1 ?side2 A18.out).mono ?_); (case side1 => repeat (first | exact (Kd.C_below HR0.out HB.out) | (with_reducible refine Kd.C_alloc ?_ _) | (with_reducible refine Kd.C_drewN ?_ _) | (with_reducible refine Kd.C_drew ?_))); (case side2 => exact HC0.out); rintro e w26 ⟨v195, rfl, ho0, hb⟩; refine ⟨_, rfl, ?_⟩; have n0_ := Aside0.mk (Kd.R_elder' (by (with_reducible repeat (first | apply Kd.R_alloc | apply Kd.R_drewN | apply Kd.R_drew)); exact HO193.out) (Kd.R_base ho0) hb); have n1_ := Aside0.mk (Kd.R_lower (Kd.R_newB (Kd.R_new' ho0 (Kd.R_lt (by (with_reducible repeat (first | apply Kd.R_alloc | apply Kd.R_drewN | apply Kd.R_drew)); exact HO193.out))) (g := gb187) (o := .cells #[.int .i64 a1_0, .int .i64 a1_1] 28 (0, 0)) (by (with_reducible repeat (first | refine blk_drewN ?_ _ | refine blk_drew ?_ | refine blk_alloc ?_ _)); exact BK187.out)) (below_size (by repeat (first | (with_reducible first | exact HB.out | apply below_alloc | apply pw_below_drewN | apply below_drew1 | refine below_set ?_ GE187.out) | exact HB.out)))); have n2_ := Aside0.mk (blk_below (g := gb187) (o := .cells #[.int .i64 a1_0, .int .i64 a1_1] 28 (0, 0)) (by (with_reducible repeat (first | refine blk_drewN ?_ _ | refine blk_drew ?_ | refine blk_alloc ?_ _)); exact BK187.out) hb); have n3_ := Aside0.mk (below_step (by repeat (first | (with_reducible first | exact HB.out | apply below_alloc | apply pw_below_drewN | apply below_drew1 | refine below_set ?_ GE187.out) | exact HB.out)) hb); clear HO193; clear BK187; clear HB; have HO193 := n0_; have HO196 := n1_; have BK187 := n2_; have HB := n3_; clear n0_ n1_ n2_ n3_; (try clear hb); (try clear hb2); (try clear hk); (try clear hi); (try clear ho0); obtain ⟨Ao27, co27, eo27⟩ := Kd.R_slice HO193.out; subst eo27; obtain ⟨Ao28, co28, eo28⟩ := Kd.R_slice HO196.out; subst eo28) | ((with_reducible refine gate_callee (f := 15) rfl ?_); refine goesL_ (some 26) rfl rfl Try.func15 (by kernel_rfl) rfl #[.slice Ao27 t191.length co27, .slice Ao28 t194.length co28] rfl (by (try simp only [List.map_toArray, List.map_cons, List.map_nil]); first | done | rfl | (simp only [List.length_drop, List.length_take]; rfl)) ?_; (with_reducible refine (spec_RangesSame.calls kj4 _ _ t191 _ _ t194 true _ ?side1 ?side2 ?side3 ?side4 A19.out).mono ?_); (case side1 => repeat (first | exact (Kd.R_reads' HO193.out).2.2 | (with_reducible refine Kd.C_alloc ?_ _) | (with_reducible refine Kd.C_drewN ?_ _) | (with_reducible refine Kd.C_drew ?_))); (case side2 => exact (Kd.R_reads' HO193.out).2.1); (case side3 => repeat (first | exact (Kd.R_reads' HO196.out).2.2 | (with_reducible refine Kd.C_alloc ?_ _) | (with_reducible refine Kd.C_drewN ?_ _) | (with_reducible refine Kd.C_drew ?_))); (case side4 => exact (Kd.R_reads' HO196.out).2.1); rintro e w' ⟨rfl, ⟨nd, rfl⟩⟩; refine ⟨_, rfl, ?_⟩) | (go_at_call 21; (with_reducible refine (laws_rangesShow.calls kj4 _ _ t191 t198 _ ?side1 ?side2 A21.out).mono ?_); (case side1 => repeat (first | exact (Kd.R_reads' HO193.out).2.2 | (with_reducible refine Kd.C_alloc ?_ _) | (with_reducible refine Kd.C_drewN ?_ _) | (with_reducible refine Kd.C_drew ?_))); (case side2 => exact (Kd.R_reads' HO193.out).2.1); rintro e w29 ⟨rfl, hb⟩; have n0_ := Aside0.mk (Kd.R_below (by (with_reducible repeat (first | apply Kd.R_alloc | apply Kd.R_drewN | apply Kd.R_drew)); exact HO193.out) hb); have n1_ := Aside0.mk (Kd.R_below (by (with_reducible repeat (first | apply Kd.R_alloc | apply Kd.R_drewN | apply Kd.R_drew)); exact HO196.out) hb); have n2_ := Aside0.mk (blk_below (g := gb187) (o := .cells #[.int .i64 a1_0, .int .i64 a1_1] 28 (0, 0)) (by (with_reducible repeat (first | refine blk_drewN ?_ _ | refine blk_drew ?_ | refine blk_alloc ?_ _)); exact BK187.out) hb); have n3_ := Aside0.mk (below_step (by repeat (first | (with_reducible first | exact HB.out | apply below_alloc | apply pw_below_drewN | apply below_drew1 | refine below_set ?_ GE187.out) | exact HB.out)) hb); clear HO193; clear HO196; clear BK187; clear HB; have HO193 := n0_; have HO196 := n1_; have BK187 := n2_; have HB := n3_; clear n0_ n1_ n2_ n3_; (try clear hb); (try clear hb2); (try clear hk); (try clear hi)))
              go_ret
              exact ⟨by first | rfl | (simp [errW_none, errW_some] <;> rfl) | (simp [*, errW_none, errW_some] <;> rfl), by repeat (first | (with_reducible first | exact HB.out | apply below_alloc | apply pw_below_drewN | apply below_drew1 | refine below_set ?_ GE187.out) | exact HB.out)⟩
            · replace c20 := Bool.eq_false_iff.mpr c20
              subst c20
              have H1 : (some false) = some r := by rw [if_neg (show ¬ (false = true) by decide)] at H; exact H
              clear H
              have H := H1
              clear H1
              obtain rfl := Option.some.inj H
              go_wp2_with (first | ((with_reducible refine gate_callee (f := 13) rfl ?_); refine goesL_ (some 17) rfl rfl Try.func13 (by kernel_rfl) rfl #[] rfl (by (try simp only [List.map_toArray, List.map_cons, List.map_nil]); first | done | rfl | (simp only [List.length_drop, List.length_take]; rfl)) ?_; (with_reducible refine (laws_rangeAwake.calls kj4  true _ A15.out).mono ?_); rintro e w30 ⟨rfl, hb⟩; refine ⟨_, rfl, ?_⟩; have n0_ := Aside0.mk (blk_below (g := gb187) (o := .cells #[.int .i64 a1_0, .int .i64 a1_1] 28 (0, 0)) (by (with_reducible repeat (first | refine blk_drewN ?_ _ | refine blk_drew ?_ | refine blk_alloc ?_ _)); exact BK187.out) hb); have n1_ := Aside0.mk (below_step (by repeat (first | (with_reducible first | exact HB.out | apply below_alloc | apply pw_below_drewN | apply below_drew1 | refine below_set ?_ GE187.out) | exact HB.out)) hb); clear BK187; clear HB; have BK187 := n0_; have HB := n1_; clear n0_ n1_; (try clear hb); (try clear hb2); (try clear hk); (try clear hi); have hcz31_0 : w30.cell? ⟨gb187, 0, none⟩ = some (.int .i64 a1_0) := (blk_cell BK187.out 0).trans rfl; have hcz31_1 : w30.cell? ⟨gb187, 1, none⟩ = some (.int .i64 a1_1) := (blk_cell BK187.out 1).trans rfl; have hfz31_0 := blk_frozen BK187.out 0; have hfz31_1 := blk_frozen BK187.out 1) | ((with_reducible refine gate_callee (f := 23) rfl ?_); refine goesL_ (some 21) rfl rfl Try.func23 (by kernel_rfl) rfl #[.slice A0 l0.length c0, .agg #[.int .i64 a1_0, .int .i64 a1_1]] rfl (by (try simp only [List.map_toArray, List.map_cons, List.map_nil]); first | done | rfl | (simp only [List.length_drop, List.length_take]; rfl)) ?_; (with_reducible refine (impl_RangesCut.calls kj4 _ _ l0 a1_0 a1_1 t191 _ ?side1 ?side2 A17.out).mono ?_); (case side1 => repeat (first | exact (Kd.C_below HR0.out HB.out) | (with_reducible refine Kd.C_alloc ?_ _) | (with_reducible refine Kd.C_drewN ?_ _) | (with_reducible refine Kd.C_drew ?_))); (case side2 => exact HC0.out); rintro e w32 ⟨v192, rfl, ho0, hb⟩; refine ⟨_, rfl, ?_⟩; have n0_ := Aside0.mk (Kd.R_lower (Kd.R_newB ho0 (g := gb187) (o := .cells #[.int .i64 a1_0, .int .i64 a1_1] 28 (0, 0)) (by (with_reducible repeat (first | refine blk_drewN ?_ _ | refine blk_drew ?_ | refine blk_alloc ?_ _)); exact BK187.out)) (below_size (by repeat (first | (with_reducible first | exact HB.out | apply below_alloc | apply pw_below_drewN | apply below_drew1 | refine below_set ?_ GE187.out) | exact HB.out)))); have n1_ := Aside0.mk (blk_below (g := gb187) (o := .cells #[.int .i64 a1_0, .int .i64 a1_1] 28 (0, 0)) (by (with_reducible repeat (first | refine blk_drewN ?_ _ | refine blk_drew ?_ | refine blk_alloc ?_ _)); exact BK187.out) hb); have n2_ := Aside0.mk (below_step (by repeat (first | (with_reducible first | exact HB.out | apply below_alloc | apply pw_below_drewN | apply below_drew1 | refine below_set ?_ GE187.out) | exact HB.out)) hb); clear BK187; clear HB; have HO193 := n0_; have BK187 := n1_; have HB := n2_; clear n0_ n1_ n2_; (try clear hb); (try clear hb2); (try clear hk); (try clear hi); (try clear ho0); have hcz33_0 : w32.cell? ⟨gb187, 0, none⟩ = some (.int .i64 a1_0) := (blk_cell BK187.out 0).trans rfl; have hcz33_1 : w32.cell? ⟨gb187, 1, none⟩ = some (.int .i64 a1_1) := (blk_cell BK187.out 1).trans rfl; have hfz33_0 := blk_frozen BK187.out 0; have hfz33_1 := blk_frozen BK187.out 1) | ((with_reducible refine gate_callee (f := 24) rfl ?_); refine goesL_ (some 25) rfl rfl Try.func24 (by kernel_rfl) rfl #[.slice A0 l0.length c0, .agg #[.int .i64 a1_0, .int .i64 a1_1]] rfl (by (try simp only [List.map_toArray, List.map_cons, List.map_nil]); first | done | rfl | (simp only [List.length_drop, List.length_take]; rfl)) ?_; (with_reducible refine (spec_RangesCut.calls kj4 _ _ l0 a1_0 a1_1 t194 _ ?side1 ?side2 A18.out).mono ?_); (case side1 => repeat (first | exact (Kd.C_below HR0.out HB.out) | (with_reducible refine Kd.C_alloc ?_ _) | (with_reducible refine Kd.C_drewN ?_ _) | (with_reducible refine Kd.C_drew ?_))); (case side2 => exact HC0.out); rintro e w34 ⟨v195, rfl, ho0, hb⟩; refine ⟨_, rfl, ?_⟩; have n0_ := Aside0.mk (Kd.R_elder' (by (with_reducible repeat (first | apply Kd.R_alloc | apply Kd.R_drewN | apply Kd.R_drew)); exact HO193.out) (Kd.R_base ho0) hb); have n1_ := Aside0.mk (Kd.R_lower (Kd.R_newB (Kd.R_new' ho0 (Kd.R_lt (by (with_reducible repeat (first | apply Kd.R_alloc | apply Kd.R_drewN | apply Kd.R_drew)); exact HO193.out))) (g := gb187) (o := .cells #[.int .i64 a1_0, .int .i64 a1_1] 28 (0, 0)) (by (with_reducible repeat (first | refine blk_drewN ?_ _ | refine blk_drew ?_ | refine blk_alloc ?_ _)); exact BK187.out)) (below_size (by repeat (first | (with_reducible first | exact HB.out | apply below_alloc | apply pw_below_drewN | apply below_drew1 | refine below_set ?_ GE187.out) | exact HB.out)))); have n2_ := Aside0.mk (blk_below (g := gb187) (o := .cells #[.int .i64 a1_0, .int .i64 a1_1] 28 (0, 0)) (by (with_reducible repeat (first | refine blk_drewN ?_ _ | refine blk_drew ?_ | refine blk_alloc ?_ _)); exact BK187.out) hb); have n3_ := Aside0.mk (below_step (by repeat (first | (with_reducible first | exact HB.out | apply below_alloc | apply pw_below_drewN | apply below_drew1 | refine below_set ?_ GE187.out) | exact HB.out)) hb); clear HO193; clear BK187; clear HB; have HO193 := n0_; have HO196 := n1_; have BK187 := n2_; have HB := n3_; clear n0_ n1_ n2_ n3_; (try clear hb); (try clear hb2); (try clear hk); (try clear hi); (try clear ho0); obtain ⟨Ao35, co35, eo35⟩ := Kd.R_slice HO193.out; subst eo35; obtain ⟨Ao36, co36, eo36⟩ := Kd.R_slice HO196.out; subst eo36) | ((with_reducible refine gate_callee (f := 15) rfl ?_); refine goesL_ (some 26) rfl rfl Try.func15 (by kernel_rfl) rfl #[.slice Ao35 t191.length co35, .slice Ao36 t194.length co36] rfl (by (try simp only [List.map_toArray, List.map_cons, List.map_nil]); first | done | rfl | (simp only [List.length_drop, List.length_take]; rfl)) ?_; (with_reducible refine (spec_RangesSame.calls kj4 _ _ t191 _ _ t194 false _ ?side1 ?side2 ?side3 ?side4 A19.out).mono ?_); (case side1 => repeat (first | exact (Kd.R_reads' HO193.out).2.2 | (with_reducible refine Kd.C_alloc ?_ _) | (with_reducible refine Kd.C_drewN ?_ _) | (with_reducible refine Kd.C_drew ?_))); (case side2 => exact (Kd.R_reads' HO193.out).2.1); (case side3 => repeat (first | exact (Kd.R_reads' HO196.out).2.2 | (with_reducible refine Kd.C_alloc ?_ _) | (with_reducible refine Kd.C_drewN ?_ _) | (with_reducible refine Kd.C_drew ?_))); (case side4 => exact (Kd.R_reads' HO196.out).2.1); rintro e w' ⟨rfl, ⟨nd, rfl⟩⟩; refine ⟨_, rfl, ?_⟩))
              go_ret
              exact ⟨by first | rfl | (simp [errW_none, errW_some] <;> rfl) | (simp [*, errW_none, errW_some] <;> rfl), by repeat (first | (with_reducible first | exact HB.out | apply below_alloc | apply pw_below_drewN | apply below_drew1 | refine below_set ?_ GE187.out) | exact HB.out)⟩
          · replace c16 := Bool.eq_false_iff.mpr c16
            subst c16
            have H1 : (some false) = some r := by rw [if_neg (show ¬ (false = true) by decide)] at H; exact H
            clear H
            have H := H1
            clear H1
            obtain rfl := Option.some.inj H
            go_wp2_with (first | ((with_reducible refine gate_callee (f := 13) rfl ?_); refine goesL_ (some 17) rfl rfl Try.func13 (by kernel_rfl) rfl #[] rfl (by (try simp only [List.map_toArray, List.map_cons, List.map_nil]); first | done | rfl | (simp only [List.length_drop, List.length_take]; rfl)) ?_; (with_reducible refine (laws_rangeAwake.calls kj4  false _ A15.out).mono ?_); rintro e w37 ⟨rfl, hb⟩; refine ⟨_, rfl, ?_⟩; have n0_ := Aside0.mk (blk_below (g := gb187) (o := .cells #[.int .i64 a1_0, .int .i64 a1_1] 28 (0, 0)) (by (with_reducible repeat (first | refine blk_drewN ?_ _ | refine blk_drew ?_ | refine blk_alloc ?_ _)); exact BK187.out) hb); have n1_ := Aside0.mk (below_step (by repeat (first | (with_reducible first | exact HB.out | apply below_alloc | apply pw_below_drewN | apply below_drew1 | refine below_set ?_ GE187.out) | exact HB.out)) hb); clear BK187; clear HB; have BK187 := n0_; have HB := n1_; clear n0_ n1_; (try clear hb); (try clear hb2); (try clear hk); (try clear hi)))
            go_ret
            exact ⟨by first | rfl | (simp [errW_none, errW_some] <;> rfl) | (simp [*, errW_none, errW_some] <;> rfl), by repeat (first | (with_reducible first | exact HB.out | apply below_alloc | apply pw_below_drewN | apply below_drew1 | refine below_set ?_ GE187.out) | exact HB.out)⟩

end Go.Proofs.Ytfegihmnpcjdgaa.PFnRangesCut

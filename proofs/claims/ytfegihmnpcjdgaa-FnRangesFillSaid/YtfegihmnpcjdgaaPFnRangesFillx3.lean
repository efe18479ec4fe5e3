-- Written by a program of this session's (over the kit's print), with contracts proved by hand among what it calls.
import Derived.Test.YtfegihmnpcjdgaaPFnRangesFillx0
import Derived.Test.YtfegihmnpcjdgaaPFnRangesFillx1
namespace Go.Proofs.Ytfegihmnpcjdgaa.PFnRangesFill
open Go.RowKit Go.Proofs.YtfegihmnpcjdgaaW.PrintWords Go.Proofs.YtfegihmnpcjdgaaW.PrintLast Go.Proofs.YtfegihmnpcjdgaaW.PrintMore
attribute [local go_sem] max2_int min2_int max_two min_two max_three min_three max_four min_four   -- for this text's walks alone
set_option linter.unusedVariables false
set_option linter.unusedSimpArgs false

attribute [local go_sem high] eqA28
/-! ### spec_RangeIn: function 33 -/
def spec_RangeIn.f (a0_0 : Int) (a0_1 : Int) : Option (Bool) := if a0_1 ≥ (-1099511627776) then (if a0_1 ≤ 1099511627776 then (if a0_0 ≥ (-1099511627776) then (some (decide (a0_0 ≤ 1099511627776))) else (some false)) else (some false)) else (some false)
set_option maxHeartbeats 8000000 in
set_option maxRecDepth 100000 in
theorem spec_RangeIn.calls (a0_0 : Int) (a0_1 : Int) (r : Bool) (w : World) (h : spec_RangeIn.f a0_0 a0_1 = some r) :
    Calls Try.prog 33 #[.agg #[.int .i64 a0_0, .int .i64 a0_1]] w fun e w' => e = .returned (.bool r) ∧ Below w.heap.size w w' := by
  have hu28 := Try.underlying28
  have HB := Aside0.mk (Below.refl w.heap.size w)
  have H : (if a0_1 ≥ (-1099511627776) then (if a0_1 ≤ 1099511627776 then (if a0_0 ≥ (-1099511627776) then (some (decide (a0_0 ≤ 1099511627776))) else (some false)) else (some false)) else (some false)) = some r := h
  clear h
  by_cases c2 : a0_1 ≥ (-1099511627776)
  · rw [if_pos c2] at H
    have c2b0 : decide ((-1099511627776) ≤ a0_1) = true := decide_eq_true c2
    clear c2
    by_cases c3 : a0_1 ≤ 1099511627776
    · rw [if_pos c3] at H
      have c3b0 : decide (a0_1 ≤ 1099511627776) = true := decide_eq_true c3
      clear c3
      by_cases c4 : a0_0 ≥ (-1099511627776)
      · rw [if_pos c4] at H
        have c4b0 : decide ((-1099511627776) ≤ a0_0) = true := decide_eq_true c4
        clear c4
        obtain rfl := Option.some.inj H
        go_enter Try.func33, Try.ntmps33
        go_wp2_with (first | ((with_reducible refine gate_dst (N := 1) rfl ?_); refine box_event ?hg (N := 1) ?hd (cs := #[.int .i64 a0_0, .int .i64 a0_1]) (t := 28) ?hr ?_; (case hd => rfl); (case hg => rfl); (case hr => first | (go_simp; done) | (go_simp; rfl)); intro gb101 hg w5 hbox hb; have n0_ := Aside0.mk (below_step (by repeat (first | (with_reducible first | exact HB.out | apply below_alloc | apply pw_below_drewN | apply below_drew1) | exact HB.out)) hb); have n1_ := Aside0.mk (hbox); have n2_ := Aside0.mk ((by rw [hg]; exact (below_size (by repeat (first | (with_reducible first | exact HB.out | apply below_alloc | apply pw_below_drewN | apply below_drew1) | exact HB.out))) : w.heap.size ≤ gb101)); have n3_ := Aside0.mk ((by rw [hg]; exact (below_size (by repeat (first | (with_reducible first | exact HB.out | apply below_alloc | apply pw_below_drewN | apply below_drew1) | exact HB.out))) : w.heap.size ≤ gb101)); clear HB; have HB := n0_; have BK101 := n1_; have GW101 := n2_; have GE101 := n3_; clear n0_ n1_ n2_ n3_; clear hb hbox hg; have hcz6_0 : w5.cell? ⟨gb101, 0, none⟩ = some (.int .i64 a0_0) := (blk_cell BK101.out 0).trans rfl; have hcz6_1 : w5.cell? ⟨gb101, 1, none⟩ = some (.int .i64 a0_1) := (blk_cell BK101.out 1).trans rfl; have hfz6_0 := blk_frozen BK101.out 0; have hfz6_1 := blk_frozen BK101.out 1))
        go_ret
        exact ⟨by first | rfl | (simp [errW_none, errW_some] <;> rfl) | (simp [*, errW_none, errW_some] <;> rfl), by repeat (first | (with_reducible first | exact HB.out | apply below_alloc | apply pw_below_drewN | apply below_drew1 | refine below_set ?_ GE101.out) | exact HB.out)⟩
      · rw [if_neg c4] at H
        have c4b0 : decide ((-1099511627776) ≤ a0_0) = false := decide_eq_false c4
        clear c4
        obtain rfl := Option.some.inj H
        go_enter Try.func33, Try.ntmps33
        go_wp2_with (first | ((with_reducible refine gate_dst (N := 1) rfl ?_); refine box_event ?hg (N := 1) ?hd (cs := #[.int .i64 a0_0, .int .i64 a0_1]) (t := 28) ?hr ?_; (case hd => rfl); (case hg => rfl); (case hr => first | (go_simp; done) | (go_simp; rfl)); intro gb101 hg w7 hbox hb; have n0_ := Aside0.mk (below_step (by repeat (first | (with_reducible first | exact HB.out | apply below_alloc | apply pw_below_drewN | apply below_drew1) | exact HB.out)) hb); have n1_ := Aside0.mk (hbox); have n2_ := Aside0.mk ((by rw [hg]; exact (below_size (by repeat (first | (with_reducible first | exact HB.out | apply below_alloc | apply pw_below_drewN | apply below_drew1) | exact HB.out))) : w.heap.size ≤ gb101)); have n3_ := Aside0.mk ((by rw [hg]; exact (below_size (by repeat (first | (with_reducible first | exact HB.out | apply below_alloc | apply pw_below_drewN | apply below_drew1) | exact HB.out))) : w.heap.size ≤ gb101)); clear HB; have HB := n0_; have BK101 := n1_; have GW101 := n2_; have GE101 := n3_; clear n0_ n1_ n2_ n3_; clear hb hbox hg; have hcz8_0 : w7.cell? ⟨gb101, 0, none⟩ = some (.int .i64 a0_0) := (blk_cell BK101.out 0).trans rfl; have hcz8_1 : w7.cell? ⟨gb101, 1, none⟩ = some (.int .i64 a0_1) := (blk_cell BK101.out 1).trans rfl; have hfz8_0 := blk_frozen BK101.out 0; have hfz8_1 := blk_frozen BK101.out 1))
        go_ret
        exact ⟨by first | rfl | (simp [errW_none, errW_some] <;> rfl) | (simp [*, errW_none, errW_some] <;> rfl), by repeat (first | (with_reducible first | exact HB.out | apply below_alloc | apply pw_below_drewN | apply below_drew1 | refine below_set ?_ GE101.out) | exact HB.out)⟩
    · rw [if_neg c3] at H
      have c3b0 : decide (a0_1 ≤ 1099511627776) = false := decide_eq_false c3
      clear c3
      obtain rfl := Option.some.inj H
      go_enter Try.func33, Try.ntmps33
      go_wp2_with (first | ((with_reducible refine gate_dst (N := 1) rfl ?_); refine box_event ?hg (N := 1) ?hd (cs := #[.int .i64 a0_0, .int .i64 a0_1]) (t := 28) ?hr ?_; (case hd => rfl); (case hg => rfl); (case hr => first | (go_simp; done) | (go_simp; rfl)); intro gb101 hg w9 hbox hb; have n0_ := Aside0.mk (below_step (by repeat (first | (with_reducible first | exact HB.out | apply below_alloc | apply pw_below_drewN | apply below_drew1) | exact HB.out)) hb); have n1_ := Aside0.mk (hbox); have n2_ := Aside0.mk ((by rw [hg]; exact (below_size (by repeat (first | (with_reducible first | exact HB.out | apply below_alloc | apply pw_below_drewN | apply below_drew1) | exact HB.out))) : w.heap.size ≤ gb101)); have n3_ := Aside0.mk ((by rw [hg]; exact (below_size (by repeat (first | (with_reducible first | exact HB.out | apply below_alloc | apply pw_below_drewN | apply below_drew1) | exact HB.out))) : w.heap.size ≤ gb101)); clear HB; have HB := n0_; have BK101 := n1_; have GW101 := n2_; have GE101 := n3_; clear n0_ n1_ n2_ n3_; clear hb hbox hg; have hcz10_0 : w9.cell? ⟨gb101, 0, none⟩ = some (.int .i64 a0_0) := (blk_cell BK101.out 0).trans rfl; have hcz10_1 : w9.cell? ⟨gb101, 1, none⟩ = some (.int .i64 a0_1) := (blk_cell BK101.out 1).trans rfl; have hfz10_0 := blk_frozen BK101.out 0; have hfz10_1 := blk_frozen BK101.out 1))
      go_ret
      exact ⟨by first | rfl | (simp [errW_none, errW_some] <;> rfl) | (simp [*, errW_none, errW_some] <;> rfl), by repeat (first | (with_reducible first | exact HB.out | apply below_alloc | apply pw_below_drewN | apply below_drew1 | refine below_set ?_ GE101.out) | exact HB.out)⟩
  · rw [if_neg c2] at H
    have c2b0 : decide ((-1099511627776) ≤ a0_1) = false := decide_eq_false c2
    clear c2
    obtain rfl := Option.some.inj H
    go_enter Try.func33, Try.ntmps33
    go_wp2_with (first | ((with_reducible refine gate_dst (N := 1) rfl ?_); refine box_event ?hg (N := 1) ?hd (cs := #[.int .i64 a0_0, .int .i64 a0_1]) (t := 28) ?hr ?_; (case hd => rfl); (case hg => rfl); (case hr => first | (go_simp; done) | (go_simp; rfl)); intro gb101 hg w11 hbox hb; have n0_ := Aside0.mk (below_step (by repeat (first | (with_reducible first | exact HB.out | apply below_alloc | apply pw_below_drewN | apply below_drew1) | exact HB.out)) hb); have n1_ := Aside0.mk (hbox); have n2_ := Aside0.mk ((by rw [hg]; exact (below_size (by repeat (first | (with_reducible first | exact HB.out | apply below_alloc | apply pw_below_drewN | apply below_drew1) | exact HB.out))) : w.heap.size ≤ gb101)); have n3_ := Aside0.mk ((by rw [hg]; exact (below_size (by repeat (first | (with_reducible first | exact HB.out | apply below_alloc | apply pw_below_drewN | apply below_drew1) | exact HB.out))) : w.heap.size ≤ gb101)); clear HB; have HB := n0_; have BK101 := n1_; have GW101 := n2_; have GE101 := n3_; clear n0_ n1_ n2_ n3_; clear hb hbox hg; have hcz12_0 : w11.cell? ⟨gb101, 0, none⟩ = some (.int .i64 a0_0) := (blk_cell BK101.out 0).trans rfl; have hcz12_1 : w11.cell? ⟨gb101, 1, none⟩ = some (.int .i64 a0_1) := (blk_cell BK101.out 1).trans rfl; have hfz12_0 := blk_frozen BK101.out 0; have hfz12_1 := blk_frozen BK101.out 1))
    go_ret
    exact ⟨by first | rfl | (simp [errW_none, errW_some] <;> rfl) | (simp [*, errW_none, errW_some] <;> rfl), by repeat (first | (with_reducible first | exact HB.out | apply below_alloc | apply pw_below_drewN | apply below_drew1 | refine below_set ?_ GE101.out) | exact HB.out)⟩

/-! ### spec_RangesIn: function 12 -/
def spec_RangesIn.l0 : Nat → List (S28) → List (S28) → Int → Int → Option (Bool)
  | 0, _, _, _, _ => none
  | k + 1, x0, x5, x6, x7 => if x7 < x6 then (if 0 ≤ x7 then (if x7 < (x5.length : Int) then ((spec_RangeIn.f ((rd_T28 x5 x7).f0) ((rd_T28 x5 x7).f1)).bind fun t104 => (if t104 = true then (spec_RangesIn.l0 k x0 x5 x6 (wrap64 (x7 + 1))) else (some false))) else (none)) else (none)) else (some (decide ((x0.length : Int) ≤ 60)))
def spec_RangesIn.f (k : Nat) (l0 : List (S28)) : Option (Bool) := spec_RangesIn.l0 k l0 l0 (l0.length : Int) 0
theorem spec_RangesIn.mono_l : ∀ k, (∀ y0 y1 y2 y3, LeO (spec_RangesIn.l0 k y0 y1 y2 y3) (spec_RangesIn.l0 (k + 1) y0 y1 y2 y3))
  | 0 => fun _ _ _ _ r h => by simp [spec_RangesIn.l0] at h
  | k + 1 => by
    have ih0 := spec_RangesIn.mono_l k
    · intro y0 y1 y2 y3
      unfold spec_RangesIn.l0
      repeat' first
      | (with_reducible exact ih0 _ _ _ _)
      | (with_reducible exact LeO.refl _)
      | (with_reducible exact LeO.none _)
      | (with_reducible refine LeO.ite ?_ ?_)
      | (with_reducible refine LeO.bind ?_ (fun _ => ?_))
      | exact ih0 _ _ _ _
      | exact LeO.none _
      | refine LeO.ite ?_ ?_
      | refine LeO.bind ?_ (fun _ => ?_)
theorem spec_RangesIn.mono : ∀ a0 k, LeO (spec_RangesIn.f k a0) (spec_RangesIn.f (k + 1) a0) := by
  intro a0 k
  have ih0 := spec_RangesIn.mono_l k
  unfold spec_RangesIn.f
  repeat' first
      | (with_reducible exact ih0 _ _ _ _)
      | (with_reducible exact LeO.refl _)
      | (with_reducible exact LeO.none _)
      | (with_reducible refine LeO.ite ?_ ?_)
      | (with_reducible refine LeO.bind ?_ (fun _ => ?_))
      | exact ih0 _ _ _ _
      | exact LeO.none _
      | refine LeO.ite ?_ ?_
      | refine LeO.bind ?_ (fun _ => ?_)
set_option maxHeartbeats 8000000 in
set_option maxRecDepth 100000 in
theorem spec_RangesIn.calls (k : Nat) (A0 : Option Addr) (c0 : Nat) (l0 : List (S28)) (r : Bool) (w : World) (hr0 : Kd.C k28 w A0 l0.length l0) (hc0 : l0.length ≤ c0) (h : spec_RangesIn.f k l0 = some r) :
    Calls Try.prog 12 #[.slice A0 l0.length c0] w fun e w' => e = .returned (.bool r) ∧ Below w.heap.size w w' := by
  have hu28 := Try.underlying28
  have HR0 := Aside0.mk hr0
  have HC0 := Aside0.mk hc0
  clear hr0 hc0
  have HB := Aside0.mk (Below.refl w.heap.size w)
  have H : (spec_RangesIn.l0 k l0 l0 (l0.length : Int) 0) = some r := h
  clear h
  have H' := Aside0.mk H
  clear H
  go_enter Try.func12, Try.ntmps12
  go_wp2
  go_loopg [7] k (fun kq v7 w' => ∃ (x7_1 : Int), v7 = .int .i64 x7_1 ∧ Aside0 (spec_RangesIn.l0 kq l0 l0 (l0.length : Int) x7_1 = some r) ∧ Aside0 (kq ≤ k) ∧ Aside0 (Below w.heap.size w w'))
  case atStart => exact ⟨(0), (by first | rfl | (simp; done) | (simp [*]; done) | (simp [xt_ne_nil]; done)), H', ⟨Nat.le_refl _⟩, ⟨by repeat (first | (with_reducible first | exact HB.out | apply below_alloc | apply pw_below_drewN | apply below_drew1) | exact HB.out)⟩⟩
  case round =>
    clear H'
    try clear c1
    obtain ⟨x7_1, rfl, HA, HK1, HB⟩ := hrel
    cases gk with
    | zero => exact absurd HA.out (by simp [spec_RangesIn.l0])
    | succ k1 =>
      have H := HA.out
      clear HA
      simp only [spec_RangesIn.l0] at H
      by_cases c2 : x7_1 < (l0.length : Int)
      · rw [if_pos c2] at H
        have c2b0 : decide (x7_1 < (l0.length : Int)) = true := decide_eq_true c2
        clear c2
        by_cases c3 : 0 ≤ x7_1
        · rw [if_pos c3] at H
          have c3b0 : decide (0 ≤ x7_1) = true := decide_eq_true c3
          clear c3
          by_cases c4 : x7_1 < (l0.length : Int)
          · rw [if_pos c4] at H
            have c4b0 : decide (x7_1 < (l0.length : Int)) = true := decide_eq_true c4
            clear c4
            replace H := Option.bind_eq_some_iff.mp H
            obtain ⟨t104, A50, H⟩ := H
            replace H : (if t104 = true then (spec_RangesIn.l0 k1 l0 l0 (l0.length : Int) (wrap64 (x7_1 + 1))) else (some false)) = some r := H
            have A5 := Aside0.mk A50
            clear A50
            by_cases c6 : t104 = true
            · subst c6
              have H1 : (spec_RangesIn.l0 k1 l0 l0 (l0.length : Int) (wrap64 (x7_1 + 1))) = some r := by rw [if_pos rfl] at H; exact H
              clear H
              have H := H1
              clear H1
              have H' := Aside0.mk H
              clear H
              have p102 : 0 ≤ (x7_1 : Int) := of_decide_eq_true (by first | (with_reducible assumption) | assumption)
              have q102 : x7_1 < (l0.length : Int) := of_decide_eq_true (by first | (with_reducible assumption) | assumption)
              obtain ⟨ad102, e102, hx102_0, hx102_1⟩ := at_T28 HR0.out x7_1 p102 q102
              cases e102
              replace hx102_0 := (HB.out.cell (World.block_lt_of_cell? w _ hx102_0)).trans hx102_0
              replace hx102_1 := (HB.out.cell (World.block_lt_of_cell? w _ hx102_1)).trans hx102_1
              replace p102 := eq_true p102
              replace q102 := eq_true q102
              go_wp2_with (first | ((with_reducible refine gate_dst (N := 4) rfl ?_); refine box_event ?hg (N := 4) ?hd (cs := #[.int .i64 0, .int .i64 0]) (t := 28) ?hr ?_; (case hd => rfl); (case hg => rfl); (case hr => first | (go_simp; done) | (go_simp; rfl)); intro gb103 hg w7 hbox hb; have n0_ := Aside0.mk (below_step (by repeat (first | (with_reducible first | exact HB.out | apply below_alloc | apply pw_below_drewN | apply below_drew1) | exact HB.out)) hb); have n1_ := Aside0.mk (hbox); have n2_ := Aside0.mk ((by rw [hg]; exact (below_size (by repeat (first | (with_reducible first | exact HB.out | apply below_alloc | apply pw_below_drewN | apply below_drew1) | exact HB.out))) : w.heap.size ≤ gb103)); have n3_ := Aside0.mk ((by rw [hg]; exact (below_size (by repeat (first | (with_reducible first | exact HB.out | apply below_alloc | apply pw_below_drewN | apply below_drew1) | exact HB.out))) : w.heap.size ≤ gb103)); clear HB; have HB := n0_; have BK103 := n1_; have GW103 := n2_; have GE103 := n3_; clear n0_ n1_ n2_ n3_; clear hb hbox hg; have hcz8_0 : w7.cell? ⟨gb103, 0, none⟩ = some (.int .i64 0) := (blk_cell BK103.out 0).trans rfl; have hcz8_1 : w7.cell? ⟨gb103, 1, none⟩ = some (.int .i64 0) := (blk_cell BK103.out 1).trans rfl; have hfz8_0 := blk_frozen BK103.out 0; have hfz8_1 := blk_frozen BK103.out 1) | ((with_reducible refine gate_callee (f := 33) rfl ?_); refine goesL_ (some 12) rfl rfl Try.func33 (by kernel_rfl) rfl #[.agg #[.int .i64 ((rd_T28 l0 x7_1).f0), .int .i64 ((rd_T28 l0 x7_1).f1)]] rfl (by (try simp only [List.map_toArray, List.map_cons, List.map_nil]); first | done | rfl | (simp only [List.length_drop, List.length_take]; rfl)) ?_; (with_reducible refine (spec_RangeIn.calls ((rd_T28 l0 x7_1).f0) ((rd_T28 l0 x7_1).f1) true _ A5.out).mono ?_); rintro e w9 ⟨rfl, hb⟩; refine ⟨_, rfl, ?_⟩; have n0_ := Aside0.mk (blk_below (g := gb103) (o := .cells #[.int .i64 ((rd_T28 l0 x7_1).f0), .int .i64 ((rd_T28 l0 x7_1).f1)] 28 (0, 0)) (by (with_reducible repeat (first | refine blk_drewN ?_ _ | refine blk_drew ?_ | refine blk_alloc ?_ _)); refine blk_put (cs := #[.int .i64 ((rd_T28 l0 x7_1).f0), .int .i64 0]) ?_ 1 _ rfl; (with_reducible repeat (first | refine blk_drewN ?_ _ | refine blk_drew ?_ | refine blk_alloc ?_ _)); refine blk_put (cs := #[.int .i64 0, .int .i64 0]) ?_ 0 _ rfl; (with_reducible repeat (first | refine blk_drewN ?_ _ | refine blk_drew ?_ | refine blk_alloc ?_ _)); exact BK103.out) hb); have n1_ := Aside0.mk (below_step (by repeat (first | (with_reducible first | exact HB.out | apply below_alloc | apply pw_below_drewN | apply below_drew1 | refine below_set ?_ GE103.out) | exact HB.out)) hb); clear BK103; clear HB; have BK103 := n0_; have HB := n1_; clear n0_ n1_; (try clear hb); (try clear hb2); (try clear hk); (try clear hi)))
              go_roundg k1
              case measure => have := HK1.out; omega
              case rel => exact ⟨(wrap64 (x7_1 + 1)), (by first | rfl | (simp; done) | (simp [*]; done) | (simp [xt_ne_nil]; done)), H', ⟨by have := HK1.out; omega⟩, ⟨by repeat (first | (with_reducible first | exact HB.out | apply below_alloc | apply pw_below_drewN | apply below_drew1 | refine below_set ?_ GE103.out) | exact HB.out)⟩⟩
            · replace c6 := Bool.eq_false_iff.mpr c6
              subst c6
              have H1 : (some false) = some r := by rw [if_neg (show ¬ (false = true) by decide)] at H; exact H
              clear H
              have H := H1
              clear H1
              obtain rfl := Option.some.inj H
              have p102 : 0 ≤ (x7_1 : Int) := of_decide_eq_true (by first | (with_reducible assumption) | assumption)
              have q102 : x7_1 < (l0.length : Int) := of_decide_eq_true (by first | (with_reducible assumption) | assumption)
              obtain ⟨ad102, e102, hx102_0, hx102_1⟩ := at_T28 HR0.out x7_1 p102 q102
              cases e102
              replace hx102_0 := (HB.out.cell (World.block_lt_of_cell? w _ hx102_0)).trans hx102_0
              replace hx102_1 := (HB.out.cell (World.block_lt_of_cell? w _ hx102_1)).trans hx102_1
              replace p102 := eq_true p102
              replace q102 := eq_true q102
              go_wp2_with (first | ((with_reducible refine gate_dst (N := 4) rfl ?_); refine box_event ?hg (N := 4) ?hd (cs := #[.int .i64 0, .int .i64 0]) (t := 28) ?hr ?_; (case hd => rfl); (case hg => rfl); (case hr => first | (go_simp; done) | (go_simp; rfl)); intro gb103 hg w10 hbox hb; have n0_ := Aside0.mk (below_step (by repeat (first | (with_reducible first | exact HB.out | apply below_alloc | apply pw_below_drewN | apply below_drew1) | exact HB.out)) hb); have n1_ := Aside0.mk (hbox); have n2_ := Aside0.mk ((by rw [hg]; exact (below_size (by repeat (first | (with_reducible first | exact HB.out | apply below_alloc | apply pw_below_drewN | apply below_drew1) | exact HB.out))) : w.heap.size ≤ gb103)); have n3_ := Aside0.mk ((by rw [hg]; exact (below_size (by repeat (first | (with_reducible first | exact HB.out | apply below_alloc | apply pw_below_drewN | apply below_drew1) | exact HB.out))) : w.heap.size ≤ gb103)); clear HB; have HB := n0_; have BK103 := n1_; have GW103 := n2_; have GE103 := n3_; clear n0_ n1_ n2_ n3_; clear hb hbox hg; have hcz11_0 : w10.cell? ⟨gb103, 0, none⟩ = some (.int .i64 0) := (blk_cell BK103.out 0).trans rfl; have hcz11_1 : w10.cell? ⟨gb103, 1, none⟩ = some (.int .i64 0) := (blk_cell BK103.out 1).trans rfl; have hfz11_0 := blk_frozen BK103.out 0; have hfz11_1 := blk_frozen BK103.out 1) | ((with_reducible refine gate_callee (f := 33) rfl ?_); refine goesL_ (some 12) rfl rfl Try.func33 (by kernel_rfl) rfl #[.agg #[.int .i64 ((rd_T28 l0 x7_1).f0), .int .i64 ((rd_T28 l0 x7_1).f1)]] rfl (by (try simp only [List.map_toArray, List.map_cons, List.map_nil]); first | done | rfl | (simp only [List.length_drop, List.length_take]; rfl)) ?_; (with_reducible refine (spec_RangeIn.calls ((rd_T28 l0 x7_1).f0) ((rd_T28 l0 x7_1).f1) false _ A5.out).mono ?_); rintro e w12 ⟨rfl, hb⟩; refine ⟨_, rfl, ?_⟩; have n0_ := Aside0.mk (blk_below (g := gb103) (o := .cells #[.int .i64 ((rd_T28 l0 x7_1).f0), .int .i64 ((rd_T28 l0 x7_1).f1)] 28 (0, 0)) (by (with_reducible repeat (first | refine blk_drewN ?_ _ | refine blk_drew ?_ | refine blk_alloc ?_ _)); refine blk_put (cs := #[.int .i64 ((rd_T28 l0 x7_1).f0), .int .i64 0]) ?_ 1 _ rfl; (with_reducible repeat (first | refine blk_drewN ?_ _ | refine blk_drew ?_ | refine blk_alloc ?_ _)); refine blk_put (cs := #[.int .i64 0, .int .i64 0]) ?_ 0 _ rfl; (with_reducible repeat (first | refine blk_drewN ?_ _ | refine blk_drew ?_ | refine blk_alloc ?_ _)); exact BK103.out) hb); have n1_ := Aside0.mk (below_step (by repeat (first | (with_reducible first | exact HB.out | apply below_alloc | apply pw_below_drewN | apply below_drew1 | refine below_set ?_ GE103.out) | exact HB.out)) hb); clear BK103; clear HB; have BK103 := n0_; have HB := n1_; clear n0_ n1_; (try clear hb); (try clear hb2); (try clear hk); (try clear hi)))
              go_ret
              exact ⟨by first | rfl | (simp [errW_none, errW_some] <;> rfl) | (simp [*, errW_none, errW_some] <;> rfl), by repeat (first | (with_reducible first | exact HB.out | apply below_alloc | apply pw_below_drewN | apply below_drew1 | refine below_set ?_ GE103.out) | exact HB.out)⟩
          · rw [if_neg c4] at H
            exact absurd H (by simp)
        · rw [if_neg c3] at H
          exact absurd H (by simp)
      · rw [if_neg c2] at H
        have c2b0 : decide (x7_1 < (l0.length : Int)) = false := decide_eq_false c2
        clear c2
        obtain rfl := Option.some.inj H
        go_wp2
        go_ret
        exact ⟨by first | rfl | (simp [errW_none, errW_some] <;> rfl) | (simp [*, errW_none, errW_some] <;> rfl), by repeat (first | (with_reducible first | exact HB.out | apply below_alloc | apply pw_below_drewN | apply below_drew1) | exact HB.out)⟩

/-! ### impl_told: function 45 -/
def impl_told.f (a0_0 : Int) (a0_1 : Int) : Option (Int × Int) := some (a0_0, a0_1)
set_option maxHeartbeats 8000000 in
set_option maxRecDepth 100000 in
theorem impl_told.calls (a0_0 : Int) (a0_1 : Int) (r1 : Int) (r2 : Int) (w : World) (h : impl_told.f a0_0 a0_1 = some (r1, r2)) :
    Calls Try.prog 45 #[.agg #[.int .i64 a0_0, .int .i64 a0_1]] w fun e w' => e = .returned (.agg #[.int .i64 r1, .int .i64 r2]) ∧ Below w.heap.size w w' := by
  have hu61 := Try.underlying61
  have hu28 := Try.underlying28
  have HB := Aside0.mk (Below.refl w.heap.size w)
  have H : (some (a0_0, a0_1)) = some (r1, r2) := h
  clear h
  simp only [Option.some.injEq, Prod.mk.injEq] at H
  obtain ⟨rfl, rfl⟩ := H
  go_enter Try.func45, Try.ntmps45
  go_wp2_with (first | ((with_reducible refine gate_dst (N := 1) rfl ?_); refine box_event ?hg (N := 1) ?hd (cs := #[.int .i64 a0_0, .int .i64 a0_1]) (t := 61) ?hr ?_; (case hd => rfl); (case hg => rfl); (case hr => first | (go_simp; done) | (go_simp; rfl)); intro gb105 hg w2 hbox hb; have n0_ := Aside0.mk (below_step (by repeat (first | (with_reducible first | exact HB.out | apply below_alloc | apply pw_below_drewN | apply below_drew1) | exact HB.out)) hb); have n1_ := Aside0.mk (hbox); have n2_ := Aside0.mk ((by rw [hg]; exact (below_size (by repeat (first | (with_reducible first | exact HB.out | apply below_alloc | apply pw_below_drewN | apply below_drew1) | exact HB.out))) : w.heap.size ≤ gb105)); have n3_ := Aside0.mk ((by rw [hg]; exact (below_size (by repeat (first | (with_reducible first | exact HB.out | apply below_alloc | apply pw_below_drewN | apply below_drew1) | exact HB.out))) : w.heap.size ≤ gb105)); clear HB; have HB := n0_; have BK105 := n1_; have GW105 := n2_; have GE105 := n3_; clear n0_ n1_ n2_ n3_; clear hb hbox hg) | ((with_reducible refine gate_dst (N := 2) rfl ?_); refine box_event ?hg (N := 2) ?hd (cs := #[.int .i64 0, .int .i64 0]) (t := 28) ?hr ?_; (case hd => rfl); (case hg => rfl); (case hr => first | (go_simp; done) | (go_simp; rfl)); intro gb106 hg w3 hbox hb; have n0_ := Aside0.mk (blk_below (g := gb105) (o := .cells #[.int .i64 a0_0, .int .i64 a0_1] 61 (0, 0)) (by (with_reducible repeat (first | refine blk_drewN ?_ _ | refine blk_drew ?_ | refine blk_alloc ?_ _)); exact BK105.out) hb); have n1_ := Aside0.mk (below_step (by repeat (first | (with_reducible first | exact HB.out | apply below_alloc | apply pw_below_drewN | apply below_drew1 | refine below_set ?_ GE105.out) | exact HB.out)) hb); have n2_ := Aside0.mk (hbox); have n3_ := Aside0.mk ((by rw [hg]; exact (below_size (by repeat (first | (with_reducible first | exact HB.out | apply below_alloc | apply pw_below_drewN | apply below_drew1 | refine below_set ?_ GE105.out) | exact HB.out))) : w.heap.size ≤ gb106)); have n4_ := Aside0.mk ((by rw [hg]; exact (below_size (by repeat (first | (with_reducible first | exact HB.out | apply below_alloc | apply pw_below_drewN | apply below_drew1 | refine below_set ?_ GE105.out) | exact HB.out))) : w.heap.size ≤ gb106)); have n5_ := Aside0.mk ((by rw [hg]; exact Nat.ne_of_lt (blk_lt (g := gb105) (o := .cells #[.int .i64 a0_0, .int .i64 a0_1] 61 (0, 0)) (by (with_reducible repeat (first | refine blk_drewN ?_ _ | refine blk_drew ?_ | refine blk_alloc ?_ _)); exact BK105.out)) : gb105 ≠ gb106)); have n6_ := Aside0.mk ((by rw [hg]; exact Nat.ne_of_gt (blk_lt (g := gb105) (o := .cells #[.int .i64 a0_0, .int .i64 a0_1] 61 (0, 0)) (by (with_reducible repeat (first | refine blk_drewN ?_ _ | refine blk_drew ?_ | refine blk_alloc ?_ _)); exact BK105.out)) : gb106 ≠ gb105)); clear BK105; clear HB; have BK105 := n0_; have HB := n1_; have BK106 := n2_; have GW106 := n3_; have GE106 := n4_; have NB105_106 := n5_; have NB106_105 := n6_; clear n0_ n1_ n2_ n3_ n4_ n5_ n6_; clear hb hbox hg; have hnb4 := NB105_106.out; have hnc4 := NB106_105.out; have hcz5_0 : w3.cell? ⟨gb105, 0, none⟩ = some (.int .i64 a0_0) := (blk_cell BK105.out 0).trans rfl; have hcz5_1 : w3.cell? ⟨gb105, 1, none⟩ = some (.int .i64 a0_1) := (blk_cell BK105.out 1).trans rfl; have hfz5_0 := blk_frozen BK105.out 0; have hfz5_1 := blk_frozen BK105.out 1; have hcz6_0 : w3.cell? ⟨gb106, 0, none⟩ = some (.int .i64 0) := (blk_cell BK106.out 0).trans rfl; have hcz6_1 : w3.cell? ⟨gb106, 1, none⟩ = some (.int .i64 0) := (blk_cell BK106.out 1).trans rfl; have hfz6_0 := blk_frozen BK106.out 0; have hfz6_1 := blk_frozen BK106.out 1))
  refine bodyPost_ret (results_cell_row rfl _ _ gb106 28 #[.int .i64 a0_0, .int .i64 a0_1] (0, 0) _ rfl (by (with_reducible repeat (first | refine blk_drewN ?_ _ | refine blk_drew ?_ | refine blk_alloc ?_ _)); refine blk_put (cs := #[.int .i64 a0_0, .int .i64 0]) ?_ 1 _ rfl; (with_reducible repeat (first | refine blk_drewN ?_ _ | refine blk_drew ?_ | refine blk_alloc ?_ _)); refine blk_put (cs := #[.int .i64 0, .int .i64 0]) ?_ 0 _ rfl; (with_reducible repeat (first | refine blk_drewN ?_ _ | refine blk_drew ?_ | refine blk_alloc ?_ _)); exact BK106.out) Try.underlying28 rfl (by kernel_rfl)) rfl ?_
  exact ⟨by first | rfl | (simp [errW_none, errW_some] <;> rfl) | (simp [*, errW_none, errW_some] <;> rfl), by repeat (first | (with_reducible first | exact HB.out | apply below_alloc | apply pw_below_drewN | apply below_drew1 | refine below_set ?_ GE105.out | refine below_set ?_ GE106.out) | exact HB.out)⟩

/-! ### impl_tellAll: function 37 -/
def impl_tellAll.l0 : Nat → List (S28) → List (S61) → Int → Int → Option ((List (S28)))
  | 0, _, _, _, _ => none
  | k + 1, x3, x6, x7, x8 => if x8 < x7 then (if 0 ≤ x8 then (if x8 < (x6.length : Int) then ((impl_told.f ((rd_T61 x6 x8).f0) ((rd_T61 x6 x8).f1)).bind fun bt109 => (if x3.length < 8796093022208 then (impl_tellAll.l0 k (x3 ++ [(⟨bt109.1, bt109.2⟩ : S28)]) x6 x7 (wrap64 (x8 + 1))) else (none))) else (none)) else (none)) else (some x3)
def impl_tellAll.f (k : Nat) (l0 : List (S61)) : Option ((List (S28))) := impl_tellAll.l0 k ([] : List (S28)) l0 (l0.length : Int) 0
theorem impl_tellAll.mono_l : ∀ k, (∀ y0 y1 y2 y3, LeO (impl_tellAll.l0 k y0 y1 y2 y3) (impl_tellAll.l0 (k + 1) y0 y1 y2 y3))
  | 0 => fun _ _ _ _ r h => by simp [impl_tellAll.l0] at h
  | k + 1 => by
    have ih0 := impl_tellAll.mono_l k
    · intro y0 y1 y2 y3
      unfold impl_tellAll.l0
      repeat' first
      | (with_reducible exact ih0 _ _ _ _)
      | (with_reducible exact LeO.refl _)
      | (with_reducible exact LeO.none _)
      | (with_reducible refine LeO.ite ?_ ?_)
      | (with_reducible refine LeO.bind ?_ (fun _ => ?_))
      | exact ih0 _ _ _ _
      | exact LeO.none _
      | refine LeO.ite ?_ ?_
      | refine LeO.bind ?_ (fun _ => ?_)
theorem impl_tellAll.mono : ∀ a0 k, LeO (impl_tellAll.f k a0) (impl_tellAll.f (k + 1) a0) := by
  intro a0 k
  have ih0 := impl_tellAll.mono_l k
  unfold impl_tellAll.f
  repeat' first
      | (with_reducible exact ih0 _ _ _ _)
      | (with_reducible exact LeO.refl _)
      | (with_reducible exact LeO.none _)
      | (with_reducible refine LeO.ite ?_ ?_)
      | (with_reducible refine LeO.bind ?_ (fun _ => ?_))
      | exact ih0 _ _ _ _
      | exact LeO.none _
      | refine LeO.ite ?_ ?_
      | refine LeO.bind ?_ (fun _ => ?_)
set_option maxHeartbeats 8000000 in
set_option maxRecDepth 100000 in
theorem impl_tellAll.calls (k : Nat) (A0 : Option Addr) (c0 : Nat) (l0 : List (S61)) (r : List (S28)) (w : World) (hr0 : Kd.C k61 w A0 l0.length l0) (hc0 : l0.length ≤ c0) (h : impl_tellAll.f k l0 = some r) :
    Calls Try.prog 37 #[.slice A0 l0.length c0] w fun e w' => ∃ v0_ : Value, e = .returned (v0_) ∧ Kd.R k28 28 w' w.heap.size (fun _ => True) v0_ r ∧ Below w.heap.size w w' := by
  have hu61 := Try.underlying61
  have HR0 := Aside0.mk hr0
  have HC0 := Aside0.mk hc0
  clear hr0 hc0
  have HB := Aside0.mk (Below.refl w.heap.size w)
  have H : (impl_tellAll.l0 k ([] : List (S28)) l0 (l0.length : Int) 0) = some r := h
  clear h
  have H' := Aside0.mk H
  clear H
  go_enter Try.func37, Try.ntmps37
  go_wp2
  go_loopg [3, 8] k (fun kq v3 v8 w' => ∃ (x3_1 : List (S28)) (x8_1 : Int), v8 = .int .i64 x8_1 ∧ Aside0 (impl_tellAll.l0 kq x3_1 l0 (l0.length : Int) x8_1 = some r) ∧ Aside0 (kq ≤ k) ∧ Aside0 (Kd.R k28 28 w' w.heap.size (fun _ => True) v3 x3_1) ∧ Aside0 (Below w.heap.size w w'))
  case atStart => exact ⟨(([] : List (S28))), (0), (by first | rfl | (simp; done) | (simp [*]; done) | (simp [xt_ne_nil]; done)), H', ⟨Nat.le_refl _⟩, ⟨by first | exact Kd.R_nil _ _ _ _ _ | exact Kd.N_nil _ _ _ _ _ | exact Kd.V_nil _ _ _ _ _ | exact Kd.Q_nil _ _ _ _ _ | exact Kd.S_nil _ _ _ _ _⟩, ⟨by repeat (first | (with_reducible first | exact HB.out | apply below_alloc | apply pw_below_drewN | apply below_drew1) | exact HB.out)⟩⟩
  case round =>
    clear H'
    obtain ⟨x3_1, x8_1, rfl, HA, HK1, HO_3, HB⟩ := hrel
    cases gk with
    | zero => exact absurd HA.out (by simp [impl_tellAll.l0])
    | succ k1 =>
      have H := HA.out
      clear HA
      simp only [impl_tellAll.l0] at H
      by_cases c2 : x8_1 < (l0.length : Int)
      · rw [if_pos c2] at H
        have c2b0 : decide (x8_1 < (l0.length : Int)) = true := decide_eq_true c2
        clear c2
        by_cases c3 : 0 ≤ x8_1
        · rw [if_pos c3] at H
          have c3b0 : decide (0 ≤ x8_1) = true := decide_eq_true c3
          clear c3
          by_cases c4 : x8_1 < (l0.length : Int)
          · rw [if_pos c4] at H
            have c4b0 : decide (x8_1 < (l0.length : Int)) = true := decide_eq_true c4
            clear c4
            replace H := Option.bind_eq_some_iff.mp H
            obtain ⟨⟨t109, t110⟩, A50, H⟩ := H
            replace H : (if x3_1.length < 8796093022208 then (impl_tellAll.l0 k1 (x3_1 ++ [(⟨t109, t110⟩ : S28)]) l0 (l0.length : Int) (wrap64 (x8_1 + 1))) else (none)) = some r := H
            have A5 := Aside0.mk A50
            clear A50
            by_cases c6 : x3_1.length < 8796093022208
            · rw [if_pos c6] at H
              have LMc6 := Aside0.mk c6
              clear c6
              obtain ⟨y111, hy111⟩ : ∃ y_ : List (S28), y_ = (x3_1 ++ [(⟨t109, t110⟩ : S28)]) := ⟨_, rfl⟩
              replace H : (impl_tellAll.l0 k1 y111 l0 (l0.length : Int) (wrap64 (x8_1 + 1))) = some r := by first | (rw [hy111]; with_reducible exact H) | (have H2_ := (Option.bind_some _ _).symm.trans H; rw [hy111]; with_reducible exact H2_) | (have H2_ := (Option.bind_some _ _).symm.trans H; with_reducible exact H2_) | with_reducible exact H | (rw [hy111]; exact H) | exact H
              have Ny111 := Aside0.mk hy111
              clear hy111
              have H' := Aside0.mk H
              clear H
              have p107 : 0 ≤ (x8_1 : Int) := of_decide_eq_true (by first | (with_reducible assumption) | assumption)
              have q107 : x8_1 < (l0.length : Int) := of_decide_eq_true (by first | (with_reducible assumption) | assumption)
              obtain ⟨ad107, e107, hx107_0, hx107_1⟩ := at_T61 HR0.out x8_1 p107 q107
              cases e107
              replace hx107_0 := (HB.out.cell (World.block_lt_of_cell? w _ hx107_0)).trans hx107_0
              replace hx107_1 := (HB.out.cell (World.block_lt_of_cell? w _ hx107_1)).trans hx107_1
              replace p107 := eq_true p107
              replace q107 := eq_true q107
              go_wp2_with (first | ((with_reducible refine gate_dst (N := 5) rfl ?_); refine box_event ?hg (N := 5) ?hd (cs := #[.int .i64 0, .int .i64 0]) (t := 61) ?hr ?_; (case hd => rfl); (case hg => rfl); (case hr => first | (go_simp; done) | (go_simp; rfl)); intro gb108 hg w7 hbox hb; have n0_ := Aside0.mk (Kd.R_below (by (with_reducible repeat (first | apply Kd.R_alloc | apply Kd.R_drewN | apply Kd.R_drew)); exact HO_3.out) hb); have n1_ := Aside0.mk (below_step (by repeat (first | (with_reducible first | exact HB.out | apply below_alloc | apply pw_below_drewN | apply below_drew1) | exact HB.out)) hb); have n2_ := Aside0.mk (hbox); have n3_ := Aside0.mk ((by rw [hg]; exact (below_size (by repeat (first | (with_reducible first | exact HB.out | apply below_alloc | apply pw_below_drewN | apply below_drew1) | exact HB.out))) : w.heap.size ≤ gb108)); have n4_ := Aside0.mk ((by rw [hg]; exact (below_size (by repeat (first | (with_reducible first | exact HB.out | apply below_alloc | apply pw_below_drewN | apply below_drew1) | exact HB.out))) : w.heap.size ≤ gb108)); clear HO_3; clear HB; have HO_3 := n0_; have HB := n1_; have BK108 := n2_; have GW108 := n3_; have GE108 := n4_; clear n0_ n1_ n2_ n3_ n4_; clear hb hbox hg; have hcz8_0 : w7.cell? ⟨gb108, 0, none⟩ = some (.int .i64 0) := (blk_cell BK108.out 0).trans rfl; have hcz8_1 : w7.cell? ⟨gb108, 1, none⟩ = some (.int .i64 0) := (blk_cell BK108.out 1).trans rfl; have hfz8_0 := blk_frozen BK108.out 0; have hfz8_1 := blk_frozen BK108.out 1) | ((with_reducible refine gate_callee (f := 45) rfl ?_); refine goesL_ (some 14) rfl rfl Try.func45 (by kernel_rfl) rfl #[.agg #[.int .i64 ((rd_T61 l0 x8_1).f0), .int .i64 ((rd_T61 l0 x8_1).f1)]] rfl (by (try simp only [List.map_toArray, List.map_cons, List.map_nil]); first | done | rfl | (simp only [List.length_drop, List.length_take]; rfl)) ?_; (with_reducible refine (impl_told.calls ((rd_T61 l0 x8_1).f0) ((rd_T61 l0 x8_1).f1) t109 t110 _ A5.out).mono ?_); rintro e w9 ⟨rfl, hb⟩; refine ⟨_, rfl, ?_⟩; have n0_ := Aside0.mk (Kd.R_below (by (with_reducible repeat (first | apply Kd.R_alloc | apply Kd.R_drewN | apply Kd.R_drew)); exact (Kd.R_mono (Kd.R_far (p := ⟨gb108, 1, none⟩) (Kd.R_far (p := ⟨gb108, 0, none⟩) (Kd.R_types HO_3.out BK108.out (by decide)) (fun _ hk => hk.2) (.int .i64 ((rd_T61 l0 x8_1).f0))) (fun _ hk => hk.2) (.int .i64 ((rd_T61 l0 x8_1).f1))) (fun _ h_ => h_.1))) hb); have n1_ := Aside0.mk (blk_below (g := gb108) (o := .cells #[.int .i64 ((rd_T61 l0 x8_1).f0), .int .i64 ((rd_T61 l0 x8_1).f1)] 61 (0, 0)) (by (with_reducible repeat (first | refine blk_drewN ?_ _ | refine blk_drew ?_ | refine blk_alloc ?_ _)); refine blk_put (cs := #[.int .i64 ((rd_T61 l0 x8_1).f0), .int .i64 0]) ?_ 1 _ rfl; (with_reducible repeat (first | refine blk_drewN ?_ _ | refine blk_drew ?_ | refine blk_alloc ?_ _)); refine blk_put (cs := #[.int .i64 0, .int .i64 0]) ?_ 0 _ rfl; (with_reducible repeat (first | refine blk_drewN ?_ _ | refine blk_drew ?_ | refine blk_alloc ?_ _)); exact BK108.out) hb); have n2_ := Aside0.mk (below_step (by repeat (first | (with_reducible first | exact HB.out | apply below_alloc | apply pw_below_drewN | apply below_drew1 | refine below_set ?_ GE108.out) | exact HB.out)) hb); clear HO_3; clear BK108; clear HB; have HO_3 := n0_; have BK108 := n1_; have HB := n2_; clear n0_ n1_ n2_; (try clear hb); (try clear hb2); (try clear hk); (try clear hi)) | ((with_reducible refine gate_builtin (b := .append) (xs := #[.tmp 12, .tmp 15]) rfl ?_); at_builtin; refine Kd.R_append k28 (w0 := w) w.heap.size rfl (.tmp 12) (.tmp 15) 22 28 (.agg #[(.int .i64 0), (.int .i64 0)]) 16 rfl Try.underlying22 info28 rfl (by decide) (by omega) u3 x3_1 (⟨t109, t110⟩ : S28) [.int .i64 t109, .int .i64 t110] (fun _ => True) (fun _ => False) rfl rfl ?aP (fun _ hk => hk.elim) ?aF ?aO ?aB ?aS ?aL ?_; (case aP => exact k28_mkM _ _ _ (⟨t109, t110⟩ : S28)); (case aB => exact (by repeat (first | (with_reducible first | exact HB.out | apply below_alloc | apply pw_below_drewN | apply below_drew1 | refine below_set ?_ GE108.out) | exact HB.out))); (case aF => exact (fun _ _ => trivial)); (case aO => exact (by (with_reducible repeat (first | apply Kd.R_alloc | apply Kd.R_drewN | apply Kd.R_drew)); exact HO_3.out)); (case aS => exact (below_size (by repeat (first | (with_reducible first | exact HB.out | apply below_alloc | apply pw_below_drewN | apply below_drew1 | refine below_set ?_ GE108.out) | exact HB.out)))); (case aL => have := LMc6.out; omega); intro v112 w10 ho hb hg hat; rw [← Ny111.out] at ho; have n0_ := Aside0.mk (blk_grown (g := gb108) (o := .cells #[.int .i64 ((rd_T61 l0 x8_1).f0), .int .i64 ((rd_T61 l0 x8_1).f1)] 61 (0, 0)) (by (with_reducible repeat (first | refine blk_drewN ?_ _ | refine blk_drew ?_ | refine blk_alloc ?_ _)); exact BK108.out) hg (Kd.R_ne HO_3.out BK108.out (by decide))); have n1_ := Aside0.mk (hb); have n2_ := Aside0.mk (ho); clear BK108; clear HB; clear HO_3; have BK108 := n0_; have HB := n1_; have HO113 := n2_; clear n0_ n1_ n2_; clear ho hb hg hat))
              go_roundg k1
              case measure => have := HK1.out; omega
              case rel => exact ⟨(y111), (wrap64 (x8_1 + 1)), (by first | rfl | (simp; done) | (simp [*]; done) | (simp [xt_ne_nil]; done)), H', ⟨by have := HK1.out; omega⟩, ⟨by (with_reducible repeat (first | apply Kd.R_alloc | apply Kd.R_drewN | apply Kd.R_drew)); exact HO113.out⟩, ⟨by repeat (first | (with_reducible first | exact HB.out | apply below_alloc | apply pw_below_drewN | apply below_drew1 | refine below_set ?_ GE108.out) | exact HB.out)⟩⟩
            · rw [if_neg c6] at H
              exact absurd H (by simp)
          · rw [if_neg c4] at H
            exact absurd H (by simp)
        · rw [if_neg c3] at H
          exact absurd H (by simp)
      · rw [if_neg c2] at H
        have c2b0 : decide (x8_1 < (l0.length : Int)) = false := decide_eq_false c2
        clear c2
        obtain rfl := Option.some.inj H
        go_wp2
        go_ret
        exact ⟨_, by first | rfl | (simp [errW_none, errW_some] <;> rfl) | (simp [*, errW_none, errW_some] <;> rfl), by (with_reducible repeat (first | apply Kd.R_alloc | apply Kd.R_drewN | apply Kd.R_drew)); exact HO_3.out, by repeat (first | (with_reducible first | exact HB.out | apply below_alloc | apply pw_below_drewN | apply below_drew1) | exact HB.out)⟩

/-! ### impl_inserted: function 38 -/
/-- The set into which ranges were inserted, one by one. -/
def impl_inserted.f (l0 : List S28) : Option (List S61) := if l0.length ≤ 800000 then some (((l0.map fun x => (x.f0, x.f1)).foldl Rang.ins []).map fun p => (⟨p.1, p.2⟩ : S61)) else none
theorem impl_inserted.calls (A0 : Option Addr) (c0 : Nat) (l0 : List S28) (r : List S61) (w : World) (hr0 : Kd.C k28 w A0 l0.length l0) (hc0 : l0.length ≤ c0) (h : impl_inserted.f l0 = some r) :
    Calls Try.prog 38 #[.slice A0 l0.length c0] w fun e w' => ∃ v0_ : Value, e = .returned (v0_) ∧ Kd.R k61 61 w' w.heap.size (fun _ => True) v0_ r ∧ Below w.heap.size w w' := by
  unfold impl_inserted.f at h
  by_cases hc : l0.length ≤ 800000
  · rw [if_pos hc] at h
    obtain rfl := Option.some.inj h
    have h1 := Rang.inserted_all A0 c0 (l0.map fun x => (x.f0, x.f1)) w (by simpa using hc) (by rw [List.length_map]; exact Rang.C_iso hr0) (by simpa using hc0)
    rw [List.length_map] at h1
    refine h1.mono ?_
    rintro e w' ⟨v, rfl, hR, hB⟩
    refine ⟨v, rfl, Rang.R_iso ?_, hB⟩
    rw [List.map_map]
    have e : ((fun x : S61 => (x.f0, x.f1)) ∘ fun p : Int × Int => (⟨p.1, p.2⟩ : S61)) = id := rfl
    rw [e, List.map_id]
    exact hR
  · rw [if_neg hc] at h; cases h

/-! ### impl_RangesOf: function 14 -/
def impl_RangesOf.f (k : Nat) (l0 : List (S28)) : Option ((List (S28))) := (impl_inserted.f l0).bind fun t114 => ((impl_tellAll.f k t114).bind fun t117 => (some t117))
theorem impl_RangesOf.mono : ∀ a0 k, LeO (impl_RangesOf.f k a0) (impl_RangesOf.f (k + 1) a0) := by
  intro a0 k
  unfold impl_RangesOf.f
  repeat' first
      | (with_reducible exact impl_tellAll.mono _ _)
      | (with_reducible exact LeO.refl _)
      | (with_reducible exact LeO.none _)
      | (with_reducible refine LeO.ite ?_ ?_)
      | (with_reducible refine LeO.bind ?_ (fun _ => ?_))
      | exact impl_tellAll.mono _ _
      | exact LeO.none _
      | refine LeO.ite ?_ ?_
      | refine LeO.bind ?_ (fun _ => ?_)
set_option maxHeartbeats 8000000 in
set_option maxRecDepth 100000 in
theorem impl_RangesOf.calls (k : Nat) (A0 : Option Addr) (c0 : Nat) (l0 : List (S28)) (r : List (S28)) (w : World) (hr0 : Kd.C k28 w A0 l0.length l0) (hc0 : l0.length ≤ c0) (h : impl_RangesOf.f k l0 = some r) :
    Calls Try.prog 14 #[.slice A0 l0.length c0] w fun e w' => ∃ v0_ : Value, e = .returned (v0_) ∧ Kd.R k28 28 w' w.heap.size (fun _ => True) v0_ r ∧ Below w.heap.size w w' := by
  have HR0 := Aside0.mk hr0
  have HC0 := Aside0.mk hc0
  clear hr0 hc0
  have HB := Aside0.mk (Below.refl w.heap.size w)
  have H : ((impl_inserted.f l0).bind fun t114 => ((impl_tellAll.f k t114).bind fun t117 => (some t117))) = some r := h
  clear h
  replace H := Option.bind_eq_some_iff.mp H
  obtain ⟨t114, A20, H⟩ := H
  replace H : ((impl_tellAll.f k t114).bind fun t117 => (some t117)) = some r := H
  have A2 := Aside0.mk A20
  clear A20
  replace H := Option.bind_eq_some_iff.mp H
  obtain ⟨t117, A30, H⟩ := H
  replace H : (some t117) = some r := H
  have A3 := Aside0.mk A30
  clear A30
  obtain rfl := Option.some.inj H
  go_enter Try.func14, Try.ntmps14
  go_wp2_with (first | ((with_reducible refine gate_callee (f := 38) rfl ?_); refine goesL_ (some 4) rfl rfl Try.func38 (by kernel_rfl) rfl #[.slice A0 l0.length c0] rfl (by (try simp only [List.map_toArray, List.map_cons, List.map_nil]); first | done | rfl | (simp only [List.length_drop, List.length_take]; rfl)) ?_; (with_reducible refine (impl_inserted.calls _ _ l0 t114 _ ?side1 ?side2 A2.out).mono ?_); (case side1 => repeat (first | exact HR0.out | (with_reducible refine Kd.C_alloc ?_ _) | (with_reducible refine Kd.C_drewN ?_ _) | (with_reducible refine Kd.C_drew ?_))); (case side2 => exact HC0.out); rintro e w4 ⟨v115, rfl, ho0, hb⟩; refine ⟨_, rfl, ?_⟩; have n0_ := Aside0.mk (Kd.R_lower ho0 (below_size (by repeat (first | (with_reducible first | exact HB.out | apply below_alloc | apply pw_below_drewN | apply below_drew1) | exact HB.out)))); have n1_ := Aside0.mk (below_step (by repeat (first | (with_reducible first | exact HB.out | apply below_alloc | apply pw_below_drewN | apply below_drew1) | exact HB.out)) hb); clear HB; have HO116 := n0_; have HB := n1_; clear n0_ n1_; (try clear hb); (try clear hb2); (try clear hk); (try clear hi); (try clear ho0); obtain ⟨Ao5, co5, eo5⟩ := Kd.R_slice HO116.out; subst eo5) | ((with_reducible refine gate_callee (f := 37) rfl ?_); refine goesL_ (some 5) rfl rfl Try.func37 (by kernel_rfl) rfl #[.slice Ao5 t114.length co5] rfl (by (try simp only [List.map_toArray, List.map_cons, List.map_nil]); first | done | rfl | (simp only [List.length_drop, List.length_take]; rfl)) ?_; (with_reducible refine (impl_tellAll.calls k _ _ t114 t117 _ ?side1 ?side2 A3.out).mono ?_); (case side1 => repeat (first | exact (Kd.R_reads' HO116.out).2.2 | (with_reducible refine Kd.C_alloc ?_ _) | (with_reducible refine Kd.C_drewN ?_ _) | (with_reducible refine Kd.C_drew ?_))); (case side2 => exact (Kd.R_reads' HO116.out).2.1); rintro e w6 ⟨v118, rfl, ho0, hb⟩; refine ⟨_, rfl, ?_⟩; have n0_ := Aside0.mk (Kd.R_below (by (with_reducible repeat (first | apply Kd.R_alloc | apply Kd.R_drewN | apply Kd.R_drew)); exact HO116.out) hb); have n1_ := Aside0.mk (Kd.R_lower ho0 (below_size (by repeat (first | (with_reducible first | exact HB.out | apply below_alloc | apply pw_below_drewN | apply below_drew1) | exact HB.out)))); have n2_ := Aside0.mk (below_step (by repeat (first | (with_reducible first | exact HB.out | apply below_alloc | apply pw_below_drewN | apply below_drew1) | exact HB.out)) hb); clear HO116; clear HB; have HO116 := n0_; have HO119 := n1_; have HB := n2_; clear n0_ n1_ n2_; (try clear hb); (try clear hb2); (try clear hk); (try clear hi); (try clear ho0)))
  go_ret
  exact ⟨_, by first | rfl | (simp [errW_none, errW_some] <;> rfl) | (simp [*, errW_none, errW_some] <;> rfl), by (with_reducible repeat (first | apply Kd.R_alloc | apply Kd.R_drewN | apply Kd.R_drew)); exact HO119.out, by repeat (first | (with_reducible first | exact HB.out | apply below_alloc | apply pw_below_drewN | apply below_drew1) | exact HB.out)⟩

/-! ### spec_RangesSame: function 15 -/
def spec_RangesSame.l0 : Nat → List (S28) → List (S28) → Int → Int → Option (Bool)
  | 0, _, _, _, _ => none
  | k + 1, x0, x1, x12, x13 => if x13 < x12 then (if 0 ≤ x13 then (if x13 < (x0.length : Int) then (if x13 < (x1.length : Int) then (if (!(((rd_T28 x0 x13).f0) == ((rd_T28 x1 x13).f0)) || (!(((rd_T28 x0 x13).f1) == ((rd_T28 x1 x13).f1)))) = true then (some false) else (spec_RangesSame.l0 k x0 x1 x12 (wrap64 (x13 + 1)))) else (none)) else (none)) else (none)) else (some true)
def spec_RangesSame.f (k : Nat) (l0 : List (S28)) (l1 : List (S28)) : Option (Bool) := if (l0.length : Int) = (l1.length : Int) then (spec_RangesSame.l0 k l0 l1 (l0.length : Int) 0) else (some false)
theorem spec_RangesSame.mono_l : ∀ k, (∀ y0 y1 y2 y3, LeO (spec_RangesSame.l0 k y0 y1 y2 y3) (spec_RangesSame.l0 (k + 1) y0 y1 y2 y3))
  | 0 => fun _ _ _ _ r h => by simp [spec_RangesSame.l0] at h
  | k + 1 => by
    have ih0 := spec_RangesSame.mono_l k
    · intro y0 y1 y2 y3
      unfold spec_RangesSame.l0
      repeat' first
      | (with_reducible exact ih0 _ _ _ _)
      | (with_reducible exact LeO.refl _)
      | (with_reducible exact LeO.none _)
      | (with_reducible refine LeO.ite ?_ ?_)
      | (with_reducible refine LeO.bind ?_ (fun _ => ?_))
      | exact ih0 _ _ _ _
      | exact LeO.none _
      | refine LeO.ite ?_ ?_
      | refine LeO.bind ?_ (fun _ => ?_)
theorem spec_RangesSame.mono : ∀ a0 a1 k, LeO (spec_RangesSame.f k a0 a1) (spec_RangesSame.f (k + 1) a0 a1) := by
  intro a0 a1 k
  have ih0 := spec_RangesSame.mono_l k
  unfold spec_RangesSame.f
  repeat' first
      | (with_reducible exact ih0 _ _ _ _)
      | (with_reducible exact LeO.refl _)
      | (with_reducible exact LeO.none _)
      | (with_reducible refine LeO.ite ?_ ?_)
      | (with_reducible refine LeO.bind ?_ (fun _ => ?_))
      | exact ih0 _ _ _ _
      | exact LeO.none _
      | refine LeO.ite ?_ ?_
      | refine LeO.bind ?_ (fun _ => ?_)
set_option maxHeartbeats 8000000 in
set_option maxRecDepth 100000 in
theorem spec_RangesSame.calls (k : Nat) (A0 : Option Addr) (c0 : Nat) (l0 : List (S28)) (A1 : Option Addr) (c1 : Nat) (l1 : List (S28)) (r : Bool) (w : World) (hr0 : Kd.C k28 w A0 l0.length l0) (hc0 : l0.length ≤ c0) (hr1 : Kd.C k28 w A1 l1.length l1) (hc1 : l1.length ≤ c1) (h : spec_RangesSame.f k l0 l1 = some r) :
    Calls Try.prog 15 #[.slice A0 l0.length c0, .slice A1 l1.length c1] w fun e w' => e = .returned (.bool r) ∧ Drawn0 w w' := by
  have hu28 := Try.underlying28
  have HR0 := Aside0.mk hr0
  have HC0 := Aside0.mk hc0
  clear hr0 hc0
  have HR1 := Aside0.mk hr1
  have HC1 := Aside0.mk hc1
  clear hr1 hc1
  have H : (if (l0.length : Int) = (l1.length : Int) then (spec_RangesSame.l0 k l0 l1 (l0.length : Int) 0) else (some false)) = some r := h
  clear h
  by_cases c3 : (l0.length : Int) = (l1.length : Int)
  · rw [if_pos c3] at H
    have c3b0 : ((l0.length : Int) == (l1.length : Int)) = true := beq_iff_eq.mpr c3
    have c3b1 : ((l0.length : Int) != (l1.length : Int)) = false := bne_eq_false_iff_eq.mpr c3
    have c3b2 : (l0.length == l1.length) = true := by first | simpa using c3 | (simp at c3 ⊢; omega)
    clear c3
    have H' := Aside0.mk H
    clear H
    go_enter Try.func15, Try.ntmps15
    go_wp2
    repeat (go_quiet (fail); try go_wp2)
    go_loopg [13] k (fun kq v13 w' => ∃ (x13_1 : Int), v13 = .int .i64 x13_1 ∧ Aside0 (spec_RangesSame.l0 kq l0 l1 (l0.length : Int) x13_1 = some r) ∧ Aside0 (kq ≤ k) ∧ Drawn0 w w')
    case atStart => exact ⟨(0), (by first | rfl | (simp; done) | (simp [*]; done) | (simp [xt_ne_nil]; done)), H', ⟨Nat.le_refl _⟩, by repeat (first | exact Drawn0.refl _ | apply Drawn0.step)⟩
    case round =>
      clear H'
      try clear c1
      try clear p2
      try clear c3
      try clear c3b0
      try clear c3b1
      try clear c3b2
      obtain ⟨x13_1, rfl, HA, HK1, ⟨m1, rfl⟩⟩ := hrel
      cases gk with
      | zero => exact absurd HA.out (by simp [spec_RangesSame.l0])
      | succ k1 =>
        have H := HA.out
        clear HA
        simp only [spec_RangesSame.l0] at H
        by_cases c4 : x13_1 < (l0.length : Int)
        · rw [if_pos c4] at H
          have c4b0 : decide (x13_1 < (l0.length : Int)) = true := decide_eq_true c4
          clear c4
          by_cases c5 : 0 ≤ x13_1
          · rw [if_pos c5] at H
            have c5b0 : decide (0 ≤ x13_1) = true := decide_eq_true c5
            clear c5
            by_cases c6 : x13_1 < (l0.length : Int)
            · rw [if_pos c6] at H
              have c6b0 : decide (x13_1 < (l0.length : Int)) = true := decide_eq_true c6
              clear c6
              by_cases c7 : x13_1 < (l1.length : Int)
              · rw [if_pos c7] at H
                have c7b0 : decide (x13_1 < (l1.length : Int)) = true := decide_eq_true c7
                clear c7
                by_cases c8 : (!(((rd_T28 l0 x13_1).f0) == ((rd_T28 l1 x13_1).f0)) || (!(((rd_T28 l0 x13_1).f1) == ((rd_T28 l1 x13_1).f1)))) = true
                · rw [if_pos c8] at H
                  have c8b0 : (!(((rd_T28 l0 x13_1).f0) == ((rd_T28 l1 x13_1).f0)) || (!(((rd_T28 l0 x13_1).f1) == ((rd_T28 l1 x13_1).f1)))) = true := c8
                  clear c8
                  obtain rfl := Option.some.inj H
                  have p120 : 0 ≤ (x13_1 : Int) := of_decide_eq_true (by first | (with_reducible assumption) | assumption)
                  have q120 : x13_1 < (l0.length : Int) := of_decide_eq_true (by first | (with_reducible assumption) | assumption)
                  obtain ⟨ad120, e120, hx120_0, hx120_1⟩ := at_T28 HR0.out x13_1 p120 q120
                  cases e120
                  replace p120 := eq_true p120
                  replace q120 := eq_true q120
                  have p121 : 0 ≤ (x13_1 : Int) := of_decide_eq_true (by first | (with_reducible assumption) | assumption)
                  have q121 : x13_1 < (l1.length : Int) := of_decide_eq_true (by first | (with_reducible assumption) | assumption)
                  obtain ⟨ad121, e121, hx121_0, hx121_1⟩ := at_T28 HR1.out x13_1 p121 q121
                  cases e121
                  replace p121 := eq_true p121
                  replace q121 := eq_true q121
                  go_wp2
                  repeat (go_quiet (fail); try go_wp2)
                  go_ret
                  exact ⟨by first | rfl | (simp; done) | (simp [*]; done) | (simp [xt_ne_nil]; done), by repeat (first | exact Drawn0.refl _ | apply Drawn0.step)⟩
                · rw [if_neg c8] at H
                  have c8b0 : (!(((rd_T28 l0 x13_1).f0) == ((rd_T28 l1 x13_1).f0)) || (!(((rd_T28 l0 x13_1).f1) == ((rd_T28 l1 x13_1).f1)))) = false := by simpa using c8
                  clear c8
                  have H' := Aside0.mk H
                  clear H
                  have p120 : 0 ≤ (x13_1 : Int) := of_decide_eq_true (by first | (with_reducible assumption) | assumption)
                  have q120 : x13_1 < (l0.length : Int) := of_decide_eq_true (by first | (with_reducible assumption) | assumption)
                  obtain ⟨ad120, e120, hx120_0, hx120_1⟩ := at_T28 HR0.out x13_1 p120 q120
                  cases e120
                  replace p120 := eq_true p120
                  replace q120 := eq_true q120
                  have p121 : 0 ≤ (x13_1 : Int) := of_decide_eq_true (by first | (with_reducible assumption) | assumption)
                  have q121 : x13_1 < (l1.length : Int) := of_decide_eq_true (by first | (with_reducible assumption) | assumption)
                  obtain ⟨ad121, e121, hx121_0, hx121_1⟩ := at_T28 HR1.out x13_1 p121 q121
                  cases e121
                  replace p121 := eq_true p121
                  replace q121 := eq_true q121
                  go_wp2
                  repeat (go_quiet (fail); try go_wp2)
                  go_roundg k1
                  case measure => have := HK1.out; omega
                  case rel => exact ⟨(wrap64 (x13_1 + 1)), (by first | rfl | (simp; done) | (simp [*]; done) | (simp [xt_ne_nil]; done)), H', ⟨by have := HK1.out; omega⟩, by repeat (first | exact Drawn0.refl _ | apply Drawn0.step)⟩
              · rw [if_neg c7] at H
                exact absurd H (by simp)
            · rw [if_neg c6] at H
              exact absurd H (by simp)
          · rw [if_neg c5] at H
            exact absurd H (by simp)
        · rw [if_neg c4] at H
          have c4b0 : decide (x13_1 < (l0.length : Int)) = false := decide_eq_false c4
          clear c4
          obtain rfl := Option.some.inj H
          go_wp2
          repeat (go_quiet (fail); try go_wp2)
          go_ret
          exact ⟨by first | rfl | (simp; done) | (simp [*]; done) | (simp [xt_ne_nil]; done), by repeat (first | exact Drawn0.refl _ | apply Drawn0.step)⟩
  · rw [if_neg c3] at H
    have c3b0 : ((l0.length : Int) == (l1.length : Int)) = false := beq_eq_false_iff_ne.mpr c3
    have c3b1 : ((l0.length : Int) != (l1.length : Int)) = true := bne_iff_ne.mpr c3
    have c3b2 : (l0.length == l1.length) = false := by first | simpa using c3 | (simp at c3 ⊢; omega)
    obtain rfl := Option.some.inj H
    go_enter Try.func15, Try.ntmps15
    go_wp2
    repeat (go_quiet (fail); try go_wp2)
    go_ret
    exact ⟨by first | rfl | (simp; done) | (simp [*]; done) | (simp [xt_ne_nil]; done), by repeat (first | exact Drawn0.refl _ | apply Drawn0.step)⟩

/-! ### impl_tellFound: function 39 -/
def impl_tellFound.l0 : Nat → List (S37) → List (S77) → Int → Int → Option ((List (S37)))
  | 0, _, _, _, _ => none
  | k + 1, x3, x6, x7, x8 => if x8 < x7 then (if 0 ≤ x8 then (if x8 < (x6.length : Int) then ((impl_told.f ((rd_T77 x6 x8).f0.f0) ((rd_T77 x6 x8).f0.f1)).bind fun bt124 => (if x3.length < 5864062014805 then (impl_tellFound.l0 k (x3 ++ [(⟨(⟨bt124.1, bt124.2⟩ : S28), (rd_T77 x6 x8).f1⟩ : S37)]) x6 x7 (wrap64 (x8 + 1))) else (none))) else (none)) else (none)) else (some x3)
def impl_tellFound.f (k : Nat) (l0 : List (S77)) : Option ((List (S37))) := impl_tellFound.l0 k ([] : List (S37)) l0 (l0.length : Int) 0
theorem impl_tellFound.mono_l : ∀ k, (∀ y0 y1 y2 y3, LeO (impl_tellFound.l0 k y0 y1 y2 y3) (impl_tellFound.l0 (k + 1) y0 y1 y2 y3))
  | 0 => fun _ _ _ _ r h => by simp [impl_tellFound.l0] at h
  | k + 1 => by
    have ih0 := impl_tellFound.mono_l k
    · intro y0 y1 y2 y3
      unfold impl_tellFound.l0
      repeat' first
      | (with_reducible exact ih0 _ _ _ _)
      | (with_reducible exact LeO.refl _)
      | (with_reducible exact LeO.none _)
      | (with_reducible refine LeO.ite ?_ ?_)
      | (with_reducible refine LeO.bind ?_ (fun _ => ?_))
      | exact ih0 _ _ _ _
      | exact LeO.none _
      | refine LeO.ite ?_ ?_
      | refine LeO.bind ?_ (fun _ => ?_)
theorem impl_tellFound.mono : ∀ a0 k, LeO (impl_tellFound.f k a0) (impl_tellFound.f (k + 1) a0) := by
  intro a0 k
  have ih0 := impl_tellFound.mono_l k
  unfold impl_tellFound.f
  repeat' first
      | (with_reducible exact ih0 _ _ _ _)
      | (with_reducible exact LeO.refl _)
      | (with_reducible exact LeO.none _)
      | (with_reducible refine LeO.ite ?_ ?_)
      | (with_reducible refine LeO.bind ?_ (fun _ => ?_))
      | exact ih0 _ _ _ _
      | exact LeO.none _
      | refine LeO.ite ?_ ?_
      | refine LeO.bind ?_ (fun _ => ?_)
def impl_tellFound.T5 : Bool × List (List Nat × List Nat) := (true, [([], []), ([], []), ([1], [1]), ([2], [2]), ([], []), ([4], [4]), ([3, 5], [3, 5]), ([6], [6]), ([0, 7, 3], [0, 7]), ([8, 8, 0, 1, 2, 3, 4, 5, 6, 7, 8], [0, 8])])
def impl_tellFound.B5 : List Nat := [0, 0, 2, 6, 0, 16, 62, 126, 255, 511]
theorem impl_tellFound.tab5 : rtab .any (opsOf Try.f39 5) = impl_tellFound.T5 := by kernel_rfl
theorem impl_tellFound.bits5 : waitsOk impl_tellFound.T5.2 impl_tellFound.B5 = true := by kernel_rfl
set_option maxHeartbeats 8000000 in
set_option maxRecDepth 100000 in
theorem impl_tellFound.calls (k : Nat) (A0 : Option Addr) (c0 : Nat) (l0 : List (S77)) (r : List (S37)) (w : World) (hr0 : Kd.C k77 w A0 l0.length l0) (hc0 : l0.length ≤ c0) (h : impl_tellFound.f k l0 = some r) :
    Calls Try.prog 39 #[.slice A0 l0.length c0] w fun e w' => ∃ v0_ : Value, e = .returned (v0_) ∧ Kd.R k37 37 w' w.heap.size (fun _ => True) v0_ r ∧ Below w.heap.size w w' := by
  have hu77 := Try.underlying77
  have hu61 := Try.underlying61
  have hu37 := Try.underlying37
  have HR0 := Aside0.mk hr0
  have HC0 := Aside0.mk hc0
  clear hr0 hc0
  have HB := Aside0.mk (Below.refl w.heap.size w)
  have H : (impl_tellFound.l0 k ([] : List (S37)) l0 (l0.length : Int) 0) = some r := h
  clear h
  have H' := Aside0.mk H
  clear H
  go_enter Try.func39, Try.ntmps39
  go_wp2
  go_loopg [3, 8] k (fun kq v3 v8 w' => ∃ (x3_1 : List (S37)) (x8_1 : Int), v8 = .int .i64 x8_1 ∧ Aside0 (impl_tellFound.l0 kq x3_1 l0 (l0.length : Int) x8_1 = some r) ∧ Aside0 (kq ≤ k) ∧ Aside0 (Kd.R k37 37 w' w.heap.size (fun _ => True) v3 x3_1) ∧ Aside0 (Below w.heap.size w w'))
  case atStart => exact ⟨(([] : List (S37))), (0), (by first | rfl | (simp; done) | (simp [*]; done) | (simp [xt_ne_nil]; done)), H', ⟨Nat.le_refl _⟩, ⟨by first | exact Kd.R_nil _ _ _ _ _ | exact Kd.N_nil _ _ _ _ _ | exact Kd.V_nil _ _ _ _ _ | exact Kd.Q_nil _ _ _ _ _ | exact Kd.S_nil _ _ _ _ _⟩, ⟨by repeat (first | (with_reducible first | exact HB.out | apply below_alloc | apply pw_below_drewN | apply below_drew1) | exact HB.out)⟩⟩
  case round =>
    clear H'
    obtain ⟨x3_1, x8_1, rfl, HA, HK1, HO_3, HB⟩ := hrel
    cases gk with
    | zero => exact absurd HA.out (by simp [impl_tellFound.l0])
    | succ k1 =>
      have H := HA.out
      clear HA
      simp only [impl_tellFound.l0] at H
      by_cases c2 : x8_1 < (l0.length : Int)
      · rw [if_pos c2] at H
        have c2b0 : decide (x8_1 < (l0.length : Int)) = true := decide_eq_true c2
        clear c2
        by_cases c3 : 0 ≤ x8_1
        · rw [if_pos c3] at H
          have c3b0 : decide (0 ≤ x8_1) = true := decide_eq_true c3
          clear c3
          by_cases c4 : x8_1 < (l0.length : Int)
          · rw [if_pos c4] at H
            have c4b0 : decide (x8_1 < (l0.length : Int)) = true := decide_eq_true c4
            clear c4
            replace H := Option.bind_eq_some_iff.mp H
            obtain ⟨⟨t124, t125⟩, A50, H⟩ := H
            replace H : (if x3_1.length < 5864062014805 then (impl_tellFound.l0 k1 (x3_1 ++ [(⟨(⟨t124, t125⟩ : S28), (rd_T77 l0 x8_1).f1⟩ : S37)]) l0 (l0.length : Int) (wrap64 (x8_1 + 1))) else (none)) = some r := H
            have A5 := Aside0.mk A50
            clear A50
            by_cases c6 : x3_1.length < 5864062014805
            · rw [if_pos c6] at H
              have LMc6 := Aside0.mk c6
              clear c6
              obtain ⟨y126, hy126⟩ : ∃ y_ : List (S37), y_ = (x3_1 ++ [(⟨(⟨t124, t125⟩ : S28), (rd_T77 l0 x8_1).f1⟩ : S37)]) := ⟨_, rfl⟩
              replace H : (impl_tellFound.l0 k1 y126 l0 (l0.length : Int) (wrap64 (x8_1 + 1))) = some r := by first | (rw [hy126]; with_reducible exact H) | (have H2_ := (Option.bind_some _ _).symm.trans H; rw [hy126]; with_reducible exact H2_) | (have H2_ := (Option.bind_some _ _).symm.trans H; with_reducible exact H2_) | with_reducible exact H | (rw [hy126]; exact H) | exact H
              have Ny126 := Aside0.mk hy126
              clear hy126
              have H' := Aside0.mk H
              clear H
              have p122 : 0 ≤ (x8_1 : Int) := of_decide_eq_true (by first | (with_reducible assumption) | assumption)
              have q122 : x8_1 < (l0.length : Int) := of_decide_eq_true (by first | (with_reducible assumption) | assumption)
              obtain ⟨ad122, e122, hx122_0, hx122_1, hx122_2⟩ := at_T77 HR0.out x8_1 p122 q122
              cases e122
              replace hx122_0 := (HB.out.cell (World.block_lt_of_cell? w _ hx122_0)).trans hx122_0
              replace hx122_1 := (HB.out.cell (World.block_lt_of_cell? w _ hx122_1)).trans hx122_1
              replace hx122_2 := (HB.out.cell (World.block_lt_of_cell? w _ hx122_2)).trans hx122_2
              replace p122 := eq_true p122
              replace q122 := eq_true q122
              try go_wp2_with (first | ((with_reducible refine gate_dst (N := 5) rfl ?_); refine box_event ?hg (N := 5) ?hd (cs := #[.int .i64 0, .int .i64 0, .bool false]) (t := 77) ?hr ?_; (case hd => rfl); (case hg => rfl); (case hr => first | (go_simp; done) | (go_simp; rfl)); intro gb123 hg w7 hbox hb; have n0_ := Aside0.mk (Kd.R_below (by (with_reducible repeat (first | apply Kd.R_alloc | apply Kd.R_drewN | apply Kd.R_drew)); exact HO_3.out) hb); have n1_ := Aside0.mk (below_step (by repeat (first | (with_reducible first | exact HB.out | apply below_alloc | apply pw_below_drewN | apply below_drew1) | exact HB.out)) hb); have n2_ := Aside0.mk (hbox); have n3_ := Aside0.mk ((by rw [hg]; exact (below_size (by repeat (first | (with_reducible first | exact HB.out | apply below_alloc | apply pw_below_drewN | apply below_drew1) | exact HB.out))) : w.heap.size ≤ gb123)); have n4_ := Aside0.mk ((by rw [hg]; exact (below_size (by repeat (first | (with_reducible first | exact HB.out | apply below_alloc | apply pw_below_drewN | apply below_drew1) | exact HB.out))) : w.heap.size ≤ gb123)); clear HO_3; clear HB; have HO_3 := n0_; have HB := n1_; have BK123 := n2_; have GW123 := n3_; have GE123 := n4_; clear n0_ n1_ n2_ n3_ n4_; clear hb hbox hg; have hcz8_0 : w7.cell? ⟨gb123, 0, none⟩ = some (.int .i64 0) := (blk_cell BK123.out 0).trans rfl; have hcz8_1 : w7.cell? ⟨gb123, 1, none⟩ = some (.int .i64 0) := (blk_cell BK123.out 1).trans rfl; have hcz8_2 : w7.cell? ⟨gb123, 2, none⟩ = some (.bool false) := (blk_cell BK123.out 2).trans rfl; have hfz8_0 := blk_frozen BK123.out 0; have hfz8_1 := blk_frozen BK123.out 1; have hfz8_2 := blk_frozen BK123.out 2))
              have n0_ : Aside0 (Kd.R k37 37 (((w7.setCell ⟨gb123, 0, none⟩ (.int .i64 ((rd_T77 l0 x8_1).f0.f0))).setCell ⟨gb123, 1, none⟩ (.int .i64 ((rd_T77 l0 x8_1).f0.f1))).setCell ⟨gb123, 2, none⟩ (.bool ((rd_T77 l0 x8_1).f1))) w.heap.size (fun _ => True) u3 x3_1) := ⟨by (with_reducible repeat (first | apply Kd.R_alloc | apply Kd.R_drewN | apply Kd.R_drew)); exact Kd.R_mono (Kd.R_far (p := ⟨gb123, 2, none⟩) (Kd.R_far (p := ⟨gb123, 1, none⟩) (Kd.R_far (p := ⟨gb123, 0, none⟩) (Kd.R_types HO_3.out BK123.out (by decide)) (fun _ hk => hk.2) (.int .i64 ((rd_T77 l0 x8_1).f0.f0))) (fun _ hk => hk.2) (.int .i64 ((rd_T77 l0 x8_1).f0.f1))) (fun _ hk => hk.2) (.bool ((rd_T77 l0 x8_1).f1))) (fun _ hk => trivial)⟩
              have n1_ : Aside0 ((((w7.setCell ⟨gb123, 0, none⟩ (.int .i64 ((rd_T77 l0 x8_1).f0.f0))).setCell ⟨gb123, 1, none⟩ (.int .i64 ((rd_T77 l0 x8_1).f0.f1))).setCell ⟨gb123, 2, none⟩ (.bool ((rd_T77 l0 x8_1).f1))).heap[gb123]? = some (.cells #[.int .i64 ((rd_T77 l0 x8_1).f0.f0), .int .i64 ((rd_T77 l0 x8_1).f0.f1), .bool ((rd_T77 l0 x8_1).f1)] 77 (0, 0))) := ⟨by (with_reducible repeat (first | refine blk_drewN ?_ _ | refine blk_drew ?_ | refine blk_alloc ?_ _)); refine blk_put (cs := #[.int .i64 ((rd_T77 l0 x8_1).f0.f0), .int .i64 ((rd_T77 l0 x8_1).f0.f1), .bool false]) ?_ 2 _ rfl; (with_reducible repeat (first | refine blk_drewN ?_ _ | refine blk_drew ?_ | refine blk_alloc ?_ _)); refine blk_put (cs := #[.int .i64 ((rd_T77 l0 x8_1).f0.f0), .int .i64 0, .bool false]) ?_ 1 _ rfl; (with_reducible repeat (first | refine blk_drewN ?_ _ | refine blk_drew ?_ | refine blk_alloc ?_ _)); refine blk_put (cs := #[.int .i64 0, .int .i64 0, .bool false]) ?_ 0 _ rfl; (with_reducible repeat (first | refine blk_drewN ?_ _ | refine blk_drew ?_ | refine blk_alloc ?_ _)); exact BK123.out⟩
              have n2_ : Aside0 (Below w.heap.size w (((w7.setCell ⟨gb123, 0, none⟩ (.int .i64 ((rd_T77 l0 x8_1).f0.f0))).setCell ⟨gb123, 1, none⟩ (.int .i64 ((rd_T77 l0 x8_1).f0.f1))).setCell ⟨gb123, 2, none⟩ (.bool ((rd_T77 l0 x8_1).f1)))) := ⟨by repeat (first | (with_reducible first | exact HB.out | apply below_alloc | apply pw_below_drewN | apply below_drew1 | refine below_set ?_ GE123.out) | exact HB.out)⟩
              (try clear HO_3)
              (try clear BK123)
              (try clear HB)
              generalize (((w7.setCell ⟨gb123, 0, none⟩ (.int .i64 ((rd_T77 l0 x8_1).f0.f0))).setCell ⟨gb123, 1, none⟩ (.int .i64 ((rd_T77 l0 x8_1).f0.f1))).setCell ⟨gb123, 2, none⟩ (.bool ((rd_T77 l0 x8_1).f1))) = w9 at n0_ n1_ n2_ ⊢
              have HO_3 := n0_
              have BK123 := n1_
              have HB := n2_
              clear n0_ n1_ n2_
              have n0_ := Aside0.mk (Kd.R_drew HO_3.out)
              have n1_ := Aside0.mk (blk_drew BK123.out)
              have n2_ := Aside0.mk (below_drew1 HB.out)
              clear HO_3
              clear BK123
              clear HB
              have HO_3 := n0_
              have BK123 := n1_
              have HB := n2_
              clear n0_ n1_ n2_
              refine start_ (n := 10) (S := fun w' => w'.cell? ⟨gb123, 0, none⟩ = some (.int .i64 ((rd_T77 l0 x8_1).f0.f0)) ∧ w'.cell? ⟨gb123, 1, none⟩ = some (.int .i64 ((rd_T77 l0 x8_1).f0.f1)) ∧ w'.cell? ⟨gb123, 2, none⟩ = some (.bool ((rd_T77 l0 x8_1).f1))) (ds := []) #[false, false, false, false, false, false, false, false, false, false] (by kernel_rfl) rfl rfl ⟨(blk_cell BK123.out 0).trans rfl, (blk_cell BK123.out 1).trans rfl, (blk_cell BK123.out 2).trans rfl⟩ (fun hHeld => ?_); refine with_tabW impl_tellFound.tab5 impl_tellFound.bits5 (fun HT_ HW_ => ?_)
              generalize w9.drew = w10 at HO_3 BK123 HB hHeld ⊢
              refine pure_ (i := 0) (N := some 12) (v := ?_) (a' := ?_) #[true, false, false, false, false, false, false, false, false, false] rfl rfl (any_of HT_.out (by kernel_rfl)) (fun _ _ _ h => h) (Or.inl ⟨by rfl, ?_⟩) ?_ ?_
              rotate_left
              · intro w'
                go_simp
                with_reducible rfl
              rotate_left
              · simp only [Act.put, List.setIfInBounds_toArray, List.set_cons_zero, List.set_cons_succ, i64_w, i32_w]
                rfl
              refine pure_ (i := 1) (N := some 13) (v := ?_) (a' := ?_) #[true, true, false, false, false, false, false, false, false, false] rfl rfl (any_of HT_.out (by kernel_rfl)) (fun _ _ _ h => h) (Or.inl ⟨by rfl, ?_⟩) ?_ ?_
              rotate_left
              · intro w'
                go_simp
                with_reducible rfl
              rotate_left
              · simp only [Act.put, List.setIfInBounds_toArray, List.set_cons_zero, List.set_cons_succ, i64_w, i32_w]
                rfl
              refine pure_ (i := 4) (N := some 16) (v := ?_) (a' := ?_) #[true, true, false, false, true, false, false, false, false, false] rfl rfl (any_of HT_.out (by kernel_rfl)) (fun _ _ _ h => h) (Or.inl ⟨by rfl, ?_⟩) ?_ ?_
              rotate_left
              · intro w'
                go_simp
                with_reducible rfl
              rotate_left
              · simp only [Act.put, List.setIfInBounds_toArray, List.set_cons_zero, List.set_cons_succ, i64_w, i32_w]
                rfl
              refine take_ (i := 2) (N := some 14) (v := ?_) (a' := ?_) #[true, true, true, false, true, false, false, false, false, false] rfl rfl (take_ofW HT_.out HW_.out (by kernel_rfl)) (fun _ _ _ h => h) (Or.inl ⟨by rfl, ?_⟩) hHeld ?_ ?_
              rotate_left
              · rintro w' ⟨s0, s1, s2⟩
                go_simp
                with_reducible rfl
              rotate_left
              · simp only [Act.put, List.setIfInBounds_toArray, List.set_cons_zero, List.set_cons_succ, i64_w, i32_w]
                rfl
              refine take_ (i := 5) (N := some 17) (v := ?_) (a' := ?_) #[true, true, true, false, true, true, false, false, false, false] rfl rfl (take_ofW HT_.out HW_.out (by kernel_rfl)) (fun _ _ _ h => h) (Or.inl ⟨by rfl, ?_⟩) hHeld ?_ ?_
              rotate_left
              · rintro w' ⟨s0, s1, s2⟩
                go_simp
                with_reducible rfl
              rotate_left
              · simp only [Act.put, List.setIfInBounds_toArray, List.set_cons_zero, List.set_cons_succ, i64_w, i32_w]
                rfl
              refine one_ (i := 3) (N := some 15) #[true, true, true, true, true, true, false, false, false, false] rfl rfl (one_of HT_.out (by kernel_rfl)) (by decide) (fun K hK => ?_)
              refine goes_ Try.func45 (by kernel_rfl) rfl #[.agg #[.int .i64 ((rd_T77 l0 x8_1).f0.f0), .int .i64 ((rd_T77 l0 x8_1).f0.f1)]] (by rfl) rfl rfl (by (try simp only [List.map_toArray, List.map_cons, List.map_nil]); first | done | rfl | (simp only [List.length_drop, List.length_take]; rfl)) ?_
              with_reducible refine (impl_told.calls ((rd_T77 l0 x8_1).f0.f0) ((rd_T77 l0 x8_1).f0.f1) t124 t125 _ A5.out).mono ?_
              rintro e w11 ⟨rfl, hb⟩
              refine ⟨_, rfl, ?_⟩
              have n0_ := Aside0.mk (Kd.R_below (by (with_reducible repeat (first | apply Kd.R_alloc | apply Kd.R_drewN | apply Kd.R_drew)); exact HO_3.out) hb)
              have n1_ := Aside0.mk (blk_below (g := gb123) (o := .cells #[.int .i64 ((rd_T77 l0 x8_1).f0.f0), .int .i64 ((rd_T77 l0 x8_1).f0.f1), .bool ((rd_T77 l0 x8_1).f1)] 77 (0, 0)) (by (with_reducible repeat (first | refine blk_drewN ?_ _ | refine blk_drew ?_ | refine blk_alloc ?_ _)); exact BK123.out) hb)
              have n2_ := Aside0.mk (below_step (by repeat (first | (with_reducible first | exact HB.out | apply below_alloc | apply pw_below_drewN | apply below_drew1 | refine below_set ?_ GE123.out) | exact HB.out)) hb)
              clear HO_3
              clear BK123
              clear HB
              have HO_3 := n0_
              have BK123 := n1_
              have HB := n2_
              clear n0_ n1_ n2_
              (try clear hb)
              (try clear hb2)
              (try clear hk)
              (try clear hi)
              refine hK.out _ _ ⟨(blk_cell BK123.out 0).trans rfl, (blk_cell BK123.out 1).trans rfl, (blk_cell BK123.out 2).trans rfl⟩ (fun hHeld => ?_)
              clear hK K
              refine norm_ (a' := ?_) ?_ ?_
              rotate_left
              · show Act.put _ (some 15) _ = _
                simp only [Act.put, List.setIfInBounds_toArray, List.set_cons_zero, List.set_cons_succ, i64_w, i32_w]
                rfl
              refine pure_ (i := 6) (N := some 18) (v := ?_) (a' := ?_) #[true, true, true, true, true, true, true, false, false, false] rfl rfl (any_of HT_.out (by kernel_rfl)) (fun _ _ _ h => h) (Or.inl ⟨by rfl, ?_⟩) ?_ ?_
              rotate_left
              · intro w'
                go_simp
                with_reducible rfl
              rotate_left
              · simp only [Act.put, List.setIfInBounds_toArray, List.set_cons_zero, List.set_cons_succ, i64_w, i32_w]
                rfl
              refine one_ (i := 7) (N := some 19) #[true, true, true, true, true, true, true, true, false, false] rfl rfl (one_of HT_.out (by kernel_rfl)) (by decide) (fun K hK => ?_)
              refine value_ (w1 := ?_) (v := ?_) (by rfl) rfl ?_ ?_
              rotate_left 2
              · go_simp
                constructor
                · rfl
                · rfl
              refine hK.out _ _ ⟨(blk_cell (blk_alloc BK123.out _) 0).trans rfl, (blk_cell (blk_alloc BK123.out _) 1).trans rfl, (blk_cell (blk_alloc BK123.out _) 2).trans rfl⟩ (fun hHeld => ?_)
              clear hK K
              refine norm_ (a' := ?_) ?_ ?_
              rotate_left
              · show Act.put _ (some 19) _ = _
                simp only [Act.put, List.setIfInBounds_toArray, List.set_cons_zero, List.set_cons_succ, i64_w, i32_w]
                rfl
              refine one_ (i := 8) (N := some 20) #[true, true, true, true, true, true, true, true, true, false] rfl rfl (one_of HT_.out (by kernel_rfl)) (by decide) (fun K hK => ?_)
              refine Kd.R_append_step k37 (w0 := w) w.heap.size (by rfl) (.tmp 12) (.tmp 19) 31 37 (.agg #[(.int .i64 0), (.int .i64 0), (.bool false)]) 24 rfl Try.underlying31 info37 rfl (by decide) (by omega) u3 x3_1 (⟨(⟨t124, t125⟩ : S28), (rd_T77 l0 x8_1).f1⟩ : S37) [.int .i64 t124, .int .i64 t125, .bool ((rd_T77 l0 x8_1).f1)] (fun _ => True) (fun _ => False) rfl rfl ?aP (fun _ hk => hk.elim) ?aF ?aO ?aB ?aS ?aL ?_
              (case aP => exact k37_mkM _ _ _ (⟨(⟨t124, t125⟩ : S28), (rd_T77 l0 x8_1).f1⟩ : S37))
              (case aB => exact (by repeat (first | (with_reducible first | exact HB.out | apply below_alloc | apply pw_below_drewN | apply below_drew1 | refine below_set ?_ GE123.out) | exact HB.out)))
              (case aF => exact (fun _ _ => trivial))
              (case aO => exact (by (with_reducible repeat (first | apply Kd.R_alloc | apply Kd.R_drewN | apply Kd.R_drew)); exact HO_3.out))
              (case aS => exact (below_size (by repeat (first | (with_reducible first | exact HB.out | apply below_alloc | apply pw_below_drewN | apply below_drew1 | refine below_set ?_ GE123.out) | exact HB.out))))
              (case aL => have := LMc6.out; omega)
              intro v127 w12 ho hb hg hat
              rw [← Ny126.out] at ho
              have n0_ := Aside0.mk (blk_grown (g := gb123) (o := .cells #[.int .i64 ((rd_T77 l0 x8_1).f0.f0), .int .i64 ((rd_T77 l0 x8_1).f0.f1), .bool ((rd_T77 l0 x8_1).f1)] 77 (0, 0)) (by (with_reducible repeat (first | refine blk_drewN ?_ _ | refine blk_drew ?_ | refine blk_alloc ?_ _)); exact BK123.out) hg (Kd.R_ne HO_3.out BK123.out (by decide)))
              have n1_ := Aside0.mk (hb)
              have n2_ := Aside0.mk (ho)
              clear BK123
              clear HB
              clear HO_3
              have BK123 := n0_
              have HB := n1_
              have HO128 := n2_
              clear n0_ n1_ n2_
              clear ho hb hg hat
              refine hK.out _ _ ⟨(blk_cell BK123.out 0).trans rfl, (blk_cell BK123.out 1).trans rfl, (blk_cell BK123.out 2).trans rfl⟩ (fun hHeld => ?_)
              clear hK K
              refine norm_ (a' := ?_) ?_ ?_
              rotate_left
              · show Act.put _ (some 20) _ = _
                simp only [Act.put, List.setIfInBounds_toArray, List.set_cons_zero, List.set_cons_succ, i64_w, i32_w]
                rfl
              refine pure_ (i := 9) (N := some 3) (v := ?_) (a' := ?_) #[true, true, true, true, true, true, true, true, true, true] rfl rfl (any_of HT_.out (by kernel_rfl)) (fun _ _ _ h => h) (Or.inl ⟨by rfl, ?_⟩) ?_ ?_
              rotate_left
              · intro w'
                go_simp
                with_reducible rfl
              rotate_left
              · simp only [Act.put, List.setIfInBounds_toArray, List.set_cons_zero, List.set_cons_succ, i64_w, i32_w]
                rfl
              refine done_ (done_of HT_.out (by kernel_rfl)) ?_
              try go_wp2
              go_roundg k1
              case measure => have := HK1.out; omega
              case rel => exact ⟨(y126), (wrap64 (x8_1 + 1)), (by first | rfl | (simp; done) | (simp [*]; done) | (simp [xt_ne_nil]; done)), H', ⟨by have := HK1.out; omega⟩, ⟨by (with_reducible repeat (first | apply Kd.R_alloc | apply Kd.R_drewN | apply Kd.R_drew)); exact HO128.out⟩, ⟨by repeat (first | (with_reducible first | exact HB.out | apply below_alloc | apply pw_below_drewN | apply below_drew1 | refine below_set ?_ GE123.out) | exact HB.out)⟩⟩
            · rw [if_neg c6] at H
              exact absurd H (by simp)
          · rw [if_neg c4] at H
            exact absurd H (by simp)
        · rw [if_neg c3] at H
          exact absurd H (by simp)
      · rw [if_neg c2] at H
        have c2b0 : decide (x8_1 < (l0.length : Int)) = false := decide_eq_false c2
        clear c2
        obtain rfl := Option.some.inj H
        go_wp2
        go_ret
        exact ⟨_, by first | rfl | (simp [errW_none, errW_some] <;> rfl) | (simp [*, errW_none, errW_some] <;> rfl), by (with_reducible repeat (first | apply Kd.R_alloc | apply Kd.R_drewN | apply Kd.R_drew)); exact HO_3.out, by repeat (first | (with_reducible first | exact HB.out | apply below_alloc | apply pw_below_drewN | apply below_drew1) | exact HB.out)⟩

/-! ### ranges_Ranges_Find: function 44 -/
/-- What is found of a range in a set. -/
def ranges_Ranges_Find.f (l0 : List S61) (a1_0 a1_1 : Int) : Option (Int × Int × Int × Int × Bool) :=
  if l0.length ≤ 1000000 then some (let q := Rang.find (l0.map fun x => (x.f0, x.f1)) (a1_0, a1_1); (q.1.1, q.1.2, q.2.1.1, q.2.1.2, q.2.2)) else none
theorem ranges_Ranges_Find.calls (A0 : Option Addr) (c0 : Nat) (l0 : List S61) (a1_0 a1_1 : Int) (r1 r2 r3 r4 : Int) (r5 : Bool) (w : World) (hr0 : Kd.C k61 w A0 l0.length l0) (hc0 : l0.length ≤ c0) (h : ranges_Ranges_Find.f l0 a1_0 a1_1 = some (r1, r2, r3, r4, r5)) :
    Calls Try.prog 44 #[.slice A0 l0.length c0, .agg #[.int .i64 a1_0, .int .i64 a1_1]] w fun e w' => e = .returned (.tuple #[.agg #[.int .i64 r1, .int .i64 r2], .agg #[.int .i64 r3, .int .i64 r4], .bool r5]) ∧ Below w.heap.size w w' := by
  unfold ranges_Ranges_Find.f at h
  by_cases hc : l0.length ≤ 1000000
  · rw [if_pos hc] at h
    simp only [Option.some.injEq, Prod.mk.injEq] at h
    obtain ⟨rfl, rfl, rfl, rfl, rfl⟩ := h
    have h1 := Rang.find_all A0 c0 (l0.map fun x => (x.f0, x.f1)) (a1_0, a1_1) w (by simpa using hc) (by rw [List.length_map]; exact Rang.C_iso hr0)
    rw [List.length_map] at h1
    exact h1
  · rw [if_neg hc] at h; cases h

/-! ### ranges_Range_IsEmpty: function 48 -/
def ranges_Range_IsEmpty.f (a0_0 : Int) (a0_1 : Int) : Option (Bool) := some (decide (a0_1 ≤ 0))
set_option maxHeartbeats 8000000 in
set_option maxRecDepth 100000 in
theorem ranges_Range_IsEmpty.calls (a0_0 : Int) (a0_1 : Int) (r : Bool) (w : World) (h : ranges_Range_IsEmpty.f a0_0 a0_1 = some r) :
    Calls Try.prog 48 #[.agg #[.int .i64 a0_0, .int .i64 a0_1]] w fun e w' => e = .returned (.bool r) ∧ Below w.heap.size w w' := by
  have hu61 := Try.underlying61
  have HB := Aside0.mk (Below.refl w.heap.size w)
  have H : (some (decide (a0_1 ≤ 0))) = some r := h
  clear h
  obtain rfl := Option.some.inj H
  go_enter Try.func48, Try.ntmps48
  go_wp2_with (first | ((with_reducible refine gate_dst (N := 1) rfl ?_); refine box_event ?hg (N := 1) ?hd (cs := #[.int .i64 a0_0, .int .i64 a0_1]) (t := 61) ?hr ?_; (case hd => rfl); (case hg => rfl); (case hr => first | (go_simp; done) | (go_simp; rfl)); intro gb129 hg w2 hbox hb; have n0_ := Aside0.mk (below_step (by repeat (first | (with_reducible first | exact HB.out | apply below_alloc | apply pw_below_drewN | apply below_drew1) | exact HB.out)) hb); have n1_ := Aside0.mk (hbox); have n2_ := Aside0.mk ((by rw [hg]; exact (below_size (by repeat (first | (with_reducible first | exact HB.out | apply below_alloc | apply pw_below_drewN | apply below_drew1) | exact HB.out))) : w.heap.size ≤ gb129)); have n3_ := Aside0.mk ((by rw [hg]; exact (below_size (by repeat (first | (with_reducible first | exact HB.out | apply below_alloc | apply pw_below_drewN | apply below_drew1) | exact HB.out))) : w.heap.size ≤ gb129)); clear HB; have HB := n0_; have BK129 := n1_; have GW129 := n2_; have GE129 := n3_; clear n0_ n1_ n2_ n3_; clear hb hbox hg; have hcz3_0 : w2.cell? ⟨gb129, 0, none⟩ = some (.int .i64 a0_0) := (blk_cell BK129.out 0).trans rfl; have hcz3_1 : w2.cell? ⟨gb129, 1, none⟩ = some (.int .i64 a0_1) := (blk_cell BK129.out 1).trans rfl; have hfz3_0 := blk_frozen BK129.out 0; have hfz3_1 := blk_frozen BK129.out 1))
  go_ret
  exact ⟨by first | rfl | (simp [errW_none, errW_some] <;> rfl) | (simp [*, errW_none, errW_some] <;> rfl), by repeat (first | (with_reducible first | exact HB.out | apply below_alloc | apply pw_below_drewN | apply below_drew1 | refine below_set ?_ GE129.out) | exact HB.out)⟩

end Go.Proofs.Ytfegihmnpcjdgaa.PFnRangesFill

-- Written by a program of this session's (over the kit's print), with contracts proved by hand among what it calls.
import Derived.Test.YtfegihmnpcjdgaaProg
import Derived.Below
import Derived.Deep.Draws
import Derived.Deep.AppendLies
import Derived.Maps.AppendAt
import Derived.OwnWalk
import Derived.Laws.BytesArg
import Derived.Laws.MakeOwn
import Derived.Laws.OwnMore
import Derived.Deep.OwnRows
import Derived.Tactics
import Derived.Lib.ConvBytes
import Derived.Laws.Slices
import Derived.WalkKit
import Derived.KernelRfl
import Derived.RowKit3
import Derived.Deep.LoopGhost
import Derived.Deep.QuietTactic
import Derived.BigQuiet
import Derived.WideLaws
import Derived.Deep.DeepCutAuto
import Derived.Deep.CutBlock
import Derived.Deep.RegionHeld3
import Derived.Laws.Rows
import Derived.Lib.AppendStr
import Derived.ArgAppend
import Derived.Laws.IdiomCopy
import Derived.OrdersHeld
import Derived.Laws.BitsLemmas
import Derived.RowKit
import Derived.Lib.Hide
import Derived.Test.YtfegihmnpcjdgaaRang9
import Derived.Lib.Hide
import Derived.Test.YtfegihmnpcjdgaaRang9
import Derived.Test.YtfegihmnpcjdgaaWWords
import Derived.Test.YtfegihmnpcjdgaaWLast
import Derived.Test.YtfegihmnpcjdgaaWTab
import Derived.Test.YtfegihmnpcjdgaaWFour
import Derived.Test.YtfegihmnpcjdgaaWQPut
import Derived.Test.YtfegihmnpcjdgaaWApart
import Derived.Test.YtfegihmnpcjdgaaWArr
import Derived.Test.YtfegihmnpcjdgaaWZeros
import Derived.Test.YtfegihmnpcjdgaaWFoot
import Derived.Test.YtfegihmnpcjdgaaWKept
import Derived.Test.YtfegihmnpcjdgaaWShare
import Derived.Test.YtfegihmnpcjdgaaWN
import Derived.Test.YtfegihmnpcjdgaaWFootNe
import Derived.Test.YtfegihmnpcjdgaaWAt
import Derived.Test.YtfegihmnpcjdgaaWEqStruct
import Derived.Test.YtfegihmnpcjdgaaWRepsOne
import Derived.Test.YtfegihmnpcjdgaaWInv
import Derived.Test.YtfegihmnpcjdgaaWInvWords
import Derived.Test.YtfegihmnpcjdgaaWGuard
import Derived.Test.YtfegihmnpcjdgaaWNEv
import Derived.Test.YtfegihmnpcjdgaaWMore
namespace Go.Proofs.Ytfegihmnpcjdgaa.RangInter
open Go.RowKit Go.Proofs.YtfegihmnpcjdgaaW.PrintWords Go.Proofs.YtfegihmnpcjdgaaW.PrintLast Go.Proofs.YtfegihmnpcjdgaaW.PrintMore
attribute [local go_sem] max2_int min2_int max_two min_two max_three min_three max_four min_four   -- for this text's walks alone
set_option linter.unusedVariables false
set_option linter.unusedSimpArgs false



def errW : Option Int → Value
 | none => .nilIface
 | some c => .iface 0 (.int .i64 c)
theorem errW_none : errW none = .nilIface := rfl
theorem errW_some (c : Int) : errW (some c) = .iface 0 (.int .i64 c) := rfl

theorem xt_ne_nil (l : List UInt8) : (l != ([] : List UInt8)) = !l.isEmpty := by cases l <;> rfl
theorem info28 : (Try.prog.info? 28).map (fun i => (i.zero, i.size, i.bytes)) = some (some (.agg #[(.int .i64 0), (.int .i64 0)]), 2, 16) := by kernel_rfl
theorem info37 : (Try.prog.info? 37).map (fun i => (i.zero, i.size, i.bytes)) = some (some (.agg #[(.int .i64 0), (.int .i64 0), (.bool false)]), 3, 24) := by kernel_rfl
set_option linter.unusedVariables false
/-! ### ranges_Range_End: function 49 -/
def ranges_Range_End.f (a0_0 : Int) (a0_1 : Int) : Option (Int) := some (wrap64 (a0_0 + a0_1))
set_option maxHeartbeats 8000000 in
set_option maxRecDepth 100000 in
theorem ranges_Range_End.calls (a0_0 : Int) (a0_1 : Int) (r : Int) (w : World) (h : ranges_Range_End.f a0_0 a0_1 = some r) :
  Calls Try.prog 49 #[.agg #[.int .i64 a0_0, .int .i64 a0_1]] w fun e w' => e = .returned (.int .i64 r) ∧ Below w.heap.size w w' := by
 have hu61 := Try.underlying61
 have HB := Aside0.mk (Below.refl w.heap.size w)
 have H : (some (wrap64 (a0_0 + a0_1))) = some r := h
 clear h
 obtain rfl := Option.some.inj H
 go_enter Try.func49, Try.ntmps49
 go_wp2_with (first | ((with_reducible refine gate_dst (N := 1) rfl ?_); refine box_event ?hg (N := 1) ?hd (cs := #[.int .i64 a0_0, .int .i64 a0_1]) (t := 61) ?hr ?_; (case hd => rfl); (case hg => rfl); (case hr => first | (go_simp; done) | (go_simp; rfl)); intro gb130 hg w2 hbox hb; have n0_ := Aside0.mk (below_step (by repeat (first | (with_reducible first | exact HB.out | apply below_alloc | apply pw_below_drewN | apply below_drew1) | exact HB.out)) hb); have n1_ := Aside0.mk (hbox); have n2_ := Aside0.mk ((by rw [hg]; exact (below_size (by repeat (first | (with_reducible first | exact HB.out | apply below_alloc | apply pw_below_drewN | apply below_drew1) | exact HB.out))) : w.heap.size ≤ gb130)); have n3_ := Aside0.mk ((by rw [hg]; exact (below_size (by repeat (first | (with_reducible first | exact HB.out | apply below_alloc | apply pw_below_drewN | apply below_drew1) | exact HB.out))) : w.heap.size ≤ gb130)); clear HB; have HB := n0_; have BK130 := n1_; have GW130 := n2_; have GE130 := n3_; clear n0_ n1_ n2_ n3_; clear hb hbox hg; have hcz3_0 : w2.cell? ⟨gb130, 0, none⟩ = some (.int .i64 a0_0) := (blk_cell BK130.out 0).trans rfl; have hcz3_1 : w2.cell? ⟨gb130, 1, none⟩ = some (.int .i64 a0_1) := (blk_cell BK130.out 1).trans rfl; have hfz3_0 := blk_frozen BK130.out 0; have hfz3_1 := blk_frozen BK130.out 1))
 go_ret
 exact ⟨by first | rfl | (simp [errW_none, errW_some] <;> rfl) | (simp [*, errW_none, errW_some] <;> rfl), by repeat (first | (with_reducible first | exact HB.out | apply below_alloc | apply pw_below_drewN | apply below_drew1 | refine below_set ?_ GE130.out) | exact HB.out)⟩


/-! ### ranges_Range_Intersection: function 56 -/
def ranges_Range_Intersection.j0 : Nat → Bool → Int → Int → Int → Int → Int → Int → Option (Int × Int)
 | 0, _, _, _, _, _, _, _ => none
 | k + 1, x30, x132000, x132001, x133000, x133001, x134000, x134001 => if x30 = true then ((ranges_Range_End.f x132000 x132001).bind fun t137 => ((ranges_Range_End.f x133000 x133001).bind fun t138 => (some (mx x132000 x133000, wrap64 ((mn t137 t138) - (mx x132000 x133000)))))) else (some (x134000, x134001))
def ranges_Range_Intersection.f (k : Nat) (a0_0 : Int) (a0_1 : Int) (a1_0 : Int) (a1_1 : Int) : Option (Int × Int) := if a0_0 ≥ a1_0 then ((ranges_Range_End.f a1_0 a1_1).bind fun t134 => (if a0_0 < t134 then (ranges_Range_Intersection.j0 k true a0_0 a0_1 a1_0 a1_1 0 0) else (if a1_0 ≥ a0_0 then ((ranges_Range_End.f a0_0 a0_1).bind fun t135 => (ranges_Range_Intersection.j0 k (decide (a1_0 < t135)) a0_0 a0_1 a1_0 a1_1 0 0)) else (ranges_Range_Intersection.j0 k false a0_0 a0_1 a1_0 a1_1 0 0)))) else (if a1_0 ≥ a0_0 then ((ranges_Range_End.f a0_0 a0_1).bind fun t136 => (ranges_Range_Intersection.j0 k (decide (a1_0 < t136)) a0_0 a0_1 a1_0 a1_1 0 0)) else (ranges_Range_Intersection.j0 k false a0_0 a0_1 a1_0 a1_1 0 0))
theorem ranges_Range_Intersection.mono_l : ∀ k, (∀ y0 y1 y2 y3 y4 y5 y6, LeO (ranges_Range_Intersection.j0 k y0 y1 y2 y3 y4 y5 y6) (ranges_Range_Intersection.j0 (k + 1) y0 y1 y2 y3 y4 y5 y6))
 | 0 => fun _ _ _ _ _ _ _ r h => by simp [ranges_Range_Intersection.j0] at h
 | k + 1 => by
  have ih0 := ranges_Range_Intersection.mono_l k
  ·intro y0 y1 y2 y3 y4 y5 y6
   unfold ranges_Range_Intersection.j0
   repeat' first
   | (with_reducible exact ih0 _ _ _ _ _ _ _)
   | (with_reducible exact LeO.refl _)
   | (with_reducible exact LeO.none _)
   | (with_reducible refine LeO.ite ?_ ?_)
   | (with_reducible refine LeO.bind ?_ (fun _ => ?_))
   | exact ih0 _ _ _ _ _ _ _
   | exact LeO.none _
   | refine LeO.ite ?_ ?_
   | refine LeO.bind ?_ (fun _ => ?_)
theorem ranges_Range_Intersection.mono : ∀ a0 a1 a2 a3 k, LeO (ranges_Range_Intersection.f k a0 a1 a2 a3) (ranges_Range_Intersection.f (k + 1) a0 a1 a2 a3) := by
 intro a0 a1 a2 a3 k
 have ih0 := ranges_Range_Intersection.mono_l k
 unfold ranges_Range_Intersection.f
 repeat' first
   | (with_reducible exact ih0 _ _ _ _ _ _ _)
   | (with_reducible exact LeO.refl _)
   | (with_reducible exact LeO.none _)
   | (with_reducible refine LeO.ite ?_ ?_)
   | (with_reducible refine LeO.bind ?_ (fun _ => ?_))
   | exact ih0 _ _ _ _ _ _ _
   | exact LeO.none _
   | refine LeO.ite ?_ ?_
   | refine LeO.bind ?_ (fun _ => ?_)
def ranges_Range_Intersection.T1 : Bool × List (List Nat × List Nat) := (true, [([], []), ([0], [0]), ([], []), ([2], [2]), ([1, 3], [1, 3]), ([4], [4]), ([5], [5]), ([6, 5], [5, 6]), ([5], [5]), ([8, 5, 5], [5, 8]), ([7, 9, 5], [5, 7, 9]), ([5, 10], [5, 10]), ([11, 9], [11]), ([12], [12]), ([13, 12], [12, 13]), ([12], [12]), ([15, 12], [12, 15]), ([14, 16, 12], [12, 14, 16]), ([17, 12, 12], [12, 17]), ([18], [18]), ([19, 18], [18, 19]), ([18], [18]), ([21, 18, 18], [18, 21]), ([20, 22, 18], [18, 20, 22]), ([18, 23, 12], [12, 18, 23]), ([12, 24], [12, 24])])
def ranges_Range_Intersection.B1 : List Nat := [0, 1, 0, 4, 15, 31, 63, 127, 63, 319, 1023, 2047, 4095, 8191, 16383, 8191, 40959, 131071, 262143, 524287, 1048575, 524287, 2621439, 8388607, 16777215, 33554431]
theorem ranges_Range_Intersection.tab1 : rtab .any (opsOf Try.f56 1) = ranges_Range_Intersection.T1 := by kernel_rfl
theorem ranges_Range_Intersection.bits1 : waitsOk ranges_Range_Intersection.T1.2 ranges_Range_Intersection.B1 = true := by kernel_rfl
def ranges_Range_Intersection.T3 : Bool × List (List Nat × List Nat) := (true, [([], []), ([0], [0]), ([], []), ([2, 1], [2]), ([1, 3], [1, 3]), ([], []), ([5], [5]), ([4, 6], [4, 6]), ([0, 1, 2, 3, 4, 5, 6, 7], []), ([8, 7, 3, 0, 1, 2, 3, 4, 5, 6, 7], [7, 8])])
def ranges_Range_Intersection.B3 : List Nat := [0, 1, 0, 7, 15, 0, 32, 127, 255, 511]
theorem ranges_Range_Intersection.tab3 : rtab .any (opsOf Try.f56 3) = ranges_Range_Intersection.T3 := by kernel_rfl
theorem ranges_Range_Intersection.bits3 : waitsOk ranges_Range_Intersection.T3.2 ranges_Range_Intersection.B3 = true := by kernel_rfl
set_option maxHeartbeats 8000000 in
set_option maxRecDepth 100000 in
theorem ranges_Range_Intersection.calls (k : Nat) (a0_0 : Int) (a0_1 : Int) (a1_0 : Int) (a1_1 : Int) (r1 : Int) (r2 : Int) (w : World) (h : ranges_Range_Intersection.f k a0_0 a0_1 a1_0 a1_1 = some (r1, r2)) :
  Calls Try.prog 56 #[.agg #[.int .i64 a0_0, .int .i64 a0_1], .agg #[.int .i64 a1_0, .int .i64 a1_1]] w fun e w' => e = .returned (.agg #[.int .i64 r1, .int .i64 r2]) ∧ Below w.heap.size w w' := by
 have hu61 := Try.underlying61
 have HB := Aside0.mk (Below.refl w.heap.size w)
 have H : (if a0_0 ≥ a1_0 then ((ranges_Range_End.f a1_0 a1_1).bind fun t134 => (if a0_0 < t134 then (ranges_Range_Intersection.j0 k true a0_0 a0_1 a1_0 a1_1 0 0) else (if a1_0 ≥ a0_0 then ((ranges_Range_End.f a0_0 a0_1).bind fun t135 => (ranges_Range_Intersection.j0 k (decide (a1_0 < t135)) a0_0 a0_1 a1_0 a1_1 0 0)) else (ranges_Range_Intersection.j0 k false a0_0 a0_1 a1_0 a1_1 0 0)))) else (if a1_0 ≥ a0_0 then ((ranges_Range_End.f a0_0 a0_1).bind fun t136 => (ranges_Range_Intersection.j0 k (decide (a1_0 < t136)) a0_0 a0_1 a1_0 a1_1 0 0)) else (ranges_Range_Intersection.j0 k false a0_0 a0_1 a1_0 a1_1 0 0))) = some (r1, r2) := h
 clear h
 have HC3 := Aside0.mk H
 clear H
 go_enter Try.func56, Try.ntmps56
 go_upto_region 1 with (first | ((with_reducible refine gate_dst (N := 2) rfl ?_); refine box_event ?hg (N := 2) ?hd (cs := #[.int .i64 a0_0, .int .i64 a0_1]) (t := 61) ?hr ?_; (case hd => rfl); (case hg => rfl); (case hr => first | (go_simp; done) | (go_simp; rfl)); intro gb131 hg w4 hbox hb; have n0_ := Aside0.mk (below_step (by repeat (first | (with_reducible first | exact HB.out | apply below_alloc | apply pw_below_drewN | apply below_drew1) | exact HB.out)) hb); have n1_ := Aside0.mk (hbox); have n2_ := Aside0.mk ((by rw [hg]; exact (below_size (by repeat (first | (with_reducible first | exact HB.out | apply below_alloc | apply pw_below_drewN | apply below_drew1) | exact HB.out))) : w.heap.size ≤ gb131)); have n3_ := Aside0.mk ((by rw [hg]; exact (below_size (by repeat (first | (with_reducible first | exact HB.out | apply below_alloc | apply pw_below_drewN | apply below_drew1) | exact HB.out))) : w.heap.size ≤ gb131)); clear HB; have HB := n0_; have BK131 := n1_; have GW131 := n2_; have GE131 := n3_; clear n0_ n1_ n2_ n3_; clear hb hbox hg) | ((with_reducible refine gate_dst (N := 3) rfl ?_); refine box_event ?hg (N := 3) ?hd (cs := #[.int .i64 a1_0, .int .i64 a1_1]) (t := 61) ?hr ?_; (case hd => rfl); (case hg => rfl); (case hr => first | (go_simp; done) | (go_simp; rfl)); intro gb132 hg w5 hbox hb; have n0_ := Aside0.mk (blk_below (g := gb131) (o := .cells #[.int .i64 a0_0, .int .i64 a0_1] 61 (0, 0)) (by (with_reducible repeat (first | refine blk_drewN ?_ _ | refine blk_drew ?_ | refine blk_alloc ?_ _)); exact BK131.out) hb); have n1_ := Aside0.mk (below_step (by repeat (first | (with_reducible first | exact HB.out | apply below_alloc | apply pw_below_drewN | apply below_drew1 | refine below_set ?_ GE131.out) | exact HB.out)) hb); have n2_ := Aside0.mk (hbox); have n3_ := Aside0.mk ((by rw [hg]; exact (below_size (by repeat (first | (with_reducible first | exact HB.out | apply below_alloc | apply pw_below_drewN | apply below_drew1 | refine below_set ?_ GE131.out) | exact HB.out))) : w.heap.size ≤ gb132)); have n4_ := Aside0.mk ((by rw [hg]; exact (below_size (by repeat (first | (with_reducible first | exact HB.out | apply below_alloc | apply pw_below_drewN | apply below_drew1 | refine below_set ?_ GE131.out) | exact HB.out))) : w.heap.size ≤ gb132)); have n5_ := Aside0.mk ((by rw [hg]; exact Nat.ne_of_lt (blk_lt (g := gb131) (o := .cells #[.int .i64 a0_0, .int .i64 a0_1] 61 (0, 0)) (by (with_reducible repeat (first | refine blk_drewN ?_ _ | refine blk_drew ?_ | refine blk_alloc ?_ _)); exact BK131.out)) : gb131 ≠ gb132)); have n6_ := Aside0.mk ((by rw [hg]; exact Nat.ne_of_gt (blk_lt (g := gb131) (o := .cells #[.int .i64 a0_0, .int .i64 a0_1] 61 (0, 0)) (by (with_reducible repeat (first | refine blk_drewN ?_ _ | refine blk_drew ?_ | refine blk_alloc ?_ _)); exact BK131.out)) : gb132 ≠ gb131)); clear BK131; clear HB; have BK131 := n0_; have HB := n1_; have BK132 := n2_; have GW132 := n3_; have GE132 := n4_; have NB131_132 := n5_; have NB132_131 := n6_; clear n0_ n1_ n2_ n3_ n4_ n5_ n6_; clear hb hbox hg) | ((with_reducible refine gate_dst (N := 4) rfl ?_); refine box_event ?hg (N := 4) ?hd (cs := #[.int .i64 0, .int .i64 0]) (t := 61) ?hr ?_; (case hd => rfl); (case hg => rfl); (case hr => first | (go_simp; done) | (go_simp; rfl)); intro gb133 hg w6 hbox hb; have n0_ := Aside0.mk (blk_below (g := gb131) (o := .cells #[.int .i64 a0_0, .int .i64 a0_1] 61 (0, 0)) (by (with_reducible repeat (first | refine blk_drewN ?_ _ | refine blk_drew ?_ | refine blk_alloc ?_ _)); exact BK131.out) hb); have n1_ := Aside0.mk (blk_below (g := gb132) (o := .cells #[.int .i64 a1_0, .int .i64 a1_1] 61 (0, 0)) (by (with_reducible repeat (first | refine blk_drewN ?_ _ | refine blk_drew ?_ | refine blk_alloc ?_ _)); exact BK132.out) hb); have n2_ := Aside0.mk (below_step (by repeat (first | (with_reducible first | exact HB.out | apply below_alloc | apply pw_below_drewN | apply below_drew1 | refine below_set ?_ GE131.out | refine below_set ?_ GE132.out) | exact HB.out)) hb); have n3_ := Aside0.mk (hbox); have n4_ := Aside0.mk ((by rw [hg]; exact (below_size (by repeat (first | (with_reducible first | exact HB.out | apply below_alloc | apply pw_below_drewN | apply below_drew1 | refine below_set ?_ GE131.out | refine below_set ?_ GE132.out) | exact HB.out))) : w.heap.size ≤ gb133)); have n5_ := Aside0.mk ((by rw [hg]; exact (below_size (by repeat (first | (with_reducible first | exact HB.out | apply below_alloc | apply pw_below_drewN | apply below_drew1 | refine below_set ?_ GE131.out | refine below_set ?_ GE132.out) | exact HB.out))) : w.heap.size ≤ gb133)); have n6_ := Aside0.mk ((by rw [hg]; exact Nat.ne_of_lt (blk_lt (g := gb131) (o := .cells #[.int .i64 a0_0, .int .i64 a0_1] 61 (0, 0)) (by (with_reducible repeat (first | refine blk_drewN ?_ _ | refine blk_drew ?_ | refine blk_alloc ?_ _)); exact BK131.out)) : gb131 ≠ gb133)); have n7_ := Aside0.mk ((by rw [hg]; exact Nat.ne_of_gt (blk_lt (g := gb131) (o := .cells #[.int .i64 a0_0, .int .i64 a0_1] 61 (0, 0)) (by (with_reducible repeat (first | refine blk_drewN ?_ _ | refine blk_drew ?_ | refine blk_alloc ?_ _)); exact BK131.out)) : gb133 ≠ gb131)); have n8_ := Aside0.mk ((by rw [hg]; exact Nat.ne_of_lt (blk_lt (g := gb132) (o := .cells #[.int .i64 a1_0, .int .i64 a1_1] 61 (0, 0)) (by (with_reducible repeat (first | refine blk_drewN ?_ _ | refine blk_drew ?_ | refine blk_alloc ?_ _)); exact BK132.out)) : gb132 ≠ gb133)); have n9_ := Aside0.mk ((by rw [hg]; exact Nat.ne_of_gt (blk_lt (g := gb132) (o := .cells #[.int .i64 a1_0, .int .i64 a1_1] 61 (0, 0)) (by (with_reducible repeat (first | refine blk_drewN ?_ _ | refine blk_drew ?_ | refine blk_alloc ?_ _)); exact BK132.out)) : gb133 ≠ gb132)); clear BK131; clear BK132; clear HB; have BK131 := n0_; have BK132 := n1_; have HB := n2_; have BK133 := n3_; have GW133 := n4_; have GE133 := n5_; have NB131_133 := n6_; have NB133_131 := n7_; have NB132_133 := n8_; have NB133_132 := n9_; clear n0_ n1_ n2_ n3_ n4_ n5_ n6_ n7_ n8_ n9_; clear hb hbox hg))
 (try simp only [Act.put, List.setIfInBounds_toArray, List.set_cons_zero, List.set_cons_succ])
 go_cut [30] (fun v30 wc => ∃ (kq : Nat) (x30_2 : Bool), v30 = .bool x30_2 ∧ Aside0 (ranges_Range_Intersection.j0 kq x30_2 a0_0 a0_1 a1_0 a1_1 0 0 = some (r1, r2)) ∧ Aside0 (kq ≤ k) ∧ Aside0 (wc.heap[gb131]? = some (.cells #[.int .i64 a0_0, .int .i64 a0_1] 61 (0, 0))) ∧ Aside0 (wc.heap[gb132]? = some (.cells #[.int .i64 a1_0, .int .i64 a1_1] 61 (0, 0))) ∧ Aside0 (wc.heap[gb133]? = some (.cells #[.int .i64 0, .int .i64 0] 61 (0, 0))) ∧ Aside0 (Below w.heap.size w wc))
 case first =>
  have H := HC3.out
  clear HC3
  by_cases c7 : a0_0 ≥ a1_0
  ·rw [if_pos c7] at H
   have c7b0 : decide (a1_0 ≤ a0_0) = true := decide_eq_true c7
   clear c7
   (first | rw [c7b0] | (simp only [i64_w, i32_w]; rw [c7b0]) | skip)
   replace H := Option.bind_eq_some_iff.mp H
   obtain ⟨t134, A80, H⟩ := H
   replace H : (if a0_0 < t134 then (ranges_Range_Intersection.j0 k true a0_0 a0_1 a1_0 a1_1 0 0) else (if a1_0 ≥ a0_0 then ((ranges_Range_End.f a0_0 a0_1).bind fun t135 => (ranges_Range_Intersection.j0 k (decide (a1_0 < t135)) a0_0 a0_1 a1_0 a1_1 0 0)) else (ranges_Range_Intersection.j0 k false a0_0 a0_1 a1_0 a1_1 0 0))) = some (r1, r2) := H
   have A8 := Aside0.mk A80
   clear A80
   by_cases c9 : a0_0 < t134
   ·rw [if_pos c9] at H
    have c9b0 : decide (a0_0 < t134) = true := decide_eq_true c9
    clear c9
    have H' := Aside0.mk H
    clear H
    try go_wp2
    have n0_ := Aside0.mk (blk_drew BK131.out)
    have n1_ := Aside0.mk (blk_drew BK132.out)
    have n2_ := Aside0.mk (blk_drew BK133.out)
    have n3_ := Aside0.mk (below_drew1 HB.out)
    clear BK131
    clear BK132
    clear BK133
    clear HB
    have BK131 := n0_
    have BK132 := n1_
    have BK133 := n2_
    have HB := n3_
    clear n0_ n1_ n2_ n3_
    refine start_ (n := 26) (S := fun w' => w'.cell? ⟨gb131, 0, none⟩ = some (.int .i64 a0_0) ∧ w'.cell? ⟨gb131, 1, none⟩ = some (.int .i64 a0_1) ∧ w'.cell? ⟨gb132, 0, none⟩ = some (.int .i64 a1_0) ∧ w'.cell? ⟨gb132, 1, none⟩ = some (.int .i64 a1_1)) (ds := []) #[false, false, false, false, false, false, false, false, false, false, false, false, false, false, false, false, false, false, false, false, false, false, false, false, false, false] (by kernel_rfl) rfl rfl ⟨(blk_cell BK131.out 0).trans rfl, (blk_cell BK131.out 1).trans rfl, (blk_cell BK132.out 0).trans rfl, (blk_cell BK132.out 1).trans rfl⟩ (fun hHeld => ?_); refine with_tabW ranges_Range_Intersection.tab1 ranges_Range_Intersection.bits1 (fun HT_ HW_ => ?_)
    generalize w6.drew = w10 at BK131 BK132 BK133 HB hHeld ⊢
    refine pure_ (i := 0) (N := some 5) (v := ?_) (a' := ?_) #[true, false, false, false, false, false, false, false, false, false, false, false, false, false, false, false, false, false, false, false, false, false, false, false, false, false] rfl rfl (any_of HT_.out (by kernel_rfl)) (fun _ _ _ h => h) (Or.inl ⟨by rfl, ?_⟩) ?_ ?_
    rotate_left
    ·intro w'
     go_simp
     with_reducible rfl
    rotate_left
    ·simp only [Act.put, List.setIfInBounds_toArray, List.set_cons_zero, List.set_cons_succ, i64_w, i32_w]
     rfl
    refine pure_ (i := 2) (N := some 7) (v := ?_) (a' := ?_) #[true, false, true, false, false, false, false, false, false, false, false, false, false, false, false, false, false, false, false, false, false, false, false, false, false, false] rfl rfl (any_of HT_.out (by kernel_rfl)) (fun _ _ _ h => h) (Or.inl ⟨by rfl, ?_⟩) ?_ ?_
    rotate_left
    ·intro w'
     go_simp
     with_reducible rfl
    rotate_left
    ·simp only [Act.put, List.setIfInBounds_toArray, List.set_cons_zero, List.set_cons_succ, i64_w, i32_w]
     rfl
    refine take_ (i := 1) (N := some 6) (v := ?_) (a' := ?_) #[true, true, true, false, false, false, false, false, false, false, false, false, false, false, false, false, false, false, false, false, false, false, false, false, false, false] rfl rfl (take_ofW HT_.out HW_.out (by kernel_rfl)) (fun _ _ _ h => h) (Or.inl ⟨by rfl, ?_⟩) hHeld ?_ ?_
    rotate_left
    ·rintro w' ⟨s0, s1, s2, s3⟩
     go_simp
     with_reducible rfl
    rotate_left
    ·simp only [Act.put, List.setIfInBounds_toArray, List.set_cons_zero, List.set_cons_succ, i64_w, i32_w]
     rfl
    refine take_ (i := 3) (N := some 8) (v := ?_) (a' := ?_) #[true, true, true, true, false, false, false, false, false, false, false, false, false, false, false, false, false, false, false, false, false, false, false, false, false, false] rfl rfl (take_ofW HT_.out HW_.out (by kernel_rfl)) (fun _ _ _ h => h) (Or.inl ⟨by rfl, ?_⟩) hHeld ?_ ?_
    rotate_left
    ·rintro w' ⟨s0, s1, s2, s3⟩
     go_simp
     with_reducible rfl
    rotate_left
    ·simp only [Act.put, List.setIfInBounds_toArray, List.set_cons_zero, List.set_cons_succ, i64_w, i32_w]
     rfl
    refine pure_ (i := 4) (N := some 9) (v := ?_) (a' := ?_) #[true, true, true, true, true, false, false, false, false, false, false, false, false, false, false, false, false, false, false, false, false, false, false, false, false, false] rfl rfl (any_of HT_.out (by kernel_rfl)) (fun _ _ _ h => h) (Or.inl ⟨by rfl, ?_⟩) ?_ ?_
    rotate_left
    ·intro w'
     go_simp
     with_reducible rfl
    rotate_left
    ·simp only [Act.put, List.setIfInBounds_toArray, List.set_cons_zero, List.set_cons_succ, i64_w, i32_w]
     rfl
    refine pure_ (i := 5) (N := some 10) (v := ?_) (a' := ?_) #[true, true, true, true, true, true, false, false, false, false, false, false, false, false, false, false, false, false, false, false, false, false, false, false, false, false] rfl rfl (any_of HT_.out (by kernel_rfl)) (fun _ _ _ h => h) (Or.inl ⟨by rfl, ?_⟩) ?_ ?_
    rotate_left
    ·intro w'
     go_simp
     with_reducible rfl
    rotate_left
    ·simp only [Act.put, List.setIfInBounds_toArray, List.set_cons_zero, List.set_cons_succ, i64_w, i32_w]
     rfl
    refine pure_ (i := 6) (N := some 11) (v := ?_) (a' := ?_) #[true, true, true, true, true, true, true, false, false, false, false, false, false, false, false, false, false, false, false, false, false, false, false, false, false, false] rfl rfl (any_of HT_.out (by kernel_rfl)) (fun _ _ _ h => h) (Or.inl ⟨by rfl, ?_⟩) ?_ ?_
    rotate_left
    ·intro w'
     go_simp
     with_reducible rfl
    rotate_left
    ·simp only [Act.put, List.setIfInBounds_toArray, List.set_cons_zero, List.set_cons_succ, i64_w, i32_w]
     rfl
    refine take_ (i := 7) (N := some 12) (v := ?_) (a' := ?_) #[true, true, true, true, true, true, true, true, false, false, false, false, false, false, false, false, false, false, false, false, false, false, false, false, false, false] rfl rfl (take_ofW HT_.out HW_.out (by kernel_rfl)) (fun _ _ _ h => h) (Or.inl ⟨by rfl, ?_⟩) hHeld ?_ ?_
    rotate_left
    ·rintro w' ⟨s0, s1, s2, s3⟩
     go_simp
     with_reducible rfl
    rotate_left
    ·simp only [Act.put, List.setIfInBounds_toArray, List.set_cons_zero, List.set_cons_succ, i64_w, i32_w]
     rfl
    refine take_ (i := 8) (N := some 13) (v := ?_) (a' := ?_) #[true, true, true, true, true, true, true, true, true, false, false, false, false, false, false, false, false, false, false, false, false, false, false, false, false, false] rfl rfl (take_ofW HT_.out HW_.out (by kernel_rfl)) (fun _ _ _ h => h) (Or.inl ⟨by rfl, ?_⟩) hHeld ?_ ?_
    rotate_left
    ·rintro w' ⟨s0, s1, s2, s3⟩
     go_simp
     with_reducible rfl
    rotate_left
    ·simp only [Act.put, List.setIfInBounds_toArray, List.set_cons_zero, List.set_cons_succ, i64_w, i32_w]
     rfl
    refine one_ (i := 9) (N := some 14) #[true, true, true, true, true, true, true, true, true, true, false, false, false, false, false, false, false, false, false, false, false, false, false, false, false, false] rfl rfl (one_of HT_.out (by kernel_rfl)) (by decide) (fun K hK => ?_)
    refine goes_ Try.func49 (by kernel_rfl) rfl #[.agg #[.int .i64 a1_0, .int .i64 a1_1]] (by rfl) rfl rfl (by (try simp only [List.map_toArray, List.map_cons, List.map_nil]); first | done | rfl | (simp only [List.length_drop, List.length_take]; rfl)) ?_
    with_reducible refine (ranges_Range_End.calls a1_0 a1_1 t134 _ A8.out).mono ?_
    rintro e w11 ⟨rfl, hb⟩
    refine ⟨_, rfl, ?_⟩
    have n0_ := Aside0.mk (blk_below (g := gb131) (o := .cells #[.int .i64 a0_0, .int .i64 a0_1] 61 (0, 0)) (by (with_reducible repeat (first | refine blk_drewN ?_ _ | refine blk_drew ?_ | refine blk_alloc ?_ _)); exact BK131.out) hb)
    have n1_ := Aside0.mk (blk_below (g := gb132) (o := .cells #[.int .i64 a1_0, .int .i64 a1_1] 61 (0, 0)) (by (with_reducible repeat (first | refine blk_drewN ?_ _ | refine blk_drew ?_ | refine blk_alloc ?_ _)); exact BK132.out) hb)
    have n2_ := Aside0.mk (blk_below (g := gb133) (o := .cells #[.int .i64 0, .int .i64 0] 61 (0, 0)) (by (with_reducible repeat (first | refine blk_drewN ?_ _ | refine blk_drew ?_ | refine blk_alloc ?_ _)); exact BK133.out) hb)
    have n3_ := Aside0.mk (below_step (by repeat (first | (with_reducible first | exact HB.out | apply below_alloc | apply pw_below_drewN | apply below_drew1 | refine below_set ?_ GE131.out | refine below_set ?_ GE132.out | refine below_set ?_ GE133.out) | exact HB.out)) hb)
    clear BK131
    clear BK132
    clear BK133
    clear HB
    have BK131 := n0_
    have BK132 := n1_
    have BK133 := n2_
    have HB := n3_
    clear n0_ n1_ n2_ n3_
    (try clear hb)
    (try clear hb2)
    (try clear hk)
    (try clear hi)
    refine hK.out _ _ ⟨(blk_cell BK131.out 0).trans rfl, (blk_cell BK131.out 1).trans rfl, (blk_cell BK132.out 0).trans rfl, (blk_cell BK132.out 1).trans rfl⟩ (fun hHeld => ?_)
    clear hK K
    refine norm_ (a' := ?_) ?_ ?_
    rotate_left
    ·show Act.put _ (some 14) _ = _
     simp only [Act.put, List.setIfInBounds_toArray, List.set_cons_zero, List.set_cons_succ, i64_w, i32_w]
     rfl
    refine pure_ (i := 10) (N := some 15) (v := ?_) (a' := ?_) #[true, true, true, true, true, true, true, true, true, true, true, false, false, false, false, false, false, false, false, false, false, false, false, false, false, false] rfl rfl (any_of HT_.out (by kernel_rfl)) (fun _ _ _ h => h) (Or.inl ⟨by rfl, ?_⟩) ?_ ?_
    rotate_left
    ·intro w'
     go_simp
     with_reducible rfl
    rotate_left
    ·simp only [Act.put, List.setIfInBounds_toArray, List.set_cons_zero, List.set_cons_succ, i64_w, i32_w]
     rfl
    refine pure_ (i := 11) (N := some 16) (v := ?_) (a' := ?_) #[true, true, true, true, true, true, true, true, true, true, true, true, false, false, false, false, false, false, false, false, false, false, false, false, false, false] rfl rfl (any_of HT_.out (by kernel_rfl)) (fun _ _ _ h => h) (Or.inl ⟨by rfl, ?_⟩) ?_ ?_
    rotate_left
    ·intro w'
     go_simp
     with_reducible rfl
    rotate_left
    ·simp only [Act.put, List.setIfInBounds_toArray, List.set_cons_zero, List.set_cons_succ, i64_w, i32_w]
     rfl
    refine pure_ (i := 12) (N := some 17) (v := ?_) (a' := ?_) #[true, true, true, true, true, true, true, true, true, true, true, true, true, false, false, false, false, false, false, false, false, false, false, false, false, false] rfl rfl (any_of HT_.out (by kernel_rfl)) (fun _ _ _ h => h) (Or.inl ⟨by rfl, ?_⟩) ?_ ?_
    rotate_left
    ·intro w'
     go_simp
     with_reducible rfl
    rotate_left
    ·simp only [Act.put, List.setIfInBounds_toArray, List.set_cons_zero, List.set_cons_succ, i64_w, i32_w]
     rfl
    refine pure_ (i := 13) (N := some 18) (v := undef) (a' := ?_) #[true, true, true, true, true, true, true, true, true, true, true, true, true, true, false, false, false, false, false, false, false, false, false, false, false, false] rfl rfl (any_of HT_.out (by kernel_rfl)) (fun _ _ _ h => h) (Or.inr ⟨by rfl, rfl⟩) ?_ ?_
    rotate_left
    ·simp only [Act.put, List.setIfInBounds_toArray, List.set_cons_zero, List.set_cons_succ, i64_w, i32_w]
     rfl
    refine pure_ (i := 14) (N := some 19) (v := undef) (a' := ?_) #[true, true, true, true, true, true, true, true, true, true, true, true, true, true, true, false, false, false, false, false, false, false, false, false, false, false] rfl rfl (any_of HT_.out (by kernel_rfl)) (fun _ _ _ h => h) (Or.inr ⟨by rfl, rfl⟩) ?_ ?_
    rotate_left
    ·simp only [Act.put, List.setIfInBounds_toArray, List.set_cons_zero, List.set_cons_succ, i64_w, i32_w]
     rfl
    refine pure_ (i := 15) (N := some 20) (v := undef) (a' := ?_) #[true, true, true, true, true, true, true, true, true, true, true, true, true, true, true, true, false, false, false, false, false, false, false, false, false, false] rfl rfl (any_of HT_.out (by kernel_rfl)) (fun _ _ _ h => h) (Or.inr ⟨by rfl, rfl⟩) ?_ ?_
    rotate_left
    ·simp only [Act.put, List.setIfInBounds_toArray, List.set_cons_zero, List.set_cons_succ, i64_w, i32_w]
     rfl
    refine pure_ (i := 16) (N := some 21) (v := undef) (a' := ?_) #[true, true, true, true, true, true, true, true, true, true, true, true, true, true, true, true, true, false, false, false, false, false, false, false, false, false] rfl rfl (any_of HT_.out (by kernel_rfl)) (fun _ _ _ h => h) (Or.inr ⟨by rfl, rfl⟩) ?_ ?_
    rotate_left
    ·simp only [Act.put, List.setIfInBounds_toArray, List.set_cons_zero, List.set_cons_succ, i64_w, i32_w]
     rfl
    refine pure_ (i := 17) (N := some 22) (v := undef) (a' := ?_) #[true, true, true, true, true, true, true, true, true, true, true, true, true, true, true, true, true, true, false, false, false, false, false, false, false, false] rfl rfl (any_of HT_.out (by kernel_rfl)) (fun _ _ _ h => h) (Or.inr ⟨by rfl, rfl⟩) ?_ ?_
    rotate_left
    ·simp only [Act.put, List.setIfInBounds_toArray, List.set_cons_zero, List.set_cons_succ, i64_w, i32_w]
     rfl
    refine pure_ (i := 18) (N := some 23) (v := undef) (a' := ?_) #[true, true, true, true, true, true, true, true, true, true, true, true, true, true, true, true, true, true, true, false, false, false, false, false, false, false] rfl rfl (any_of HT_.out (by kernel_rfl)) (fun _ _ _ h => h) (Or.inr ⟨by rfl, rfl⟩) ?_ ?_
    rotate_left
    ·simp only [Act.put, List.setIfInBounds_toArray, List.set_cons_zero, List.set_cons_succ, i64_w, i32_w]
     rfl
    refine pure_ (i := 19) (N := some 24) (v := undef) (a' := ?_) #[true, true, true, true, true, true, true, true, true, true, true, true, true, true, true, true, true, true, true, true, false, false, false, false, false, false] rfl rfl (any_of HT_.out (by kernel_rfl)) (fun _ _ _ h => h) (Or.inr ⟨by rfl, rfl⟩) ?_ ?_
    rotate_left
    ·simp only [Act.put, List.setIfInBounds_toArray, List.set_cons_zero, List.set_cons_succ, i64_w, i32_w]
     rfl
    refine pure_ (i := 20) (N := some 25) (v := undef) (a' := ?_) #[true, true, true, true, true, true, true, true, true, true, true, true, true, true, true, true, true, true, true, true, true, false, false, false, false, false] rfl rfl (any_of HT_.out (by kernel_rfl)) (fun _ _ _ h => h) (Or.inr ⟨by rfl, rfl⟩) ?_ ?_
    rotate_left
    ·simp only [Act.put, List.setIfInBounds_toArray, List.set_cons_zero, List.set_cons_succ, i64_w, i32_w]
     rfl
    refine pure_ (i := 21) (N := some 26) (v := undef) (a' := ?_) #[true, true, true, true, true, true, true, true, true, true, true, true, true, true, true, true, true, true, true, true, true, true, false, false, false, false] rfl rfl (any_of HT_.out (by kernel_rfl)) (fun _ _ _ h => h) (Or.inr ⟨by rfl, rfl⟩) ?_ ?_
    rotate_left
    ·simp only [Act.put, List.setIfInBounds_toArray, List.set_cons_zero, List.set_cons_succ, i64_w, i32_w]
     rfl
    refine pure_ (i := 22) (N := some 27) (v := undef) (a' := ?_) #[true, true, true, true, true, true, true, true, true, true, true, true, true, true, true, true, true, true, true, true, true, true, true, false, false, false] rfl rfl (any_of HT_.out (by kernel_rfl)) (fun _ _ _ h => h) (Or.inr ⟨by rfl, rfl⟩) ?_ ?_
    rotate_left
    ·simp only [Act.put, List.setIfInBounds_toArray, List.set_cons_zero, List.set_cons_succ, i64_w, i32_w]
     rfl
    refine pure_ (i := 23) (N := some 28) (v := undef) (a' := ?_) #[true, true, true, true, true, true, true, true, true, true, true, true, true, true, true, true, true, true, true, true, true, true, true, true, false, false] rfl rfl (any_of HT_.out (by kernel_rfl)) (fun _ _ _ h => h) (Or.inr ⟨by rfl, rfl⟩) ?_ ?_
    rotate_left
    ·simp only [Act.put, List.setIfInBounds_toArray, List.set_cons_zero, List.set_cons_succ, i64_w, i32_w]
     rfl
    refine pure_ (i := 24) (N := some 29) (v := undef) (a' := ?_) #[true, true, true, true, true, true, true, true, true, true, true, true, true, true, true, true, true, true, true, true, true, true, true, true, true, false] rfl rfl (any_of HT_.out (by kernel_rfl)) (fun _ _ _ h => h) (Or.inr ⟨by rfl, rfl⟩) ?_ ?_
    rotate_left
    ·simp only [Act.put, List.setIfInBounds_toArray, List.set_cons_zero, List.set_cons_succ, i64_w, i32_w]
     rfl
    refine pure_ (i := 25) (N := some 30) (v := ?_) (a' := ?_) #[true, true, true, true, true, true, true, true, true, true, true, true, true, true, true, true, true, true, true, true, true, true, true, true, true, true] rfl rfl (any_of HT_.out (by kernel_rfl)) (fun _ _ _ h => h) (Or.inl ⟨by rfl, ?_⟩) ?_ ?_
    rotate_left
    ·intro w'
     go_simp
     with_reducible rfl
    rotate_left
    ·simp only [Act.put, List.setIfInBounds_toArray, List.set_cons_zero, List.set_cons_succ, i64_w, i32_w]
     rfl
    refine done_ (done_of HT_.out (by kernel_rfl)) ?_
    try go_wp2
    go_meet
    case rel => exact ⟨_, (true), (by first | rfl | (simp; done) | (simp [*]; done) | (simp [xt_ne_nil]; done)), H', ⟨by first | omega | exact Nat.le_refl _⟩, ⟨by (with_reducible repeat (first | refine blk_drewN ?_ _ | refine blk_drew ?_ | refine blk_alloc ?_ _)); exact BK131.out⟩, ⟨by (with_reducible repeat (first | refine blk_drewN ?_ _ | refine blk_drew ?_ | refine blk_alloc ?_ _)); exact BK132.out⟩, ⟨by (with_reducible repeat (first | refine blk_drewN ?_ _ | refine blk_drew ?_ | refine blk_alloc ?_ _)); exact BK133.out⟩, ⟨by repeat (first | (with_reducible first | exact HB.out | apply below_alloc | apply pw_below_drewN | apply below_drew1 | refine below_set ?_ GE131.out | refine below_set ?_ GE132.out | refine below_set ?_ GE133.out) | exact HB.out)⟩⟩
   ·rw [if_neg c9] at H
    have c9b0 : decide (a0_0 < t134) = false := decide_eq_false c9
    clear c9
    by_cases c12 : a1_0 ≥ a0_0
    ·rw [if_pos c12] at H
     have c12b0 : decide (a0_0 ≤ a1_0) = true := decide_eq_true c12
     clear c12
     replace H := Option.bind_eq_some_iff.mp H
     obtain ⟨t135, A130, H⟩ := H
     replace H : (ranges_Range_Intersection.j0 k (decide (a1_0 < t135)) a0_0 a0_1 a1_0 a1_1 0 0) = some (r1, r2) := H
     have A13 := Aside0.mk A130
     clear A130
     have H' := Aside0.mk H
     clear H
     try go_wp2
     have n0_ := Aside0.mk (blk_drew BK131.out)
     have n1_ := Aside0.mk (blk_drew BK132.out)
     have n2_ := Aside0.mk (blk_drew BK133.out)
     have n3_ := Aside0.mk (below_drew1 HB.out)
     clear BK131
     clear BK132
     clear BK133
     clear HB
     have BK131 := n0_
     have BK132 := n1_
     have BK133 := n2_
     have HB := n3_
     clear n0_ n1_ n2_ n3_
     refine start_ (n := 26) (S := fun w' => w'.cell? ⟨gb131, 0, none⟩ = some (.int .i64 a0_0) ∧ w'.cell? ⟨gb131, 1, none⟩ = some (.int .i64 a0_1) ∧ w'.cell? ⟨gb132, 0, none⟩ = some (.int .i64 a1_0) ∧ w'.cell? ⟨gb132, 1, none⟩ = some (.int .i64 a1_1)) (ds := []) #[false, false, false, false, false, false, false, false, false, false, false, false, false, false, false, false, false, false, false, false, false, false, false, false, false, false] (by kernel_rfl) rfl rfl ⟨(blk_cell BK131.out 0).trans rfl, (blk_cell BK131.out 1).trans rfl, (blk_cell BK132.out 0).trans rfl, (blk_cell BK132.out 1).trans rfl⟩ (fun hHeld => ?_); refine with_tabW ranges_Range_Intersection.tab1 ranges_Range_Intersection.bits1 (fun HT_ HW_ => ?_)
     generalize w6.drew = w14 at BK131 BK132 BK133 HB hHeld ⊢
     refine pure_ (i := 0) (N := some 5) (v := ?_) (a' := ?_) #[true, false, false, false, false, false, false, false, false, false, false, false, false, false, false, false, false, false, false, false, false, false, false, false, false, false] rfl rfl (any_of HT_.out (by kernel_rfl)) (fun _ _ _ h => h) (Or.inl ⟨by rfl, ?_⟩) ?_ ?_
     rotate_left
     ·intro w'
      go_simp
      with_reducible rfl
     rotate_left
     ·simp only [Act.put, List.setIfInBounds_toArray, List.set_cons_zero, List.set_cons_succ, i64_w, i32_w]
      rfl
     refine pure_ (i := 2) (N := some 7) (v := ?_) (a' := ?_) #[true, false, true, false, false, false, false, false, false, false, false, false, false, false, false, false, false, false, false, false, false, false, false, false, false, false] rfl rfl (any_of HT_.out (by kernel_rfl)) (fun _ _ _ h => h) (Or.inl ⟨by rfl, ?_⟩) ?_ ?_
     rotate_left
     ·intro w'
      go_simp
      with_reducible rfl
     rotate_left
     ·simp only [Act.put, List.setIfInBounds_toArray, List.set_cons_zero, List.set_cons_succ, i64_w, i32_w]
      rfl
     refine take_ (i := 1) (N := some 6) (v := ?_) (a' := ?_) #[true, true, true, false, false, false, false, false, false, false, false, false, false, false, false, false, false, false, false, false, false, false, false, false, false, false] rfl rfl (take_ofW HT_.out HW_.out (by kernel_rfl)) (fun _ _ _ h => h) (Or.inl ⟨by rfl, ?_⟩) hHeld ?_ ?_
     rotate_left
     ·rintro w' ⟨s0, s1, s2, s3⟩
      go_simp
      with_reducible rfl
     rotate_left
     ·simp only [Act.put, List.setIfInBounds_toArray, List.set_cons_zero, List.set_cons_succ, i64_w, i32_w]
      rfl
     refine take_ (i := 3) (N := some 8) (v := ?_) (a' := ?_) #[true, true, true, true, false, false, false, false, false, false, false, false, false, false, false, false, false, false, false, false, false, false, false, false, false, false] rfl rfl (take_ofW HT_.out HW_.out (by kernel_rfl)) (fun _ _ _ h => h) (Or.inl ⟨by rfl, ?_⟩) hHeld ?_ ?_
     rotate_left
     ·rintro w' ⟨s0, s1, s2, s3⟩
      go_simp
      with_reducible rfl
     rotate_left
     ·simp only [Act.put, List.setIfInBounds_toArray, List.set_cons_zero, List.set_cons_succ, i64_w, i32_w]
      rfl
     refine pure_ (i := 4) (N := some 9) (v := ?_) (a' := ?_) #[true, true, true, true, true, false, false, false, false, false, false, false, false, false, false, false, false, false, false, false, false, false, false, false, false, false] rfl rfl (any_of HT_.out (by kernel_rfl)) (fun _ _ _ h => h) (Or.inl ⟨by rfl, ?_⟩) ?_ ?_
     rotate_left
     ·intro w'
      go_simp
      with_reducible rfl
     rotate_left
     ·simp only [Act.put, List.setIfInBounds_toArray, List.set_cons_zero, List.set_cons_succ, i64_w, i32_w]
      rfl
     refine pure_ (i := 5) (N := some 10) (v := ?_) (a' := ?_) #[true, true, true, true, true, true, false, false, false, false, false, false, false, false, false, false, false, false, false, false, false, false, false, false, false, false] rfl rfl (any_of HT_.out (by kernel_rfl)) (fun _ _ _ h => h) (Or.inl ⟨by rfl, ?_⟩) ?_ ?_
     rotate_left
     ·intro w'
      go_simp
      with_reducible rfl
     rotate_left
     ·simp only [Act.put, List.setIfInBounds_toArray, List.set_cons_zero, List.set_cons_succ, i64_w, i32_w]
      rfl
     refine pure_ (i := 6) (N := some 11) (v := ?_) (a' := ?_) #[true, true, true, true, true, true, true, false, false, false, false, false, false, false, false, false, false, false, false, false, false, false, false, false, false, false] rfl rfl (any_of HT_.out (by kernel_rfl)) (fun _ _ _ h => h) (Or.inl ⟨by rfl, ?_⟩) ?_ ?_
     rotate_left
     ·intro w'
      go_simp
      with_reducible rfl
     rotate_left
     ·simp only [Act.put, List.setIfInBounds_toArray, List.set_cons_zero, List.set_cons_succ, i64_w, i32_w]
      rfl
     refine take_ (i := 7) (N := some 12) (v := ?_) (a' := ?_) #[true, true, true, true, true, true, true, true, false, false, false, false, false, false, false, false, false, false, false, false, false, false, false, false, false, false] rfl rfl (take_ofW HT_.out HW_.out (by kernel_rfl)) (fun _ _ _ h => h) (Or.inl ⟨by rfl, ?_⟩) hHeld ?_ ?_
     rotate_left
     ·rintro w' ⟨s0, s1, s2, s3⟩
      go_simp
      with_reducible rfl
     rotate_left
     ·simp only [Act.put, List.setIfInBounds_toArray, List.set_cons_zero, List.set_cons_succ, i64_w, i32_w]
      rfl
     refine take_ (i := 8) (N := some 13) (v := ?_) (a' := ?_) #[true, true, true, true, true, true, true, true, true, false, false, false, false, false, false, false, false, false, false, false, false, false, false, false, false, false] rfl rfl (take_ofW HT_.out HW_.out (by kernel_rfl)) (fun _ _ _ h => h) (Or.inl ⟨by rfl, ?_⟩) hHeld ?_ ?_
     rotate_left
     ·rintro w' ⟨s0, s1, s2, s3⟩
      go_simp
      with_reducible rfl
     rotate_left
     ·simp only [Act.put, List.setIfInBounds_toArray, List.set_cons_zero, List.set_cons_succ, i64_w, i32_w]
      rfl
     refine one_ (i := 9) (N := some 14) #[true, true, true, true, true, true, true, true, true, true, false, false, false, false, false, false, false, false, false, false, false, false, false, false, false, false] rfl rfl (one_of HT_.out (by kernel_rfl)) (by decide) (fun K hK => ?_)
     refine goes_ Try.func49 (by kernel_rfl) rfl #[.agg #[.int .i64 a1_0, .int .i64 a1_1]] (by rfl) rfl rfl (by (try simp only [List.map_toArray, List.map_cons, List.map_nil]); first | done | rfl | (simp only [List.length_drop, List.length_take]; rfl)) ?_
     with_reducible refine (ranges_Range_End.calls a1_0 a1_1 t134 _ A8.out).mono ?_
     rintro e w15 ⟨rfl, hb⟩
     refine ⟨_, rfl, ?_⟩
     have n0_ := Aside0.mk (blk_below (g := gb131) (o := .cells #[.int .i64 a0_0, .int .i64 a0_1] 61 (0, 0)) (by (with_reducible repeat (first | refine blk_drewN ?_ _ | refine blk_drew ?_ | refine blk_alloc ?_ _)); exact BK131.out) hb)
     have n1_ := Aside0.mk (blk_below (g := gb132) (o := .cells #[.int .i64 a1_0, .int .i64 a1_1] 61 (0, 0)) (by (with_reducible repeat (first | refine blk_drewN ?_ _ | refine blk_drew ?_ | refine blk_alloc ?_ _)); exact BK132.out) hb)
     have n2_ := Aside0.mk (blk_below (g := gb133) (o := .cells #[.int .i64 0, .int .i64 0] 61 (0, 0)) (by (with_reducible repeat (first | refine blk_drewN ?_ _ | refine blk_drew ?_ | refine blk_alloc ?_ _)); exact BK133.out) hb)
     have n3_ := Aside0.mk (below_step (by repeat (first | (with_reducible first | exact HB.out | apply below_alloc | apply pw_below_drewN | apply below_drew1 | refine below_set ?_ GE131.out | refine below_set ?_ GE132.out | refine below_set ?_ GE133.out) | exact HB.out)) hb)
     clear BK131
     clear BK132
     clear BK133
     clear HB
     have BK131 := n0_
     have BK132 := n1_
     have BK133 := n2_
     have HB := n3_
     clear n0_ n1_ n2_ n3_
     (try clear hb)
     (try clear hb2)
     (try clear hk)
     (try clear hi)
     refine hK.out _ _ ⟨(blk_cell BK131.out 0).trans rfl, (blk_cell BK131.out 1).trans rfl, (blk_cell BK132.out 0).trans rfl, (blk_cell BK132.out 1).trans rfl⟩ (fun hHeld => ?_)
     clear hK K
     refine norm_ (a' := ?_) ?_ ?_
     rotate_left
     ·show Act.put _ (some 14) _ = _
      simp only [Act.put, List.setIfInBounds_toArray, List.set_cons_zero, List.set_cons_succ, i64_w, i32_w]
      rfl
     refine pure_ (i := 10) (N := some 15) (v := ?_) (a' := ?_) #[true, true, true, true, true, true, true, true, true, true, true, false, false, false, false, false, false, false, false, false, false, false, false, false, false, false] rfl rfl (any_of HT_.out (by kernel_rfl)) (fun _ _ _ h => h) (Or.inl ⟨by rfl, ?_⟩) ?_ ?_
     rotate_left
     ·intro w'
      go_simp
      with_reducible rfl
     rotate_left
     ·simp only [Act.put, List.setIfInBounds_toArray, List.set_cons_zero, List.set_cons_succ, i64_w, i32_w]
      rfl
     refine pure_ (i := 11) (N := some 16) (v := ?_) (a' := ?_) #[true, true, true, true, true, true, true, true, true, true, true, true, false, false, false, false, false, false, false, false, false, false, false, false, false, false] rfl rfl (any_of HT_.out (by kernel_rfl)) (fun _ _ _ h => h) (Or.inl ⟨by rfl, ?_⟩) ?_ ?_
     rotate_left
     ·intro w'
      go_simp
      with_reducible rfl
     rotate_left
     ·simp only [Act.put, List.setIfInBounds_toArray, List.set_cons_zero, List.set_cons_succ, i64_w, i32_w]
      rfl
     refine pure_ (i := 12) (N := some 17) (v := ?_) (a' := ?_) #[true, true, true, true, true, true, true, true, true, true, true, true, true, false, false, false, false, false, false, false, false, false, false, false, false, false] rfl rfl (any_of HT_.out (by kernel_rfl)) (fun _ _ _ h => h) (Or.inl ⟨by rfl, ?_⟩) ?_ ?_
     rotate_left
     ·intro w'
      go_simp
      with_reducible rfl
     rotate_left
     ·simp only [Act.put, List.setIfInBounds_toArray, List.set_cons_zero, List.set_cons_succ, i64_w, i32_w]
      rfl
     refine pure_ (i := 13) (N := some 18) (v := ?_) (a' := ?_) #[true, true, true, true, true, true, true, true, true, true, true, true, true, true, false, false, false, false, false, false, false, false, false, false, false, false] rfl rfl (any_of HT_.out (by kernel_rfl)) (fun _ _ _ h => h) (Or.inl ⟨by rfl, ?_⟩) ?_ ?_
     rotate_left
     ·intro w'
      go_simp
      with_reducible rfl
     rotate_left
     ·simp only [Act.put, List.setIfInBounds_toArray, List.set_cons_zero, List.set_cons_succ, i64_w, i32_w]
      rfl
     refine pure_ (i := 15) (N := some 20) (v := ?_) (a' := ?_) #[true, true, true, true, true, true, true, true, true, true, true, true, true, true, false, true, false, false, false, false, false, false, false, false, false, false] rfl rfl (any_of HT_.out (by kernel_rfl)) (fun _ _ _ h => h) (Or.inl ⟨by rfl, ?_⟩) ?_ ?_
     rotate_left
     ·intro w'
      go_simp
      with_reducible rfl
     rotate_left
     ·simp only [Act.put, List.setIfInBounds_toArray, List.set_cons_zero, List.set_cons_succ, i64_w, i32_w]
      rfl
     refine take_ (i := 14) (N := some 19) (v := ?_) (a' := ?_) #[true, true, true, true, true, true, true, true, true, true, true, true, true, true, true, true, false, false, false, false, false, false, false, false, false, false] rfl rfl (take_ofW HT_.out HW_.out (by kernel_rfl)) (fun _ _ _ h => h) (Or.inl ⟨by rfl, ?_⟩) hHeld ?_ ?_
     rotate_left
     ·rintro w' ⟨s0, s1, s2, s3⟩
      go_simp
      with_reducible rfl
     rotate_left
     ·simp only [Act.put, List.setIfInBounds_toArray, List.set_cons_zero, List.set_cons_succ, i64_w, i32_w]
      rfl
     refine take_ (i := 16) (N := some 21) (v := ?_) (a' := ?_) #[true, true, true, true, true, true, true, true, true, true, true, true, true, true, true, true, true, false, false, false, false, false, false, false, false, false] rfl rfl (take_ofW HT_.out HW_.out (by kernel_rfl)) (fun _ _ _ h => h) (Or.inl ⟨by rfl, ?_⟩) hHeld ?_ ?_
     rotate_left
     ·rintro w' ⟨s0, s1, s2, s3⟩
      go_simp
      with_reducible rfl
     rotate_left
     ·simp only [Act.put, List.setIfInBounds_toArray, List.set_cons_zero, List.set_cons_succ, i64_w, i32_w]
      rfl
     refine pure_ (i := 17) (N := some 22) (v := ?_) (a' := ?_) #[true, true, true, true, true, true, true, true, true, true, true, true, true, true, true, true, true, true, false, false, false, false, false, false, false, false] rfl rfl (any_of HT_.out (by kernel_rfl)) (fun _ _ _ h => h) (Or.inl ⟨by rfl, ?_⟩) ?_ ?_
     rotate_left
     ·intro w'
      go_simp
      with_reducible rfl
     rotate_left
     ·simp only [Act.put, List.setIfInBounds_toArray, List.set_cons_zero, List.set_cons_succ, i64_w, i32_w]
      rfl
     refine pure_ (i := 18) (N := some 23) (v := ?_) (a' := ?_) #[true, true, true, true, true, true, true, true, true, true, true, true, true, true, true, true, true, true, true, false, false, false, false, false, false, false] rfl rfl (any_of HT_.out (by kernel_rfl)) (fun _ _ _ h => h) (Or.inl ⟨by rfl, ?_⟩) ?_ ?_
     rotate_left
     ·intro w'
      go_simp
      with_reducible rfl
     rotate_left
     ·simp only [Act.put, List.setIfInBounds_toArray, List.set_cons_zero, List.set_cons_succ, i64_w, i32_w]
      rfl
     refine pure_ (i := 19) (N := some 24) (v := ?_) (a' := ?_) #[true, true, true, true, true, true, true, true, true, true, true, true, true, true, true, true, true, true, true, true, false, false, false, false, false, false] rfl rfl (any_of HT_.out (by kernel_rfl)) (fun _ _ _ h => h) (Or.inl ⟨by rfl, ?_⟩) ?_ ?_
     rotate_left
     ·intro w'
      go_simp
      with_reducible rfl
     rotate_left
     ·simp only [Act.put, List.setIfInBounds_toArray, List.set_cons_zero, List.set_cons_succ, i64_w, i32_w]
      rfl
     refine take_ (i := 20) (N := some 25) (v := ?_) (a' := ?_) #[true, true, true, true, true, true, true, true, true, true, true, true, true, true, true, true, true, true, true, true, true, false, false, false, false, false] rfl rfl (take_ofW HT_.out HW_.out (by kernel_rfl)) (fun _ _ _ h => h) (Or.inl ⟨by rfl, ?_⟩) hHeld ?_ ?_
     rotate_left
     ·rintro w' ⟨s0, s1, s2, s3⟩
      go_simp
      with_reducible rfl
     rotate_left
     ·simp only [Act.put, List.setIfInBounds_toArray, List.set_cons_zero, List.set_cons_succ, i64_w, i32_w]
      rfl
     refine take_ (i := 21) (N := some 26) (v := ?_) (a' := ?_) #[true, true, true, true, true, true, true, true, true, true, true, true, true, true, true, true, true, true, true, true, true, true, false, false, false, false] rfl rfl (take_ofW HT_.out HW_.out (by kernel_rfl)) (fun _ _ _ h => h) (Or.inl ⟨by rfl, ?_⟩) hHeld ?_ ?_
     rotate_left
     ·rintro w' ⟨s0, s1, s2, s3⟩
      go_simp
      with_reducible rfl
     rotate_left
     ·simp only [Act.put, List.setIfInBounds_toArray, List.set_cons_zero, List.set_cons_succ, i64_w, i32_w]
      rfl
     refine one_ (i := 22) (N := some 27) #[true, true, true, true, true, true, true, true, true, true, true, true, true, true, true, true, true, true, true, true, true, true, true, false, false, false] rfl rfl (one_of HT_.out (by kernel_rfl)) (by decide) (fun K hK => ?_)
     refine goes_ Try.func49 (by kernel_rfl) rfl #[.agg #[.int .i64 a0_0, .int .i64 a0_1]] (by rfl) rfl rfl (by (try simp only [List.map_toArray, List.map_cons, List.map_nil]); first | done | rfl | (simp only [List.length_drop, List.length_take]; rfl)) ?_
     with_reducible refine (ranges_Range_End.calls a0_0 a0_1 t135 _ A13.out).mono ?_
     rintro e w16 ⟨rfl, hb⟩
     refine ⟨_, rfl, ?_⟩
     have n0_ := Aside0.mk (blk_below (g := gb131) (o := .cells #[.int .i64 a0_0, .int .i64 a0_1] 61 (0, 0)) (by (with_reducible repeat (first | refine blk_drewN ?_ _ | refine blk_drew ?_ | refine blk_alloc ?_ _)); exact BK131.out) hb)
     have n1_ := Aside0.mk (blk_below (g := gb132) (o := .cells #[.int .i64 a1_0, .int .i64 a1_1] 61 (0, 0)) (by (with_reducible repeat (first | refine blk_drewN ?_ _ | refine blk_drew ?_ | refine blk_alloc ?_ _)); exact BK132.out) hb)
     have n2_ := Aside0.mk (blk_below (g := gb133) (o := .cells #[.int .i64 0, .int .i64 0] 61 (0, 0)) (by (with_reducible repeat (first | refine blk_drewN ?_ _ | refine blk_drew ?_ | refine blk_alloc ?_ _)); exact BK133.out) hb)
     have n3_ := Aside0.mk (below_step (by repeat (first | (with_reducible first | exact HB.out | apply below_alloc | apply pw_below_drewN | apply below_drew1 | refine below_set ?_ GE131.out | refine below_set ?_ GE132.out | refine below_set ?_ GE133.out) | exact HB.out)) hb)
     clear BK131
     clear BK132
     clear BK133
     clear HB
     have BK131 := n0_
     have BK132 := n1_
     have BK133 := n2_
     have HB := n3_
     clear n0_ n1_ n2_ n3_
     (try clear hb)
     (try clear hb2)
     (try clear hk)
     (try clear hi)
     refine hK.out _ _ ⟨(blk_cell BK131.out 0).trans rfl, (blk_cell BK131.out 1).trans rfl, (blk_cell BK132.out 0).trans rfl, (blk_cell BK132.out 1).trans rfl⟩ (fun hHeld => ?_)
     clear hK K
     refine norm_ (a' := ?_) ?_ ?_
     rotate_left
     ·show Act.put _ (some 27) _ = _
      simp only [Act.put, List.setIfInBounds_toArray, List.set_cons_zero, List.set_cons_succ, i64_w, i32_w]
      rfl
     refine pure_ (i := 23) (N := some 28) (v := ?_) (a' := ?_) #[true, true, true, true, true, true, true, true, true, true, true, true, true, true, true, true, true, true, true, true, true, true, true, true, false, false] rfl rfl (any_of HT_.out (by kernel_rfl)) (fun _ _ _ h => h) (Or.inl ⟨by rfl, ?_⟩) ?_ ?_
     rotate_left
     ·intro w'
      go_simp
      with_reducible rfl
     rotate_left
     ·simp only [Act.put, List.setIfInBounds_toArray, List.set_cons_zero, List.set_cons_succ, i64_w, i32_w]
      rfl
     refine pure_ (i := 24) (N := some 29) (v := ?_) (a' := ?_) #[true, true, true, true, true, true, true, true, true, true, true, true, true, true, true, true, true, true, true, true, true, true, true, true, true, false] rfl rfl (any_of HT_.out (by kernel_rfl)) (fun _ _ _ h => h) (Or.inl ⟨by rfl, ?_⟩) ?_ ?_
     rotate_left
     ·intro w'
      go_simp
      with_reducible rfl
     rotate_left
     ·simp only [Act.put, List.setIfInBounds_toArray, List.set_cons_zero, List.set_cons_succ, i64_w, i32_w]
      rfl
     refine pure_ (i := 25) (N := some 30) (v := ?_) (a' := ?_) #[true, true, true, true, true, true, true, true, true, true, true, true, true, true, true, true, true, true, true, true, true, true, true, true, true, true] rfl rfl (any_of HT_.out (by kernel_rfl)) (fun _ _ _ h => h) (Or.inl ⟨by rfl, ?_⟩) ?_ ?_
     rotate_left
     ·intro w'
      go_simp
      with_reducible rfl
     rotate_left
     ·simp only [Act.put, List.setIfInBounds_toArray, List.set_cons_zero, List.set_cons_succ, i64_w, i32_w]
      rfl
     refine done_ (done_of HT_.out (by kernel_rfl)) ?_
     try go_wp2
     go_meet
     case rel => exact ⟨_, (decide (a1_0 < t135)), (by first | rfl | (simp; done) | (simp [*]; done) | (simp [xt_ne_nil]; done)), H', ⟨by first | omega | exact Nat.le_refl _⟩, ⟨by (with_reducible repeat (first | refine blk_drewN ?_ _ | refine blk_drew ?_ | refine blk_alloc ?_ _)); exact BK131.out⟩, ⟨by (with_reducible repeat (first | refine blk_drewN ?_ _ | refine blk_drew ?_ | refine blk_alloc ?_ _)); exact BK132.out⟩, ⟨by (with_reducible repeat (first | refine blk_drewN ?_ _ | refine blk_drew ?_ | refine blk_alloc ?_ _)); exact BK133.out⟩, ⟨by repeat (first | (with_reducible first | exact HB.out | apply below_alloc | apply pw_below_drewN | apply below_drew1 | refine below_set ?_ GE131.out | refine below_set ?_ GE132.out | refine below_set ?_ GE133.out) | exact HB.out)⟩⟩
    ·rw [if_neg c12] at H
     have c12b0 : decide (a0_0 ≤ a1_0) = false := decide_eq_false c12
     clear c12
     have H' := Aside0.mk H
     clear H
     try go_wp2
     have n0_ := Aside0.mk (blk_drew BK131.out)
     have n1_ := Aside0.mk (blk_drew BK132.out)
     have n2_ := Aside0.mk (blk_drew BK133.out)
     have n3_ := Aside0.mk (below_drew1 HB.out)
     clear BK131
     clear BK132
     clear BK133
     clear HB
     have BK131 := n0_
     have BK132 := n1_
     have BK133 := n2_
     have HB := n3_
     clear n0_ n1_ n2_ n3_
     refine start_ (n := 26) (S := fun w' => w'.cell? ⟨gb131, 0, none⟩ = some (.int .i64 a0_0) ∧ w'.cell? ⟨gb131, 1, none⟩ = some (.int .i64 a0_1) ∧ w'.cell? ⟨gb132, 0, none⟩ = some (.int .i64 a1_0) ∧ w'.cell? ⟨gb132, 1, none⟩ = some (.int .i64 a1_1)) (ds := []) #[false, false, false, false, false, false, false, false, false, false, false, false, false, false, false, false, false, false, false, false, false, false, false, false, false, false] (by kernel_rfl) rfl rfl ⟨(blk_cell BK131.out 0).trans rfl, (blk_cell BK131.out 1).trans rfl, (blk_cell BK132.out 0).trans rfl, (blk_cell BK132.out 1).trans rfl⟩ (fun hHeld => ?_); refine with_tabW ranges_Range_Intersection.tab1 ranges_Range_Intersection.bits1 (fun HT_ HW_ => ?_)
     generalize w6.drew = w17 at BK131 BK132 BK133 HB hHeld ⊢
     refine pure_ (i := 0) (N := some 5) (v := ?_) (a' := ?_) #[true, false, false, false, false, false, false, false, false, false, false, false, false, false, false, false, false, false, false, false, false, false, false, false, false, false] rfl rfl (any_of HT_.out (by kernel_rfl)) (fun _ _ _ h => h) (Or.inl ⟨by rfl, ?_⟩) ?_ ?_
     rotate_left
     ·intro w'
      go_simp
      with_reducible rfl
     rotate_left
     ·simp only [Act.put, List.setIfInBounds_toArray, List.set_cons_zero, List.set_cons_succ, i64_w, i32_w]
      rfl
     refine pure_ (i := 2) (N := some 7) (v := ?_) (a' := ?_) #[true, false, true, false, false, false, false, false, false, false, false, false, false, false, false, false, false, false, false, false, false, false, false, false, false, false] rfl rfl (any_of HT_.out (by kernel_rfl)) (fun _ _ _ h => h) (Or.inl ⟨by rfl, ?_⟩) ?_ ?_
     rotate_left
     ·intro w'
      go_simp
      with_reducible rfl
     rotate_left
     ·simp only [Act.put, List.setIfInBounds_toArray, List.set_cons_zero, List.set_cons_succ, i64_w, i32_w]
      rfl
     refine take_ (i := 1) (N := some 6) (v := ?_) (a' := ?_) #[true, true, true, false, false, false, false, false, false, false, false, false, false, false, false, false, false, false, false, false, false, false, false, false, false, false] rfl rfl (take_ofW HT_.out HW_.out (by kernel_rfl)) (fun _ _ _ h => h) (Or.inl ⟨by rfl, ?_⟩) hHeld ?_ ?_
     rotate_left
     ·rintro w' ⟨s0, s1, s2, s3⟩
      go_simp
      with_reducible rfl
     rotate_left
     ·simp only [Act.put, List.setIfInBounds_toArray, List.set_cons_zero, List.set_cons_succ, i64_w, i32_w]
      rfl
     refine take_ (i := 3) (N := some 8) (v := ?_) (a' := ?_) #[true, true, true, true, false, false, false, false, false, false, false, false, false, false, false, false, false, false, false, false, false, false, false, false, false, false] rfl rfl (take_ofW HT_.out HW_.out (by kernel_rfl)) (fun _ _ _ h => h) (Or.inl ⟨by rfl, ?_⟩) hHeld ?_ ?_
     rotate_left
     ·rintro w' ⟨s0, s1, s2, s3⟩
      go_simp
      with_reducible rfl
     rotate_left
     ·simp only [Act.put, List.setIfInBounds_toArray, List.set_cons_zero, List.set_cons_succ, i64_w, i32_w]
      rfl
     refine pure_ (i := 4) (N := some 9) (v := ?_) (a' := ?_) #[true, true, true, true, true, false, false, false, false, false, false, false, false, false, false, false, false, false, false, false, false, false, false, false, false, false] rfl rfl (any_of HT_.out (by kernel_rfl)) (fun _ _ _ h => h) (Or.inl ⟨by rfl, ?_⟩) ?_ ?_
     rotate_left
     ·intro w'
      go_simp
      with_reducible rfl
     rotate_left
     ·simp only [Act.put, List.setIfInBounds_toArray, List.set_cons_zero, List.set_cons_succ, i64_w, i32_w]
      rfl
     refine pure_ (i := 5) (N := some 10) (v := ?_) (a' := ?_) #[true, true, true, true, true, true, false, false, false, false, false, false, false, false, false, false, false, false, false, false, false, false, false, false, false, false] rfl rfl (any_of HT_.out (by kernel_rfl)) (fun _ _ _ h => h) (Or.inl ⟨by rfl, ?_⟩) ?_ ?_
     rotate_left
     ·intro w'
      go_simp
      with_reducible rfl
     rotate_left
     ·simp only [Act.put, List.setIfInBounds_toArray, List.set_cons_zero, List.set_cons_succ, i64_w, i32_w]
      rfl
     refine pure_ (i := 6) (N := some 11) (v := ?_) (a' := ?_) #[true, true, true, true, true, true, true, false, false, false, false, false, false, false, false, false, false, false, false, false, false, false, false, false, false, false] rfl rfl (any_of HT_.out (by kernel_rfl)) (fun _ _ _ h => h) (Or.inl ⟨by rfl, ?_⟩) ?_ ?_
     rotate_left
     ·intro w'
      go_simp
      with_reducible rfl
     rotate_left
     ·simp only [Act.put, List.setIfInBounds_toArray, List.set_cons_zero, List.set_cons_succ, i64_w, i32_w]
      rfl
     refine take_ (i := 7) (N := some 12) (v := ?_) (a' := ?_) #[true, true, true, true, true, true, true, true, false, false, false, false, false, false, false, false, false, false, false, false, false, false, false, false, false, false] rfl rfl (take_ofW HT_.out HW_.out (by kernel_rfl)) (fun _ _ _ h => h) (Or.inl ⟨by rfl, ?_⟩) hHeld ?_ ?_
     rotate_left
     ·rintro w' ⟨s0, s1, s2, s3⟩
      go_simp
      with_reducible rfl
     rotate_left
     ·simp only [Act.put, List.setIfInBounds_toArray, List.set_cons_zero, List.set_cons_succ, i64_w, i32_w]
      rfl
     refine take_ (i := 8) (N := some 13) (v := ?_) (a' := ?_) #[true, true, true, true, true, true, true, true, true, false, false, false, false, false, false, false, false, false, false, false, false, false, false, false, false, false] rfl rfl (take_ofW HT_.out HW_.out (by kernel_rfl)) (fun _ _ _ h => h) (Or.inl ⟨by rfl, ?_⟩) hHeld ?_ ?_
     rotate_left
     ·rintro w' ⟨s0, s1, s2, s3⟩
      go_simp
      with_reducible rfl
     rotate_left
     ·simp only [Act.put, List.setIfInBounds_toArray, List.set_cons_zero, List.set_cons_succ, i64_w, i32_w]
      rfl
     refine one_ (i := 9) (N := some 14) #[true, true, true, true, true, true, true, true, true, true, false, false, false, false, false, false, false, false, false, false, false, false, false, false, false, false] rfl rfl (one_of HT_.out (by kernel_rfl)) (by decide) (fun K hK => ?_)
     refine goes_ Try.func49 (by kernel_rfl) rfl #[.agg #[.int .i64 a1_0, .int .i64 a1_1]] (by rfl) rfl rfl (by (try simp only [List.map_toArray, List.map_cons, List.map_nil]); first | done | rfl | (simp only [List.length_drop, List.length_take]; rfl)) ?_
     with_reducible refine (ranges_Range_End.calls a1_0 a1_1 t134 _ A8.out).mono ?_
     rintro e w18 ⟨rfl, hb⟩
     refine ⟨_, rfl, ?_⟩
     have n0_ := Aside0.mk (blk_below (g := gb131) (o := .cells #[.int .i64 a0_0, .int .i64 a0_1] 61 (0, 0)) (by (with_reducible repeat (first | refine blk_drewN ?_ _ | refine blk_drew ?_ | refine blk_alloc ?_ _)); exact BK131.out) hb)
     have n1_ := Aside0.mk (blk_below (g := gb132) (o := .cells #[.int .i64 a1_0, .int .i64 a1_1] 61 (0, 0)) (by (with_reducible repeat (first | refine blk_drewN ?_ _ | refine blk_drew ?_ | refine blk_alloc ?_ _)); exact BK132.out) hb)
     have n2_ := Aside0.mk (blk_below (g := gb133) (o := .cells #[.int .i64 0, .int .i64 0] 61 (0, 0)) (by (with_reducible repeat (first | refine blk_drewN ?_ _ | refine blk_drew ?_ | refine blk_alloc ?_ _)); exact BK133.out) hb)
     have n3_ := Aside0.mk (below_step (by repeat (first | (with_reducible first | exact HB.out | apply below_alloc | apply pw_below_drewN | apply below_drew1 | refine below_set ?_ GE131.out | refine below_set ?_ GE132.out | refine below_set ?_ GE133.out) | exact HB.out)) hb)
     clear BK131
     clear BK132
     clear BK133
     clear HB
     have BK131 := n0_
     have BK132 := n1_
     have BK133 := n2_
     have HB := n3_
     clear n0_ n1_ n2_ n3_
     (try clear hb)
     (try clear hb2)
     (try clear hk)
     (try clear hi)
     refine hK.out _ _ ⟨(blk_cell BK131.out 0).trans rfl, (blk_cell BK131.out 1).trans rfl, (blk_cell BK132.out 0).trans rfl, (blk_cell BK132.out 1).trans rfl⟩ (fun hHeld => ?_)
     clear hK K
     refine norm_ (a' := ?_) ?_ ?_
     rotate_left
     ·show Act.put _ (some 14) _ = _
      simp only [Act.put, List.setIfInBounds_toArray, List.set_cons_zero, List.set_cons_succ, i64_w, i32_w]
      rfl
     refine pure_ (i := 10) (N := some 15) (v := ?_) (a' := ?_) #[true, true, true, true, true, true, true, true, true, true, true, false, false, false, false, false, false, false, false, false, false, false, false, false, false, false] rfl rfl (any_of HT_.out (by kernel_rfl)) (fun _ _ _ h => h) (Or.inl ⟨by rfl, ?_⟩) ?_ ?_
     rotate_left
     ·intro w'
      go_simp
      with_reducible rfl
     rotate_left
     ·simp only [Act.put, List.setIfInBounds_toArray, List.set_cons_zero, List.set_cons_succ, i64_w, i32_w]
      rfl
     refine pure_ (i := 11) (N := some 16) (v := ?_) (a' := ?_) #[true, true, true, true, true, true, true, true, true, true, true, true, false, false, false, false, false, false, false, false, false, false, false, false, false, false] rfl rfl (any_of HT_.out (by kernel_rfl)) (fun _ _ _ h => h) (Or.inl ⟨by rfl, ?_⟩) ?_ ?_
     rotate_left
     ·intro w'
      go_simp
      with_reducible rfl
     rotate_left
     ·simp only [Act.put, List.setIfInBounds_toArray, List.set_cons_zero, List.set_cons_succ, i64_w, i32_w]
      rfl
     refine pure_ (i := 12) (N := some 17) (v := ?_) (a' := ?_) #[true, true, true, true, true, true, true, true, true, true, true, true, true, false, false, false, false, false, false, false, false, false, false, false, false, false] rfl rfl (any_of HT_.out (by kernel_rfl)) (fun _ _ _ h => h) (Or.inl ⟨by rfl, ?_⟩) ?_ ?_
     rotate_left
     ·intro w'
      go_simp
      with_reducible rfl
     rotate_left
     ·simp only [Act.put, List.setIfInBounds_toArray, List.set_cons_zero, List.set_cons_succ, i64_w, i32_w]
      rfl
     refine pure_ (i := 13) (N := some 18) (v := ?_) (a' := ?_) #[true, true, true, true, true, true, true, true, true, true, true, true, true, true, false, false, false, false, false, false, false, false, false, false, false, false] rfl rfl (any_of HT_.out (by kernel_rfl)) (fun _ _ _ h => h) (Or.inl ⟨by rfl, ?_⟩) ?_ ?_
     rotate_left
     ·intro w'
      go_simp
      with_reducible rfl
     rotate_left
     ·simp only [Act.put, List.setIfInBounds_toArray, List.set_cons_zero, List.set_cons_succ, i64_w, i32_w]
      rfl
     refine pure_ (i := 15) (N := some 20) (v := ?_) (a' := ?_) #[true, true, true, true, true, true, true, true, true, true, true, true, true, true, false, true, false, false, false, false, false, false, false, false, false, false] rfl rfl (any_of HT_.out (by kernel_rfl)) (fun _ _ _ h => h) (Or.inl ⟨by rfl, ?_⟩) ?_ ?_
     rotate_left
     ·intro w'
      go_simp
      with_reducible rfl
     rotate_left
     ·simp only [Act.put, List.setIfInBounds_toArray, List.set_cons_zero, List.set_cons_succ, i64_w, i32_w]
      rfl
     refine take_ (i := 14) (N := some 19) (v := ?_) (a' := ?_) #[true, true, true, true, true, true, true, true, true, true, true, true, true, true, true, true, false, false, false, false, false, false, false, false, false, false] rfl rfl (take_ofW HT_.out HW_.out (by kernel_rfl)) (fun _ _ _ h => h) (Or.inl ⟨by rfl, ?_⟩) hHeld ?_ ?_
     rotate_left
     ·rintro w' ⟨s0, s1, s2, s3⟩
      go_simp
      with_reducible rfl
     rotate_left
     ·simp only [Act.put, List.setIfInBounds_toArray, List.set_cons_zero, List.set_cons_succ, i64_w, i32_w]
      rfl
     refine take_ (i := 16) (N := some 21) (v := ?_) (a' := ?_) #[true, true, true, true, true, true, true, true, true, true, true, true, true, true, true, true, true, false, false, false, false, false, false, false, false, false] rfl rfl (take_ofW HT_.out HW_.out (by kernel_rfl)) (fun _ _ _ h => h) (Or.inl ⟨by rfl, ?_⟩) hHeld ?_ ?_
     rotate_left
     ·rintro w' ⟨s0, s1, s2, s3⟩
      go_simp
      with_reducible rfl
     rotate_left
     ·simp only [Act.put, List.setIfInBounds_toArray, List.set_cons_zero, List.set_cons_succ, i64_w, i32_w]
      rfl
     refine pure_ (i := 17) (N := some 22) (v := ?_) (a' := ?_) #[true, true, true, true, true, true, true, true, true, true, true, true, true, true, true, true, true, true, false, false, false, false, false, false, false, false] rfl rfl (any_of HT_.out (by kernel_rfl)) (fun _ _ _ h => h) (Or.inl ⟨by rfl, ?_⟩) ?_ ?_
     rotate_left
     ·intro w'
      go_simp
      with_reducible rfl
     rotate_left
     ·simp only [Act.put, List.setIfInBounds_toArray, List.set_cons_zero, List.set_cons_succ, i64_w, i32_w]
      rfl
     refine pure_ (i := 18) (N := some 23) (v := ?_) (a' := ?_) #[true, true, true, true, true, true, true, true, true, true, true, true, true, true, true, true, true, true, true, false, false, false, false, false, false, false] rfl rfl (any_of HT_.out (by kernel_rfl)) (fun _ _ _ h => h) (Or.inl ⟨by rfl, ?_⟩) ?_ ?_
     rotate_left
     ·intro w'
      go_simp
      with_reducible rfl
     rotate_left
     ·simp only [Act.put, List.setIfInBounds_toArray, List.set_cons_zero, List.set_cons_succ, i64_w, i32_w]
      rfl
     refine pure_ (i := 19) (N := some 24) (v := undef) (a' := ?_) #[true, true, true, true, true, true, true, true, true, true, true, true, true, true, true, true, true, true, true, true, false, false, false, false, false, false] rfl rfl (any_of HT_.out (by kernel_rfl)) (fun _ _ _ h => h) (Or.inr ⟨by rfl, rfl⟩) ?_ ?_
     rotate_left
     ·simp only [Act.put, List.setIfInBounds_toArray, List.set_cons_zero, List.set_cons_succ, i64_w, i32_w]
      rfl
     refine pure_ (i := 20) (N := some 25) (v := undef) (a' := ?_) #[true, true, true, true, true, true, true, true, true, true, true, true, true, true, true, true, true, true, true, true, true, false, false, false, false, false] rfl rfl (any_of HT_.out (by kernel_rfl)) (fun _ _ _ h => h) (Or.inr ⟨by rfl, rfl⟩) ?_ ?_
     rotate_left
     ·simp only [Act.put, List.setIfInBounds_toArray, List.set_cons_zero, List.set_cons_succ, i64_w, i32_w]
      rfl
     refine pure_ (i := 21) (N := some 26) (v := undef) (a' := ?_) #[true, true, true, true, true, true, true, true, true, true, true, true, true, true, true, true, true, true, true, true, true, true, false, false, false, false] rfl rfl (any_of HT_.out (by kernel_rfl)) (fun _ _ _ h => h) (Or.inr ⟨by rfl, rfl⟩) ?_ ?_
     rotate_left
     ·simp only [Act.put, List.setIfInBounds_toArray, List.set_cons_zero, List.set_cons_succ, i64_w, i32_w]
      rfl
     refine pure_ (i := 22) (N := some 27) (v := undef) (a' := ?_) #[true, true, true, true, true, true, true, true, true, true, true, true, true, true, true, true, true, true, true, true, true, true, true, false, false, false] rfl rfl (any_of HT_.out (by kernel_rfl)) (fun _ _ _ h => h) (Or.inr ⟨by rfl, rfl⟩) ?_ ?_
     rotate_left
     ·simp only [Act.put, List.setIfInBounds_toArray, List.set_cons_zero, List.set_cons_succ, i64_w, i32_w]
      rfl
     refine pure_ (i := 23) (N := some 28) (v := undef) (a' := ?_) #[true, true, true, true, true, true, true, true, true, true, true, true, true, true, true, true, true, true, true, true, true, true, true, true, false, false] rfl rfl (any_of HT_.out (by kernel_rfl)) (fun _ _ _ h => h) (Or.inr ⟨by rfl, rfl⟩) ?_ ?_
     rotate_left
     ·simp only [Act.put, List.setIfInBounds_toArray, List.set_cons_zero, List.set_cons_succ, i64_w, i32_w]
      rfl
     refine pure_ (i := 24) (N := some 29) (v := ?_) (a' := ?_) #[true, true, true, true, true, true, true, true, true, true, true, true, true, true, true, true, true, true, true, true, true, true, true, true, true, false] rfl rfl (any_of HT_.out (by kernel_rfl)) (fun _ _ _ h => h) (Or.inl ⟨by rfl, ?_⟩) ?_ ?_
     rotate_left
     ·intro w'
      go_simp
      with_reducible rfl
     rotate_left
     ·simp only [Act.put, List.setIfInBounds_toArray, List.set_cons_zero, List.set_cons_succ, i64_w, i32_w]
      rfl
     refine pure_ (i := 25) (N := some 30) (v := ?_) (a' := ?_) #[true, true, true, true, true, true, true, true, true, true, true, true, true, true, true, true, true, true, true, true, true, true, true, true, true, true] rfl rfl (any_of HT_.out (by kernel_rfl)) (fun _ _ _ h => h) (Or.inl ⟨by rfl, ?_⟩) ?_ ?_
     rotate_left
     ·intro w'
      go_simp
      with_reducible rfl
     rotate_left
     ·simp only [Act.put, List.setIfInBounds_toArray, List.set_cons_zero, List.set_cons_succ, i64_w, i32_w]
      rfl
     refine done_ (done_of HT_.out (by kernel_rfl)) ?_
     try go_wp2
     go_meet
     case rel => exact ⟨_, (false), (by first | rfl | (simp; done) | (simp [*]; done) | (simp [xt_ne_nil]; done)), H', ⟨by first | omega | exact Nat.le_refl _⟩, ⟨by (with_reducible repeat (first | refine blk_drewN ?_ _ | refine blk_drew ?_ | refine blk_alloc ?_ _)); exact BK131.out⟩, ⟨by (with_reducible repeat (first | refine blk_drewN ?_ _ | refine blk_drew ?_ | refine blk_alloc ?_ _)); exact BK132.out⟩, ⟨by (with_reducible repeat (first | refine blk_drewN ?_ _ | refine blk_drew ?_ | refine blk_alloc ?_ _)); exact BK133.out⟩, ⟨by repeat (first | (with_reducible first | exact HB.out | apply below_alloc | apply pw_below_drewN | apply below_drew1 | refine below_set ?_ GE131.out | refine below_set ?_ GE132.out | refine below_set ?_ GE133.out) | exact HB.out)⟩⟩
  ·rw [if_neg c7] at H
   have c7b0 : decide (a1_0 ≤ a0_0) = false := decide_eq_false c7
   clear c7
   (first | rw [c7b0] | (simp only [i64_w, i32_w]; rw [c7b0]) | skip)
   by_cases c19 : a1_0 ≥ a0_0
   ·rw [if_pos c19] at H
    have c19b0 : decide (a0_0 ≤ a1_0) = true := decide_eq_true c19
    clear c19
    replace H := Option.bind_eq_some_iff.mp H
    obtain ⟨t136, A200, H⟩ := H
    replace H : (ranges_Range_Intersection.j0 k (decide (a1_0 < t136)) a0_0 a0_1 a1_0 a1_1 0 0) = some (r1, r2) := H
    have A20 := Aside0.mk A200
    clear A200
    have H' := Aside0.mk H
    clear H
    try go_wp2
    have n0_ := Aside0.mk (blk_drew BK131.out)
    have n1_ := Aside0.mk (blk_drew BK132.out)
    have n2_ := Aside0.mk (blk_drew BK133.out)
    have n3_ := Aside0.mk (below_drew1 HB.out)
    clear BK131
    clear BK132
    clear BK133
    clear HB
    have BK131 := n0_
    have BK132 := n1_
    have BK133 := n2_
    have HB := n3_
    clear n0_ n1_ n2_ n3_
    refine start_ (n := 26) (S := fun w' => w'.cell? ⟨gb131, 0, none⟩ = some (.int .i64 a0_0) ∧ w'.cell? ⟨gb131, 1, none⟩ = some (.int .i64 a0_1) ∧ w'.cell? ⟨gb132, 0, none⟩ = some (.int .i64 a1_0) ∧ w'.cell? ⟨gb132, 1, none⟩ = some (.int .i64 a1_1)) (ds := []) #[false, false, false, false, false, false, false, false, false, false, false, false, false, false, false, false, false, false, false, false, false, false, false, false, false, false] (by kernel_rfl) rfl rfl ⟨(blk_cell BK131.out 0).trans rfl, (blk_cell BK131.out 1).trans rfl, (blk_cell BK132.out 0).trans rfl, (blk_cell BK132.out 1).trans rfl⟩ (fun hHeld => ?_); refine with_tabW ranges_Range_Intersection.tab1 ranges_Range_Intersection.bits1 (fun HT_ HW_ => ?_)
    generalize w6.drew = w21 at BK131 BK132 BK133 HB hHeld ⊢
    refine pure_ (i := 0) (N := some 5) (v := ?_) (a' := ?_) #[true, false, false, false, false, false, false, false, false, false, false, false, false, false, false, false, false, false, false, false, false, false, false, false, false, false] rfl rfl (any_of HT_.out (by kernel_rfl)) (fun _ _ _ h => h) (Or.inl ⟨by rfl, ?_⟩) ?_ ?_
    rotate_left
    ·intro w'
     go_simp
     with_reducible rfl
    rotate_left
    ·simp only [Act.put, List.setIfInBounds_toArray, List.set_cons_zero, List.set_cons_succ, i64_w, i32_w]
     rfl
    refine pure_ (i := 2) (N := some 7) (v := ?_) (a' := ?_) #[true, false, true, false, false, false, false, false, false, false, false, false, false, false, false, false, false, false, false, false, false, false, false, false, false, false] rfl rfl (any_of HT_.out (by kernel_rfl)) (fun _ _ _ h => h) (Or.inl ⟨by rfl, ?_⟩) ?_ ?_
    rotate_left
    ·intro w'
     go_simp
     with_reducible rfl
    rotate_left
    ·simp only [Act.put, List.setIfInBounds_toArray, List.set_cons_zero, List.set_cons_succ, i64_w, i32_w]
     rfl
    refine take_ (i := 1) (N := some 6) (v := ?_) (a' := ?_) #[true, true, true, false, false, false, false, false, false, false, false, false, false, false, false, false, false, false, false, false, false, false, false, false, false, false] rfl rfl (take_ofW HT_.out HW_.out (by kernel_rfl)) (fun _ _ _ h => h) (Or.inl ⟨by rfl, ?_⟩) hHeld ?_ ?_
    rotate_left
    ·rintro w' ⟨s0, s1, s2, s3⟩
     go_simp
     with_reducible rfl
    rotate_left
    ·simp only [Act.put, List.setIfInBounds_toArray, List.set_cons_zero, List.set_cons_succ, i64_w, i32_w]
     rfl
    refine take_ (i := 3) (N := some 8) (v := ?_) (a' := ?_) #[true, true, true, true, false, false, false, false, false, false, false, false, false, false, false, false, false, false, false, false, false, false, false, false, false, false] rfl rfl (take_ofW HT_.out HW_.out (by kernel_rfl)) (fun _ _ _ h => h) (Or.inl ⟨by rfl, ?_⟩) hHeld ?_ ?_
    rotate_left
    ·rintro w' ⟨s0, s1, s2, s3⟩
     go_simp
     with_reducible rfl
    rotate_left
    ·simp only [Act.put, List.setIfInBounds_toArray, List.set_cons_zero, List.set_cons_succ, i64_w, i32_w]
     rfl
    refine pure_ (i := 4) (N := some 9) (v := ?_) (a' := ?_) #[true, true, true, true, true, false, false, false, false, false, false, false, false, false, false, false, false, false, false, false, false, false, false, false, false, false] rfl rfl (any_of HT_.out (by kernel_rfl)) (fun _ _ _ h => h) (Or.inl ⟨by rfl, ?_⟩) ?_ ?_
    rotate_left
    ·intro w'
     go_simp
     with_reducible rfl
    rotate_left
    ·simp only [Act.put, List.setIfInBounds_toArray, List.set_cons_zero, List.set_cons_succ, i64_w, i32_w]
     rfl
    refine pure_ (i := 5) (N := some 10) (v := ?_) (a' := ?_) #[true, true, true, true, true, true, false, false, false, false, false, false, false, false, false, false, false, false, false, false, false, false, false, false, false, false] rfl rfl (any_of HT_.out (by kernel_rfl)) (fun _ _ _ h => h) (Or.inl ⟨by rfl, ?_⟩) ?_ ?_
    rotate_left
    ·intro w'
     go_simp
     with_reducible rfl
    rotate_left
    ·simp only [Act.put, List.setIfInBounds_toArray, List.set_cons_zero, List.set_cons_succ, i64_w, i32_w]
     rfl
    refine pure_ (i := 6) (N := some 11) (v := undef) (a' := ?_) #[true, true, true, true, true, true, true, false, false, false, false, false, false, false, false, false, false, false, false, false, false, false, false, false, false, false] rfl rfl (any_of HT_.out (by kernel_rfl)) (fun _ _ _ h => h) (Or.inr ⟨by rfl, rfl⟩) ?_ ?_
    rotate_left
    ·simp only [Act.put, List.setIfInBounds_toArray, List.set_cons_zero, List.set_cons_succ, i64_w, i32_w]
     rfl
    refine pure_ (i := 7) (N := some 12) (v := undef) (a' := ?_) #[true, true, true, true, true, true, true, true, false, false, false, false, false, false, false, false, false, false, false, false, false, false, false, false, false, false] rfl rfl (any_of HT_.out (by kernel_rfl)) (fun _ _ _ h => h) (Or.inr ⟨by rfl, rfl⟩) ?_ ?_
    rotate_left
    ·simp only [Act.put, List.setIfInBounds_toArray, List.set_cons_zero, List.set_cons_succ, i64_w, i32_w]
     rfl
    refine pure_ (i := 8) (N := some 13) (v := undef) (a' := ?_) #[true, true, true, true, true, true, true, true, true, false, false, false, false, false, false, false, false, false, false, false, false, false, false, false, false, false] rfl rfl (any_of HT_.out (by kernel_rfl)) (fun _ _ _ h => h) (Or.inr ⟨by rfl, rfl⟩) ?_ ?_
    rotate_left
    ·simp only [Act.put, List.setIfInBounds_toArray, List.set_cons_zero, List.set_cons_succ, i64_w, i32_w]
     rfl
    refine pure_ (i := 9) (N := some 14) (v := undef) (a' := ?_) #[true, true, true, true, true, true, true, true, true, true, false, false, false, false, false, false, false, false, false, false, false, false, false, false, false, false] rfl rfl (any_of HT_.out (by kernel_rfl)) (fun _ _ _ h => h) (Or.inr ⟨by rfl, rfl⟩) ?_ ?_
    rotate_left
    ·simp only [Act.put, List.setIfInBounds_toArray, List.set_cons_zero, List.set_cons_succ, i64_w, i32_w]
     rfl
    refine pure_ (i := 10) (N := some 15) (v := undef) (a' := ?_) #[true, true, true, true, true, true, true, true, true, true, true, false, false, false, false, false, false, false, false, false, false, false, false, false, false, false] rfl rfl (any_of HT_.out (by kernel_rfl)) (fun _ _ _ h => h) (Or.inr ⟨by rfl, rfl⟩) ?_ ?_
    rotate_left
    ·simp only [Act.put, List.setIfInBounds_toArray, List.set_cons_zero, List.set_cons_succ, i64_w, i32_w]
     rfl
    refine pure_ (i := 11) (N := some 16) (v := ?_) (a' := ?_) #[true, true, true, true, true, true, true, true, true, true, true, true, false, false, false, false, false, false, false, false, false, false, false, false, false, false] rfl rfl (any_of HT_.out (by kernel_rfl)) (fun _ _ _ h => h) (Or.inl ⟨by rfl, ?_⟩) ?_ ?_
    rotate_left
    ·intro w'
     go_simp
     with_reducible rfl
    rotate_left
    ·simp only [Act.put, List.setIfInBounds_toArray, List.set_cons_zero, List.set_cons_succ, i64_w, i32_w]
     rfl
    refine pure_ (i := 12) (N := some 17) (v := ?_) (a' := ?_) #[true, true, true, true, true, true, true, true, true, true, true, true, true, false, false, false, false, false, false, false, false, false, false, false, false, false] rfl rfl (any_of HT_.out (by kernel_rfl)) (fun _ _ _ h => h) (Or.inl ⟨by rfl, ?_⟩) ?_ ?_
    rotate_left
    ·intro w'
     go_simp
     with_reducible rfl
    rotate_left
    ·simp only [Act.put, List.setIfInBounds_toArray, List.set_cons_zero, List.set_cons_succ, i64_w, i32_w]
     rfl
    refine pure_ (i := 13) (N := some 18) (v := ?_) (a' := ?_) #[true, true, true, true, true, true, true, true, true, true, true, true, true, true, false, false, false, false, false, false, false, false, false, false, false, false] rfl rfl (any_of HT_.out (by kernel_rfl)) (fun _ _ _ h => h) (Or.inl ⟨by rfl, ?_⟩) ?_ ?_
    rotate_left
    ·intro w'
     go_simp
     with_reducible rfl
    rotate_left
    ·simp only [Act.put, List.setIfInBounds_toArray, List.set_cons_zero, List.set_cons_succ, i64_w, i32_w]
     rfl
    refine pure_ (i := 15) (N := some 20) (v := ?_) (a' := ?_) #[true, true, true, true, true, true, true, true, true, true, true, true, true, true, false, true, false, false, false, false, false, false, false, false, false, false] rfl rfl (any_of HT_.out (by kernel_rfl)) (fun _ _ _ h => h) (Or.inl ⟨by rfl, ?_⟩) ?_ ?_
    rotate_left
    ·intro w'
     go_simp
     with_reducible rfl
    rotate_left
    ·simp only [Act.put, List.setIfInBounds_toArray, List.set_cons_zero, List.set_cons_succ, i64_w, i32_w]
     rfl
    refine take_ (i := 14) (N := some 19) (v := ?_) (a' := ?_) #[true, true, true, true, true, true, true, true, true, true, true, true, true, true, true, true, false, false, false, false, false, false, false, false, false, false] rfl rfl (take_ofW HT_.out HW_.out (by kernel_rfl)) (fun _ _ _ h => h) (Or.inl ⟨by rfl, ?_⟩) hHeld ?_ ?_
    rotate_left
    ·rintro w' ⟨s0, s1, s2, s3⟩
     go_simp
     with_reducible rfl
    rotate_left
    ·simp only [Act.put, List.setIfInBounds_toArray, List.set_cons_zero, List.set_cons_succ, i64_w, i32_w]
     rfl
    refine take_ (i := 16) (N := some 21) (v := ?_) (a' := ?_) #[true, true, true, true, true, true, true, true, true, true, true, true, true, true, true, true, true, false, false, false, false, false, false, false, false, false] rfl rfl (take_ofW HT_.out HW_.out (by kernel_rfl)) (fun _ _ _ h => h) (Or.inl ⟨by rfl, ?_⟩) hHeld ?_ ?_
    rotate_left
    ·rintro w' ⟨s0, s1, s2, s3⟩
     go_simp
     with_reducible rfl
    rotate_left
    ·simp only [Act.put, List.setIfInBounds_toArray, List.set_cons_zero, List.set_cons_succ, i64_w, i32_w]
     rfl
    refine pure_ (i := 17) (N := some 22) (v := ?_) (a' := ?_) #[true, true, true, true, true, true, true, true, true, true, true, true, true, true, true, true, true, true, false, false, false, false, false, false, false, false] rfl rfl (any_of HT_.out (by kernel_rfl)) (fun _ _ _ h => h) (Or.inl ⟨by rfl, ?_⟩) ?_ ?_
    rotate_left
    ·intro w'
     go_simp
     with_reducible rfl
    rotate_left
    ·simp only [Act.put, List.setIfInBounds_toArray, List.set_cons_zero, List.set_cons_succ, i64_w, i32_w]
     rfl
    refine pure_ (i := 18) (N := some 23) (v := ?_) (a' := ?_) #[true, true, true, true, true, true, true, true, true, true, true, true, true, true, true, true, true, true, true, false, false, false, false, false, false, false] rfl rfl (any_of HT_.out (by kernel_rfl)) (fun _ _ _ h => h) (Or.inl ⟨by rfl, ?_⟩) ?_ ?_
    rotate_left
    ·intro w'
     go_simp
     with_reducible rfl
    rotate_left
    ·simp only [Act.put, List.setIfInBounds_toArray, List.set_cons_zero, List.set_cons_succ, i64_w, i32_w]
     rfl
    refine pure_ (i := 19) (N := some 24) (v := ?_) (a' := ?_) #[true, true, true, true, true, true, true, true, true, true, true, true, true, true, true, true, true, true, true, true, false, false, false, false, false, false] rfl rfl (any_of HT_.out (by kernel_rfl)) (fun _ _ _ h => h) (Or.inl ⟨by rfl, ?_⟩) ?_ ?_
    rotate_left
    ·intro w'
     go_simp
     with_reducible rfl
    rotate_left
    ·simp only [Act.put, List.setIfInBounds_toArray, List.set_cons_zero, List.set_cons_succ, i64_w, i32_w]
     rfl
    refine take_ (i := 20) (N := some 25) (v := ?_) (a' := ?_) #[true, true, true, true, true, true, true, true, true, true, true, true, true, true, true, true, true, true, true, true, true, false, false, false, false, false] rfl rfl (take_ofW HT_.out HW_.out (by kernel_rfl)) (fun _ _ _ h => h) (Or.inl ⟨by rfl, ?_⟩) hHeld ?_ ?_
    rotate_left
    ·rintro w' ⟨s0, s1, s2, s3⟩
     go_simp
     with_reducible rfl
    rotate_left
    ·simp only [Act.put, List.setIfInBounds_toArray, List.set_cons_zero, List.set_cons_succ, i64_w, i32_w]
     rfl
    refine take_ (i := 21) (N := some 26) (v := ?_) (a' := ?_) #[true, true, true, true, true, true, true, true, true, true, true, true, true, true, true, true, true, true, true, true, true, true, false, false, false, false] rfl rfl (take_ofW HT_.out HW_.out (by kernel_rfl)) (fun _ _ _ h => h) (Or.inl ⟨by rfl, ?_⟩) hHeld ?_ ?_
    rotate_left
    ·rintro w' ⟨s0, s1, s2, s3⟩
     go_simp
     with_reducible rfl
    rotate_left
    ·simp only [Act.put, List.setIfInBounds_toArray, List.set_cons_zero, List.set_cons_succ, i64_w, i32_w]
     rfl
    refine one_ (i := 22) (N := some 27) #[true, true, true, true, true, true, true, true, true, true, true, true, true, true, true, true, true, true, true, true, true, true, true, false, false, false] rfl rfl (one_of HT_.out (by kernel_rfl)) (by decide) (fun K hK => ?_)
    refine goes_ Try.func49 (by kernel_rfl) rfl #[.agg #[.int .i64 a0_0, .int .i64 a0_1]] (by rfl) rfl rfl (by (try simp only [List.map_toArray, List.map_cons, List.map_nil]); first | done | rfl | (simp only [List.length_drop, List.length_take]; rfl)) ?_
    with_reducible refine (ranges_Range_End.calls a0_0 a0_1 t136 _ A20.out).mono ?_
    rintro e w22 ⟨rfl, hb⟩
    refine ⟨_, rfl, ?_⟩
    have n0_ := Aside0.mk (blk_below (g := gb131) (o := .cells #[.int .i64 a0_0, .int .i64 a0_1] 61 (0, 0)) (by (with_reducible repeat (first | refine blk_drewN ?_ _ | refine blk_drew ?_ | refine blk_alloc ?_ _)); exact BK131.out) hb)
    have n1_ := Aside0.mk (blk_below (g := gb132) (o := .cells #[.int .i64 a1_0, .int .i64 a1_1] 61 (0, 0)) (by (with_reducible repeat (first | refine blk_drewN ?_ _ | refine blk_drew ?_ | refine blk_alloc ?_ _)); exact BK132.out) hb)
    have n2_ := Aside0.mk (blk_below (g := gb133) (o := .cells #[.int .i64 0, .int .i64 0] 61 (0, 0)) (by (with_reducible repeat (first | refine blk_drewN ?_ _ | refine blk_drew ?_ | refine blk_alloc ?_ _)); exact BK133.out) hb)
    have n3_ := Aside0.mk (below_step (by repeat (first | (with_reducible first | exact HB.out | apply below_alloc | apply pw_below_drewN | apply below_drew1 | refine below_set ?_ GE131.out | refine below_set ?_ GE132.out | refine below_set ?_ GE133.out) | exact HB.out)) hb)
    clear BK131
    clear BK132
    clear BK133
    clear HB
    have BK131 := n0_
    have BK132 := n1_
    have BK133 := n2_
    have HB := n3_
    clear n0_ n1_ n2_ n3_
    (try clear hb)
    (try clear hb2)
    (try clear hk)
    (try clear hi)
    refine hK.out _ _ ⟨(blk_cell BK131.out 0).trans rfl, (blk_cell BK131.out 1).trans rfl, (blk_cell BK132.out 0).trans rfl, (blk_cell BK132.out 1).trans rfl⟩ (fun hHeld => ?_)
    clear hK K
    refine norm_ (a' := ?_) ?_ ?_
    rotate_left
    ·show Act.put _ (some 27) _ = _
     simp only [Act.put, List.setIfInBounds_toArray, List.set_cons_zero, List.set_cons_succ, i64_w, i32_w]
     rfl
    refine pure_ (i := 23) (N := some 28) (v := ?_) (a' := ?_) #[true, true, true, true, true, true, true, true, true, true, true, true, true, true, true, true, true, true, true, true, true, true, true, true, false, false] rfl rfl (any_of HT_.out (by kernel_rfl)) (fun _ _ _ h => h) (Or.inl ⟨by rfl, ?_⟩) ?_ ?_
    rotate_left
    ·intro w'
     go_simp
     with_reducible rfl
    rotate_left
    ·simp only [Act.put, List.setIfInBounds_toArray, List.set_cons_zero, List.set_cons_succ, i64_w, i32_w]
     rfl
    refine pure_ (i := 24) (N := some 29) (v := ?_) (a' := ?_) #[true, true, true, true, true, true, true, true, true, true, true, true, true, true, true, true, true, true, true, true, true, true, true, true, true, false] rfl rfl (any_of HT_.out (by kernel_rfl)) (fun _ _ _ h => h) (Or.inl ⟨by rfl, ?_⟩) ?_ ?_
    rotate_left
    ·intro w'
     go_simp
     with_reducible rfl
    rotate_left
    ·simp only [Act.put, List.setIfInBounds_toArray, List.set_cons_zero, List.set_cons_succ, i64_w, i32_w]
     rfl
    refine pure_ (i := 25) (N := some 30) (v := ?_) (a' := ?_) #[true, true, true, true, true, true, true, true, true, true, true, true, true, true, true, true, true, true, true, true, true, true, true, true, true, true] rfl rfl (any_of HT_.out (by kernel_rfl)) (fun _ _ _ h => h) (Or.inl ⟨by rfl, ?_⟩) ?_ ?_
    rotate_left
    ·intro w'
     go_simp
     with_reducible rfl
    rotate_left
    ·simp only [Act.put, List.setIfInBounds_toArray, List.set_cons_zero, List.set_cons_succ, i64_w, i32_w]
     rfl
    refine done_ (done_of HT_.out (by kernel_rfl)) ?_
    try go_wp2
    go_meet
    case rel => exact ⟨_, (decide (a1_0 < t136)), (by first | rfl | (simp; done) | (simp [*]; done) | (simp [xt_ne_nil]; done)), H', ⟨by first | omega | exact Nat.le_refl _⟩, ⟨by (with_reducible repeat (first | refine blk_drewN ?_ _ | refine blk_drew ?_ | refine blk_alloc ?_ _)); exact BK131.out⟩, ⟨by (with_reducible repeat (first | refine blk_drewN ?_ _ | refine blk_drew ?_ | refine blk_alloc ?_ _)); exact BK132.out⟩, ⟨by (with_reducible repeat (first | refine blk_drewN ?_ _ | refine blk_drew ?_ | refine blk_alloc ?_ _)); exact BK133.out⟩, ⟨by repeat (first | (with_reducible first | exact HB.out | apply below_alloc | apply pw_below_drewN | apply below_drew1 | refine below_set ?_ GE131.out | refine below_set ?_ GE132.out | refine below_set ?_ GE133.out) | exact HB.out)⟩⟩
   ·rw [if_neg c19] at H
    have c19b0 : decide (a0_0 ≤ a1_0) = false := decide_eq_false c19
    clear c19
    have H' := Aside0.mk H
    clear H
    try go_wp2
    have n0_ := Aside0.mk (blk_drew BK131.out)
    have n1_ := Aside0.mk (blk_drew BK132.out)
    have n2_ := Aside0.mk (blk_drew BK133.out)
    have n3_ := Aside0.mk (below_drew1 HB.out)
    clear BK131
    clear BK132
    clear BK133
    clear HB
    have BK131 := n0_
    have BK132 := n1_
    have BK133 := n2_
    have HB := n3_
    clear n0_ n1_ n2_ n3_
    refine start_ (n := 26) (S := fun w' => w'.cell? ⟨gb131, 0, none⟩ = some (.int .i64 a0_0) ∧ w'.cell? ⟨gb131, 1, none⟩ = some (.int .i64 a0_1) ∧ w'.cell? ⟨gb132, 0, none⟩ = some (.int .i64 a1_0) ∧ w'.cell? ⟨gb132, 1, none⟩ = some (.int .i64 a1_1)) (ds := []) #[false, false, false, false, false, false, false, false, false, false, false, false, false, false, false, false, false, false, false, false, false, false, false, false, false, false] (by kernel_rfl) rfl rfl ⟨(blk_cell BK131.out 0).trans rfl, (blk_cell BK131.out 1).trans rfl, (blk_cell BK132.out 0).trans rfl, (blk_cell BK132.out 1).trans rfl⟩ (fun hHeld => ?_); refine with_tabW ranges_Range_Intersection.tab1 ranges_Range_Intersection.bits1 (fun HT_ HW_ => ?_)
    generalize w6.drew = w23 at BK131 BK132 BK133 HB hHeld ⊢
    refine pure_ (i := 0) (N := some 5) (v := ?_) (a' := ?_) #[true, false, false, false, false, false, false, false, false, false, false, false, false, false, false, false, false, false, false, false, false, false, false, false, false, false] rfl rfl (any_of HT_.out (by kernel_rfl)) (fun _ _ _ h => h) (Or.inl ⟨by rfl, ?_⟩) ?_ ?_
    rotate_left
    ·intro w'
     go_simp
     with_reducible rfl
    rotate_left
    ·simp only [Act.put, List.setIfInBounds_toArray, List.set_cons_zero, List.set_cons_succ, i64_w, i32_w]
     rfl
    refine pure_ (i := 2) (N := some 7) (v := ?_) (a' := ?_) #[true, false, true, false, false, false, false, false, false, false, false, false, false, false, false, false, false, false, false, false, false, false, false, false, false, false] rfl rfl (any_of HT_.out (by kernel_rfl)) (fun _ _ _ h => h) (Or.inl ⟨by rfl, ?_⟩) ?_ ?_
    rotate_left
    ·intro w'
     go_simp
     with_reducible rfl
    rotate_left
    ·simp only [Act.put, List.setIfInBounds_toArray, List.set_cons_zero, List.set_cons_succ, i64_w, i32_w]
     rfl
    refine take_ (i := 1) (N := some 6) (v := ?_) (a' := ?_) #[true, true, true, false, false, false, false, false, false, false, false, false, false, false, false, false, false, false, false, false, false, false, false, false, false, false] rfl rfl (take_ofW HT_.out HW_.out (by kernel_rfl)) (fun _ _ _ h => h) (Or.inl ⟨by rfl, ?_⟩) hHeld ?_ ?_
    rotate_left
    ·rintro w' ⟨s0, s1, s2, s3⟩
     go_simp
     with_reducible rfl
    rotate_left
    ·simp only [Act.put, List.setIfInBounds_toArray, List.set_cons_zero, List.set_cons_succ, i64_w, i32_w]
     rfl
    refine take_ (i := 3) (N := some 8) (v := ?_) (a' := ?_) #[true, true, true, true, false, false, false, false, false, false, false, false, false, false, false, false, false, false, false, false, false, false, false, false, false, false] rfl rfl (take_ofW HT_.out HW_.out (by kernel_rfl)) (fun _ _ _ h => h) (Or.inl ⟨by rfl, ?_⟩) hHeld ?_ ?_
    rotate_left
    ·rintro w' ⟨s0, s1, s2, s3⟩
     go_simp
     with_reducible rfl
    rotate_left
    ·simp only [Act.put, List.setIfInBounds_toArray, List.set_cons_zero, List.set_cons_succ, i64_w, i32_w]
     rfl
    refine pure_ (i := 4) (N := some 9) (v := ?_) (a' := ?_) #[true, true, true, true, true, false, false, false, false, false, false, false, false, false, false, false, false, false, false, false, false, false, false, false, false, false] rfl rfl (any_of HT_.out (by kernel_rfl)) (fun _ _ _ h => h) (Or.inl ⟨by rfl, ?_⟩) ?_ ?_
    rotate_left
    ·intro w'
     go_simp
     with_reducible rfl
    rotate_left
    ·simp only [Act.put, List.setIfInBounds_toArray, List.set_cons_zero, List.set_cons_succ, i64_w, i32_w]
     rfl
    refine pure_ (i := 5) (N := some 10) (v := ?_) (a' := ?_) #[true, true, true, true, true, true, false, false, false, false, false, false, false, false, false, false, false, false, false, false, false, false, false, false, false, false] rfl rfl (any_of HT_.out (by kernel_rfl)) (fun _ _ _ h => h) (Or.inl ⟨by rfl, ?_⟩) ?_ ?_
    rotate_left
    ·intro w'
     go_simp
     with_reducible rfl
    rotate_left
    ·simp only [Act.put, List.setIfInBounds_toArray, List.set_cons_zero, List.set_cons_succ, i64_w, i32_w]
     rfl
    refine pure_ (i := 6) (N := some 11) (v := undef) (a' := ?_) #[true, true, true, true, true, true, true, false, false, false, false, false, false, false, false, false, false, false, false, false, false, false, false, false, false, false] rfl rfl (any_of HT_.out (by kernel_rfl)) (fun _ _ _ h => h) (Or.inr ⟨by rfl, rfl⟩) ?_ ?_
    rotate_left
    ·simp only [Act.put, List.setIfInBounds_toArray, List.set_cons_zero, List.set_cons_succ, i64_w, i32_w]
     rfl
    refine pure_ (i := 7) (N := some 12) (v := undef) (a' := ?_) #[true, true, true, true, true, true, true, true, false, false, false, false, false, false, false, false, false, false, false, false, false, false, false, false, false, false] rfl rfl (any_of HT_.out (by kernel_rfl)) (fun _ _ _ h => h) (Or.inr ⟨by rfl, rfl⟩) ?_ ?_
    rotate_left
    ·simp only [Act.put, List.setIfInBounds_toArray, List.set_cons_zero, List.set_cons_succ, i64_w, i32_w]
     rfl
    refine pure_ (i := 8) (N := some 13) (v := undef) (a' := ?_) #[true, true, true, true, true, true, true, true, true, false, false, false, false, false, false, false, false, false, false, false, false, false, false, false, false, false] rfl rfl (any_of HT_.out (by kernel_rfl)) (fun _ _ _ h => h) (Or.inr ⟨by rfl, rfl⟩) ?_ ?_
    rotate_left
    ·simp only [Act.put, List.setIfInBounds_toArray, List.set_cons_zero, List.set_cons_succ, i64_w, i32_w]
     rfl
    refine pure_ (i := 9) (N := some 14) (v := undef) (a' := ?_) #[true, true, true, true, true, true, true, true, true, true, false, false, false, false, false, false, false, false, false, false, false, false, false, false, false, false] rfl rfl (any_of HT_.out (by kernel_rfl)) (fun _ _ _ h => h) (Or.inr ⟨by rfl, rfl⟩) ?_ ?_
    rotate_left
    ·simp only [Act.put, List.setIfInBounds_toArray, List.set_cons_zero, List.set_cons_succ, i64_w, i32_w]
     rfl
    refine pure_ (i := 10) (N := some 15) (v := undef) (a' := ?_) #[true, true, true, true, true, true, true, true, true, true, true, false, false, false, false, false, false, false, false, false, false, false, false, false, false, false] rfl rfl (any_of HT_.out (by kernel_rfl)) (fun _ _ _ h => h) (Or.inr ⟨by rfl, rfl⟩) ?_ ?_
    rotate_left
    ·simp only [Act.put, List.setIfInBounds_toArray, List.set_cons_zero, List.set_cons_succ, i64_w, i32_w]
     rfl
    refine pure_ (i := 11) (N := some 16) (v := ?_) (a' := ?_) #[true, true, true, true, true, true, true, true, true, true, true, true, false, false, false, false, false, false, false, false, false, false, false, false, false, false] rfl rfl (any_of HT_.out (by kernel_rfl)) (fun _ _ _ h => h) (Or.inl ⟨by rfl, ?_⟩) ?_ ?_
    rotate_left
    ·intro w'
     go_simp
     with_reducible rfl
    rotate_left
    ·simp only [Act.put, List.setIfInBounds_toArray, List.set_cons_zero, List.set_cons_succ, i64_w, i32_w]
     rfl
    refine pure_ (i := 12) (N := some 17) (v := ?_) (a' := ?_) #[true, true, true, true, true, true, true, true, true, true, true, true, true, false, false, false, false, false, false, false, false, false, false, false, false, false] rfl rfl (any_of HT_.out (by kernel_rfl)) (fun _ _ _ h => h) (Or.inl ⟨by rfl, ?_⟩) ?_ ?_
    rotate_left
    ·intro w'
     go_simp
     with_reducible rfl
    rotate_left
    ·simp only [Act.put, List.setIfInBounds_toArray, List.set_cons_zero, List.set_cons_succ, i64_w, i32_w]
     rfl
    refine pure_ (i := 13) (N := some 18) (v := ?_) (a' := ?_) #[true, true, true, true, true, true, true, true, true, true, true, true, true, true, false, false, false, false, false, false, false, false, false, false, false, false] rfl rfl (any_of HT_.out (by kernel_rfl)) (fun _ _ _ h => h) (Or.inl ⟨by rfl, ?_⟩) ?_ ?_
    rotate_left
    ·intro w'
     go_simp
     with_reducible rfl
    rotate_left
    ·simp only [Act.put, List.setIfInBounds_toArray, List.set_cons_zero, List.set_cons_succ, i64_w, i32_w]
     rfl
    refine pure_ (i := 15) (N := some 20) (v := ?_) (a' := ?_) #[true, true, true, true, true, true, true, true, true, true, true, true, true, true, false, true, false, false, false, false, false, false, false, false, false, false] rfl rfl (any_of HT_.out (by kernel_rfl)) (fun _ _ _ h => h) (Or.inl ⟨by rfl, ?_⟩) ?_ ?_
    rotate_left
    ·intro w'
     go_simp
     with_reducible rfl
    rotate_left
    ·simp only [Act.put, List.setIfInBounds_toArray, List.set_cons_zero, List.set_cons_succ, i64_w, i32_w]
     rfl
    refine take_ (i := 14) (N := some 19) (v := ?_) (a' := ?_) #[true, true, true, true, true, true, true, true, true, true, true, true, true, true, true, true, false, false, false, false, false, false, false, false, false, false] rfl rfl (take_ofW HT_.out HW_.out (by kernel_rfl)) (fun _ _ _ h => h) (Or.inl ⟨by rfl, ?_⟩) hHeld ?_ ?_
    rotate_left
    ·rintro w' ⟨s0, s1, s2, s3⟩
     go_simp
     with_reducible rfl
    rotate_left
    ·simp only [Act.put, List.setIfInBounds_toArray, List.set_cons_zero, List.set_cons_succ, i64_w, i32_w]
     rfl
    refine take_ (i := 16) (N := some 21) (v := ?_) (a' := ?_) #[true, true, true, true, true, true, true, true, true, true, true, true, true, true, true, true, true, false, false, false, false, false, false, false, false, false] rfl rfl (take_ofW HT_.out HW_.out (by kernel_rfl)) (fun _ _ _ h => h) (Or.inl ⟨by rfl, ?_⟩) hHeld ?_ ?_
    rotate_left
    ·rintro w' ⟨s0, s1, s2, s3⟩
     go_simp
     with_reducible rfl
    rotate_left
    ·simp only [Act.put, List.setIfInBounds_toArray, List.set_cons_zero, List.set_cons_succ, i64_w, i32_w]
     rfl
    refine pure_ (i := 17) (N := some 22) (v := ?_) (a' := ?_) #[true, true, true, true, true, true, true, true, true, true, true, true, true, true, true, true, true, true, false, false, false, false, false, false, false, false] rfl rfl (any_of HT_.out (by kernel_rfl)) (fun _ _ _ h => h) (Or.inl ⟨by rfl, ?_⟩) ?_ ?_
    rotate_left
    ·intro w'
     go_simp
     with_reducible rfl
    rotate_left
    ·simp only [Act.put, List.setIfInBounds_toArray, List.set_cons_zero, List.set_cons_succ, i64_w, i32_w]
     rfl
    refine pure_ (i := 18) (N := some 23) (v := ?_) (a' := ?_) #[true, true, true, true, true, true, true, true, true, true, true, true, true, true, true, true, true, true, true, false, false, false, false, false, false, false] rfl rfl (any_of HT_.out (by kernel_rfl)) (fun _ _ _ h => h) (Or.inl ⟨by rfl, ?_⟩) ?_ ?_
    rotate_left
    ·intro w'
     go_simp
     with_reducible rfl
    rotate_left
    ·simp only [Act.put, List.setIfInBounds_toArray, List.set_cons_zero, List.set_cons_succ, i64_w, i32_w]
     rfl
    refine pure_ (i := 19) (N := some 24) (v := undef) (a' := ?_) #[true, true, true, true, true, true, true, true, true, true, true, true, true, true, true, true, true, true, true, true, false, false, false, false, false, false] rfl rfl (any_of HT_.out (by kernel_rfl)) (fun _ _ _ h => h) (Or.inr ⟨by rfl, rfl⟩) ?_ ?_
    rotate_left
    ·simp only [Act.put, List.setIfInBounds_toArray, List.set_cons_zero, List.set_cons_succ, i64_w, i32_w]
     rfl
    refine pure_ (i := 20) (N := some 25) (v := undef) (a' := ?_) #[true, true, true, true, true, true, true, true, true, true, true, true, true, true, true, true, true, true, true, true, true, false, false, false, false, false] rfl rfl (any_of HT_.out (by kernel_rfl)) (fun _ _ _ h => h) (Or.inr ⟨by rfl, rfl⟩) ?_ ?_
    rotate_left
    ·simp only [Act.put, List.setIfInBounds_toArray, List.set_cons_zero, List.set_cons_succ, i64_w, i32_w]
     rfl
    refine pure_ (i := 21) (N := some 26) (v := undef) (a' := ?_) #[true, true, true, true, true, true, true, true, true, true, true, true, true, true, true, true, true, true, true, true, true, true, false, false, false, false] rfl rfl (any_of HT_.out (by kernel_rfl)) (fun _ _ _ h => h) (Or.inr ⟨by rfl, rfl⟩) ?_ ?_
    rotate_left
    ·simp only [Act.put, List.setIfInBounds_toArray, List.set_cons_zero, List.set_cons_succ, i64_w, i32_w]
     rfl
    refine pure_ (i := 22) (N := some 27) (v := undef) (a' := ?_) #[true, true, true, true, true, true, true, true, true, true, true, true, true, true, true, true, true, true, true, true, true, true, true, false, false, false] rfl rfl (any_of HT_.out (by kernel_rfl)) (fun _ _ _ h => h) (Or.inr ⟨by rfl, rfl⟩) ?_ ?_
    rotate_left
    ·simp only [Act.put, List.setIfInBounds_toArray, List.set_cons_zero, List.set_cons_succ, i64_w, i32_w]
     rfl
    refine pure_ (i := 23) (N := some 28) (v := undef) (a' := ?_) #[true, true, true, true, true, true, true, true, true, true, true, true, true, true, true, true, true, true, true, true, true, true, true, true, false, false] rfl rfl (any_of HT_.out (by kernel_rfl)) (fun _ _ _ h => h) (Or.inr ⟨by rfl, rfl⟩) ?_ ?_
    rotate_left
    ·simp only [Act.put, List.setIfInBounds_toArray, List.set_cons_zero, List.set_cons_succ, i64_w, i32_w]
     rfl
    refine pure_ (i := 24) (N := some 29) (v := ?_) (a' := ?_) #[true, true, true, true, true, true, true, true, true, true, true, true, true, true, true, true, true, true, true, true, true, true, true, true, true, false] rfl rfl (any_of HT_.out (by kernel_rfl)) (fun _ _ _ h => h) (Or.inl ⟨by rfl, ?_⟩) ?_ ?_
    rotate_left
    ·intro w'
     go_simp
     with_reducible rfl
    rotate_left
    ·simp only [Act.put, List.setIfInBounds_toArray, List.set_cons_zero, List.set_cons_succ, i64_w, i32_w]
     rfl
    refine pure_ (i := 25) (N := some 30) (v := ?_) (a' := ?_) #[true, true, true, true, true, true, true, true, true, true, true, true, true, true, true, true, true, true, true, true, true, true, true, true, true, true] rfl rfl (any_of HT_.out (by kernel_rfl)) (fun _ _ _ h => h) (Or.inl ⟨by rfl, ?_⟩) ?_ ?_
    rotate_left
    ·intro w'
     go_simp
     with_reducible rfl
    rotate_left
    ·simp only [Act.put, List.setIfInBounds_toArray, List.set_cons_zero, List.set_cons_succ, i64_w, i32_w]
     rfl
    refine done_ (done_of HT_.out (by kernel_rfl)) ?_
    try go_wp2
    go_meet
    case rel => exact ⟨_, (false), (by first | rfl | (simp; done) | (simp [*]; done) | (simp [xt_ne_nil]; done)), H', ⟨by first | omega | exact Nat.le_refl _⟩, ⟨by (with_reducible repeat (first | refine blk_drewN ?_ _ | refine blk_drew ?_ | refine blk_alloc ?_ _)); exact BK131.out⟩, ⟨by (with_reducible repeat (first | refine blk_drewN ?_ _ | refine blk_drew ?_ | refine blk_alloc ?_ _)); exact BK132.out⟩, ⟨by (with_reducible repeat (first | refine blk_drewN ?_ _ | refine blk_drew ?_ | refine blk_alloc ?_ _)); exact BK133.out⟩, ⟨by repeat (first | (with_reducible first | exact HB.out | apply below_alloc | apply pw_below_drewN | apply below_drew1 | refine below_set ?_ GE131.out | refine below_set ?_ GE132.out | refine below_set ?_ GE133.out) | exact HB.out)⟩⟩
 case rest =>
  clear HC3
  try clear c1
  try clear p2
  try clear c4
  try clear c7
  try clear c7b0
  try clear c19
  try clear c19b0
  obtain ⟨kq, x30_2, rfl, HA, HJ2, BK131, BK132, BK133, HB⟩ := hcut
  cases kq with
  | zero => exact absurd HA.out (by simp [ranges_Range_Intersection.j0])
  | succ kj2 =>
   have H := HA.out
   clear HA
   simp only [ranges_Range_Intersection.j0] at H
   by_cases c24 : x30_2 = true
   ·subst c24
    have H1 : ((ranges_Range_End.f a0_0 a0_1).bind fun t137 => ((ranges_Range_End.f a1_0 a1_1).bind fun t138 => (some (mx a0_0 a1_0, wrap64 ((mn t137 t138) - (mx a0_0 a1_0)))))) = some (r1, r2) := by rw [if_pos rfl] at H; exact H
    clear H
    have H := H1
    clear H1
    obtain ⟨ji25, hji25⟩ : ∃ j_ : Int, (mx a0_0 a1_0) = j_ := ⟨_, rfl⟩
    replace H : ((ranges_Range_End.f a0_0 a0_1).bind fun t137 => ((ranges_Range_End.f a1_0 a1_1).bind fun t138 => (some (ji25, wrap64 ((mn t137 t138) - (ji25)))))) = some (r1, r2) := by first | (rw [hji25] at H; exact H) | (simp only [hji25] at H ⊢; exact H)
    have hji25_ : (if a0_0 < a1_0 then a1_0 else a0_0) = ji25 := hji25
    replace H := Option.bind_eq_some_iff.mp H
    obtain ⟨t137, A260, H⟩ := H
    replace H : ((ranges_Range_End.f a1_0 a1_1).bind fun t138 => (some (ji25, wrap64 ((mn t137 t138) - (ji25))))) = some (r1, r2) := H
    have A26 := Aside0.mk A260
    clear A260
    replace H := Option.bind_eq_some_iff.mp H
    obtain ⟨t138, A270, H⟩ := H
    replace H : (some (ji25, wrap64 ((mn t137 t138) - (ji25)))) = some (r1, r2) := H
    have A27 := Aside0.mk A270
    clear A270
    obtain ⟨ji28, hji28⟩ : ∃ j_ : Int, (mn t137 t138) = j_ := ⟨_, rfl⟩
    replace H : (some (ji25, wrap64 ((ji28) - (ji25)))) = some (r1, r2) := by first | (rw [hji28] at H; exact H) | (simp only [hji28] at H ⊢; exact H)
    (try rw [hji28] at A26)
    (try rw [hji28] at A27)
    have hji28_ : (if t138 < t137 then t138 else t137) = ji28 := hji28
    simp only [Option.some.injEq, Prod.mk.injEq] at H
    obtain ⟨rfl, rfl⟩ := H
    have hnb29 := NB131_132.out
    have hnc29 := NB132_131.out
    have hnb30 := NB131_133.out
    have hnc30 := NB133_131.out
    have hcz31_0 : wc.cell? ⟨gb131, 0, none⟩ = some (.int .i64 a0_0) := (blk_cell BK131.out 0).trans rfl
    have hcz31_1 : wc.cell? ⟨gb131, 1, none⟩ = some (.int .i64 a0_1) := (blk_cell BK131.out 1).trans rfl
    have hfz31_0 := blk_frozen BK131.out 0
    have hfz31_1 := blk_frozen BK131.out 1
    have hnb32 := NB132_133.out
    have hnc32 := NB133_132.out
    have hcz33_0 : wc.cell? ⟨gb132, 0, none⟩ = some (.int .i64 a1_0) := (blk_cell BK132.out 0).trans rfl
    have hcz33_1 : wc.cell? ⟨gb132, 1, none⟩ = some (.int .i64 a1_1) := (blk_cell BK132.out 1).trans rfl
    have hfz33_0 := blk_frozen BK132.out 0
    have hfz33_1 := blk_frozen BK132.out 1
    have hcz34_0 : wc.cell? ⟨gb133, 0, none⟩ = some (.int .i64 0) := (blk_cell BK133.out 0).trans rfl
    have hcz34_1 : wc.cell? ⟨gb133, 1, none⟩ = some (.int .i64 0) := (blk_cell BK133.out 1).trans rfl
    have hfz34_0 := blk_frozen BK133.out 0
    have hfz34_1 := blk_frozen BK133.out 1
    try go_wp2
    have n0_ : Aside0 ((wc.setCell ⟨gb133, 0, none⟩ (.int .i64 ji25)).heap[gb131]? = some (.cells #[.int .i64 a0_0, .int .i64 a0_1] 61 (0, 0))) := ⟨by (with_reducible repeat (first | refine blk_drewN ?_ _ | refine blk_drew ?_ | refine blk_alloc ?_ _)); refine blk_far ?_ NB131_133.out _; (with_reducible repeat (first | refine blk_drewN ?_ _ | refine blk_drew ?_ | refine blk_alloc ?_ _)); exact BK131.out⟩
    have n1_ : Aside0 ((wc.setCell ⟨gb133, 0, none⟩ (.int .i64 ji25)).heap[gb132]? = some (.cells #[.int .i64 a1_0, .int .i64 a1_1] 61 (0, 0))) := ⟨by (with_reducible repeat (first | refine blk_drewN ?_ _ | refine blk_drew ?_ | refine blk_alloc ?_ _)); refine blk_far ?_ NB132_133.out _; (with_reducible repeat (first | refine blk_drewN ?_ _ | refine blk_drew ?_ | refine blk_alloc ?_ _)); exact BK132.out⟩
    have n2_ : Aside0 ((wc.setCell ⟨gb133, 0, none⟩ (.int .i64 ji25)).heap[gb133]? = some (.cells #[.int .i64 ji25, .int .i64 0] 61 (0, 0))) := ⟨by (with_reducible repeat (first | refine blk_drewN ?_ _ | refine blk_drew ?_ | refine blk_alloc ?_ _)); refine blk_put (cs := #[.int .i64 0, .int .i64 0]) ?_ 0 _ rfl; (with_reducible repeat (first | refine blk_drewN ?_ _ | refine blk_drew ?_ | refine blk_alloc ?_ _)); exact BK133.out⟩
    have n3_ : Aside0 (Below w.heap.size w (wc.setCell ⟨gb133, 0, none⟩ (.int .i64 ji25))) := ⟨by repeat (first | (with_reducible first | exact HB.out | apply below_alloc | apply pw_below_drewN | apply below_drew1 | refine below_set ?_ GE131.out | refine below_set ?_ GE132.out | refine below_set ?_ GE133.out) | exact HB.out)⟩
    (try clear BK131)
    (try clear BK132)
    (try clear BK133)
    (try clear HB)
    generalize (wc.setCell ⟨gb133, 0, none⟩ (.int .i64 ji25)) = w35 at n0_ n1_ n2_ n3_ ⊢
    have BK131 := n0_
    have BK132 := n1_
    have BK133 := n2_
    have HB := n3_
    clear n0_ n1_ n2_ n3_
    have n0_ := Aside0.mk (blk_drew BK131.out)
    have n1_ := Aside0.mk (blk_drew BK132.out)
    have n2_ := Aside0.mk (blk_drew BK133.out)
    have n3_ := Aside0.mk (below_drew1 HB.out)
    clear BK131
    clear BK132
    clear BK133
    clear HB
    have BK131 := n0_
    have BK132 := n1_
    have BK133 := n2_
    have HB := n3_
    clear n0_ n1_ n2_ n3_
    refine start_ (n := 10) (S := fun w' => w'.cell? ⟨gb131, 0, none⟩ = some (.int .i64 a0_0) ∧ w'.cell? ⟨gb131, 1, none⟩ = some (.int .i64 a0_1) ∧ w'.cell? ⟨gb132, 0, none⟩ = some (.int .i64 a1_0) ∧ w'.cell? ⟨gb132, 1, none⟩ = some (.int .i64 a1_1) ∧ w'.cell? ⟨gb133, 0, none⟩ = some (.int .i64 ji25) ∧ w'.cell? ⟨gb133, 1, none⟩ = some (.int .i64 0)) (ds := [9]) #[false, false, false, false, false, false, false, false, false, false] (by kernel_rfl) rfl rfl ⟨(blk_cell BK131.out 0).trans rfl, (blk_cell BK131.out 1).trans rfl, (blk_cell BK132.out 0).trans rfl, (blk_cell BK132.out 1).trans rfl, (blk_cell BK133.out 0).trans rfl, (blk_cell BK133.out 1).trans rfl⟩ (fun hHeld => ?_); refine with_tabW ranges_Range_Intersection.tab3 ranges_Range_Intersection.bits3 (fun HT_ HW_ => ?_)
    generalize w35.drew = w36 at BK131 BK132 BK133 HB hHeld ⊢
    refine pure_ (i := 5) (N := some 42) (v := ?_) (a' := ?_) #[false, false, false, false, false, true, false, false, false, false] rfl rfl (any_of HT_.out (by kernel_rfl)) (fun _ _ _ h => h) (Or.inl ⟨by rfl, ?_⟩) ?_ ?_
    rotate_left
    ·intro w'
     go_simp
     with_reducible rfl
    rotate_left
    ·simp only [Act.put, List.setIfInBounds_toArray, List.set_cons_zero, List.set_cons_succ, i64_w, i32_w]
     rfl
    refine take_ (i := 0) (N := some 37) (v := ?_) (a' := ?_) #[true, false, false, false, false, true, false, false, false, false] rfl rfl (take_ofW HT_.out HW_.out (by kernel_rfl)) (fun _ _ _ h => h) (Or.inl ⟨by rfl, ?_⟩) hHeld ?_ ?_
    rotate_left
    ·rintro w' ⟨s0, s1, s2, s3, s4, s5⟩
     go_simp
     with_reducible rfl
    rotate_left
    ·simp only [Act.put, List.setIfInBounds_toArray, List.set_cons_zero, List.set_cons_succ, i64_w, i32_w]
     rfl
    refine take_ (i := 2) (N := some 39) (v := ?_) (a' := ?_) #[true, false, true, false, false, true, false, false, false, false] rfl rfl (take_ofW HT_.out HW_.out (by kernel_rfl)) (fun _ _ _ h => h) (Or.inl ⟨by rfl, ?_⟩) hHeld ?_ ?_
    rotate_left
    ·rintro w' ⟨s0, s1, s2, s3, s4, s5⟩
     go_simp
     with_reducible rfl
    rotate_left
    ·simp only [Act.put, List.setIfInBounds_toArray, List.set_cons_zero, List.set_cons_succ, i64_w, i32_w]
     rfl
    refine take_ (i := 6) (N := some 43) (v := ?_) (a' := ?_) #[true, false, true, false, false, true, true, false, false, false] rfl rfl (take_ofW HT_.out HW_.out (by kernel_rfl)) (fun _ _ _ h => h) (Or.inl ⟨by rfl, ?_⟩) hHeld ?_ ?_
    rotate_left
    ·rintro w' ⟨s0, s1, s2, s3, s4, s5⟩
     go_simp
     with_reducible rfl
    rotate_left
    ·simp only [Act.put, List.setIfInBounds_toArray, List.set_cons_zero, List.set_cons_succ, i64_w, i32_w]
     rfl
    refine one_ (i := 1) (N := some 38) #[true, true, true, false, false, true, true, false, false, false] rfl rfl (one_of HT_.out (by kernel_rfl)) (by decide) (fun K hK => ?_)
    refine goes_ Try.func49 (by kernel_rfl) rfl #[.agg #[.int .i64 a0_0, .int .i64 a0_1]] (by rfl) rfl rfl (by (try simp only [List.map_toArray, List.map_cons, List.map_nil]); first | done | rfl | (simp only [List.length_drop, List.length_take]; rfl)) ?_
    with_reducible refine (ranges_Range_End.calls a0_0 a0_1 t137 _ A26.out).mono ?_
    rintro e w37 ⟨rfl, hb⟩
    refine ⟨_, rfl, ?_⟩
    have n0_ := Aside0.mk (blk_below (g := gb131) (o := .cells #[.int .i64 a0_0, .int .i64 a0_1] 61 (0, 0)) (by (with_reducible repeat (first | refine blk_drewN ?_ _ | refine blk_drew ?_ | refine blk_alloc ?_ _)); exact BK131.out) hb)
    have n1_ := Aside0.mk (blk_below (g := gb132) (o := .cells #[.int .i64 a1_0, .int .i64 a1_1] 61 (0, 0)) (by (with_reducible repeat (first | refine blk_drewN ?_ _ | refine blk_drew ?_ | refine blk_alloc ?_ _)); exact BK132.out) hb)
    have n2_ := Aside0.mk (blk_below (g := gb133) (o := .cells #[.int .i64 ji25, .int .i64 0] 61 (0, 0)) (by (with_reducible repeat (first | refine blk_drewN ?_ _ | refine blk_drew ?_ | refine blk_alloc ?_ _)); exact BK133.out) hb)
    have n3_ := Aside0.mk (below_step (by repeat (first | (with_reducible first | exact HB.out | apply below_alloc | apply pw_below_drewN | apply below_drew1 | refine below_set ?_ GE131.out | refine below_set ?_ GE132.out | refine below_set ?_ GE133.out) | exact HB.out)) hb)
    clear BK131
    clear BK132
    clear BK133
    clear HB
    have BK131 := n0_
    have BK132 := n1_
    have BK133 := n2_
    have HB := n3_
    clear n0_ n1_ n2_ n3_
    (try clear hb)
    (try clear hb2)
    (try clear hk)
    (try clear hi)
    refine hK.out _ _ ⟨(blk_cell BK131.out 0).trans rfl, (blk_cell BK131.out 1).trans rfl, (blk_cell BK132.out 0).trans rfl, (blk_cell BK132.out 1).trans rfl, (blk_cell BK133.out 0).trans rfl, (blk_cell BK133.out 1).trans rfl⟩ (fun hHeld => ?_)
    clear hK K
    refine norm_ (a' := ?_) ?_ ?_
    rotate_left
    ·show Act.put _ (some 38) _ = _
     simp only [Act.put, List.setIfInBounds_toArray, List.set_cons_zero, List.set_cons_succ, i64_w, i32_w]
     rfl
    refine one_ (i := 3) (N := some 40) #[true, true, true, true, false, true, true, false, false, false] rfl rfl (one_of HT_.out (by kernel_rfl)) (by decide) (fun K hK => ?_)
    refine goes_ Try.func49 (by kernel_rfl) rfl #[.agg #[.int .i64 a1_0, .int .i64 a1_1]] (by rfl) rfl rfl (by (try simp only [List.map_toArray, List.map_cons, List.map_nil]); first | done | rfl | (simp only [List.length_drop, List.length_take]; rfl)) ?_
    with_reducible refine (ranges_Range_End.calls a1_0 a1_1 t138 _ A27.out).mono ?_
    rintro e w38 ⟨rfl, hb⟩
    refine ⟨_, rfl, ?_⟩
    have n0_ := Aside0.mk (blk_below (g := gb131) (o := .cells #[.int .i64 a0_0, .int .i64 a0_1] 61 (0, 0)) (by (with_reducible repeat (first | refine blk_drewN ?_ _ | refine blk_drew ?_ | refine blk_alloc ?_ _)); exact BK131.out) hb)
    have n1_ := Aside0.mk (blk_below (g := gb132) (o := .cells #[.int .i64 a1_0, .int .i64 a1_1] 61 (0, 0)) (by (with_reducible repeat (first | refine blk_drewN ?_ _ | refine blk_drew ?_ | refine blk_alloc ?_ _)); exact BK132.out) hb)
    have n2_ := Aside0.mk (blk_below (g := gb133) (o := .cells #[.int .i64 ji25, .int .i64 0] 61 (0, 0)) (by (with_reducible repeat (first | refine blk_drewN ?_ _ | refine blk_drew ?_ | refine blk_alloc ?_ _)); exact BK133.out) hb)
    have n3_ := Aside0.mk (below_step (by repeat (first | (with_reducible first | exact HB.out | apply below_alloc | apply pw_below_drewN | apply below_drew1 | refine below_set ?_ GE131.out | refine below_set ?_ GE132.out | refine below_set ?_ GE133.out) | exact HB.out)) hb)
    clear BK131
    clear BK132
    clear BK133
    clear HB
    have BK131 := n0_
    have BK132 := n1_
    have BK133 := n2_
    have HB := n3_
    clear n0_ n1_ n2_ n3_
    (try clear hb)
    (try clear hb2)
    (try clear hk)
    (try clear hi)
    refine hK.out _ _ ⟨(blk_cell BK131.out 0).trans rfl, (blk_cell BK131.out 1).trans rfl, (blk_cell BK132.out 0).trans rfl, (blk_cell BK132.out 1).trans rfl, (blk_cell BK133.out 0).trans rfl, (blk_cell BK133.out 1).trans rfl⟩ (fun hHeld => ?_)
    clear hK K
    refine norm_ (a' := ?_) ?_ ?_
    rotate_left
    ·show Act.put _ (some 40) _ = _
     simp only [Act.put, List.setIfInBounds_toArray, List.set_cons_zero, List.set_cons_succ, i64_w, i32_w]
     rfl
    refine pure_ (i := 4) (N := some 41) (v := ?_) (a' := ?_) #[true, true, true, true, true, true, true, false, false, false] rfl rfl (any_of HT_.out (by kernel_rfl)) (fun _ _ _ h => h) (Or.inl ⟨by rfl, ?_⟩) ?_ ?_
    rotate_left
    ·intro w'
     go_simp
     with_reducible rfl
    rotate_left
    ·simp only [Act.put, List.setIfInBounds_toArray, List.set_cons_zero, List.set_cons_succ, i64_w, i32_w]
     rfl
    refine pure_ (i := 7) (N := some 44) (v := ?_) (a' := ?_) #[true, true, true, true, true, true, true, true, false, false] rfl rfl (any_of HT_.out (by kernel_rfl)) (fun _ _ _ h => h) (Or.inl ⟨by rfl, ?_⟩) ?_ ?_
    rotate_left
    ·intro w'
     go_simp
     with_reducible rfl
    rotate_left
    ·simp only [Act.put, List.setIfInBounds_toArray, List.set_cons_zero, List.set_cons_succ, i64_w, i32_w]
     rfl
    refine pure_ (i := 8) (N := some 45) (v := ?_) (a' := ?_) #[true, true, true, true, true, true, true, true, true, false] rfl rfl (any_of HT_.out (by kernel_rfl)) (fun _ _ _ h => h) (Or.inl ⟨by rfl, ?_⟩) ?_ ?_
    rotate_left
    ·intro w'
     go_simp
     with_reducible rfl
    rotate_left
    ·simp only [Act.put, List.setIfInBounds_toArray, List.set_cons_zero, List.set_cons_succ, i64_w, i32_w]
     rfl
    refine last_ (i := 9) (N := none) #[true, true, true, true, true, true, true, true, true, true] rfl rfl (one_of HT_.out (by kernel_rfl)) (by decide) (fun K hK => ?_)
    have hs39 : w38.cell? ⟨gb133, 1, none⟩ = some (.int .i64 0) := (blk_cell BK133.out 1).trans rfl
    have hfs39 := blk_frozen BK133.out 1
    have hns39_0 := NB131_133.out
    have hns39_1 := NB132_133.out
    have hms39_0 := NB133_131.out
    have hms39_1 := NB133_132.out
    refine skip_ (w1 := ?_) (by rfl) rfl ?_ ?_
    rotate_left
    ·go_simp
     rfl
    refine hK.out _ _ ?_
    clear hK K
    refine done_ (done_of HT_.out (by kernel_rfl)) ?_
    try go_wp2
    refine bodyPost_ret (results_cell_row rfl _ _ gb133 61 #[.int .i64 ji25, .int .i64 (wrap64 ((ji28) - (ji25)))] (0, 0) _ rfl (by (with_reducible repeat (first | refine blk_drewN ?_ _ | refine blk_drew ?_ | refine blk_alloc ?_ _)); refine blk_put (cs := #[.int .i64 ji25, .int .i64 0]) ?_ 1 _ rfl; (with_reducible repeat (first | refine blk_drewN ?_ _ | refine blk_drew ?_ | refine blk_alloc ?_ _)); exact BK133.out) Try.underlying61 rfl (by kernel_rfl)) rfl ?_
    exact ⟨by first | rfl | (simp [errW_none, errW_some] <;> rfl) | (simp only [← hji25, ← hji28]; first | rfl | (simp [errW_none, errW_some] <;> rfl)) | (simp [*, errW_none, errW_some] <;> rfl), by repeat (first | (with_reducible first | exact HB.out | apply below_alloc | apply pw_below_drewN | apply below_drew1 | refine below_set ?_ GE131.out | refine below_set ?_ GE132.out | refine below_set ?_ GE133.out) | exact HB.out)⟩
   ·replace c24 := Bool.eq_false_iff.mpr c24
    subst c24
    have H1 : (some (0, 0)) = some (r1, r2) := by rw [if_neg (show ¬ (false = true) by decide)] at H; exact H
    clear H
    have H := H1
    clear H1
    simp only [Option.some.injEq, Prod.mk.injEq] at H
    obtain ⟨rfl, rfl⟩ := H
    go_wp2
    refine bodyPost_ret (results_cell_row rfl _ _ gb133 61 #[.int .i64 0, .int .i64 0] (0, 0) _ rfl (by (with_reducible repeat (first | refine blk_drewN ?_ _ | refine blk_drew ?_ | refine blk_alloc ?_ _)); exact BK133.out) Try.underlying61 rfl (by kernel_rfl)) rfl ?_
    exact ⟨by first | rfl | (simp [errW_none, errW_some] <;> rfl) | (simp [*, errW_none, errW_some] <;> rfl), by repeat (first | (with_reducible first | exact HB.out | apply below_alloc | apply pw_below_drewN | apply below_drew1 | refine below_set ?_ GE131.out | refine below_set ?_ GE132.out | refine below_set ?_ GE133.out) | exact HB.out)⟩


end Go.Proofs.Ytfegihmnpcjdgaa.RangInter

-- Written by a program of this session's (over the kit's print), with contracts proved by hand among what it calls.
import Derived.Test.YtfegihmnpcjdgaaPFnRangesWalkx0
import Derived.Test.YtfegihmnpcjdgaaPFnRangesWalkx3
import Derived.Test.YtfegihmnpcjdgaaPFnRangesWalkx4
namespace Go.Proofs.Ytfegihmnpcjdgaa.PFnRangesWalk
open Go.RowKit Go.Proofs.YtfegihmnpcjdgaaW.PrintWords Go.Proofs.YtfegihmnpcjdgaaW.PrintLast Go.Proofs.YtfegihmnpcjdgaaW.PrintMore
attribute [local go_sem] max2_int min2_int max_two min_two max_three min_three max_four min_four   -- for this text's walks alone
set_option linter.unusedVariables false
set_option linter.unusedSimpArgs false

/-! ### impl_RangesFind: function 22 -/
def impl_RangesFind.f (l0 : List (S28)) (a1_0 : Int) (a1_1 : Int) : Option (Int × Int × Int × Int × Bool) := (impl_inserted.f l0).bind fun t179 => ((impl_given.f a1_0 a1_1).bind fun bt182 => ((ranges_Ranges_Find.f t179 bt182.1 bt182.2).bind fun bt184 => ((impl_told.f bt184.1 bt184.2.1).bind fun bt191 => ((impl_told.f bt184.2.2.1 bt184.2.2.2.1).bind fun bt193 => (some (bt191.1, bt191.2, bt193.1, bt193.2, bt184.2.2.2.2))))))
def impl_RangesFind.T1 : Bool × List (List Nat × List Nat) := (true, [([], []), ([0], [0]), ([], []), ([2, 1], [2]), ([1, 3, 3], [1, 3]), ([4], [4]), ([5], [5]), ([5], [5]), ([5], [5]), ([], []), ([], []), ([9, 6, 4, 0, 1, 2, 3, 4, 5, 6, 9, 10], [6, 9]), ([10, 7, 11, 0, 1, 2, 3, 4, 5, 6, 7, 9, 10, 11], [7, 10]), ([8, 12, 0, 1, 2, 3, 4, 5, 6, 7, 8, 9, 10, 11, 12], [8])])
def impl_RangesFind.B1 : List Nat := [0, 1, 0, 7, 15, 31, 63, 63, 63, 0, 0, 1663, 3839, 8191]
theorem impl_RangesFind.tab1 : rtab .any (opsOf Try.f22 1) = impl_RangesFind.T1 := by kernel_rfl
theorem impl_RangesFind.bits1 : waitsOk impl_RangesFind.T1.2 impl_RangesFind.B1 = true := by kernel_rfl
def impl_RangesFind.T2 : Bool × List (List Nat × List Nat) := (true, [([], []), ([0], [0]), ([], []), ([2, 1], [2]), ([], []), ([1, 3, 0, 1], [1]), ([3, 5, 0, 1, 2, 3, 5], [3]), ([4, 6, 0, 1, 2, 3, 4, 5, 6], [4])])
def impl_RangesFind.B2 : List Nat := [0, 1, 0, 7, 0, 15, 47, 127]
theorem impl_RangesFind.tab2 : rtab .any (opsOf Try.f22 2) = impl_RangesFind.T2 := by kernel_rfl
theorem impl_RangesFind.bits2 : waitsOk impl_RangesFind.T2.2 impl_RangesFind.B2 = true := by kernel_rfl
set_option maxHeartbeats 8000000 in
set_option maxRecDepth 100000 in
theorem impl_RangesFind.calls (A0 : Option Addr) (c0 : Nat) (l0 : List (S28)) (a1_0 : Int) (a1_1 : Int) (r1 : Int) (r2 : Int) (r3 : Int) (r4 : Int) (r5 : Bool) (w : World) (hr0 : Kd.C k28 w A0 l0.length l0) (hc0 : l0.length ≤ c0) (h : impl_RangesFind.f l0 a1_0 a1_1 = some (r1, r2, r3, r4, r5)) :
  Calls Try.prog 22 #[.slice A0 l0.length c0, .agg #[.int .i64 a1_0, .int .i64 a1_1]] w fun e w' => e = .returned (.tuple #[.agg #[.int .i64 r1, .int .i64 r2], .agg #[.int .i64 r3, .int .i64 r4], .bool r5]) ∧ Below w.heap.size w w' := by
 have hu28 := Try.underlying28
 have hu61 := Try.underlying61
 have HR0 := Aside0.mk hr0
 have HC0 := Aside0.mk hc0
 clear hr0 hc0
 have HB := Aside0.mk (Below.refl w.heap.size w)
 have H : ((impl_inserted.f l0).bind fun t179 => ((impl_given.f a1_0 a1_1).bind fun bt182 => ((ranges_Ranges_Find.f t179 bt182.1 bt182.2).bind fun bt184 => ((impl_told.f bt184.1 bt184.2.1).bind fun bt191 => ((impl_told.f bt184.2.2.1 bt184.2.2.2.1).bind fun bt193 => (some (bt191.1, bt191.2, bt193.1, bt193.2, bt184.2.2.2.2))))))) = some (r1, r2, r3, r4, r5) := h
 clear h
 replace H := Option.bind_eq_some_iff.mp H
 obtain ⟨t179, A30, H⟩ := H
 replace H : ((impl_given.f a1_0 a1_1).bind fun bt182 => ((ranges_Ranges_Find.f t179 bt182.1 bt182.2).bind fun bt184 => ((impl_told.f bt184.1 bt184.2.1).bind fun bt191 => ((impl_told.f bt184.2.2.1 bt184.2.2.2.1).bind fun bt193 => (some (bt191.1, bt191.2, bt193.1, bt193.2, bt184.2.2.2.2)))))) = some (r1, r2, r3, r4, r5) := H
 have A3 := Aside0.mk A30
 clear A30
 replace H := Option.bind_eq_some_iff.mp H
 obtain ⟨⟨t182, t183⟩, A40, H⟩ := H
 replace H : ((ranges_Ranges_Find.f t179 t182 t183).bind fun bt184 => ((impl_told.f bt184.1 bt184.2.1).bind fun bt191 => ((impl_told.f bt184.2.2.1 bt184.2.2.2.1).bind fun bt193 => (some (bt191.1, bt191.2, bt193.1, bt193.2, bt184.2.2.2.2))))) = some (r1, r2, r3, r4, r5) := H
 have A4 := Aside0.mk A40
 clear A40
 replace H := Option.bind_eq_some_iff.mp H
 obtain ⟨⟨t184, t185, t186, t187, t188⟩, A50, H⟩ := H
 replace H : ((impl_told.f t184 t185).bind fun bt191 => ((impl_told.f t186 t187).bind fun bt193 => (some (bt191.1, bt191.2, bt193.1, bt193.2, t188)))) = some (r1, r2, r3, r4, r5) := H
 have A5 := Aside0.mk A50
 clear A50
 replace H := Option.bind_eq_some_iff.mp H
 obtain ⟨⟨t191, t192⟩, A60, H⟩ := H
 replace H : ((impl_told.f t186 t187).bind fun bt193 => (some (t191, t192, bt193.1, bt193.2, t188))) = some (r1, r2, r3, r4, r5) := H
 have A6 := Aside0.mk A60
 clear A60
 replace H := Option.bind_eq_some_iff.mp H
 obtain ⟨⟨t193, t194⟩, A70, H⟩ := H
 replace H : (some (t191, t192, t193, t194, t188)) = some (r1, r2, r3, r4, r5) := H
 have A7 := Aside0.mk A70
 clear A70
 simp only [Option.some.injEq, Prod.mk.injEq] at H
 obtain ⟨rfl, rfl, rfl, rfl, rfl⟩ := H
 go_enter Try.func22, Try.ntmps22
 try go_wp2_with (first | ((with_reducible refine gate_dst (N := 3) rfl ?_); refine box_event ?hg (N := 3) ?hd (cs := #[.int .i64 a1_0, .int .i64 a1_1]) (t := 28) ?hr ?_; (case hd => rfl); (case hg => rfl); (case hr => first | (go_simp; done) | (go_simp; rfl)); intro gb176 hg w8 hbox hb; have n0_ := Aside0.mk (below_step (by repeat (first | (with_reducible first | exact HB.out | apply below_alloc | apply pw_below_drewN | apply below_drew1) | exact HB.out)) hb); have n1_ := Aside0.mk (hbox); have n2_ := Aside0.mk ((by rw [hg]; exact (below_size (by repeat (first | (with_reducible first | exact HB.out | apply below_alloc | apply pw_below_drewN | apply below_drew1) | exact HB.out))) : w.heap.size ≤ gb176)); have n3_ := Aside0.mk ((by rw [hg]; exact (below_size (by repeat (first | (with_reducible first | exact HB.out | apply below_alloc | apply pw_below_drewN | apply below_drew1) | exact HB.out))) : w.heap.size ≤ gb176)); clear HB; have HB := n0_; have BK176 := n1_; have GW176 := n2_; have GE176 := n3_; clear n0_ n1_ n2_ n3_; clear hb hbox hg) | ((with_reducible refine gate_dst (N := 4) rfl ?_); refine box_event ?hg (N := 4) ?hd (cs := #[.int .i64 0, .int .i64 0]) (t := 28) ?hr ?_; (case hd => rfl); (case hg => rfl); (case hr => first | (go_simp; done) | (go_simp; rfl)); intro gb177 hg w9 hbox hb; have n0_ := Aside0.mk (blk_below (g := gb176) (o := .cells #[.int .i64 a1_0, .int .i64 a1_1] 28 (0, 0)) (by (with_reducible repeat (first | refine blk_drewN ?_ _ | refine blk_drew ?_ | refine blk_alloc ?_ _)); exact BK176.out) hb); have n1_ := Aside0.mk (below_step (by repeat (first | (with_reducible first | exact HB.out | apply below_alloc | apply pw_below_drewN | apply below_drew1 | refine below_set ?_ GE176.out) | exact HB.out)) hb); have n2_ := Aside0.mk (hbox); have n3_ := Aside0.mk ((by rw [hg]; exact (below_size (by repeat (first | (with_reducible first | exact HB.out | apply below_alloc | apply pw_below_drewN | apply below_drew1 | refine below_set ?_ GE176.out) | exact HB.out))) : w.heap.size ≤ gb177)); have n4_ := Aside0.mk ((by rw [hg]; exact (below_size (by repeat (first | (with_reducible first | exact HB.out | apply below_alloc | apply pw_below_drewN | apply below_drew1 | refine below_set ?_ GE176.out) | exact HB.out))) : w.heap.size ≤ gb177)); have n5_ := Aside0.mk ((by rw [hg]; exact Nat.ne_of_lt (blk_lt (g := gb176) (o := .cells #[.int .i64 a1_0, .int .i64 a1_1] 28 (0, 0)) (by (with_reducible repeat (first | refine blk_drewN ?_ _ | refine blk_drew ?_ | refine blk_alloc ?_ _)); exact BK176.out)) : gb176 ≠ gb177)); have n6_ := Aside0.mk ((by rw [hg]; exact Nat.ne_of_gt (blk_lt (g := gb176) (o := .cells #[.int .i64 a1_0, .int .i64 a1_1] 28 (0, 0)) (by (with_reducible repeat (first | refine blk_drewN ?_ _ | refine blk_drew ?_ | refine blk_alloc ?_ _)); exact BK176.out)) : gb177 ≠ gb176)); clear BK176; clear HB; have BK176 := n0_; have HB := n1_; have BK177 := n2_; have GW177 := n3_; have GE177 := n4_; have NB176_177 := n5_; have NB177_176 := n6_; clear n0_ n1_ n2_ n3_ n4_ n5_ n6_; clear hb hbox hg) | ((with_reducible refine gate_dst (N := 5) rfl ?_); refine box_event ?hg (N := 5) ?hd (cs := #[.int .i64 0, .int .i64 0]) (t := 28) ?hr ?_; (case hd => rfl); (case hg => rfl); (case hr => first | (go_simp; done) | (go_simp; rfl)); intro gb178 hg w10 hbox hb; have n0_ := Aside0.mk (blk_below (g := gb176) (o := .cells #[.int .i64 a1_0, .int .i64 a1_1] 28 (0, 0)) (by (with_reducible repeat (first | refine blk_drewN ?_ _ | refine blk_drew ?_ | refine blk_alloc ?_ _)); exact BK176.out) hb); have n1_ := Aside0.mk (blk_below (g := gb177) (o := .cells #[.int .i64 0, .int .i64 0] 28 (0, 0)) (by (with_reducible repeat (first | refine blk_drewN ?_ _ | refine blk_drew ?_ | refine blk_alloc ?_ _)); exact BK177.out) hb); have n2_ := Aside0.mk (below_step (by repeat (first | (with_reducible first | exact HB.out | apply below_alloc | apply pw_below_drewN | apply below_drew1 | refine below_set ?_ GE176.out | refine below_set ?_ GE177.out) | exact HB.out)) hb); have n3_ := Aside0.mk (hbox); have n4_ := Aside0.mk ((by rw [hg]; exact (below_size (by repeat (first | (with_reducible first | exact HB.out | apply below_alloc | apply pw_below_drewN | apply below_drew1 | refine below_set ?_ GE176.out | refine below_set ?_ GE177.out) | exact HB.out))) : w.heap.size ≤ gb178)); have n5_ := Aside0.mk ((by rw [hg]; exact (below_size (by repeat (first | (with_reducible first | exact HB.out | apply below_alloc | apply pw_below_drewN | apply below_drew1 | refine below_set ?_ GE176.out | refine below_set ?_ GE177.out) | exact HB.out))) : w.heap.size ≤ gb178)); have n6_ := Aside0.mk ((by rw [hg]; exact Nat.ne_of_lt (blk_lt (g := gb176) (o := .cells #[.int .i64 a1_0, .int .i64 a1_1] 28 (0, 0)) (by (with_reducible repeat (first | refine blk_drewN ?_ _ | refine blk_drew ?_ | refine blk_alloc ?_ _)); exact BK176.out)) : gb176 ≠ gb178)); have n7_ := Aside0.mk ((by rw [hg]; exact Nat.ne_of_gt (blk_lt (g := gb176) (o := .cells #[.int .i64 a1_0, .int .i64 a1_1] 28 (0, 0)) (by (with_reducible repeat (first | refine blk_drewN ?_ _ | refine blk_drew ?_ | refine blk_alloc ?_ _)); exact BK176.out)) : gb178 ≠ gb176)); have n8_ := Aside0.mk ((by rw [hg]; exact Nat.ne_of_lt (blk_lt (g := gb177) (o := .cells #[.int .i64 0, .int .i64 0] 28 (0, 0)) (by (with_reducible repeat (first | refine blk_drewN ?_ _ | refine blk_drew ?_ | refine blk_alloc ?_ _)); exact BK177.out)) : gb177 ≠ gb178)); have n9_ := Aside0.mk ((by rw [hg]; exact Nat.ne_of_gt (blk_lt (g := gb177) (o := .cells #[.int .i64 0, .int .i64 0] 28 (0, 0)) (by (with_reducible repeat (first | refine blk_drewN ?_ _ | refine blk_drew ?_ | refine blk_alloc ?_ _)); exact BK177.out)) : gb178 ≠ gb177)); clear BK176; clear BK177; clear HB; have BK176 := n0_; have BK177 := n1_; have HB := n2_; have BK178 := n3_; have GW178 := n4_; have GE178 := n5_; have NB176_178 := n6_; have NB178_176 := n7_; have NB177_178 := n8_; have NB178_177 := n9_; clear n0_ n1_ n2_ n3_ n4_ n5_ n6_ n7_ n8_ n9_; clear hb hbox hg))
 have n0_ := Aside0.mk (blk_drew BK176.out)
 have n1_ := Aside0.mk (blk_drew BK177.out)
 have n2_ := Aside0.mk (blk_drew BK178.out)
 have n3_ := Aside0.mk (below_drew1 HB.out)
 clear BK176
 clear BK177
 clear BK178
 clear HB
 have BK176 := n0_
 have BK177 := n1_
 have BK178 := n2_
 have HB := n3_
 clear n0_ n1_ n2_ n3_
 refine start_ (n := 14) (S := fun w' => w'.cell? ⟨gb176, 0, none⟩ = some (.int .i64 a1_0) ∧ w'.cell? ⟨gb176, 1, none⟩ = some (.int .i64 a1_1)) (ds := []) #[false, false, false, false, false, false, false, false, false, false, false, false, false, false] (by kernel_rfl) rfl rfl ⟨(blk_cell BK176.out 0).trans rfl, (blk_cell BK176.out 1).trans rfl⟩ (fun hHeld => ?_); refine with_tabW impl_RangesFind.tab1 impl_RangesFind.bits1 (fun HT_ HW_ => ?_)
 generalize w10.drew = w11 at BK176 BK177 BK178 HB hHeld ⊢
 refine pure_ (i := 0) (N := some 10) (v := ?_) (a' := ?_) #[true, false, false, false, false, false, false, false, false, false, false, false, false, false] rfl rfl (any_of HT_.out (by kernel_rfl)) (fun _ _ _ h => h) (Or.inl ⟨by rfl, ?_⟩) ?_ ?_
 rotate_left
 ·intro w'
  go_simp
  with_reducible rfl
 rotate_left
 ·simp only [Act.put, List.setIfInBounds_toArray, List.set_cons_zero, List.set_cons_succ, i64_w, i32_w]
  rfl
 refine take_ (i := 2) (N := some 12) (v := ?_) (a' := ?_) #[true, false, true, false, false, false, false, false, false, false, false, false, false, false] rfl rfl (take_ofW HT_.out HW_.out (by kernel_rfl)) (fun _ _ _ h => h) (Or.inl ⟨by rfl, ?_⟩) hHeld ?_ ?_
 rotate_left
 ·rintro w' ⟨s0, s1⟩
  go_simp
  with_reducible rfl
 rotate_left
 ·simp only [Act.put, List.setIfInBounds_toArray, List.set_cons_zero, List.set_cons_succ, i64_w, i32_w]
  rfl
 refine join_ (σ := Value × Nat × Nat) 3 #[true, true, true, true, true, true, true, true, true, true, true, false, false, false] (fun s_ => [(11, s_.1), (13, .agg #[.int .i64 t182, .int .i64 t183]), (14, .tuple #[.agg #[.int .i64 t184, .int .i64 t185], .agg #[.int .i64 t186, .int .i64 t187], .bool t188]), (7, .pointer (some ⟨s_.2.1, 0, none⟩)), (8, .pointer (some ⟨s_.2.2, 0, none⟩)), (9, .tuple #[.agg #[.int .i64 t184, .int .i64 t185], .agg #[.int .i64 t186, .int .i64 t187], .bool t188]), (15, .agg #[.int .i64 t184, .int .i64 t185]), (16, .agg #[.int .i64 t186, .int .i64 t187]), (17, .bool t188)]) (fun s_ w' => (w'.cell? ⟨gb176, 0, none⟩ = some (.int .i64 a1_0) ∧ w'.cell? ⟨gb176, 1, none⟩ = some (.int .i64 a1_1)) ∧ (Kd.R k61 61 w' w.heap.size (fun k_ => k_ ≠ s_.2.1 ∧ k_ ≠ s_.2.2) s_.1 t179) ∧ (w'.heap[gb176]? = some (.cells #[.int .i64 a1_0, .int .i64 a1_1] 28 (0, 0))) ∧ (w'.heap[gb177]? = some (.cells #[.int .i64 0, .int .i64 0] 28 (0, 0))) ∧ (w'.heap[gb178]? = some (.cells #[.int .i64 0, .int .i64 0] 28 (0, 0))) ∧ (w'.heap[s_.2.1]? = some (.cells #[.int .i64 0, .int .i64 0] 61 (0, 0))) ∧ (w'.heap[s_.2.2]? = some (.cells #[.int .i64 0, .int .i64 0] 61 (0, 0))) ∧ (w.heap.size ≤ s_.2.1) ∧ (w.heap.size ≤ s_.2.1) ∧ (gb176 ≠ s_.2.1) ∧ (s_.2.1 ≠ gb176) ∧ (gb177 ≠ s_.2.1) ∧ (s_.2.1 ≠ gb177) ∧ (gb178 ≠ s_.2.1) ∧ (s_.2.1 ≠ gb178) ∧ (s_.2.2 ≠ s_.2.1) ∧ (s_.2.1 ≠ s_.2.2) ∧ (w.heap.size ≤ s_.2.2) ∧ (w.heap.size ≤ s_.2.2) ∧ (gb176 ≠ s_.2.2) ∧ (s_.2.2 ≠ gb176) ∧ (gb177 ≠ s_.2.2) ∧ (s_.2.2 ≠ gb177) ∧ (gb178 ≠ s_.2.2) ∧ (s_.2.2 ≠ gb178) ∧ (Below w.heap.size w w')) ?_ ?_
 rotate_left
 ·intro hJ1_3_4_9_10
  refine join_ (σ := Value × Nat) 4 #[true, true, true, true, true, true, true, true, true, true, false, false, false, false] (fun s_ => [(11, s_.1), (13, .agg #[.int .i64 t182, .int .i64 t183]), (14, .tuple #[.agg #[.int .i64 t184, .int .i64 t185], .agg #[.int .i64 t186, .int .i64 t187], .bool t188]), (7, .pointer (some ⟨s_.2, 0, none⟩)), (9, .tuple #[.agg #[.int .i64 t184, .int .i64 t185], .agg #[.int .i64 t186, .int .i64 t187], .bool t188]), (15, .agg #[.int .i64 t184, .int .i64 t185]), (16, .agg #[.int .i64 t186, .int .i64 t187]), (17, .bool t188)]) (fun s_ w' => (w'.cell? ⟨gb176, 0, none⟩ = some (.int .i64 a1_0) ∧ w'.cell? ⟨gb176, 1, none⟩ = some (.int .i64 a1_1)) ∧ (Kd.R k61 61 w' w.heap.size (fun k_ => k_ ≠ s_.2) s_.1 t179) ∧ (w'.heap[gb176]? = some (.cells #[.int .i64 a1_0, .int .i64 a1_1] 28 (0, 0))) ∧ (w'.heap[gb177]? = some (.cells #[.int .i64 0, .int .i64 0] 28 (0, 0))) ∧ (w'.heap[gb178]? = some (.cells #[.int .i64 0, .int .i64 0] 28 (0, 0))) ∧ (w'.heap[s_.2]? = some (.cells #[.int .i64 0, .int .i64 0] 61 (0, 0))) ∧ (w.heap.size ≤ s_.2) ∧ (w.heap.size ≤ s_.2) ∧ (gb176 ≠ s_.2) ∧ (s_.2 ≠ gb176) ∧ (gb177 ≠ s_.2) ∧ (s_.2 ≠ gb177) ∧ (gb178 ≠ s_.2) ∧ (s_.2 ≠ gb178) ∧ (Below w.heap.size w w')) ?_ ?_
  rotate_left
  ·intro hJ1_3_4_9
   refine join_ (σ := Value × Nat) 4 #[true, true, true, true, true, true, true, true, true, false, true, false, false, false] (fun s_ => [(11, s_.1), (13, .agg #[.int .i64 t182, .int .i64 t183]), (14, .tuple #[.agg #[.int .i64 t184, .int .i64 t185], .agg #[.int .i64 t186, .int .i64 t187], .bool t188]), (8, .pointer (some ⟨s_.2, 0, none⟩)), (9, .tuple #[.agg #[.int .i64 t184, .int .i64 t185], .agg #[.int .i64 t186, .int .i64 t187], .bool t188]), (15, .agg #[.int .i64 t184, .int .i64 t185]), (16, .agg #[.int .i64 t186, .int .i64 t187]), (17, .bool t188)]) (fun s_ w' => (w'.cell? ⟨gb176, 0, none⟩ = some (.int .i64 a1_0) ∧ w'.cell? ⟨gb176, 1, none⟩ = some (.int .i64 a1_1)) ∧ (Kd.R k61 61 w' w.heap.size (fun k_ => k_ ≠ s_.2) s_.1 t179) ∧ (w'.heap[gb176]? = some (.cells #[.int .i64 a1_0, .int .i64 a1_1] 28 (0, 0))) ∧ (w'.heap[gb177]? = some (.cells #[.int .i64 0, .int .i64 0] 28 (0, 0))) ∧ (w'.heap[gb178]? = some (.cells #[.int .i64 0, .int .i64 0] 28 (0, 0))) ∧ (w'.heap[s_.2]? = some (.cells #[.int .i64 0, .int .i64 0] 61 (0, 0))) ∧ (w.heap.size ≤ s_.2) ∧ (w.heap.size ≤ s_.2) ∧ (gb176 ≠ s_.2) ∧ (s_.2 ≠ gb176) ∧ (gb177 ≠ s_.2) ∧ (s_.2 ≠ gb177) ∧ (gb178 ≠ s_.2) ∧ (s_.2 ≠ gb178) ∧ (Below w.heap.size w w')) ?_ ?_
   rotate_left
   ·intro hJ1_3_4_10
    refine join_ (σ := Value × Nat × Nat) 8 #[true, true, true, true, false, false, false, false, false, true, true, false, false, false] (fun s_ => [(11, s_.1), (13, .agg #[.int .i64 t182, .int .i64 t183]), (7, .pointer (some ⟨s_.2.1, 0, none⟩)), (8, .pointer (some ⟨s_.2.2, 0, none⟩))]) (fun s_ w' => (w'.cell? ⟨gb176, 0, none⟩ = some (.int .i64 a1_0) ∧ w'.cell? ⟨gb176, 1, none⟩ = some (.int .i64 a1_1)) ∧ (Kd.R k61 61 w' w.heap.size (fun k_ => k_ ≠ s_.2.1 ∧ k_ ≠ s_.2.2) s_.1 t179) ∧ (w'.heap[gb176]? = some (.cells #[.int .i64 a1_0, .int .i64 a1_1] 28 (0, 0))) ∧ (w'.heap[gb177]? = some (.cells #[.int .i64 0, .int .i64 0] 28 (0, 0))) ∧ (w'.heap[gb178]? = some (.cells #[.int .i64 0, .int .i64 0] 28 (0, 0))) ∧ (w'.heap[s_.2.1]? = some (.cells #[.int .i64 0, .int .i64 0] 61 (0, 0))) ∧ (w'.heap[s_.2.2]? = some (.cells #[.int .i64 0, .int .i64 0] 61 (0, 0))) ∧ (w.heap.size ≤ s_.2.1) ∧ (w.heap.size ≤ s_.2.1) ∧ (gb176 ≠ s_.2.1) ∧ (s_.2.1 ≠ gb176) ∧ (gb177 ≠ s_.2.1) ∧ (s_.2.1 ≠ gb177) ∧ (gb178 ≠ s_.2.1) ∧ (s_.2.1 ≠ gb178) ∧ (s_.2.2 ≠ s_.2.1) ∧ (s_.2.1 ≠ s_.2.2) ∧ (w.heap.size ≤ s_.2.2) ∧ (w.heap.size ≤ s_.2.2) ∧ (gb176 ≠ s_.2.2) ∧ (s_.2.2 ≠ gb176) ∧ (gb177 ≠ s_.2.2) ∧ (s_.2.2 ≠ gb177) ∧ (gb178 ≠ s_.2.2) ∧ (s_.2.2 ≠ gb178) ∧ (Below w.heap.size w w')) ?_ ?_
    rotate_left
    ·intro hJ1_3_9_10
     refine join_ (σ := Value) 5 #[true, true, true, true, true, true, true, true, true, false, false, false, false, false] (fun s_ => [(11, s_), (13, .agg #[.int .i64 t182, .int .i64 t183]), (14, .tuple #[.agg #[.int .i64 t184, .int .i64 t185], .agg #[.int .i64 t186, .int .i64 t187], .bool t188]), (9, .tuple #[.agg #[.int .i64 t184, .int .i64 t185], .agg #[.int .i64 t186, .int .i64 t187], .bool t188]), (15, .agg #[.int .i64 t184, .int .i64 t185]), (16, .agg #[.int .i64 t186, .int .i64 t187]), (17, .bool t188)]) (fun s_ w' => (w'.cell? ⟨gb176, 0, none⟩ = some (.int .i64 a1_0) ∧ w'.cell? ⟨gb176, 1, none⟩ = some (.int .i64 a1_1)) ∧ (Kd.R k61 61 w' w.heap.size (fun _ => True) s_ t179) ∧ (w'.heap[gb176]? = some (.cells #[.int .i64 a1_0, .int .i64 a1_1] 28 (0, 0))) ∧ (w'.heap[gb177]? = some (.cells #[.int .i64 0, .int .i64 0] 28 (0, 0))) ∧ (w'.heap[gb178]? = some (.cells #[.int .i64 0, .int .i64 0] 28 (0, 0))) ∧ (Below w.heap.size w w')) ?_ ?_
     rotate_left
     ·intro hJ1_3_4
      refine join_ (σ := Value × Nat) 9 #[true, true, true, true, false, false, false, false, false, true, false, false, false, false] (fun s_ => [(11, s_.1), (13, .agg #[.int .i64 t182, .int .i64 t183]), (7, .pointer (some ⟨s_.2, 0, none⟩))]) (fun s_ w' => (w'.cell? ⟨gb176, 0, none⟩ = some (.int .i64 a1_0) ∧ w'.cell? ⟨gb176, 1, none⟩ = some (.int .i64 a1_1)) ∧ (Kd.R k61 61 w' w.heap.size (fun k_ => k_ ≠ s_.2) s_.1 t179) ∧ (w'.heap[gb176]? = some (.cells #[.int .i64 a1_0, .int .i64 a1_1] 28 (0, 0))) ∧ (w'.heap[gb177]? = some (.cells #[.int .i64 0, .int .i64 0] 28 (0, 0))) ∧ (w'.heap[gb178]? = some (.cells #[.int .i64 0, .int .i64 0] 28 (0, 0))) ∧ (w'.heap[s_.2]? = some (.cells #[.int .i64 0, .int .i64 0] 61 (0, 0))) ∧ (w.heap.size ≤ s_.2) ∧ (w.heap.size ≤ s_.2) ∧ (gb176 ≠ s_.2) ∧ (s_.2 ≠ gb176) ∧ (gb177 ≠ s_.2) ∧ (s_.2 ≠ gb177) ∧ (gb178 ≠ s_.2) ∧ (s_.2 ≠ gb178) ∧ (Below w.heap.size w w')) ?_ ?_
      rotate_left
      ·intro hJ1_3_9
       refine join_ (σ := Value × Nat) 9 #[true, true, true, true, false, false, false, false, false, false, true, false, false, false] (fun s_ => [(11, s_.1), (13, .agg #[.int .i64 t182, .int .i64 t183]), (8, .pointer (some ⟨s_.2, 0, none⟩))]) (fun s_ w' => (w'.cell? ⟨gb176, 0, none⟩ = some (.int .i64 a1_0) ∧ w'.cell? ⟨gb176, 1, none⟩ = some (.int .i64 a1_1)) ∧ (Kd.R k61 61 w' w.heap.size (fun k_ => k_ ≠ s_.2) s_.1 t179) ∧ (w'.heap[gb176]? = some (.cells #[.int .i64 a1_0, .int .i64 a1_1] 28 (0, 0))) ∧ (w'.heap[gb177]? = some (.cells #[.int .i64 0, .int .i64 0] 28 (0, 0))) ∧ (w'.heap[gb178]? = some (.cells #[.int .i64 0, .int .i64 0] 28 (0, 0))) ∧ (w'.heap[s_.2]? = some (.cells #[.int .i64 0, .int .i64 0] 61 (0, 0))) ∧ (w.heap.size ≤ s_.2) ∧ (w.heap.size ≤ s_.2) ∧ (gb176 ≠ s_.2) ∧ (s_.2 ≠ gb176) ∧ (gb177 ≠ s_.2) ∧ (s_.2 ≠ gb177) ∧ (gb178 ≠ s_.2) ∧ (s_.2 ≠ gb178) ∧ (Below w.heap.size w w')) ?_ ?_
       rotate_left
       ·intro hJ1_3_10
        refine join_ (σ := Value × Nat × Nat) 9 #[true, true, true, false, false, false, false, false, false, true, true, false, false, false] (fun s_ => [(11, s_.1), (7, .pointer (some ⟨s_.2.1, 0, none⟩)), (8, .pointer (some ⟨s_.2.2, 0, none⟩))]) (fun s_ w' => (w'.cell? ⟨gb176, 0, none⟩ = some (.int .i64 a1_0) ∧ w'.cell? ⟨gb176, 1, none⟩ = some (.int .i64 a1_1)) ∧ (Kd.R k61 61 w' w.heap.size (fun k_ => k_ ≠ s_.2.1 ∧ k_ ≠ s_.2.2) s_.1 t179) ∧ (w'.heap[gb176]? = some (.cells #[.int .i64 a1_0, .int .i64 a1_1] 28 (0, 0))) ∧ (w'.heap[gb177]? = some (.cells #[.int .i64 0, .int .i64 0] 28 (0, 0))) ∧ (w'.heap[gb178]? = some (.cells #[.int .i64 0, .int .i64 0] 28 (0, 0))) ∧ (w'.heap[s_.2.1]? = some (.cells #[.int .i64 0, .int .i64 0] 61 (0, 0))) ∧ (w'.heap[s_.2.2]? = some (.cells #[.int .i64 0, .int .i64 0] 61 (0, 0))) ∧ (w.heap.size ≤ s_.2.1) ∧ (w.heap.size ≤ s_.2.1) ∧ (gb176 ≠ s_.2.1) ∧ (s_.2.1 ≠ gb176) ∧ (gb177 ≠ s_.2.1) ∧ (s_.2.1 ≠ gb177) ∧ (gb178 ≠ s_.2.1) ∧ (s_.2.1 ≠ gb178) ∧ (s_.2.2 ≠ s_.2.1) ∧ (s_.2.1 ≠ s_.2.2) ∧ (w.heap.size ≤ s_.2.2) ∧ (w.heap.size ≤ s_.2.2) ∧ (gb176 ≠ s_.2.2) ∧ (s_.2.2 ≠ gb176) ∧ (gb177 ≠ s_.2.2) ∧ (s_.2.2 ≠ gb177) ∧ (gb178 ≠ s_.2.2) ∧ (s_.2.2 ≠ gb178) ∧ (Below w.heap.size w w')) ?_ ?_
        rotate_left
        ·intro hJ1_9_10
         refine join_ (σ := Value) 10 #[true, true, true, true, false, false, false, false, false, false, false, false, false, false] (fun s_ => [(11, s_), (13, .agg #[.int .i64 t182, .int .i64 t183])]) (fun s_ w' => (w'.cell? ⟨gb176, 0, none⟩ = some (.int .i64 a1_0) ∧ w'.cell? ⟨gb176, 1, none⟩ = some (.int .i64 a1_1)) ∧ (Kd.R k61 61 w' w.heap.size (fun _ => True) s_ t179) ∧ (w'.heap[gb176]? = some (.cells #[.int .i64 a1_0, .int .i64 a1_1] 28 (0, 0))) ∧ (w'.heap[gb177]? = some (.cells #[.int .i64 0, .int .i64 0] 28 (0, 0))) ∧ (w'.heap[gb178]? = some (.cells #[.int .i64 0, .int .i64 0] 28 (0, 0))) ∧ (Below w.heap.size w w')) ?_ ?_
         rotate_left
         ·intro hJ1_3
          refine join_ (σ := Value × Nat) 10 #[true, true, true, false, false, false, false, false, false, true, false, false, false, false] (fun s_ => [(11, s_.1), (7, .pointer (some ⟨s_.2, 0, none⟩))]) (fun s_ w' => (w'.cell? ⟨gb176, 0, none⟩ = some (.int .i64 a1_0) ∧ w'.cell? ⟨gb176, 1, none⟩ = some (.int .i64 a1_1)) ∧ (Kd.R k61 61 w' w.heap.size (fun k_ => k_ ≠ s_.2) s_.1 t179) ∧ (w'.heap[gb176]? = some (.cells #[.int .i64 a1_0, .int .i64 a1_1] 28 (0, 0))) ∧ (w'.heap[gb177]? = some (.cells #[.int .i64 0, .int .i64 0] 28 (0, 0))) ∧ (w'.heap[gb178]? = some (.cells #[.int .i64 0, .int .i64 0] 28 (0, 0))) ∧ (w'.heap[s_.2]? = some (.cells #[.int .i64 0, .int .i64 0] 61 (0, 0))) ∧ (w.heap.size ≤ s_.2) ∧ (w.heap.size ≤ s_.2) ∧ (gb176 ≠ s_.2) ∧ (s_.2 ≠ gb176) ∧ (gb177 ≠ s_.2) ∧ (s_.2 ≠ gb177) ∧ (gb178 ≠ s_.2) ∧ (s_.2 ≠ gb178) ∧ (Below w.heap.size w w')) ?_ ?_
          rotate_left
          ·intro hJ1_9
           refine join_ (σ := Value × Nat) 10 #[true, true, true, false, false, false, false, false, false, false, true, false, false, false] (fun s_ => [(11, s_.1), (8, .pointer (some ⟨s_.2, 0, none⟩))]) (fun s_ w' => (w'.cell? ⟨gb176, 0, none⟩ = some (.int .i64 a1_0) ∧ w'.cell? ⟨gb176, 1, none⟩ = some (.int .i64 a1_1)) ∧ (Kd.R k61 61 w' w.heap.size (fun k_ => k_ ≠ s_.2) s_.1 t179) ∧ (w'.heap[gb176]? = some (.cells #[.int .i64 a1_0, .int .i64 a1_1] 28 (0, 0))) ∧ (w'.heap[gb177]? = some (.cells #[.int .i64 0, .int .i64 0] 28 (0, 0))) ∧ (w'.heap[gb178]? = some (.cells #[.int .i64 0, .int .i64 0] 28 (0, 0))) ∧ (w'.heap[s_.2]? = some (.cells #[.int .i64 0, .int .i64 0] 61 (0, 0))) ∧ (w.heap.size ≤ s_.2) ∧ (w.heap.size ≤ s_.2) ∧ (gb176 ≠ s_.2) ∧ (s_.2 ≠ gb176) ∧ (gb177 ≠ s_.2) ∧ (s_.2 ≠ gb177) ∧ (gb178 ≠ s_.2) ∧ (s_.2 ≠ gb178) ∧ (Below w.heap.size w w')) ?_ ?_
           rotate_left
           ·intro hJ1_10
            refine join_ (σ := Nat × Nat) 10 #[true, false, true, false, false, false, false, false, false, true, true, false, false, false] (fun s_ => [(7, .pointer (some ⟨s_.1, 0, none⟩)), (8, .pointer (some ⟨s_.2, 0, none⟩))]) (fun s_ w' => (w'.cell? ⟨gb176, 0, none⟩ = some (.int .i64 a1_0) ∧ w'.cell? ⟨gb176, 1, none⟩ = some (.int .i64 a1_1)) ∧ (w'.heap[gb176]? = some (.cells #[.int .i64 a1_0, .int .i64 a1_1] 28 (0, 0))) ∧ (w'.heap[gb177]? = some (.cells #[.int .i64 0, .int .i64 0] 28 (0, 0))) ∧ (w'.heap[gb178]? = some (.cells #[.int .i64 0, .int .i64 0] 28 (0, 0))) ∧ (w'.heap[s_.1]? = some (.cells #[.int .i64 0, .int .i64 0] 61 (0, 0))) ∧ (w'.heap[s_.2]? = some (.cells #[.int .i64 0, .int .i64 0] 61 (0, 0))) ∧ (w.heap.size ≤ s_.1) ∧ (w.heap.size ≤ s_.1) ∧ (gb176 ≠ s_.1) ∧ (s_.1 ≠ gb176) ∧ (gb177 ≠ s_.1) ∧ (s_.1 ≠ gb177) ∧ (gb178 ≠ s_.1) ∧ (s_.1 ≠ gb178) ∧ (s_.2 ≠ s_.1) ∧ (s_.1 ≠ s_.2) ∧ (w.heap.size ≤ s_.2) ∧ (w.heap.size ≤ s_.2) ∧ (gb176 ≠ s_.2) ∧ (s_.2 ≠ gb176) ∧ (gb177 ≠ s_.2) ∧ (s_.2 ≠ gb177) ∧ (gb178 ≠ s_.2) ∧ (s_.2 ≠ gb178) ∧ (Below w.heap.size w w')) ?_ ?_
            rotate_left
            ·intro hJ9_10
             refine join_ (σ := Value) 11 #[true, true, true, false, false, false, false, false, false, false, false, false, false, false] (fun s_ => [(11, s_)]) (fun s_ w' => (w'.cell? ⟨gb176, 0, none⟩ = some (.int .i64 a1_0) ∧ w'.cell? ⟨gb176, 1, none⟩ = some (.int .i64 a1_1)) ∧ (Kd.R k61 61 w' w.heap.size (fun _ => True) s_ t179) ∧ (w'.heap[gb176]? = some (.cells #[.int .i64 a1_0, .int .i64 a1_1] 28 (0, 0))) ∧ (w'.heap[gb177]? = some (.cells #[.int .i64 0, .int .i64 0] 28 (0, 0))) ∧ (w'.heap[gb178]? = some (.cells #[.int .i64 0, .int .i64 0] 28 (0, 0))) ∧ (Below w.heap.size w w')) ?_ ?_
             rotate_left
             ·intro hJ1
              refine join_ (σ := Nat) 11 #[true, false, true, false, false, false, false, false, false, true, false, false, false, false] (fun s_ => [(7, .pointer (some ⟨s_, 0, none⟩))]) (fun s_ w' => (w'.cell? ⟨gb176, 0, none⟩ = some (.int .i64 a1_0) ∧ w'.cell? ⟨gb176, 1, none⟩ = some (.int .i64 a1_1)) ∧ (w'.heap[gb176]? = some (.cells #[.int .i64 a1_0, .int .i64 a1_1] 28 (0, 0))) ∧ (w'.heap[gb177]? = some (.cells #[.int .i64 0, .int .i64 0] 28 (0, 0))) ∧ (w'.heap[gb178]? = some (.cells #[.int .i64 0, .int .i64 0] 28 (0, 0))) ∧ (w'.heap[s_]? = some (.cells #[.int .i64 0, .int .i64 0] 61 (0, 0))) ∧ (w.heap.size ≤ s_) ∧ (w.heap.size ≤ s_) ∧ (gb176 ≠ s_) ∧ (s_ ≠ gb176) ∧ (gb177 ≠ s_) ∧ (s_ ≠ gb177) ∧ (gb178 ≠ s_) ∧ (s_ ≠ gb178) ∧ (Below w.heap.size w w')) ?_ ?_
              rotate_left
              ·intro hJ9
               refine join_ (σ := Nat) 11 #[true, false, true, false, false, false, false, false, false, false, true, false, false, false] (fun s_ => [(8, .pointer (some ⟨s_, 0, none⟩))]) (fun s_ w' => (w'.cell? ⟨gb176, 0, none⟩ = some (.int .i64 a1_0) ∧ w'.cell? ⟨gb176, 1, none⟩ = some (.int .i64 a1_1)) ∧ (w'.heap[gb176]? = some (.cells #[.int .i64 a1_0, .int .i64 a1_1] 28 (0, 0))) ∧ (w'.heap[gb177]? = some (.cells #[.int .i64 0, .int .i64 0] 28 (0, 0))) ∧ (w'.heap[gb178]? = some (.cells #[.int .i64 0, .int .i64 0] 28 (0, 0))) ∧ (w'.heap[s_]? = some (.cells #[.int .i64 0, .int .i64 0] 61 (0, 0))) ∧ (w.heap.size ≤ s_) ∧ (w.heap.size ≤ s_) ∧ (gb176 ≠ s_) ∧ (s_ ≠ gb176) ∧ (gb177 ≠ s_) ∧ (s_ ≠ gb177) ∧ (gb178 ≠ s_) ∧ (s_ ≠ gb178) ∧ (Below w.heap.size w w')) ?_ ?_
               rotate_left
               ·intro hJ10
                refine three_ (i := 1) (j := 9) (k := 10) (Ni := some 11) (Nj := some 7) (Nk := some 8) #[true, true, true, false, false, false, false, false, false, false, false, false, false, false] #[true, false, true, false, false, false, false, false, false, true, false, false, false, false] #[true, false, true, false, false, false, false, false, false, false, true, false, false, false] rfl rfl rfl rfl rfl rfl (three_of HT_.out (by kernel_rfl)) (by decide) (by decide) (by decide) (fun K hK => ?_) (fun K hK => ?_) (fun K hK => ?_)
                ·skip
                 refine goes_ Try.func38 (by kernel_rfl) rfl #[.slice A0 l0.length c0] (by rfl) rfl rfl (by (try simp only [List.map_toArray, List.map_cons, List.map_nil]); first | done | rfl | (simp only [List.length_drop, List.length_take]; rfl)) ?_
                 with_reducible refine (impl_inserted.calls _ _ l0 t179 _ ?side1 ?side2 A3.out).mono ?_
                 (case side1 => repeat (first | exact (Kd.C_below HR0.out HB.out) | (with_reducible refine Kd.C_alloc ?_ _) | (with_reducible refine Kd.C_drewN ?_ _) | (with_reducible refine Kd.C_drew ?_)))
                 (case side2 => exact HC0.out)
                 rintro e w12 ⟨v180, rfl, ho0, hb⟩
                 refine ⟨_, rfl, ?_⟩
                 have n0_ := Aside0.mk (Kd.R_lower ho0 (below_size (by repeat (first | (with_reducible first | exact HB.out | apply below_alloc | apply pw_below_drewN | apply below_drew1 | refine below_set ?_ GE176.out | refine below_set ?_ GE177.out | refine below_set ?_ GE178.out) | exact HB.out))))
                 have n1_ := Aside0.mk (blk_below (g := gb176) (o := .cells #[.int .i64 a1_0, .int .i64 a1_1] 28 (0, 0)) (by (with_reducible repeat (first | refine blk_drewN ?_ _ | refine blk_drew ?_ | refine blk_alloc ?_ _)); exact BK176.out) hb)
                 have n2_ := Aside0.mk (blk_below (g := gb177) (o := .cells #[.int .i64 0, .int .i64 0] 28 (0, 0)) (by (with_reducible repeat (first | refine blk_drewN ?_ _ | refine blk_drew ?_ | refine blk_alloc ?_ _)); exact BK177.out) hb)
                 have n3_ := Aside0.mk (blk_below (g := gb178) (o := .cells #[.int .i64 0, .int .i64 0] 28 (0, 0)) (by (with_reducible repeat (first | refine blk_drewN ?_ _ | refine blk_drew ?_ | refine blk_alloc ?_ _)); exact BK178.out) hb)
                 have n4_ := Aside0.mk (below_step (by repeat (first | (with_reducible first | exact HB.out | apply below_alloc | apply pw_below_drewN | apply below_drew1 | refine below_set ?_ GE176.out | refine below_set ?_ GE177.out | refine below_set ?_ GE178.out) | exact HB.out)) hb)
                 clear BK176
                 clear BK177
                 clear BK178
                 clear HB
                 have HO181 := n0_
                 have BK176 := n1_
                 have BK177 := n2_
                 have BK178 := n3_
                 have HB := n4_
                 clear n0_ n1_ n2_ n3_ n4_
                 (try clear hb)
                 (try clear hb2)
                 (try clear hk)
                 (try clear hi)
                 (try clear ho0)
                 refine hK.out _ _ ⟨(blk_cell BK176.out 0).trans rfl, (blk_cell BK176.out 1).trans rfl⟩ (fun hHeld => ?_)
                 clear hK K
                 refine norm_ (a' := ?_) ?_ ?_
                 rotate_left
                 ·show Act.put _ (some 11) _ = _
                  simp only [Act.put, List.setIfInBounds_toArray, List.set_cons_zero, List.set_cons_succ, i64_w, i32_w]
                  rfl
                 exact norm_ (by first | (simp only [putAll, Act.put, List.setIfInBounds_toArray, List.set_cons_zero, List.set_cons_succ]; done) | (simp only [putAll, Act.put, List.setIfInBounds_toArray, List.set_cons_zero, List.set_cons_succ]; rfl)) (hJ1 (v180) _ ⟨hHeld, (by (with_reducible repeat (first | apply Kd.R_alloc | apply Kd.R_drewN | apply Kd.R_drew)); exact HO181.out), (by (with_reducible repeat (first | refine blk_drewN ?_ _ | refine blk_drew ?_ | refine blk_alloc ?_ _)); exact BK176.out), (by (with_reducible repeat (first | refine blk_drewN ?_ _ | refine blk_drew ?_ | refine blk_alloc ?_ _)); exact BK177.out), (by (with_reducible repeat (first | refine blk_drewN ?_ _ | refine blk_drew ?_ | refine blk_alloc ?_ _)); exact BK178.out), (by repeat (first | (with_reducible first | exact HB.out | apply below_alloc | apply pw_below_drewN | apply below_drew1 | refine below_set ?_ GE176.out | refine below_set ?_ GE177.out | refine below_set ?_ GE178.out) | exact HB.out))⟩)
                ·skip
                 refine box_step ?hg (N := 7) ?hd (cs := #[.int .i64 0, .int .i64 0]) (t := 61) ?hr ?_; (case hd => rfl); (case hg => rfl); (case hr => first | (go_simp; done) | (go_simp; rfl))
                 intro gb189 hg w12 hbox hb
                 have n0_ := Aside0.mk (blk_below (g := gb176) (o := .cells #[.int .i64 a1_0, .int .i64 a1_1] 28 (0, 0)) (by (with_reducible repeat (first | refine blk_drewN ?_ _ | refine blk_drew ?_ | refine blk_alloc ?_ _)); exact BK176.out) hb)
                 have n1_ := Aside0.mk (blk_below (g := gb177) (o := .cells #[.int .i64 0, .int .i64 0] 28 (0, 0)) (by (with_reducible repeat (first | refine blk_drewN ?_ _ | refine blk_drew ?_ | refine blk_alloc ?_ _)); exact BK177.out) hb)
                 have n2_ := Aside0.mk (blk_below (g := gb178) (o := .cells #[.int .i64 0, .int .i64 0] 28 (0, 0)) (by (with_reducible repeat (first | refine blk_drewN ?_ _ | refine blk_drew ?_ | refine blk_alloc ?_ _)); exact BK178.out) hb)
                 have n3_ := Aside0.mk (below_step (by repeat (first | (with_reducible first | exact HB.out | apply below_alloc | apply pw_below_drewN | apply below_drew1 | refine below_set ?_ GE176.out | refine below_set ?_ GE177.out | refine below_set ?_ GE178.out) | exact HB.out)) hb)
                 have n4_ := Aside0.mk (hbox)
                 have n5_ := Aside0.mk ((by rw [hg]; exact (below_size (by repeat (first | (with_reducible first | exact HB.out | apply below_alloc | apply pw_below_drewN | apply below_drew1 | refine below_set ?_ GE176.out | refine below_set ?_ GE177.out | refine below_set ?_ GE178.out) | exact HB.out))) : w.heap.size ≤ gb189))
                 have n6_ := Aside0.mk ((by rw [hg]; exact (below_size (by repeat (first | (with_reducible first | exact HB.out | apply below_alloc | apply pw_below_drewN | apply below_drew1 | refine below_set ?_ GE176.out | refine below_set ?_ GE177.out | refine below_set ?_ GE178.out) | exact HB.out))) : w.heap.size ≤ gb189))
                 have n7_ := Aside0.mk ((by rw [hg]; exact Nat.ne_of_lt (blk_lt (g := gb176) (o := .cells #[.int .i64 a1_0, .int .i64 a1_1] 28 (0, 0)) (by (with_reducible repeat (first | refine blk_drewN ?_ _ | refine blk_drew ?_ | refine blk_alloc ?_ _)); exact BK176.out)) : gb176 ≠ gb189))
                 have n8_ := Aside0.mk ((by rw [hg]; exact Nat.ne_of_gt (blk_lt (g := gb176) (o := .cells #[.int .i64 a1_0, .int .i64 a1_1] 28 (0, 0)) (by (with_reducible repeat (first | refine blk_drewN ?_ _ | refine blk_drew ?_ | refine blk_alloc ?_ _)); exact BK176.out)) : gb189 ≠ gb176))
                 have n9_ := Aside0.mk ((by rw [hg]; exact Nat.ne_of_lt (blk_lt (g := gb177) (o := .cells #[.int .i64 0, .int .i64 0] 28 (0, 0)) (by (with_reducible repeat (first | refine blk_drewN ?_ _ | refine blk_drew ?_ | refine blk_alloc ?_ _)); exact BK177.out)) : gb177 ≠ gb189))
                 have n10_ := Aside0.mk ((by rw [hg]; exact Nat.ne_of_gt (blk_lt (g := gb177) (o := .cells #[.int .i64 0, .int .i64 0] 28 (0, 0)) (by (with_reducible repeat (first | refine blk_drewN ?_ _ | refine blk_drew ?_ | refine blk_alloc ?_ _)); exact BK177.out)) : gb189 ≠ gb177))
                 have n11_ := Aside0.mk ((by rw [hg]; exact Nat.ne_of_lt (blk_lt (g := gb178) (o := .cells #[.int .i64 0, .int .i64 0] 28 (0, 0)) (by (with_reducible repeat (first | refine blk_drewN ?_ _ | refine blk_drew ?_ | refine blk_alloc ?_ _)); exact BK178.out)) : gb178 ≠ gb189))
                 have n12_ := Aside0.mk ((by rw [hg]; exact Nat.ne_of_gt (blk_lt (g := gb178) (o := .cells #[.int .i64 0, .int .i64 0] 28 (0, 0)) (by (with_reducible repeat (first | refine blk_drewN ?_ _ | refine blk_drew ?_ | refine blk_alloc ?_ _)); exact BK178.out)) : gb189 ≠ gb178))
                 clear BK176
                 clear BK177
                 clear BK178
                 clear HB
                 have BK176 := n0_
                 have BK177 := n1_
                 have BK178 := n2_
                 have HB := n3_
                 have BK189 := n4_
                 have GW189 := n5_
                 have GE189 := n6_
                 have NB176_189 := n7_
                 have NB189_176 := n8_
                 have NB177_189 := n9_
                 have NB189_177 := n10_
                 have NB178_189 := n11_
                 have NB189_178 := n12_
                 clear n0_ n1_ n2_ n3_ n4_ n5_ n6_ n7_ n8_ n9_ n10_ n11_ n12_
                 clear hb hbox hg
                 refine hK.out _ _ ⟨(blk_cell BK176.out 0).trans rfl, (blk_cell BK176.out 1).trans rfl⟩ (fun hHeld => ?_)
                 clear hK K
                 refine norm_ (a' := ?_) ?_ ?_
                 rotate_left
                 ·show Act.put _ (some 7) _ = _
                  simp only [Act.put, List.setIfInBounds_toArray, List.set_cons_zero, List.set_cons_succ, i64_w, i32_w]
                  rfl
                 exact norm_ (by first | (simp only [putAll, Act.put, List.setIfInBounds_toArray, List.set_cons_zero, List.set_cons_succ]; done) | (simp only [putAll, Act.put, List.setIfInBounds_toArray, List.set_cons_zero, List.set_cons_succ]; rfl)) (hJ9 (gb189) _ ⟨hHeld, (by (with_reducible repeat (first | refine blk_drewN ?_ _ | refine blk_drew ?_ | refine blk_alloc ?_ _)); exact BK176.out), (by (with_reducible repeat (first | refine blk_drewN ?_ _ | refine blk_drew ?_ | refine blk_alloc ?_ _)); exact BK177.out), (by (with_reducible repeat (first | refine blk_drewN ?_ _ | refine blk_drew ?_ | refine blk_alloc ?_ _)); exact BK178.out), (by (with_reducible repeat (first | refine blk_drewN ?_ _ | refine blk_drew ?_ | refine blk_alloc ?_ _)); exact BK189.out), GW189.out, GE189.out, NB176_189.out, NB189_176.out, NB177_189.out, NB189_177.out, NB178_189.out, NB189_178.out, (by repeat (first | (with_reducible first | exact HB.out | apply below_alloc | apply pw_below_drewN | apply below_drew1 | refine below_set ?_ GE176.out | refine below_set ?_ GE177.out | refine below_set ?_ GE178.out | refine below_set ?_ GE189.out) | exact HB.out))⟩)
                ·skip
                 refine box_step ?hg (N := 8) ?hd (cs := #[.int .i64 0, .int .i64 0]) (t := 61) ?hr ?_; (case hd => rfl); (case hg => rfl); (case hr => first | (go_simp; done) | (go_simp; rfl))
                 intro gb190 hg w12 hbox hb
                 have n0_ := Aside0.mk (blk_below (g := gb176) (o := .cells #[.int .i64 a1_0, .int .i64 a1_1] 28 (0, 0)) (by (with_reducible repeat (first | refine blk_drewN ?_ _ | refine blk_drew ?_ | refine blk_alloc ?_ _)); exact BK176.out) hb)
                 have n1_ := Aside0.mk (blk_below (g := gb177) (o := .cells #[.int .i64 0, .int .i64 0] 28 (0, 0)) (by (with_reducible repeat (first | refine blk_drewN ?_ _ | refine blk_drew ?_ | refine blk_alloc ?_ _)); exact BK177.out) hb)
                 have n2_ := Aside0.mk (blk_below (g := gb178) (o := .cells #[.int .i64 0, .int .i64 0] 28 (0, 0)) (by (with_reducible repeat (first | refine blk_drewN ?_ _ | refine blk_drew ?_ | refine blk_alloc ?_ _)); exact BK178.out) hb)
                 have n3_ := Aside0.mk (below_step (by repeat (first | (with_reducible first | exact HB.out | apply below_alloc | apply pw_below_drewN | apply below_drew1 | refine below_set ?_ GE176.out | refine below_set ?_ GE177.out | refine below_set ?_ GE178.out) | exact HB.out)) hb)
                 have n4_ := Aside0.mk (hbox)
                 have n5_ := Aside0.mk ((by rw [hg]; exact (below_size (by repeat (first | (with_reducible first | exact HB.out | apply below_alloc | apply pw_below_drewN | apply below_drew1 | refine below_set ?_ GE176.out | refine below_set ?_ GE177.out | refine below_set ?_ GE178.out) | exact HB.out))) : w.heap.size ≤ gb190))
                 have n6_ := Aside0.mk ((by rw [hg]; exact (below_size (by repeat (first | (with_reducible first | exact HB.out | apply below_alloc | apply pw_below_drewN | apply below_drew1 | refine below_set ?_ GE176.out | refine below_set ?_ GE177.out | refine below_set ?_ GE178.out) | exact HB.out))) : w.heap.size ≤ gb190))
                 have n7_ := Aside0.mk ((by rw [hg]; exact Nat.ne_of_lt (blk_lt (g := gb176) (o := .cells #[.int .i64 a1_0, .int .i64 a1_1] 28 (0, 0)) (by (with_reducible repeat (first | refine blk_drewN ?_ _ | refine blk_drew ?_ | refine blk_alloc ?_ _)); exact BK176.out)) : gb176 ≠ gb190))
                 have n8_ := Aside0.mk ((by rw [hg]; exact Nat.ne_of_gt (blk_lt (g := gb176) (o := .cells #[.int .i64 a1_0, .int .i64 a1_1] 28 (0, 0)) (by (with_reducible repeat (first | refine blk_drewN ?_ _ | refine blk_drew ?_ | refine blk_alloc ?_ _)); exact BK176.out)) : gb190 ≠ gb176))
                 have n9_ := Aside0.mk ((by rw [hg]; exact Nat.ne_of_lt (blk_lt (g := gb177) (o := .cells #[.int .i64 0, .int .i64 0] 28 (0, 0)) (by (with_reducible repeat (first | refine blk_drewN ?_ _ | refine blk_drew ?_ | refine blk_alloc ?_ _)); exact BK177.out)) : gb177 ≠ gb190))
                 have n10_ := Aside0.mk ((by rw [hg]; exact Nat.ne_of_gt (blk_lt (g := gb177) (o := .cells #[.int .i64 0, .int .i64 0] 28 (0, 0)) (by (with_reducible repeat (first | refine blk_drewN ?_ _ | refine blk_drew ?_ | refine blk_alloc ?_ _)); exact BK177.out)) : gb190 ≠ gb177))
                 have n11_ := Aside0.mk ((by rw [hg]; exact Nat.ne_of_lt (blk_lt (g := gb178) (o := .cells #[.int .i64 0, .int .i64 0] 28 (0, 0)) (by (with_reducible repeat (first | refine blk_drewN ?_ _ | refine blk_drew ?_ | refine blk_alloc ?_ _)); exact BK178.out)) : gb178 ≠ gb190))
                 have n12_ := Aside0.mk ((by rw [hg]; exact Nat.ne_of_gt (blk_lt (g := gb178) (o := .cells #[.int .i64 0, .int .i64 0] 28 (0, 0)) (by (with_reducible repeat (first | refine blk_drewN ?_ _ | refine blk_drew ?_ | refine blk_alloc ?_ _)); exact BK178.out)) : gb190 ≠ gb178))
                 clear BK176
                 clear BK177
                 clear BK178
                 clear HB
                 have BK176 := n0_
                 have BK177 := n1_
                 have BK178 := n2_
                 have HB := n3_
                 have BK190 := n4_
                 have GW190 := n5_
                 have GE190 := n6_
                 have NB176_190 := n7_
                 have NB190_176 := n8_
                 have NB177_190 := n9_
                 have NB190_177 := n10_
                 have NB178_190 := n11_
                 have NB190_178 := n12_
                 clear n0_ n1_ n2_ n3_ n4_ n5_ n6_ n7_ n8_ n9_ n10_ n11_ n12_
                 clear hb hbox hg
                 refine hK.out _ _ ⟨(blk_cell BK176.out 0).trans rfl, (blk_cell BK176.out 1).trans rfl⟩ (fun hHeld => ?_)
                 clear hK K
                 refine norm_ (a' := ?_) ?_ ?_
                 rotate_left
                 ·show Act.put _ (some 8) _ = _
                  simp only [Act.put, List.setIfInBounds_toArray, List.set_cons_zero, List.set_cons_succ, i64_w, i32_w]
                  rfl
                 exact norm_ (by first | (simp only [putAll, Act.put, List.setIfInBounds_toArray, List.set_cons_zero, List.set_cons_succ]; done) | (simp only [putAll, Act.put, List.setIfInBounds_toArray, List.set_cons_zero, List.set_cons_succ]; rfl)) (hJ10 (gb190) _ ⟨hHeld, (by (with_reducible repeat (first | refine blk_drewN ?_ _ | refine blk_drew ?_ | refine blk_alloc ?_ _)); exact BK176.out), (by (with_reducible repeat (first | refine blk_drewN ?_ _ | refine blk_drew ?_ | refine blk_alloc ?_ _)); exact BK177.out), (by (with_reducible repeat (first | refine blk_drewN ?_ _ | refine blk_drew ?_ | refine blk_alloc ?_ _)); exact BK178.out), (by (with_reducible repeat (first | refine blk_drewN ?_ _ | refine blk_drew ?_ | refine blk_alloc ?_ _)); exact BK190.out), GW190.out, GE190.out, NB176_190.out, NB190_176.out, NB177_190.out, NB190_177.out, NB178_190.out, NB190_178.out, (by repeat (first | (with_reducible first | exact HB.out | apply below_alloc | apply pw_below_drewN | apply below_drew1 | refine below_set ?_ GE176.out | refine below_set ?_ GE177.out | refine below_set ?_ GE178.out | refine below_set ?_ GE190.out) | exact HB.out))⟩)
               ·skip
                rintro gb190 w13 ⟨hS_, h0_, h1_, h2_, h3_, h4_, h5_, h6_, h7_, h8_, h9_, h10_, h11_, h12_⟩
                have n0_ : Aside0 (w13.heap[gb176]? = some (.cells #[.int .i64 a1_0, .int .i64 a1_1] 28 (0, 0))) := ⟨h0_⟩
                have n1_ : Aside0 (w13.heap[gb177]? = some (.cells #[.int .i64 0, .int .i64 0] 28 (0, 0))) := ⟨h1_⟩
                have n2_ : Aside0 (w13.heap[gb178]? = some (.cells #[.int .i64 0, .int .i64 0] 28 (0, 0))) := ⟨h2_⟩
                have n3_ : Aside0 (w13.heap[gb190]? = some (.cells #[.int .i64 0, .int .i64 0] 61 (0, 0))) := ⟨h3_⟩
                have n4_ : Aside0 (w.heap.size ≤ gb190) := ⟨h4_⟩
                have n5_ : Aside0 (w.heap.size ≤ gb190) := ⟨h5_⟩
                have n6_ : Aside0 (gb176 ≠ gb190) := ⟨h6_⟩
                have n7_ : Aside0 (gb190 ≠ gb176) := ⟨h7_⟩
                have n8_ : Aside0 (gb177 ≠ gb190) := ⟨h8_⟩
                have n9_ : Aside0 (gb190 ≠ gb177) := ⟨h9_⟩
                have n10_ : Aside0 (gb178 ≠ gb190) := ⟨h10_⟩
                have n11_ : Aside0 (gb190 ≠ gb178) := ⟨h11_⟩
                have n12_ : Aside0 (Below w.heap.size w w13) := ⟨h12_⟩
                clear BK176
                clear BK177
                clear BK178
                clear HB
                clear h0_ h1_ h2_ h3_ h4_ h5_ h6_ h7_ h8_ h9_ h10_ h11_ h12_
                have BK176 := n0_
                have BK177 := n1_
                have BK178 := n2_
                have BK190 := n3_
                have GW190 := n4_
                have GE190 := n5_
                have NB176_190 := n6_
                have NB190_176 := n7_
                have NB177_190 := n8_
                have NB190_177 := n9_
                have NB178_190 := n10_
                have NB190_178 := n11_
                have HB := n12_
                clear n0_ n1_ n2_ n3_ n4_ n5_ n6_ n7_ n8_ n9_ n10_ n11_ n12_
                have hHeld : w13.cell? ⟨gb176, 0, none⟩ = some (.int .i64 a1_0) ∧ w13.cell? ⟨gb176, 1, none⟩ = some (.int .i64 a1_1) := hS_
                refine norm_ (a' := ?_) ?_ ?_
                rotate_left
                ·simp only [putAll, Act.put, List.setIfInBounds_toArray, List.set_cons_zero, List.set_cons_succ]
                 rfl
                refine two_ (i := 1) (j := 9) (Ni := some 11) (Nj := some 7) #[true, true, true, false, false, false, false, false, false, false, true, false, false, false] #[true, false, true, false, false, false, false, false, false, true, true, false, false, false] rfl rfl rfl rfl (two_of HT_.out (by kernel_rfl)) (by decide) (by decide) (fun K hK => ?_) (fun K hK => ?_)
                ·skip
                 refine goes_ Try.func38 (by kernel_rfl) rfl #[.slice A0 l0.length c0] (by rfl) rfl rfl (by (try simp only [List.map_toArray, List.map_cons, List.map_nil]); first | done | rfl | (simp only [List.length_drop, List.length_take]; rfl)) ?_
                 with_reducible refine (impl_inserted.calls _ _ l0 t179 _ ?side1 ?side2 A3.out).mono ?_
                 (case side1 => repeat (first | exact (Kd.C_below HR0.out HB.out) | (with_reducible refine Kd.C_alloc ?_ _) | (with_reducible refine Kd.C_drewN ?_ _) | (with_reducible refine Kd.C_drew ?_)))
                 (case side2 => exact HC0.out)
                 rintro e w14 ⟨v180, rfl, ho0, hb⟩
                 refine ⟨_, rfl, ?_⟩
                 have n0_ := Aside0.mk (Kd.R_lower (Kd.R_newB ho0 (g := gb190) (o := .cells #[.int .i64 0, .int .i64 0] 61 (0, 0)) (by (with_reducible repeat (first | refine blk_drewN ?_ _ | refine blk_drew ?_ | refine blk_alloc ?_ _)); exact BK190.out)) (below_size (by repeat (first | (with_reducible first | exact HB.out | apply below_alloc | apply pw_below_drewN | apply below_drew1 | refine below_set ?_ GE176.out | refine below_set ?_ GE177.out | refine below_set ?_ GE178.out | refine below_set ?_ GE190.out) | exact HB.out))))
                 have n1_ := Aside0.mk (blk_below (g := gb176) (o := .cells #[.int .i64 a1_0, .int .i64 a1_1] 28 (0, 0)) (by (with_reducible repeat (first | refine blk_drewN ?_ _ | refine blk_drew ?_ | refine blk_alloc ?_ _)); exact BK176.out) hb)
                 have n2_ := Aside0.mk (blk_below (g := gb177) (o := .cells #[.int .i64 0, .int .i64 0] 28 (0, 0)) (by (with_reducible repeat (first | refine blk_drewN ?_ _ | refine blk_drew ?_ | refine blk_alloc ?_ _)); exact BK177.out) hb)
                 have n3_ := Aside0.mk (blk_below (g := gb178) (o := .cells #[.int .i64 0, .int .i64 0] 28 (0, 0)) (by (with_reducible repeat (first | refine blk_drewN ?_ _ | refine blk_drew ?_ | refine blk_alloc ?_ _)); exact BK178.out) hb)
                 have n4_ := Aside0.mk (blk_below (g := gb190) (o := .cells #[.int .i64 0, .int .i64 0] 61 (0, 0)) (by (with_reducible repeat (first | refine blk_drewN ?_ _ | refine blk_drew ?_ | refine blk_alloc ?_ _)); exact BK190.out) hb)
                 have n5_ := Aside0.mk (below_step (by repeat (first | (with_reducible first | exact HB.out | apply below_alloc | apply pw_below_drewN | apply below_drew1 | refine below_set ?_ GE176.out | refine below_set ?_ GE177.out | refine below_set ?_ GE178.out | refine below_set ?_ GE190.out) | exact HB.out)) hb)
                 clear BK176
                 clear BK177
                 clear BK178
                 clear BK190
                 clear HB
                 have HO181 := n0_
                 have BK176 := n1_
                 have BK177 := n2_
                 have BK178 := n3_
                 have BK190 := n4_
                 have HB := n5_
                 clear n0_ n1_ n2_ n3_ n4_ n5_
                 (try clear hb)
                 (try clear hb2)
                 (try clear hk)
                 (try clear hi)
                 (try clear ho0)
                 refine hK.out _ _ ⟨(blk_cell BK176.out 0).trans rfl, (blk_cell BK176.out 1).trans rfl⟩ (fun hHeld => ?_)
                 clear hK K
                 refine norm_ (a' := ?_) ?_ ?_
                 rotate_left
                 ·show Act.put _ (some 11) _ = _
                  simp only [Act.put, List.setIfInBounds_toArray, List.set_cons_zero, List.set_cons_succ, i64_w, i32_w]
                  rfl
                 exact norm_ (by first | (simp only [putAll, Act.put, List.setIfInBounds_toArray, List.set_cons_zero, List.set_cons_succ]; done) | (simp only [putAll, Act.put, List.setIfInBounds_toArray, List.set_cons_zero, List.set_cons_succ]; rfl)) (hJ1_10 (_, gb190) _ ⟨hHeld, (by (with_reducible repeat (first | apply Kd.R_alloc | apply Kd.R_drewN | apply Kd.R_drew)); exact Kd.R_mono HO181.out (fun _ hk => hk.2)), (by (with_reducible repeat (first | refine blk_drewN ?_ _ | refine blk_drew ?_ | refine blk_alloc ?_ _)); exact BK176.out), (by (with_reducible repeat (first | refine blk_drewN ?_ _ | refine blk_drew ?_ | refine blk_alloc ?_ _)); exact BK177.out), (by (with_reducible repeat (first | refine blk_drewN ?_ _ | refine blk_drew ?_ | refine blk_alloc ?_ _)); exact BK178.out), (by (with_reducible repeat (first | refine blk_drewN ?_ _ | refine blk_drew ?_ | refine blk_alloc ?_ _)); exact BK190.out), GW190.out, GE190.out, NB176_190.out, NB190_176.out, NB177_190.out, NB190_177.out, NB178_190.out, NB190_178.out, (by repeat (first | (with_reducible first | exact HB.out | apply below_alloc | apply pw_below_drewN | apply below_drew1 | refine below_set ?_ GE176.out | refine below_set ?_ GE177.out | refine below_set ?_ GE178.out | refine below_set ?_ GE190.out) | exact HB.out))⟩)
                ·skip
                 refine box_step ?hg (N := 7) ?hd (cs := #[.int .i64 0, .int .i64 0]) (t := 61) ?hr ?_; (case hd => rfl); (case hg => rfl); (case hr => first | (go_simp; done) | (go_simp; rfl))
                 intro gb189 hg w14 hbox hb
                 have n0_ := Aside0.mk (blk_below (g := gb176) (o := .cells #[.int .i64 a1_0, .int .i64 a1_1] 28 (0, 0)) (by (with_reducible repeat (first | refine blk_drewN ?_ _ | refine blk_drew ?_ | refine blk_alloc ?_ _)); exact BK176.out) hb)
                 have n1_ := Aside0.mk (blk_below (g := gb177) (o := .cells #[.int .i64 0, .int .i64 0] 28 (0, 0)) (by (with_reducible repeat (first | refine blk_drewN ?_ _ | refine blk_drew ?_ | refine blk_alloc ?_ _)); exact BK177.out) hb)
                 have n2_ := Aside0.mk (blk_below (g := gb178) (o := .cells #[.int .i64 0, .int .i64 0] 28 (0, 0)) (by (with_reducible repeat (first | refine blk_drewN ?_ _ | refine blk_drew ?_ | refine blk_alloc ?_ _)); exact BK178.out) hb)
                 have n3_ := Aside0.mk (blk_below (g := gb190) (o := .cells #[.int .i64 0, .int .i64 0] 61 (0, 0)) (by (with_reducible repeat (first | refine blk_drewN ?_ _ | refine blk_drew ?_ | refine blk_alloc ?_ _)); exact BK190.out) hb)
                 have n4_ := Aside0.mk (below_step (by repeat (first | (with_reducible first | exact HB.out | apply below_alloc | apply pw_below_drewN | apply below_drew1 | refine below_set ?_ GE176.out | refine below_set ?_ GE177.out | refine below_set ?_ GE178.out | refine below_set ?_ GE190.out) | exact HB.out)) hb)
                 have n5_ := Aside0.mk (hbox)
                 have n6_ := Aside0.mk ((by rw [hg]; exact (below_size (by repeat (first | (with_reducible first | exact HB.out | apply below_alloc | apply pw_below_drewN | apply below_drew1 | refine below_set ?_ GE176.out | refine below_set ?_ GE177.out | refine below_set ?_ GE178.out | refine below_set ?_ GE190.out) | exact HB.out))) : w.heap.size ≤ gb189))
                 have n7_ := Aside0.mk ((by rw [hg]; exact (below_size (by repeat (first | (with_reducible first | exact HB.out | apply below_alloc | apply pw_below_drewN | apply below_drew1 | refine below_set ?_ GE176.out | refine below_set ?_ GE177.out | refine below_set ?_ GE178.out | refine below_set ?_ GE190.out) | exact HB.out))) : w.heap.size ≤ gb189))
                 have n8_ := Aside0.mk ((by rw [hg]; exact Nat.ne_of_lt (blk_lt (g := gb176) (o := .cells #[.int .i64 a1_0, .int .i64 a1_1] 28 (0, 0)) (by (with_reducible repeat (first | refine blk_drewN ?_ _ | refine blk_drew ?_ | refine blk_alloc ?_ _)); exact BK176.out)) : gb176 ≠ gb189))
                 have n9_ := Aside0.mk ((by rw [hg]; exact Nat.ne_of_gt (blk_lt (g := gb176) (o := .cells #[.int .i64 a1_0, .int .i64 a1_1] 28 (0, 0)) (by (with_reducible repeat (first | refine blk_drewN ?_ _ | refine blk_drew ?_ | refine blk_alloc ?_ _)); exact BK176.out)) : gb189 ≠ gb176))
                 have n10_ := Aside0.mk ((by rw [hg]; exact Nat.ne_of_lt (blk_lt (g := gb177) (o := .cells #[.int .i64 0, .int .i64 0] 28 (0, 0)) (by (with_reducible repeat (first | refine blk_drewN ?_ _ | refine blk_drew ?_ | refine blk_alloc ?_ _)); exact BK177.out)) : gb177 ≠ gb189))
                 have n11_ := Aside0.mk ((by rw [hg]; exact Nat.ne_of_gt (blk_lt (g := gb177) (o := .cells #[.int .i64 0, .int .i64 0] 28 (0, 0)) (by (with_reducible repeat (first | refine blk_drewN ?_ _ | refine blk_drew ?_ | refine blk_alloc ?_ _)); exact BK177.out)) : gb189 ≠ gb177))
                 have n12_ := Aside0.mk ((by rw [hg]; exact Nat.ne_of_lt (blk_lt (g := gb178) (o := .cells #[.int .i64 0, .int .i64 0] 28 (0, 0)) (by (with_reducible repeat (first | refine blk_drewN ?_ _ | refine blk_drew ?_ | refine blk_alloc ?_ _)); exact BK178.out)) : gb178 ≠ gb189))
                 have n13_ := Aside0.mk ((by rw [hg]; exact Nat.ne_of_gt (blk_lt (g := gb178) (o := .cells #[.int .i64 0, .int .i64 0] 28 (0, 0)) (by (with_reducible repeat (first | refine blk_drewN ?_ _ | refine blk_drew ?_ | refine blk_alloc ?_ _)); exact BK178.out)) : gb189 ≠ gb178))
                 have n14_ := Aside0.mk ((by rw [hg]; exact Nat.ne_of_lt (blk_lt (g := gb190) (o := .cells #[.int .i64 0, .int .i64 0] 61 (0, 0)) (by (with_reducible repeat (first | refine blk_drewN ?_ _ | refine blk_drew ?_ | refine blk_alloc ?_ _)); exact BK190.out)) : gb190 ≠ gb189))
                 have n15_ := Aside0.mk ((by rw [hg]; exact Nat.ne_of_gt (blk_lt (g := gb190) (o := .cells #[.int .i64 0, .int .i64 0] 61 (0, 0)) (by (with_reducible repeat (first | refine blk_drewN ?_ _ | refine blk_drew ?_ | refine blk_alloc ?_ _)); exact BK190.out)) : gb189 ≠ gb190))
                 clear BK176
                 clear BK177
                 clear BK178
                 clear BK190
                 clear HB
                 have BK176 := n0_
                 have BK177 := n1_
                 have BK178 := n2_
                 have BK190 := n3_
                 have HB := n4_
                 have BK189 := n5_
                 have GW189 := n6_
                 have GE189 := n7_
                 have NB176_189 := n8_
                 have NB189_176 := n9_
                 have NB177_189 := n10_
                 have NB189_177 := n11_
                 have NB178_189 := n12_
                 have NB189_178 := n13_
                 have NB190_189 := n14_
                 have NB189_190 := n15_
                 clear n0_ n1_ n2_ n3_ n4_ n5_ n6_ n7_ n8_ n9_ n10_ n11_ n12_ n13_ n14_ n15_
                 clear hb hbox hg
                 refine hK.out _ _ ⟨(blk_cell BK176.out 0).trans rfl, (blk_cell BK176.out 1).trans rfl⟩ (fun hHeld => ?_)
                 clear hK K
                 refine norm_ (a' := ?_) ?_ ?_
                 rotate_left
                 ·show Act.put _ (some 7) _ = _
                  simp only [Act.put, List.setIfInBounds_toArray, List.set_cons_zero, List.set_cons_succ, i64_w, i32_w]
                  rfl
                 exact norm_ (by first | (simp only [putAll, Act.put, List.setIfInBounds_toArray, List.set_cons_zero, List.set_cons_succ]; done) | (simp only [putAll, Act.put, List.setIfInBounds_toArray, List.set_cons_zero, List.set_cons_succ]; rfl)) (hJ9_10 (gb189, gb190) _ ⟨hHeld, (by (with_reducible repeat (first | refine blk_drewN ?_ _ | refine blk_drew ?_ | refine blk_alloc ?_ _)); exact BK176.out), (by (with_reducible repeat (first | refine blk_drewN ?_ _ | refine blk_drew ?_ | refine blk_alloc ?_ _)); exact BK177.out), (by (with_reducible repeat (first | refine blk_drewN ?_ _ | refine blk_drew ?_ | refine blk_alloc ?_ _)); exact BK178.out), (by (with_reducible repeat (first | refine blk_drewN ?_ _ | refine blk_drew ?_ | refine blk_alloc ?_ _)); exact BK189.out), (by (with_reducible repeat (first | refine blk_drewN ?_ _ | refine blk_drew ?_ | refine blk_alloc ?_ _)); exact BK190.out), GW189.out, GE189.out, NB176_189.out, NB189_176.out, NB177_189.out, NB189_177.out, NB178_189.out, NB189_178.out, NB190_189.out, NB189_190.out, GW190.out, GE190.out, NB176_190.out, NB190_176.out, NB177_190.out, NB190_177.out, NB178_190.out, NB190_178.out, (by repeat (first | (with_reducible first | exact HB.out | apply below_alloc | apply pw_below_drewN | apply below_drew1 | refine below_set ?_ GE176.out | refine below_set ?_ GE177.out | refine below_set ?_ GE178.out | refine below_set ?_ GE190.out | refine below_set ?_ GE189.out) | exact HB.out))⟩)
              ·skip
               rintro gb189 w13 ⟨hS_, h0_, h1_, h2_, h3_, h4_, h5_, h6_, h7_, h8_, h9_, h10_, h11_, h12_⟩
               have n0_ : Aside0 (w13.heap[gb176]? = some (.cells #[.int .i64 a1_0, .int .i64 a1_1] 28 (0, 0))) := ⟨h0_⟩
               have n1_ : Aside0 (w13.heap[gb177]? = some (.cells #[.int .i64 0, .int .i64 0] 28 (0, 0))) := ⟨h1_⟩
               have n2_ : Aside0 (w13.heap[gb178]? = some (.cells #[.int .i64 0, .int .i64 0] 28 (0, 0))) := ⟨h2_⟩
               have n3_ : Aside0 (w13.heap[gb189]? = some (.cells #[.int .i64 0, .int .i64 0] 61 (0, 0))) := ⟨h3_⟩
               have n4_ : Aside0 (w.heap.size ≤ gb189) := ⟨h4_⟩
               have n5_ : Aside0 (w.heap.size ≤ gb189) := ⟨h5_⟩
               have n6_ : Aside0 (gb176 ≠ gb189) := ⟨h6_⟩
               have n7_ : Aside0 (gb189 ≠ gb176) := ⟨h7_⟩
               have n8_ : Aside0 (gb177 ≠ gb189) := ⟨h8_⟩
               have n9_ : Aside0 (gb189 ≠ gb177) := ⟨h9_⟩
               have n10_ : Aside0 (gb178 ≠ gb189) := ⟨h10_⟩
               have n11_ : Aside0 (gb189 ≠ gb178) := ⟨h11_⟩
               have n12_ : Aside0 (Below w.heap.size w w13) := ⟨h12_⟩
               clear BK176
               clear BK177
               clear BK178
               clear HB
               clear h0_ h1_ h2_ h3_ h4_ h5_ h6_ h7_ h8_ h9_ h10_ h11_ h12_
               have BK176 := n0_
               have BK177 := n1_
               have BK178 := n2_
               have BK189 := n3_
               have GW189 := n4_
               have GE189 := n5_
               have NB176_189 := n6_
               have NB189_176 := n7_
               have NB177_189 := n8_
               have NB189_177 := n9_
               have NB178_189 := n10_
               have NB189_178 := n11_
               have HB := n12_
               clear n0_ n1_ n2_ n3_ n4_ n5_ n6_ n7_ n8_ n9_ n10_ n11_ n12_
               have hHeld : w13.cell? ⟨gb176, 0, none⟩ = some (.int .i64 a1_0) ∧ w13.cell? ⟨gb176, 1, none⟩ = some (.int .i64 a1_1) := hS_
               refine norm_ (a' := ?_) ?_ ?_
               rotate_left
               ·simp only [putAll, Act.put, List.setIfInBounds_toArray, List.set_cons_zero, List.set_cons_succ]
                rfl
               refine two_ (i := 1) (j := 10) (Ni := some 11) (Nj := some 8) #[true, true, true, false, false, false, false, false, false, true, false, false, false, false] #[true, false, true, false, false, false, false, false, false, true, true, false, false, false] rfl rfl rfl rfl (two_of HT_.out (by kernel_rfl)) (by decide) (by decide) (fun K hK => ?_) (fun K hK => ?_)
               ·skip
                refine goes_ Try.func38 (by kernel_rfl) rfl #[.slice A0 l0.length c0] (by rfl) rfl rfl (by (try simp only [List.map_toArray, List.map_cons, List.map_nil]); first | done | rfl | (simp only [List.length_drop, List.length_take]; rfl)) ?_
                with_reducible refine (impl_inserted.calls _ _ l0 t179 _ ?side1 ?side2 A3.out).mono ?_
                (case side1 => repeat (first | exact (Kd.C_below HR0.out HB.out) | (with_reducible refine Kd.C_alloc ?_ _) | (with_reducible refine Kd.C_drewN ?_ _) | (with_reducible refine Kd.C_drew ?_)))
                (case side2 => exact HC0.out)
                rintro e w14 ⟨v180, rfl, ho0, hb⟩
                refine ⟨_, rfl, ?_⟩
                have n0_ := Aside0.mk (Kd.R_lower (Kd.R_newB ho0 (g := gb189) (o := .cells #[.int .i64 0, .int .i64 0] 61 (0, 0)) (by (with_reducible repeat (first | refine blk_drewN ?_ _ | refine blk_drew ?_ | refine blk_alloc ?_ _)); exact BK189.out)) (below_size (by repeat (first | (with_reducible first | exact HB.out | apply below_alloc | apply pw_below_drewN | apply below_drew1 | refine below_set ?_ GE176.out | refine below_set ?_ GE177.out | refine below_set ?_ GE178.out | refine below_set ?_ GE189.out) | exact HB.out))))
                have n1_ := Aside0.mk (blk_below (g := gb176) (o := .cells #[.int .i64 a1_0, .int .i64 a1_1] 28 (0, 0)) (by (with_reducible repeat (first | refine blk_drewN ?_ _ | refine blk_drew ?_ | refine blk_alloc ?_ _)); exact BK176.out) hb)
                have n2_ := Aside0.mk (blk_below (g := gb177) (o := .cells #[.int .i64 0, .int .i64 0] 28 (0, 0)) (by (with_reducible repeat (first | refine blk_drewN ?_ _ | refine blk_drew ?_ | refine blk_alloc ?_ _)); exact BK177.out) hb)
                have n3_ := Aside0.mk (blk_below (g := gb178) (o := .cells #[.int .i64 0, .int .i64 0] 28 (0, 0)) (by (with_reducible repeat (first | refine blk_drewN ?_ _ | refine blk_drew ?_ | refine blk_alloc ?_ _)); exact BK178.out) hb)
                have n4_ := Aside0.mk (blk_below (g := gb189) (o := .cells #[.int .i64 0, .int .i64 0] 61 (0, 0)) (by (with_reducible repeat (first | refine blk_drewN ?_ _ | refine blk_drew ?_ | refine blk_alloc ?_ _)); exact BK189.out) hb)
                have n5_ := Aside0.mk (below_step (by repeat (first | (with_reducible first | exact HB.out | apply below_alloc | apply pw_below_drewN | apply below_drew1 | refine below_set ?_ GE176.out | refine below_set ?_ GE177.out | refine below_set ?_ GE178.out | refine below_set ?_ GE189.out) | exact HB.out)) hb)
                clear BK176
                clear BK177
                clear BK178
                clear BK189
                clear HB
                have HO181 := n0_
                have BK176 := n1_
                have BK177 := n2_
                have BK178 := n3_
                have BK189 := n4_
                have HB := n5_
                clear n0_ n1_ n2_ n3_ n4_ n5_
                (try clear hb)
                (try clear hb2)
                (try clear hk)
                (try clear hi)
                (try clear ho0)
                refine hK.out _ _ ⟨(blk_cell BK176.out 0).trans rfl, (blk_cell BK176.out 1).trans rfl⟩ (fun hHeld => ?_)
                clear hK K
                refine norm_ (a' := ?_) ?_ ?_
                rotate_left
                ·show Act.put _ (some 11) _ = _
                 simp only [Act.put, List.setIfInBounds_toArray, List.set_cons_zero, List.set_cons_succ, i64_w, i32_w]
                 rfl
                exact norm_ (by first | (simp only [putAll, Act.put, List.setIfInBounds_toArray, List.set_cons_zero, List.set_cons_succ]; done) | (simp only [putAll, Act.put, List.setIfInBounds_toArray, List.set_cons_zero, List.set_cons_succ]; rfl)) (hJ1_9 (_, gb189) _ ⟨hHeld, (by (with_reducible repeat (first | apply Kd.R_alloc | apply Kd.R_drewN | apply Kd.R_drew)); exact Kd.R_mono HO181.out (fun _ hk => hk.2)), (by (with_reducible repeat (first | refine blk_drewN ?_ _ | refine blk_drew ?_ | refine blk_alloc ?_ _)); exact BK176.out), (by (with_reducible repeat (first | refine blk_drewN ?_ _ | refine blk_drew ?_ | refine blk_alloc ?_ _)); exact BK177.out), (by (with_reducible repeat (first | refine blk_drewN ?_ _ | refine blk_drew ?_ | refine blk_alloc ?_ _)); exact BK178.out), (by (with_reducible repeat (first | refine blk_drewN ?_ _ | refine blk_drew ?_ | refine blk_alloc ?_ _)); exact BK189.out), GW189.out, GE189.out, NB176_189.out, NB189_176.out, NB177_189.out, NB189_177.out, NB178_189.out, NB189_178.out, (by repeat (first | (with_reducible first | exact HB.out | apply below_alloc | apply pw_below_drewN | apply below_drew1 | refine below_set ?_ GE176.out | refine below_set ?_ GE177.out | refine below_set ?_ GE178.out | refine below_set ?_ GE189.out) | exact HB.out))⟩)
               ·skip
                refine box_step ?hg (N := 8) ?hd (cs := #[.int .i64 0, .int .i64 0]) (t := 61) ?hr ?_; (case hd => rfl); (case hg => rfl); (case hr => first | (go_simp; done) | (go_simp; rfl))
                intro gb190 hg w14 hbox hb
                have n0_ := Aside0.mk (blk_below (g := gb176) (o := .cells #[.int .i64 a1_0, .int .i64 a1_1] 28 (0, 0)) (by (with_reducible repeat (first | refine blk_drewN ?_ _ | refine blk_drew ?_ | refine blk_alloc ?_ _)); exact BK176.out) hb)
                have n1_ := Aside0.mk (blk_below (g := gb177) (o := .cells #[.int .i64 0, .int .i64 0] 28 (0, 0)) (by (with_reducible repeat (first | refine blk_drewN ?_ _ | refine blk_drew ?_ | refine blk_alloc ?_ _)); exact BK177.out) hb)
                have n2_ := Aside0.mk (blk_below (g := gb178) (o := .cells #[.int .i64 0, .int .i64 0] 28 (0, 0)) (by (with_reducible repeat (first | refine blk_drewN ?_ _ | refine blk_drew ?_ | refine blk_alloc ?_ _)); exact BK178.out) hb)
                have n3_ := Aside0.mk (blk_below (g := gb189) (o := .cells #[.int .i64 0, .int .i64 0] 61 (0, 0)) (by (with_reducible repeat (first | refine blk_drewN ?_ _ | refine blk_drew ?_ | refine blk_alloc ?_ _)); exact BK189.out) hb)
                have n4_ := Aside0.mk (below_step (by repeat (first | (with_reducible first | exact HB.out | apply below_alloc | apply pw_below_drewN | apply below_drew1 | refine below_set ?_ GE176.out | refine below_set ?_ GE177.out | refine below_set ?_ GE178.out | refine below_set ?_ GE189.out) | exact HB.out)) hb)
                have n5_ := Aside0.mk (hbox)
                have n6_ := Aside0.mk ((by rw [hg]; exact (below_size (by repeat (first | (with_reducible first | exact HB.out | apply below_alloc | apply pw_below_drewN | apply below_drew1 | refine below_set ?_ GE176.out | refine below_set ?_ GE177.out | refine below_set ?_ GE178.out | refine below_set ?_ GE189.out) | exact HB.out))) : w.heap.size ≤ gb190))
                have n7_ := Aside0.mk ((by rw [hg]; exact (below_size (by repeat (first | (with_reducible first | exact HB.out | apply below_alloc | apply pw_below_drewN | apply below_drew1 | refine below_set ?_ GE176.out | refine below_set ?_ GE177.out | refine below_set ?_ GE178.out | refine below_set ?_ GE189.out) | exact HB.out))) : w.heap.size ≤ gb190))
                have n8_ := Aside0.mk ((by rw [hg]; exact Nat.ne_of_lt (blk_lt (g := gb176) (o := .cells #[.int .i64 a1_0, .int .i64 a1_1] 28 (0, 0)) (by (with_reducible repeat (first | refine blk_drewN ?_ _ | refine blk_drew ?_ | refine blk_alloc ?_ _)); exact BK176.out)) : gb176 ≠ gb190))
                have n9_ := Aside0.mk ((by rw [hg]; exact Nat.ne_of_gt (blk_lt (g := gb176) (o := .cells #[.int .i64 a1_0, .int .i64 a1_1] 28 (0, 0)) (by (with_reducible repeat (first | refine blk_drewN ?_ _ | refine blk_drew ?_ | refine blk_alloc ?_ _)); exact BK176.out)) : gb190 ≠ gb176))
                have n10_ := Aside0.mk ((by rw [hg]; exact Nat.ne_of_lt (blk_lt (g := gb177) (o := .cells #[.int .i64 0, .int .i64 0] 28 (0, 0)) (by (with_reducible repeat (first | refine blk_drewN ?_ _ | refine blk_drew ?_ | refine blk_alloc ?_ _)); exact BK177.out)) : gb177 ≠ gb190))
                have n11_ := Aside0.mk ((by rw [hg]; exact Nat.ne_of_gt (blk_lt (g := gb177) (o := .cells #[.int .i64 0, .int .i64 0] 28 (0, 0)) (by (with_reducible repeat (first | refine blk_drewN ?_ _ | refine blk_drew ?_ | refine blk_alloc ?_ _)); exact BK177.out)) : gb190 ≠ gb177))
                have n12_ := Aside0.mk ((by rw [hg]; exact Nat.ne_of_lt (blk_lt (g := gb178) (o := .cells #[.int .i64 0, .int .i64 0] 28 (0, 0)) (by (with_reducible repeat (first | refine blk_drewN ?_ _ | refine blk_drew ?_ | refine blk_alloc ?_ _)); exact BK178.out)) : gb178 ≠ gb190))
                have n13_ := Aside0.mk ((by rw [hg]; exact Nat.ne_of_gt (blk_lt (g := gb178) (o := .cells #[.int .i64 0, .int .i64 0] 28 (0, 0)) (by (with_reducible repeat (first | refine blk_drewN ?_ _ | refine blk_drew ?_ | refine blk_alloc ?_ _)); exact BK178.out)) : gb190 ≠ gb178))
                have n14_ := Aside0.mk ((by rw [hg]; exact Nat.ne_of_lt (blk_lt (g := gb189) (o := .cells #[.int .i64 0, .int .i64 0] 61 (0, 0)) (by (with_reducible repeat (first | refine blk_drewN ?_ _ | refine blk_drew ?_ | refine blk_alloc ?_ _)); exact BK189.out)) : gb189 ≠ gb190))
                have n15_ := Aside0.mk ((by rw [hg]; exact Nat.ne_of_gt (blk_lt (g := gb189) (o := .cells #[.int .i64 0, .int .i64 0] 61 (0, 0)) (by (with_reducible repeat (first | refine blk_drewN ?_ _ | refine blk_drew ?_ | refine blk_alloc ?_ _)); exact BK189.out)) : gb190 ≠ gb189))
                clear BK176
                clear BK177
                clear BK178
                clear BK189
                clear HB
                have BK176 := n0_
                have BK177 := n1_
                have BK178 := n2_
                have BK189 := n3_
                have HB := n4_
                have BK190 := n5_
                have GW190 := n6_
                have GE190 := n7_
                have NB176_190 := n8_
                have NB190_176 := n9_
                have NB177_190 := n10_
                have NB190_177 := n11_
                have NB178_190 := n12_
                have NB190_178 := n13_
                have NB189_190 := n14_
                have NB190_189 := n15_
                clear n0_ n1_ n2_ n3_ n4_ n5_ n6_ n7_ n8_ n9_ n10_ n11_ n12_ n13_ n14_ n15_
                clear hb hbox hg
                refine hK.out _ _ ⟨(blk_cell BK176.out 0).trans rfl, (blk_cell BK176.out 1).trans rfl⟩ (fun hHeld => ?_)
                clear hK K
                refine norm_ (a' := ?_) ?_ ?_
                rotate_left
                ·show Act.put _ (some 8) _ = _
                 simp only [Act.put, List.setIfInBounds_toArray, List.set_cons_zero, List.set_cons_succ, i64_w, i32_w]
                 rfl
                exact norm_ (by first | (simp only [putAll, Act.put, List.setIfInBounds_toArray, List.set_cons_zero, List.set_cons_succ]; done) | (simp only [putAll, Act.put, List.setIfInBounds_toArray, List.set_cons_zero, List.set_cons_succ]; rfl)) (hJ9_10 (gb189, gb190) _ ⟨hHeld, (by (with_reducible repeat (first | refine blk_drewN ?_ _ | refine blk_drew ?_ | refine blk_alloc ?_ _)); exact BK176.out), (by (with_reducible repeat (first | refine blk_drewN ?_ _ | refine blk_drew ?_ | refine blk_alloc ?_ _)); exact BK177.out), (by (with_reducible repeat (first | refine blk_drewN ?_ _ | refine blk_drew ?_ | refine blk_alloc ?_ _)); exact BK178.out), (by (with_reducible repeat (first | refine blk_drewN ?_ _ | refine blk_drew ?_ | refine blk_alloc ?_ _)); exact BK189.out), (by (with_reducible repeat (first | refine blk_drewN ?_ _ | refine blk_drew ?_ | refine blk_alloc ?_ _)); exact BK190.out), GW189.out, GE189.out, NB176_189.out, NB189_176.out, NB177_189.out, NB189_177.out, NB178_189.out, NB189_178.out, NB190_189.out, NB189_190.out, GW190.out, GE190.out, NB176_190.out, NB190_176.out, NB177_190.out, NB190_177.out, NB178_190.out, NB190_178.out, (by repeat (first | (with_reducible first | exact HB.out | apply below_alloc | apply pw_below_drewN | apply below_drew1 | refine below_set ?_ GE176.out | refine below_set ?_ GE177.out | refine below_set ?_ GE178.out | refine below_set ?_ GE189.out | refine below_set ?_ GE190.out) | exact HB.out))⟩)
             ·skip
              rintro v180 w13 ⟨hS_, h0_, h1_, h2_, h3_, h4_⟩
              have n0_ : Aside0 (Kd.R k61 61 w13 w.heap.size (fun _ => True) v180 t179) := ⟨h0_⟩
              have n1_ : Aside0 (w13.heap[gb176]? = some (.cells #[.int .i64 a1_0, .int .i64 a1_1] 28 (0, 0))) := ⟨h1_⟩
              have n2_ : Aside0 (w13.heap[gb177]? = some (.cells #[.int .i64 0, .int .i64 0] 28 (0, 0))) := ⟨h2_⟩
              have n3_ : Aside0 (w13.heap[gb178]? = some (.cells #[.int .i64 0, .int .i64 0] 28 (0, 0))) := ⟨h3_⟩
              have n4_ : Aside0 (Below w.heap.size w w13) := ⟨h4_⟩
              clear BK176
              clear BK177
              clear BK178
              clear HB
              clear h0_ h1_ h2_ h3_ h4_
              have HO181 := n0_
              have BK176 := n1_
              have BK177 := n2_
              have BK178 := n3_
              have HB := n4_
              clear n0_ n1_ n2_ n3_ n4_
              have hHeld : w13.cell? ⟨gb176, 0, none⟩ = some (.int .i64 a1_0) ∧ w13.cell? ⟨gb176, 1, none⟩ = some (.int .i64 a1_1) := hS_
              refine norm_ (a' := ?_) ?_ ?_
              rotate_left
              ·simp only [putAll, Act.put, List.setIfInBounds_toArray, List.set_cons_zero, List.set_cons_succ]
               rfl
              refine three_ (i := 3) (j := 9) (k := 10) (Ni := some 13) (Nj := some 7) (Nk := some 8) #[true, true, true, true, false, false, false, false, false, false, false, false, false, false] #[true, true, true, false, false, false, false, false, false, true, false, false, false, false] #[true, true, true, false, false, false, false, false, false, false, true, false, false, false] rfl rfl rfl rfl rfl rfl (three_of HT_.out (by kernel_rfl)) (by decide) (by decide) (by decide) (fun K hK => ?_) (fun K hK => ?_) (fun K hK => ?_)
              ·skip
               refine goes_ Try.func41 (by kernel_rfl) rfl #[.agg #[.int .i64 a1_0, .int .i64 a1_1]] (by rfl) rfl rfl (by (try simp only [List.map_toArray, List.map_cons, List.map_nil]); first | done | rfl | (simp only [List.length_drop, List.length_take]; rfl)) ?_
               with_reducible refine (impl_given.calls a1_0 a1_1 t182 t183 _ A4.out).mono ?_
               rintro e w14 ⟨rfl, hb⟩
               refine ⟨_, rfl, ?_⟩
               have n0_ := Aside0.mk (Kd.R_below (by (with_reducible repeat (first | apply Kd.R_alloc | apply Kd.R_drewN | apply Kd.R_drew)); exact HO181.out) hb)
               have n1_ := Aside0.mk (blk_below (g := gb176) (o := .cells #[.int .i64 a1_0, .int .i64 a1_1] 28 (0, 0)) (by (with_reducible repeat (first | refine blk_drewN ?_ _ | refine blk_drew ?_ | refine blk_alloc ?_ _)); exact BK176.out) hb)
               have n2_ := Aside0.mk (blk_below (g := gb177) (o := .cells #[.int .i64 0, .int .i64 0] 28 (0, 0)) (by (with_reducible repeat (first | refine blk_drewN ?_ _ | refine blk_drew ?_ | refine blk_alloc ?_ _)); exact BK177.out) hb)
               have n3_ := Aside0.mk (blk_below (g := gb178) (o := .cells #[.int .i64 0, .int .i64 0] 28 (0, 0)) (by (with_reducible repeat (first | refine blk_drewN ?_ _ | refine blk_drew ?_ | refine blk_alloc ?_ _)); exact BK178.out) hb)
               have n4_ := Aside0.mk (below_step (by repeat (first | (with_reducible first | exact HB.out | apply below_alloc | apply pw_below_drewN | apply below_drew1 | refine below_set ?_ GE176.out | refine below_set ?_ GE177.out | refine below_set ?_ GE178.out) | exact HB.out)) hb)
               clear HO181
               clear BK176
               clear BK177
               clear BK178
               clear HB
               have HO181 := n0_
               have BK176 := n1_
               have BK177 := n2_
               have BK178 := n3_
               have HB := n4_
               clear n0_ n1_ n2_ n3_ n4_
               (try clear hb)
               (try clear hb2)
               (try clear hk)
               (try clear hi)
               refine hK.out _ _ ⟨(blk_cell BK176.out 0).trans rfl, (blk_cell BK176.out 1).trans rfl⟩ (fun hHeld => ?_)
               clear hK K
               refine norm_ (a' := ?_) ?_ ?_
               rotate_left
               ·show Act.put _ (some 13) _ = _
                simp only [Act.put, List.setIfInBounds_toArray, List.set_cons_zero, List.set_cons_succ, i64_w, i32_w]
                rfl
               exact norm_ (by first | (simp only [putAll, Act.put, List.setIfInBounds_toArray, List.set_cons_zero, List.set_cons_succ]; done) | (simp only [putAll, Act.put, List.setIfInBounds_toArray, List.set_cons_zero, List.set_cons_succ]; rfl)) (hJ1_3 (v180) _ ⟨hHeld, (by (with_reducible repeat (first | apply Kd.R_alloc | apply Kd.R_drewN | apply Kd.R_drew)); exact HO181.out), (by (with_reducible repeat (first | refine blk_drewN ?_ _ | refine blk_drew ?_ | refine blk_alloc ?_ _)); exact BK176.out), (by (with_reducible repeat (first | refine blk_drewN ?_ _ | refine blk_drew ?_ | refine blk_alloc ?_ _)); exact BK177.out), (by (with_reducible repeat (first | refine blk_drewN ?_ _ | refine blk_drew ?_ | refine blk_alloc ?_ _)); exact BK178.out), (by repeat (first | (with_reducible first | exact HB.out | apply below_alloc | apply pw_below_drewN | apply below_drew1 | refine below_set ?_ GE176.out | refine below_set ?_ GE177.out | refine below_set ?_ GE178.out) | exact HB.out))⟩)
              ·skip
               refine box_step ?hg (N := 7) ?hd (cs := #[.int .i64 0, .int .i64 0]) (t := 61) ?hr ?_; (case hd => rfl); (case hg => rfl); (case hr => first | (go_simp; done) | (go_simp; rfl))
               intro gb189 hg w14 hbox hb
               have n0_ := Aside0.mk (Kd.R_below (Kd.R_elderB (by (with_reducible repeat (first | apply Kd.R_alloc | apply Kd.R_drewN | apply Kd.R_drew)); exact HO181.out) gb189 (Nat.le_of_eq hg.symm)) hb)
               have n1_ := Aside0.mk (blk_below (g := gb176) (o := .cells #[.int .i64 a1_0, .int .i64 a1_1] 28 (0, 0)) (by (with_reducible repeat (first | refine blk_drewN ?_ _ | refine blk_drew ?_ | refine blk_alloc ?_ _)); exact BK176.out) hb)
               have n2_ := Aside0.mk (blk_below (g := gb177) (o := .cells #[.int .i64 0, .int .i64 0] 28 (0, 0)) (by (with_reducible repeat (first | refine blk_drewN ?_ _ | refine blk_drew ?_ | refine blk_alloc ?_ _)); exact BK177.out) hb)
               have n3_ := Aside0.mk (blk_below (g := gb178) (o := .cells #[.int .i64 0, .int .i64 0] 28 (0, 0)) (by (with_reducible repeat (first | refine blk_drewN ?_ _ | refine blk_drew ?_ | refine blk_alloc ?_ _)); exact BK178.out) hb)
               have n4_ := Aside0.mk (below_step (by repeat (first | (with_reducible first | exact HB.out | apply below_alloc | apply pw_below_drewN | apply below_drew1 | refine below_set ?_ GE176.out | refine below_set ?_ GE177.out | refine below_set ?_ GE178.out) | exact HB.out)) hb)
               have n5_ := Aside0.mk (hbox)
               have n6_ := Aside0.mk ((by rw [hg]; exact (below_size (by repeat (first | (with_reducible first | exact HB.out | apply below_alloc | apply pw_below_drewN | apply below_drew1 | refine below_set ?_ GE176.out | refine below_set ?_ GE177.out | refine below_set ?_ GE178.out) | exact HB.out))) : w.heap.size ≤ gb189))
               have n7_ := Aside0.mk ((by rw [hg]; exact (below_size (by repeat (first | (with_reducible first | exact HB.out | apply below_alloc | apply pw_below_drewN | apply below_drew1 | refine below_set ?_ GE176.out | refine below_set ?_ GE177.out | refine below_set ?_ GE178.out) | exact HB.out))) : w.heap.size ≤ gb189))
               have n8_ := Aside0.mk ((by rw [hg]; exact Nat.ne_of_lt (blk_lt (g := gb176) (o := .cells #[.int .i64 a1_0, .int .i64 a1_1] 28 (0, 0)) (by (with_reducible repeat (first | refine blk_drewN ?_ _ | refine blk_drew ?_ | refine blk_alloc ?_ _)); exact BK176.out)) : gb176 ≠ gb189))
               have n9_ := Aside0.mk ((by rw [hg]; exact Nat.ne_of_gt (blk_lt (g := gb176) (o := .cells #[.int .i64 a1_0, .int .i64 a1_1] 28 (0, 0)) (by (with_reducible repeat (first | refine blk_drewN ?_ _ | refine blk_drew ?_ | refine blk_alloc ?_ _)); exact BK176.out)) : gb189 ≠ gb176))
               have n10_ := Aside0.mk ((by rw [hg]; exact Nat.ne_of_lt (blk_lt (g := gb177) (o := .cells #[.int .i64 0, .int .i64 0] 28 (0, 0)) (by (with_reducible repeat (first | refine blk_drewN ?_ _ | refine blk_drew ?_ | refine blk_alloc ?_ _)); exact BK177.out)) : gb177 ≠ gb189))
               have n11_ := Aside0.mk ((by rw [hg]; exact Nat.ne_of_gt (blk_lt (g := gb177) (o := .cells #[.int .i64 0, .int .i64 0] 28 (0, 0)) (by (with_reducible repeat (first | refine blk_drewN ?_ _ | refine blk_drew ?_ | refine blk_alloc ?_ _)); exact BK177.out)) : gb189 ≠ gb177))
               have n12_ := Aside0.mk ((by rw [hg]; exact Nat.ne_of_lt (blk_lt (g := gb178) (o := .cells #[.int .i64 0, .int .i64 0] 28 (0, 0)) (by (with_reducible repeat (first | refine blk_drewN ?_ _ | refine blk_drew ?_ | refine blk_alloc ?_ _)); exact BK178.out)) : gb178 ≠ gb189))
               have n13_ := Aside0.mk ((by rw [hg]; exact Nat.ne_of_gt (blk_lt (g := gb178) (o := .cells #[.int .i64 0, .int .i64 0] 28 (0, 0)) (by (with_reducible repeat (first | refine blk_drewN ?_ _ | refine blk_drew ?_ | refine blk_alloc ?_ _)); exact BK178.out)) : gb189 ≠ gb178))
               clear HO181
               clear BK176
               clear BK177
               clear BK178
               clear HB
               have HO181 := n0_
               have BK176 := n1_
               have BK177 := n2_
               have BK178 := n3_
               have HB := n4_
               have BK189 := n5_
               have GW189 := n6_
               have GE189 := n7_
               have NB176_189 := n8_
               have NB189_176 := n9_
               have NB177_189 := n10_
               have NB189_177 := n11_
               have NB178_189 := n12_
               have NB189_178 := n13_
               clear n0_ n1_ n2_ n3_ n4_ n5_ n6_ n7_ n8_ n9_ n10_ n11_ n12_ n13_
               clear hb hbox hg
               refine hK.out _ _ ⟨(blk_cell BK176.out 0).trans rfl, (blk_cell BK176.out 1).trans rfl⟩ (fun hHeld => ?_)
               clear hK K
               refine norm_ (a' := ?_) ?_ ?_
               rotate_left
               ·show Act.put _ (some 7) _ = _
                simp only [Act.put, List.setIfInBounds_toArray, List.set_cons_zero, List.set_cons_succ, i64_w, i32_w]
                rfl
               exact norm_ (by first | (simp only [putAll, Act.put, List.setIfInBounds_toArray, List.set_cons_zero, List.set_cons_succ]; done) | (simp only [putAll, Act.put, List.setIfInBounds_toArray, List.set_cons_zero, List.set_cons_succ]; rfl)) (hJ1_9 (_, gb189) _ ⟨hHeld, (by (with_reducible repeat (first | apply Kd.R_alloc | apply Kd.R_drewN | apply Kd.R_drew)); exact Kd.R_mono HO181.out (fun _ hk => hk.2)), (by (with_reducible repeat (first | refine blk_drewN ?_ _ | refine blk_drew ?_ | refine blk_alloc ?_ _)); exact BK176.out), (by (with_reducible repeat (first | refine blk_drewN ?_ _ | refine blk_drew ?_ | refine blk_alloc ?_ _)); exact BK177.out), (by (with_reducible repeat (first | refine blk_drewN ?_ _ | refine blk_drew ?_ | refine blk_alloc ?_ _)); exact BK178.out), (by (with_reducible repeat (first | refine blk_drewN ?_ _ | refine blk_drew ?_ | refine blk_alloc ?_ _)); exact BK189.out), GW189.out, GE189.out, NB176_189.out, NB189_176.out, NB177_189.out, NB189_177.out, NB178_189.out, NB189_178.out, (by repeat (first | (with_reducible first | exact HB.out | apply below_alloc | apply pw_below_drewN | apply below_drew1 | refine below_set ?_ GE176.out | refine below_set ?_ GE177.out | refine below_set ?_ GE178.out | refine below_set ?_ GE189.out) | exact HB.out))⟩)
              ·skip
               refine box_step ?hg (N := 8) ?hd (cs := #[.int .i64 0, .int .i64 0]) (t := 61) ?hr ?_; (case hd => rfl); (case hg => rfl); (case hr => first | (go_simp; done) | (go_simp; rfl))
               intro gb190 hg w14 hbox hb
               have n0_ := Aside0.mk (Kd.R_below (Kd.R_elderB (by (with_reducible repeat (first | apply Kd.R_alloc | apply Kd.R_drewN | apply Kd.R_drew)); exact HO181.out) gb190 (Nat.le_of_eq hg.symm)) hb)
               have n1_ := Aside0.mk (blk_below (g := gb176) (o := .cells #[.int .i64 a1_0, .int .i64 a1_1] 28 (0, 0)) (by (with_reducible repeat (first | refine blk_drewN ?_ _ | refine blk_drew ?_ | refine blk_alloc ?_ _)); exact BK176.out) hb)
               have n2_ := Aside0.mk (blk_below (g := gb177) (o := .cells #[.int .i64 0, .int .i64 0] 28 (0, 0)) (by (with_reducible repeat (first | refine blk_drewN ?_ _ | refine blk_drew ?_ | refine blk_alloc ?_ _)); exact BK177.out) hb)
               have n3_ := Aside0.mk (blk_below (g := gb178) (o := .cells #[.int .i64 0, .int .i64 0] 28 (0, 0)) (by (with_reducible repeat (first | refine blk_drewN ?_ _ | refine blk_drew ?_ | refine blk_alloc ?_ _)); exact BK178.out) hb)
               have n4_ := Aside0.mk (below_step (by repeat (first | (with_reducible first | exact HB.out | apply below_alloc | apply pw_below_drewN | apply below_drew1 | refine below_set ?_ GE176.out | refine below_set ?_ GE177.out | refine below_set ?_ GE178.out) | exact HB.out)) hb)
               have n5_ := Aside0.mk (hbox)
               have n6_ := Aside0.mk ((by rw [hg]; exact (below_size (by repeat (first | (with_reducible first | exact HB.out | apply below_alloc | apply pw_below_drewN | apply below_drew1 | refine below_set ?_ GE176.out | refine below_set ?_ GE177.out | refine below_set ?_ GE178.out) | exact HB.out))) : w.heap.size ≤ gb190))
               have n7_ := Aside0.mk ((by rw [hg]; exact (below_size (by repeat (first | (with_reducible first | exact HB.out | apply below_alloc | apply pw_below_drewN | apply below_drew1 | refine below_set ?_ GE176.out | refine below_set ?_ GE177.out | refine below_set ?_ GE178.out) | exact HB.out))) : w.heap.size ≤ gb190))
               have n8_ := Aside0.mk ((by rw [hg]; exact Nat.ne_of_lt (blk_lt (g := gb176) (o := .cells #[.int .i64 a1_0, .int .i64 a1_1] 28 (0, 0)) (by (with_reducible repeat (first | refine blk_drewN ?_ _ | refine blk_drew ?_ | refine blk_alloc ?_ _)); exact BK176.out)) : gb176 ≠ gb190))
               have n9_ := Aside0.mk ((by rw [hg]; exact Nat.ne_of_gt (blk_lt (g := gb176) (o := .cells #[.int .i64 a1_0, .int .i64 a1_1] 28 (0, 0)) (by (with_reducible repeat (first | refine blk_drewN ?_ _ | refine blk_drew ?_ | refine blk_alloc ?_ _)); exact BK176.out)) : gb190 ≠ gb176))
               have n10_ := Aside0.mk ((by rw [hg]; exact Nat.ne_of_lt (blk_lt (g := gb177) (o := .cells #[.int .i64 0, .int .i64 0] 28 (0, 0)) (by (with_reducible repeat (first | refine blk_drewN ?_ _ | refine blk_drew ?_ | refine blk_alloc ?_ _)); exact BK177.out)) : gb177 ≠ gb190))
               have n11_ := Aside0.mk ((by rw [hg]; exact Nat.ne_of_gt (blk_lt (g := gb177) (o := .cells #[.int .i64 0, .int .i64 0] 28 (0, 0)) (by (with_reducible repeat (first | refine blk_drewN ?_ _ | refine blk_drew ?_ | refine blk_alloc ?_ _)); exact BK177.out)) : gb190 ≠ gb177))
               have n12_ := Aside0.mk ((by rw [hg]; exact Nat.ne_of_lt (blk_lt (g := gb178) (o := .cells #[.int .i64 0, .int .i64 0] 28 (0, 0)) (by (with_reducible repeat (first | refine blk_drewN ?_ _ | refine blk_drew ?_ | refine blk_alloc ?_ _)); exact BK178.out)) : gb178 ≠ gb190))
               have n13_ := Aside0.mk ((by rw [hg]; exact Nat.ne_of_gt (blk_lt (g := gb178) (o := .cells #[.int .i64 0, .int .i64 0] 28 (0, 0)) (by (with_reducible repeat (first | refine blk_drewN ?_ _ | refine blk_drew ?_ | refine blk_alloc ?_ _)); exact BK178.out)) : gb190 ≠ gb178))
               clear HO181
               clear BK176
               clear BK177
               clear BK178
               clear HB
               have HO181 := n0_
               have BK176 := n1_
               have BK177 := n2_
               have BK178 := n3_
               have HB := n4_
               have BK190 := n5_
               have GW190 := n6_
               have GE190 := n7_
               have NB176_190 := n8_
               have NB190_176 := n9_
               have NB177_190 := n10_
               have NB190_177 := n11_
               have NB178_190 := n12_
               have NB190_178 := n13_
               clear n0_ n1_ n2_ n3_ n4_ n5_ n6_ n7_ n8_ n9_ n10_ n11_ n12_ n13_
               clear hb hbox hg
               refine hK.out _ _ ⟨(blk_cell BK176.out 0).trans rfl, (blk_cell BK176.out 1).trans rfl⟩ (fun hHeld => ?_)
               clear hK K
               refine norm_ (a' := ?_) ?_ ?_
               rotate_left
               ·show Act.put _ (some 8) _ = _
                simp only [Act.put, List.setIfInBounds_toArray, List.set_cons_zero, List.set_cons_succ, i64_w, i32_w]
                rfl
               exact norm_ (by first | (simp only [putAll, Act.put, List.setIfInBounds_toArray, List.set_cons_zero, List.set_cons_succ]; done) | (simp only [putAll, Act.put, List.setIfInBounds_toArray, List.set_cons_zero, List.set_cons_succ]; rfl)) (hJ1_10 (_, gb190) _ ⟨hHeld, (by (with_reducible repeat (first | apply Kd.R_alloc | apply Kd.R_drewN | apply Kd.R_drew)); exact Kd.R_mono HO181.out (fun _ hk => hk.2)), (by (with_reducible repeat (first | refine blk_drewN ?_ _ | refine blk_drew ?_ | refine blk_alloc ?_ _)); exact BK176.out), (by (with_reducible repeat (first | refine blk_drewN ?_ _ | refine blk_drew ?_ | refine blk_alloc ?_ _)); exact BK177.out), (by (with_reducible repeat (first | refine blk_drewN ?_ _ | refine blk_drew ?_ | refine blk_alloc ?_ _)); exact BK178.out), (by (with_reducible repeat (first | refine blk_drewN ?_ _ | refine blk_drew ?_ | refine blk_alloc ?_ _)); exact BK190.out), GW190.out, GE190.out, NB176_190.out, NB190_176.out, NB177_190.out, NB190_177.out, NB178_190.out, NB190_178.out, (by repeat (first | (with_reducible first | exact HB.out | apply below_alloc | apply pw_below_drewN | apply below_drew1 | refine below_set ?_ GE176.out | refine below_set ?_ GE177.out | refine below_set ?_ GE178.out | refine below_set ?_ GE190.out) | exact HB.out))⟩)
            ·skip
             rintro ⟨gb189, gb190⟩ w14 ⟨hS_, h0_, h1_, h2_, h3_, h4_, h5_, h6_, h7_, h8_, h9_, h10_, h11_, h12_, h13_, h14_, h15_, h16_, h17_, h18_, h19_, h20_, h21_, h22_, h23_⟩
             have n0_ : Aside0 (w14.heap[gb176]? = some (.cells #[.int .i64 a1_0, .int .i64 a1_1] 28 (0, 0))) := ⟨h0_⟩
             have n1_ : Aside0 (w14.heap[gb177]? = some (.cells #[.int .i64 0, .int .i64 0] 28 (0, 0))) := ⟨h1_⟩
             have n2_ : Aside0 (w14.heap[gb178]? = some (.cells #[.int .i64 0, .int .i64 0] 28 (0, 0))) := ⟨h2_⟩
             have n3_ : Aside0 (w14.heap[gb189]? = some (.cells #[.int .i64 0, .int .i64 0] 61 (0, 0))) := ⟨h3_⟩
             have n4_ : Aside0 (w14.heap[gb190]? = some (.cells #[.int .i64 0, .int .i64 0] 61 (0, 0))) := ⟨h4_⟩
             have n5_ : Aside0 (w.heap.size ≤ gb189) := ⟨h5_⟩
             have n6_ : Aside0 (w.heap.size ≤ gb189) := ⟨h6_⟩
             have n7_ : Aside0 (gb176 ≠ gb189) := ⟨h7_⟩
             have n8_ : Aside0 (gb189 ≠ gb176) := ⟨h8_⟩
             have n9_ : Aside0 (gb177 ≠ gb189) := ⟨h9_⟩
             have n10_ : Aside0 (gb189 ≠ gb177) := ⟨h10_⟩
             have n11_ : Aside0 (gb178 ≠ gb189) := ⟨h11_⟩
             have n12_ : Aside0 (gb189 ≠ gb178) := ⟨h12_⟩
             have n13_ : Aside0 (gb190 ≠ gb189) := ⟨h13_⟩
             have n14_ : Aside0 (gb189 ≠ gb190) := ⟨h14_⟩
             have n15_ : Aside0 (w.heap.size ≤ gb190) := ⟨h15_⟩
             have n16_ : Aside0 (w.heap.size ≤ gb190) := ⟨h16_⟩
             have n17_ : Aside0 (gb176 ≠ gb190) := ⟨h17_⟩
             have n18_ : Aside0 (gb190 ≠ gb176) := ⟨h18_⟩
             have n19_ : Aside0 (gb177 ≠ gb190) := ⟨h19_⟩
             have n20_ : Aside0 (gb190 ≠ gb177) := ⟨h20_⟩
             have n21_ : Aside0 (gb178 ≠ gb190) := ⟨h21_⟩
             have n22_ : Aside0 (gb190 ≠ gb178) := ⟨h22_⟩
             have n23_ : Aside0 (Below w.heap.size w w14) := ⟨h23_⟩
             clear BK176
             clear BK177
             clear BK178
             clear HB
             clear h0_ h1_ h2_ h3_ h4_ h5_ h6_ h7_ h8_ h9_ h10_ h11_ h12_ h13_ h14_ h15_ h16_ h17_ h18_ h19_ h20_ h21_ h22_ h23_
             have BK176 := n0_
             have BK177 := n1_
             have BK178 := n2_
             have BK189 := n3_
             have BK190 := n4_
             have GW189 := n5_
             have GE189 := n6_
             have NB176_189 := n7_
             have NB189_176 := n8_
             have NB177_189 := n9_
             have NB189_177 := n10_
             have NB178_189 := n11_
             have NB189_178 := n12_
             have NB190_189 := n13_
             have NB189_190 := n14_
             have GW190 := n15_
             have GE190 := n16_
             have NB176_190 := n17_
             have NB190_176 := n18_
             have NB177_190 := n19_
             have NB190_177 := n20_
             have NB178_190 := n21_
             have NB190_178 := n22_
             have HB := n23_
             clear n0_ n1_ n2_ n3_ n4_ n5_ n6_ n7_ n8_ n9_ n10_ n11_ n12_ n13_ n14_ n15_ n16_ n17_ n18_ n19_ n20_ n21_ n22_ n23_
             have hHeld : w14.cell? ⟨gb176, 0, none⟩ = some (.int .i64 a1_0) ∧ w14.cell? ⟨gb176, 1, none⟩ = some (.int .i64 a1_1) := hS_
             refine norm_ (a' := ?_) ?_ ?_
             rotate_left
             ·simp only [putAll, Act.put, List.setIfInBounds_toArray, List.set_cons_zero, List.set_cons_succ]
              rfl
             refine one_ (i := 1) (N := some 11) #[true, true, true, false, false, false, false, false, false, true, true, false, false, false] rfl rfl (one_of HT_.out (by kernel_rfl)) (by decide) (fun K hK => ?_)
             refine goes_ Try.func38 (by kernel_rfl) rfl #[.slice A0 l0.length c0] (by rfl) rfl rfl (by (try simp only [List.map_toArray, List.map_cons, List.map_nil]); first | done | rfl | (simp only [List.length_drop, List.length_take]; rfl)) ?_
             with_reducible refine (impl_inserted.calls _ _ l0 t179 _ ?side1 ?side2 A3.out).mono ?_
             (case side1 => repeat (first | exact (Kd.C_below HR0.out HB.out) | (with_reducible refine Kd.C_alloc ?_ _) | (with_reducible refine Kd.C_drewN ?_ _) | (with_reducible refine Kd.C_drew ?_)))
             (case side2 => exact HC0.out)
             rintro e w15 ⟨v180, rfl, ho0, hb⟩
             refine ⟨_, rfl, ?_⟩
             have n0_ := Aside0.mk (Kd.R_lower (Kd.R_newB (Kd.R_newB ho0 (g := gb189) (o := .cells #[.int .i64 0, .int .i64 0] 61 (0, 0)) (by (with_reducible repeat (first | refine blk_drewN ?_ _ | refine blk_drew ?_ | refine blk_alloc ?_ _)); exact BK189.out)) (g := gb190) (o := .cells #[.int .i64 0, .int .i64 0] 61 (0, 0)) (by (with_reducible repeat (first | refine blk_drewN ?_ _ | refine blk_drew ?_ | refine blk_alloc ?_ _)); exact BK190.out)) (below_size (by repeat (first | (with_reducible first | exact HB.out | apply below_alloc | apply pw_below_drewN | apply below_drew1 | refine below_set ?_ GE176.out | refine below_set ?_ GE177.out | refine below_set ?_ GE178.out | refine below_set ?_ GE189.out | refine below_set ?_ GE190.out) | exact HB.out))))
             have n1_ := Aside0.mk (blk_below (g := gb176) (o := .cells #[.int .i64 a1_0, .int .i64 a1_1] 28 (0, 0)) (by (with_reducible repeat (first | refine blk_drewN ?_ _ | refine blk_drew ?_ | refine blk_alloc ?_ _)); exact BK176.out) hb)
             have n2_ := Aside0.mk (blk_below (g := gb177) (o := .cells #[.int .i64 0, .int .i64 0] 28 (0, 0)) (by (with_reducible repeat (first | refine blk_drewN ?_ _ | refine blk_drew ?_ | refine blk_alloc ?_ _)); exact BK177.out) hb)
             have n3_ := Aside0.mk (blk_below (g := gb178) (o := .cells #[.int .i64 0, .int .i64 0] 28 (0, 0)) (by (with_reducible repeat (first | refine blk_drewN ?_ _ | refine blk_drew ?_ | refine blk_alloc ?_ _)); exact BK178.out) hb)
             have n4_ := Aside0.mk (blk_below (g := gb189) (o := .cells #[.int .i64 0, .int .i64 0] 61 (0, 0)) (by (with_reducible repeat (first | refine blk_drewN ?_ _ | refine blk_drew ?_ | refine blk_alloc ?_ _)); exact BK189.out) hb)
             have n5_ := Aside0.mk (blk_below (g := gb190) (o := .cells #[.int .i64 0, .int .i64 0] 61 (0, 0)) (by (with_reducible repeat (first | refine blk_drewN ?_ _ | refine blk_drew ?_ | refine blk_alloc ?_ _)); exact BK190.out) hb)
             have n6_ := Aside0.mk (below_step (by repeat (first | (with_reducible first | exact HB.out | apply below_alloc | apply pw_below_drewN | apply below_drew1 | refine below_set ?_ GE176.out | refine below_set ?_ GE177.out | refine below_set ?_ GE178.out | refine below_set ?_ GE189.out | refine below_set ?_ GE190.out) | exact HB.out)) hb)
             clear BK176
             clear BK177
             clear BK178
             clear BK189
             clear BK190
             clear HB
             have HO181 := n0_
             have BK176 := n1_
             have BK177 := n2_
             have BK178 := n3_
             have BK189 := n4_
             have BK190 := n5_
             have HB := n6_
             clear n0_ n1_ n2_ n3_ n4_ n5_ n6_
             (try clear hb)
             (try clear hb2)
             (try clear hk)
             (try clear hi)
             (try clear ho0)
             refine hK.out _ _ ⟨(blk_cell BK176.out 0).trans rfl, (blk_cell BK176.out 1).trans rfl⟩ (fun hHeld => ?_)
             clear hK K
             refine norm_ (a' := ?_) ?_ ?_
             rotate_left
             ·show Act.put _ (some 11) _ = _
              simp only [Act.put, List.setIfInBounds_toArray, List.set_cons_zero, List.set_cons_succ, i64_w, i32_w]
              rfl
             exact norm_ (by first | (simp only [putAll, Act.put, List.setIfInBounds_toArray, List.set_cons_zero, List.set_cons_succ]; done) | (simp only [putAll, Act.put, List.setIfInBounds_toArray, List.set_cons_zero, List.set_cons_succ]; rfl)) (hJ1_9_10 (_, gb189, gb190) _ ⟨hHeld, (by (with_reducible repeat (first | apply Kd.R_alloc | apply Kd.R_drewN | apply Kd.R_drew)); exact Kd.R_mono HO181.out (fun _ hk => ⟨hk.1.2, hk.2⟩)), (by (with_reducible repeat (first | refine blk_drewN ?_ _ | refine blk_drew ?_ | refine blk_alloc ?_ _)); exact BK176.out), (by (with_reducible repeat (first | refine blk_drewN ?_ _ | refine blk_drew ?_ | refine blk_alloc ?_ _)); exact BK177.out), (by (with_reducible repeat (first | refine blk_drewN ?_ _ | refine blk_drew ?_ | refine blk_alloc ?_ _)); exact BK178.out), (by (with_reducible repeat (first | refine blk_drewN ?_ _ | refine blk_drew ?_ | refine blk_alloc ?_ _)); exact BK189.out), (by (with_reducible repeat (first | refine blk_drewN ?_ _ | refine blk_drew ?_ | refine blk_alloc ?_ _)); exact BK190.out), GW189.out, GE189.out, NB176_189.out, NB189_176.out, NB177_189.out, NB189_177.out, NB178_189.out, NB189_178.out, NB190_189.out, NB189_190.out, GW190.out, GE190.out, NB176_190.out, NB190_176.out, NB177_190.out, NB190_177.out, NB178_190.out, NB190_178.out, (by repeat (first | (with_reducible first | exact HB.out | apply below_alloc | apply pw_below_drewN | apply below_drew1 | refine below_set ?_ GE176.out | refine below_set ?_ GE177.out | refine below_set ?_ GE178.out | refine below_set ?_ GE189.out | refine below_set ?_ GE190.out) | exact HB.out))⟩)
           ·skip
            rintro ⟨v180, gb190⟩ w14 ⟨hS_, h0_, h1_, h2_, h3_, h4_, h5_, h6_, h7_, h8_, h9_, h10_, h11_, h12_, h13_⟩
            have n0_ : Aside0 (Kd.R k61 61 w14 w.heap.size (fun k_ => k_ ≠ gb190) v180 t179) := ⟨h0_⟩
            have n1_ : Aside0 (w14.heap[gb176]? = some (.cells #[.int .i64 a1_0, .int .i64 a1_1] 28 (0, 0))) := ⟨h1_⟩
            have n2_ : Aside0 (w14.heap[gb177]? = some (.cells #[.int .i64 0, .int .i64 0] 28 (0, 0))) := ⟨h2_⟩
            have n3_ : Aside0 (w14.heap[gb178]? = some (.cells #[.int .i64 0, .int .i64 0] 28 (0, 0))) := ⟨h3_⟩
            have n4_ : Aside0 (w14.heap[gb190]? = some (.cells #[.int .i64 0, .int .i64 0] 61 (0, 0))) := ⟨h4_⟩
            have n5_ : Aside0 (w.heap.size ≤ gb190) := ⟨h5_⟩
            have n6_ : Aside0 (w.heap.size ≤ gb190) := ⟨h6_⟩
            have n7_ : Aside0 (gb176 ≠ gb190) := ⟨h7_⟩
            have n8_ : Aside0 (gb190 ≠ gb176) := ⟨h8_⟩
            have n9_ : Aside0 (gb177 ≠ gb190) := ⟨h9_⟩
            have n10_ : Aside0 (gb190 ≠ gb177) := ⟨h10_⟩
            have n11_ : Aside0 (gb178 ≠ gb190) := ⟨h11_⟩
            have n12_ : Aside0 (gb190 ≠ gb178) := ⟨h12_⟩
            have n13_ : Aside0 (Below w.heap.size w w14) := ⟨h13_⟩
            clear BK176
            clear BK177
            clear BK178
            clear HB
            clear h0_ h1_ h2_ h3_ h4_ h5_ h6_ h7_ h8_ h9_ h10_ h11_ h12_ h13_
            have HO181 := n0_
            have BK176 := n1_
            have BK177 := n2_
            have BK178 := n3_
            have BK190 := n4_
            have GW190 := n5_
            have GE190 := n6_
            have NB176_190 := n7_
            have NB190_176 := n8_
            have NB177_190 := n9_
            have NB190_177 := n10_
            have NB178_190 := n11_
            have NB190_178 := n12_
            have HB := n13_
            clear n0_ n1_ n2_ n3_ n4_ n5_ n6_ n7_ n8_ n9_ n10_ n11_ n12_ n13_
            have hHeld : w14.cell? ⟨gb176, 0, none⟩ = some (.int .i64 a1_0) ∧ w14.cell? ⟨gb176, 1, none⟩ = some (.int .i64 a1_1) := hS_
            refine norm_ (a' := ?_) ?_ ?_
            rotate_left
            ·simp only [putAll, Act.put, List.setIfInBounds_toArray, List.set_cons_zero, List.set_cons_succ]
             rfl
            refine two_ (i := 3) (j := 9) (Ni := some 13) (Nj := some 7) #[true, true, true, true, false, false, false, false, false, false, true, false, false, false] #[true, true, true, false, false, false, false, false, false, true, true, false, false, false] rfl rfl rfl rfl (two_of HT_.out (by kernel_rfl)) (by decide) (by decide) (fun K hK => ?_) (fun K hK => ?_)
            ·skip
             refine goes_ Try.func41 (by kernel_rfl) rfl #[.agg #[.int .i64 a1_0, .int .i64 a1_1]] (by rfl) rfl rfl (by (try simp only [List.map_toArray, List.map_cons, List.map_nil]); first | done | rfl | (simp only [List.length_drop, List.length_take]; rfl)) ?_
             with_reducible refine (impl_given.calls a1_0 a1_1 t182 t183 _ A4.out).mono ?_
             rintro e w15 ⟨rfl, hb⟩
             refine ⟨_, rfl, ?_⟩
             have n0_ := Aside0.mk (Kd.R_below (by (with_reducible repeat (first | apply Kd.R_alloc | apply Kd.R_drewN | apply Kd.R_drew)); exact HO181.out) hb)
             have n1_ := Aside0.mk (blk_below (g := gb176) (o := .cells #[.int .i64 a1_0, .int .i64 a1_1] 28 (0, 0)) (by (with_reducible repeat (first | refine blk_drewN ?_ _ | refine blk_drew ?_ | refine blk_alloc ?_ _)); exact BK176.out) hb)
             have n2_ := Aside0.mk (blk_below (g := gb177) (o := .cells #[.int .i64 0, .int .i64 0] 28 (0, 0)) (by (with_reducible repeat (first | refine blk_drewN ?_ _ | refine blk_drew ?_ | refine blk_alloc ?_ _)); exact BK177.out) hb)
             have n3_ := Aside0.mk (blk_below (g := gb178) (o := .cells #[.int .i64 0, .int .i64 0] 28 (0, 0)) (by (with_reducible repeat (first | refine blk_drewN ?_ _ | refine blk_drew ?_ | refine blk_alloc ?_ _)); exact BK178.out) hb)
             have n4_ := Aside0.mk (blk_below (g := gb190) (o := .cells #[.int .i64 0, .int .i64 0] 61 (0, 0)) (by (with_reducible repeat (first | refine blk_drewN ?_ _ | refine blk_drew ?_ | refine blk_alloc ?_ _)); exact BK190.out) hb)
             have n5_ := Aside0.mk (below_step (by repeat (first | (with_reducible first | exact HB.out | apply below_alloc | apply pw_below_drewN | apply below_drew1 | refine below_set ?_ GE176.out | refine below_set ?_ GE177.out | refine below_set ?_ GE178.out | refine below_set ?_ GE190.out) | exact HB.out)) hb)
             clear HO181
             clear BK176
             clear BK177
             clear BK178
             clear BK190
             clear HB
             have HO181 := n0_
             have BK176 := n1_
             have BK177 := n2_
             have BK178 := n3_
             have BK190 := n4_
             have HB := n5_
             clear n0_ n1_ n2_ n3_ n4_ n5_
             (try clear hb)
             (try clear hb2)
             (try clear hk)
             (try clear hi)
             refine hK.out _ _ ⟨(blk_cell BK176.out 0).trans rfl, (blk_cell BK176.out 1).trans rfl⟩ (fun hHeld => ?_)
             clear hK K
             refine norm_ (a' := ?_) ?_ ?_
             rotate_left
             ·show Act.put _ (some 13) _ = _
              simp only [Act.put, List.setIfInBounds_toArray, List.set_cons_zero, List.set_cons_succ, i64_w, i32_w]
              rfl
             exact norm_ (by first | (simp only [putAll, Act.put, List.setIfInBounds_toArray, List.set_cons_zero, List.set_cons_succ]; done) | (simp only [putAll, Act.put, List.setIfInBounds_toArray, List.set_cons_zero, List.set_cons_succ]; rfl)) (hJ1_3_10 (_, gb190) _ ⟨hHeld, (by (with_reducible repeat (first | apply Kd.R_alloc | apply Kd.R_drewN | apply Kd.R_drew)); exact HO181.out), (by (with_reducible repeat (first | refine blk_drewN ?_ _ | refine blk_drew ?_ | refine blk_alloc ?_ _)); exact BK176.out), (by (with_reducible repeat (first | refine blk_drewN ?_ _ | refine blk_drew ?_ | refine blk_alloc ?_ _)); exact BK177.out), (by (with_reducible repeat (first | refine blk_drewN ?_ _ | refine blk_drew ?_ | refine blk_alloc ?_ _)); exact BK178.out), (by (with_reducible repeat (first | refine blk_drewN ?_ _ | refine blk_drew ?_ | refine blk_alloc ?_ _)); exact BK190.out), GW190.out, GE190.out, NB176_190.out, NB190_176.out, NB177_190.out, NB190_177.out, NB178_190.out, NB190_178.out, (by repeat (first | (with_reducible first | exact HB.out | apply below_alloc | apply pw_below_drewN | apply below_drew1 | refine below_set ?_ GE176.out | refine below_set ?_ GE177.out | refine below_set ?_ GE178.out | refine below_set ?_ GE190.out) | exact HB.out))⟩)
            ·skip
             refine box_step ?hg (N := 7) ?hd (cs := #[.int .i64 0, .int .i64 0]) (t := 61) ?hr ?_; (case hd => rfl); (case hg => rfl); (case hr => first | (go_simp; done) | (go_simp; rfl))
             intro gb189 hg w15 hbox hb
             have n0_ := Aside0.mk (Kd.R_below (Kd.R_elderB (by (with_reducible repeat (first | apply Kd.R_alloc | apply Kd.R_drewN | apply Kd.R_drew)); exact HO181.out) gb189 (Nat.le_of_eq hg.symm)) hb)
             have n1_ := Aside0.mk (blk_below (g := gb176) (o := .cells #[.int .i64 a1_0, .int .i64 a1_1] 28 (0, 0)) (by (with_reducible repeat (first | refine blk_drewN ?_ _ | refine blk_drew ?_ | refine blk_alloc ?_ _)); exact BK176.out) hb)
             have n2_ := Aside0.mk (blk_below (g := gb177) (o := .cells #[.int .i64 0, .int .i64 0] 28 (0, 0)) (by (with_reducible repeat (first | refine blk_drewN ?_ _ | refine blk_drew ?_ | refine blk_alloc ?_ _)); exact BK177.out) hb)
             have n3_ := Aside0.mk (blk_below (g := gb178) (o := .cells #[.int .i64 0, .int .i64 0] 28 (0, 0)) (by (with_reducible repeat (first | refine blk_drewN ?_ _ | refine blk_drew ?_ | refine blk_alloc ?_ _)); exact BK178.out) hb)
             have n4_ := Aside0.mk (blk_below (g := gb190) (o := .cells #[.int .i64 0, .int .i64 0] 61 (0, 0)) (by (with_reducible repeat (first | refine blk_drewN ?_ _ | refine blk_drew ?_ | refine blk_alloc ?_ _)); exact BK190.out) hb)
             have n5_ := Aside0.mk (below_step (by repeat (first | (with_reducible first | exact HB.out | apply below_alloc | apply pw_below_drewN | apply below_drew1 | refine below_set ?_ GE176.out | refine below_set ?_ GE177.out | refine below_set ?_ GE178.out | refine below_set ?_ GE190.out) | exact HB.out)) hb)
             have n6_ := Aside0.mk (hbox)
             have n7_ := Aside0.mk ((by rw [hg]; exact (below_size (by repeat (first | (with_reducible first | exact HB.out | apply below_alloc | apply pw_below_drewN | apply below_drew1 | refine below_set ?_ GE176.out | refine below_set ?_ GE177.out | refine below_set ?_ GE178.out | refine below_set ?_ GE190.out) | exact HB.out))) : w.heap.size ≤ gb189))
             have n8_ := Aside0.mk ((by rw [hg]; exact (below_size (by repeat (first | (with_reducible first | exact HB.out | apply below_alloc | apply pw_below_drewN | apply below_drew1 | refine below_set ?_ GE176.out | refine below_set ?_ GE177.out | refine below_set ?_ GE178.out | refine below_set ?_ GE190.out) | exact HB.out))) : w.heap.size ≤ gb189))
             have n9_ := Aside0.mk ((by rw [hg]; exact Nat.ne_of_lt (blk_lt (g := gb176) (o := .cells #[.int .i64 a1_0, .int .i64 a1_1] 28 (0, 0)) (by (with_reducible repeat (first | refine blk_drewN ?_ _ | refine blk_drew ?_ | refine blk_alloc ?_ _)); exact BK176.out)) : gb176 ≠ gb189))
             have n10_ := Aside0.mk ((by rw [hg]; exact Nat.ne_of_gt (blk_lt (g := gb176) (o := .cells #[.int .i64 a1_0, .int .i64 a1_1] 28 (0, 0)) (by (with_reducible repeat (first | refine blk_drewN ?_ _ | refine blk_drew ?_ | refine blk_alloc ?_ _)); exact BK176.out)) : gb189 ≠ gb176))
             have n11_ := Aside0.mk ((by rw [hg]; exact Nat.ne_of_lt (blk_lt (g := gb177) (o := .cells #[.int .i64 0, .int .i64 0] 28 (0, 0)) (by (with_reducible repeat (first | refine blk_drewN ?_ _ | refine blk_drew ?_ | refine blk_alloc ?_ _)); exact BK177.out)) : gb177 ≠ gb189))
             have n12_ := Aside0.mk ((by rw [hg]; exact Nat.ne_of_gt (blk_lt (g := gb177) (o := .cells #[.int .i64 0, .int .i64 0] 28 (0, 0)) (by (with_reducible repeat (first | refine blk_drewN ?_ _ | refine blk_drew ?_ | refine blk_alloc ?_ _)); exact BK177.out)) : gb189 ≠ gb177))
             have n13_ := Aside0.mk ((by rw [hg]; exact Nat.ne_of_lt (blk_lt (g := gb178) (o := .cells #[.int .i64 0, .int .i64 0] 28 (0, 0)) (by (with_reducible repeat (first | refine blk_drewN ?_ _ | refine blk_drew ?_ | refine blk_alloc ?_ _)); exact BK178.out)) : gb178 ≠ gb189))
             have n14_ := Aside0.mk ((by rw [hg]; exact Nat.ne_of_gt (blk_lt (g := gb178) (o := .cells #[.int .i64 0, .int .i64 0] 28 (0, 0)) (by (with_reducible repeat (first | refine blk_drewN ?_ _ | refine blk_drew ?_ | refine blk_alloc ?_ _)); exact BK178.out)) : gb189 ≠ gb178))
             have n15_ := Aside0.mk ((by rw [hg]; exact Nat.ne_of_lt (blk_lt (g := gb190) (o := .cells #[.int .i64 0, .int .i64 0] 61 (0, 0)) (by (with_reducible repeat (first | refine blk_drewN ?_ _ | refine blk_drew ?_ | refine blk_alloc ?_ _)); exact BK190.out)) : gb190 ≠ gb189))
             have n16_ := Aside0.mk ((by rw [hg]; exact Nat.ne_of_gt (blk_lt (g := gb190) (o := .cells #[.int .i64 0, .int .i64 0] 61 (0, 0)) (by (with_reducible repeat (first | refine blk_drewN ?_ _ | refine blk_drew ?_ | refine blk_alloc ?_ _)); exact BK190.out)) : gb189 ≠ gb190))
             clear HO181
             clear BK176
             clear BK177
             clear BK178
             clear BK190
             clear HB
             have HO181 := n0_
             have BK176 := n1_
             have BK177 := n2_
             have BK178 := n3_
             have BK190 := n4_
             have HB := n5_
             have BK189 := n6_
             have GW189 := n7_
             have GE189 := n8_
             have NB176_189 := n9_
             have NB189_176 := n10_
             have NB177_189 := n11_
             have NB189_177 := n12_
             have NB178_189 := n13_
             have NB189_178 := n14_
             have NB190_189 := n15_
             have NB189_190 := n16_
             clear n0_ n1_ n2_ n3_ n4_ n5_ n6_ n7_ n8_ n9_ n10_ n11_ n12_ n13_ n14_ n15_ n16_
             clear hb hbox hg
             refine hK.out _ _ ⟨(blk_cell BK176.out 0).trans rfl, (blk_cell BK176.out 1).trans rfl⟩ (fun hHeld => ?_)
             clear hK K
             refine norm_ (a' := ?_) ?_ ?_
             rotate_left
             ·show Act.put _ (some 7) _ = _
              simp only [Act.put, List.setIfInBounds_toArray, List.set_cons_zero, List.set_cons_succ, i64_w, i32_w]
              rfl
             exact norm_ (by first | (simp only [putAll, Act.put, List.setIfInBounds_toArray, List.set_cons_zero, List.set_cons_succ]; done) | (simp only [putAll, Act.put, List.setIfInBounds_toArray, List.set_cons_zero, List.set_cons_succ]; rfl)) (hJ1_9_10 (_, gb189, gb190) _ ⟨hHeld, (by (with_reducible repeat (first | apply Kd.R_alloc | apply Kd.R_drewN | apply Kd.R_drew)); exact Kd.R_mono HO181.out (fun _ hk => ⟨hk.2, hk.1⟩)), (by (with_reducible repeat (first | refine blk_drewN ?_ _ | refine blk_drew ?_ | refine blk_alloc ?_ _)); exact BK176.out), (by (with_reducible repeat (first | refine blk_drewN ?_ _ | refine blk_drew ?_ | refine blk_alloc ?_ _)); exact BK177.out), (by (with_reducible repeat (first | refine blk_drewN ?_ _ | refine blk_drew ?_ | refine blk_alloc ?_ _)); exact BK178.out), (by (with_reducible repeat (first | refine blk_drewN ?_ _ | refine blk_drew ?_ | refine blk_alloc ?_ _)); exact BK189.out), (by (with_reducible repeat (first | refine blk_drewN ?_ _ | refine blk_drew ?_ | refine blk_alloc ?_ _)); exact BK190.out), GW189.out, GE189.out, NB176_189.out, NB189_176.out, NB177_189.out, NB189_177.out, NB178_189.out, NB189_178.out, NB190_189.out, NB189_190.out, GW190.out, GE190.out, NB176_190.out, NB190_176.out, NB177_190.out, NB190_177.out, NB178_190.out, NB190_178.out, (by repeat (first | (with_reducible first | exact HB.out | apply below_alloc | apply pw_below_drewN | apply below_drew1 | refine below_set ?_ GE176.out | refine below_set ?_ GE177.out | refine below_set ?_ GE178.out | refine below_set ?_ GE190.out | refine below_set ?_ GE189.out) | exact HB.out))⟩)
          ·skip
           rintro ⟨v180, gb189⟩ w14 ⟨hS_, h0_, h1_, h2_, h3_, h4_, h5_, h6_, h7_, h8_, h9_, h10_, h11_, h12_, h13_⟩
           have n0_ : Aside0 (Kd.R k61 61 w14 w.heap.size (fun k_ => k_ ≠ gb189) v180 t179) := ⟨h0_⟩
           have n1_ : Aside0 (w14.heap[gb176]? = some (.cells #[.int .i64 a1_0, .int .i64 a1_1] 28 (0, 0))) := ⟨h1_⟩
           have n2_ : Aside0 (w14.heap[gb177]? = some (.cells #[.int .i64 0, .int .i64 0] 28 (0, 0))) := ⟨h2_⟩
           have n3_ : Aside0 (w14.heap[gb178]? = some (.cells #[.int .i64 0, .int .i64 0] 28 (0, 0))) := ⟨h3_⟩
           have n4_ : Aside0 (w14.heap[gb189]? = some (.cells #[.int .i64 0, .int .i64 0] 61 (0, 0))) := ⟨h4_⟩
           have n5_ : Aside0 (w.heap.size ≤ gb189) := ⟨h5_⟩
           have n6_ : Aside0 (w.heap.size ≤ gb189) := ⟨h6_⟩
           have n7_ : Aside0 (gb176 ≠ gb189) := ⟨h7_⟩
           have n8_ : Aside0 (gb189 ≠ gb176) := ⟨h8_⟩
           have n9_ : Aside0 (gb177 ≠ gb189) := ⟨h9_⟩
           have n10_ : Aside0 (gb189 ≠ gb177) := ⟨h10_⟩
           have n11_ : Aside0 (gb178 ≠ gb189) := ⟨h11_⟩
           have n12_ : Aside0 (gb189 ≠ gb178) := ⟨h12_⟩
           have n13_ : Aside0 (Below w.heap.size w w14) := ⟨h13_⟩
           clear BK176
           clear BK177
           clear BK178
           clear HB
           clear h0_ h1_ h2_ h3_ h4_ h5_ h6_ h7_ h8_ h9_ h10_ h11_ h12_ h13_
           have HO181 := n0_
           have BK176 := n1_
           have BK177 := n2_
           have BK178 := n3_
           have BK189 := n4_
           have GW189 := n5_
           have GE189 := n6_
           have NB176_189 := n7_
           have NB189_176 := n8_
           have NB177_189 := n9_
           have NB189_177 := n10_
           have NB178_189 := n11_
           have NB189_178 := n12_
           have HB := n13_
           clear n0_ n1_ n2_ n3_ n4_ n5_ n6_ n7_ n8_ n9_ n10_ n11_ n12_ n13_
           have hHeld : w14.cell? ⟨gb176, 0, none⟩ = some (.int .i64 a1_0) ∧ w14.cell? ⟨gb176, 1, none⟩ = some (.int .i64 a1_1) := hS_
           refine norm_ (a' := ?_) ?_ ?_
           rotate_left
           ·simp only [putAll, Act.put, List.setIfInBounds_toArray, List.set_cons_zero, List.set_cons_succ]
            rfl
           refine two_ (i := 3) (j := 10) (Ni := some 13) (Nj := some 8) #[true, true, true, true, false, false, false, false, false, true, false, false, false, false] #[true, true, true, false, false, false, false, false, false, true, true, false, false, false] rfl rfl rfl rfl (two_of HT_.out (by kernel_rfl)) (by decide) (by decide) (fun K hK => ?_) (fun K hK => ?_)
           ·skip
            refine goes_ Try.func41 (by kernel_rfl) rfl #[.agg #[.int .i64 a1_0, .int .i64 a1_1]] (by rfl) rfl rfl (by (try simp only [List.map_toArray, List.map_cons, List.map_nil]); first | done | rfl | (simp only [List.length_drop, List.length_take]; rfl)) ?_
            with_reducible refine (impl_given.calls a1_0 a1_1 t182 t183 _ A4.out).mono ?_
            rintro e w15 ⟨rfl, hb⟩
            refine ⟨_, rfl, ?_⟩
            have n0_ := Aside0.mk (Kd.R_below (by (with_reducible repeat (first | apply Kd.R_alloc | apply Kd.R_drewN | apply Kd.R_drew)); exact HO181.out) hb)
            have n1_ := Aside0.mk (blk_below (g := gb176) (o := .cells #[.int .i64 a1_0, .int .i64 a1_1] 28 (0, 0)) (by (with_reducible repeat (first | refine blk_drewN ?_ _ | refine blk_drew ?_ | refine blk_alloc ?_ _)); exact BK176.out) hb)
            have n2_ := Aside0.mk (blk_below (g := gb177) (o := .cells #[.int .i64 0, .int .i64 0] 28 (0, 0)) (by (with_reducible repeat (first | refine blk_drewN ?_ _ | refine blk_drew ?_ | refine blk_alloc ?_ _)); exact BK177.out) hb)
            have n3_ := Aside0.mk (blk_below (g := gb178) (o := .cells #[.int .i64 0, .int .i64 0] 28 (0, 0)) (by (with_reducible repeat (first | refine blk_drewN ?_ _ | refine blk_drew ?_ | refine blk_alloc ?_ _)); exact BK178.out) hb)
            have n4_ := Aside0.mk (blk_below (g := gb189) (o := .cells #[.int .i64 0, .int .i64 0] 61 (0, 0)) (by (with_reducible repeat (first | refine blk_drewN ?_ _ | refine blk_drew ?_ | refine blk_alloc ?_ _)); exact BK189.out) hb)
            have n5_ := Aside0.mk (below_step (by repeat (first | (with_reducible first | exact HB.out | apply below_alloc | apply pw_below_drewN | apply below_drew1 | refine below_set ?_ GE176.out | refine below_set ?_ GE177.out | refine below_set ?_ GE178.out | refine below_set ?_ GE189.out) | exact HB.out)) hb)
            clear HO181
            clear BK176
            clear BK177
            clear BK178
            clear BK189
            clear HB
            have HO181 := n0_
            have BK176 := n1_
            have BK177 := n2_
            have BK178 := n3_
            have BK189 := n4_
            have HB := n5_
            clear n0_ n1_ n2_ n3_ n4_ n5_
            (try clear hb)
            (try clear hb2)
            (try clear hk)
            (try clear hi)
            refine hK.out _ _ ⟨(blk_cell BK176.out 0).trans rfl, (blk_cell BK176.out 1).trans rfl⟩ (fun hHeld => ?_)
            clear hK K
            refine norm_ (a' := ?_) ?_ ?_
            rotate_left
            ·show Act.put _ (some 13) _ = _
             simp only [Act.put, List.setIfInBounds_toArray, List.set_cons_zero, List.set_cons_succ, i64_w, i32_w]
             rfl
            exact norm_ (by first | (simp only [putAll, Act.put, List.setIfInBounds_toArray, List.set_cons_zero, List.set_cons_succ]; done) | (simp only [putAll, Act.put, List.setIfInBounds_toArray, List.set_cons_zero, List.set_cons_succ]; rfl)) (hJ1_3_9 (_, gb189) _ ⟨hHeld, (by (with_reducible repeat (first | apply Kd.R_alloc | apply Kd.R_drewN | apply Kd.R_drew)); exact HO181.out), (by (with_reducible repeat (first | refine blk_drewN ?_ _ | refine blk_drew ?_ | refine blk_alloc ?_ _)); exact BK176.out), (by (with_reducible repeat (first | refine blk_drewN ?_ _ | refine blk_drew ?_ | refine blk_alloc ?_ _)); exact BK177.out), (by (with_reducible repeat (first | refine blk_drewN ?_ _ | refine blk_drew ?_ | refine blk_alloc ?_ _)); exact BK178.out), (by (with_reducible repeat (first | refine blk_drewN ?_ _ | refine blk_drew ?_ | refine blk_alloc ?_ _)); exact BK189.out), GW189.out, GE189.out, NB176_189.out, NB189_176.out, NB177_189.out, NB189_177.out, NB178_189.out, NB189_178.out, (by repeat (first | (with_reducible first | exact HB.out | apply below_alloc | apply pw_below_drewN | apply below_drew1 | refine below_set ?_ GE176.out | refine below_set ?_ GE177.out | refine below_set ?_ GE178.out | refine below_set ?_ GE189.out) | exact HB.out))⟩)
           ·skip
            refine box_step ?hg (N := 8) ?hd (cs := #[.int .i64 0, .int .i64 0]) (t := 61) ?hr ?_; (case hd => rfl); (case hg => rfl); (case hr => first | (go_simp; done) | (go_simp; rfl))
            intro gb190 hg w15 hbox hb
            have n0_ := Aside0.mk (Kd.R_below (Kd.R_elderB (by (with_reducible repeat (first | apply Kd.R_alloc | apply Kd.R_drewN | apply Kd.R_drew)); exact HO181.out) gb190 (Nat.le_of_eq hg.symm)) hb)
            have n1_ := Aside0.mk (blk_below (g := gb176) (o := .cells #[.int .i64 a1_0, .int .i64 a1_1] 28 (0, 0)) (by (with_reducible repeat (first | refine blk_drewN ?_ _ | refine blk_drew ?_ | refine blk_alloc ?_ _)); exact BK176.out) hb)
            have n2_ := Aside0.mk (blk_below (g := gb177) (o := .cells #[.int .i64 0, .int .i64 0] 28 (0, 0)) (by (with_reducible repeat (first | refine blk_drewN ?_ _ | refine blk_drew ?_ | refine blk_alloc ?_ _)); exact BK177.out) hb)
            have n3_ := Aside0.mk (blk_below (g := gb178) (o := .cells #[.int .i64 0, .int .i64 0] 28 (0, 0)) (by (with_reducible repeat (first | refine blk_drewN ?_ _ | refine blk_drew ?_ | refine blk_alloc ?_ _)); exact BK178.out) hb)
            have n4_ := Aside0.mk (blk_below (g := gb189) (o := .cells #[.int .i64 0, .int .i64 0] 61 (0, 0)) (by (with_reducible repeat (first | refine blk_drewN ?_ _ | refine blk_drew ?_ | refine blk_alloc ?_ _)); exact BK189.out) hb)
            have n5_ := Aside0.mk (below_step (by repeat (first | (with_reducible first | exact HB.out | apply below_alloc | apply pw_below_drewN | apply below_drew1 | refine below_set ?_ GE176.out | refine below_set ?_ GE177.out | refine below_set ?_ GE178.out | refine below_set ?_ GE189.out) | exact HB.out)) hb)
            have n6_ := Aside0.mk (hbox)
            have n7_ := Aside0.mk ((by rw [hg]; exact (below_size (by repeat (first | (with_reducible first | exact HB.out | apply below_alloc | apply pw_below_drewN | apply below_drew1 | refine below_set ?_ GE176.out | refine below_set ?_ GE177.out | refine below_set ?_ GE178.out | refine below_set ?_ GE189.out) | exact HB.out))) : w.heap.size ≤ gb190))
            have n8_ := Aside0.mk ((by rw [hg]; exact (below_size (by repeat (first | (with_reducible first | exact HB.out | apply below_alloc | apply pw_below_drewN | apply below_drew1 | refine below_set ?_ GE176.out | refine below_set ?_ GE177.out | refine below_set ?_ GE178.out | refine below_set ?_ GE189.out) | exact HB.out))) : w.heap.size ≤ gb190))
            have n9_ := Aside0.mk ((by rw [hg]; exact Nat.ne_of_lt (blk_lt (g := gb176) (o := .cells #[.int .i64 a1_0, .int .i64 a1_1] 28 (0, 0)) (by (with_reducible repeat (first | refine blk_drewN ?_ _ | refine blk_drew ?_ | refine blk_alloc ?_ _)); exact BK176.out)) : gb176 ≠ gb190))
            have n10_ := Aside0.mk ((by rw [hg]; exact Nat.ne_of_gt (blk_lt (g := gb176) (o := .cells #[.int .i64 a1_0, .int .i64 a1_1] 28 (0, 0)) (by (with_reducible repeat (first | refine blk_drewN ?_ _ | refine blk_drew ?_ | refine blk_alloc ?_ _)); exact BK176.out)) : gb190 ≠ gb176))
            have n11_ := Aside0.mk ((by rw [hg]; exact Nat.ne_of_lt (blk_lt (g := gb177) (o := .cells #[.int .i64 0, .int .i64 0] 28 (0, 0)) (by (with_reducible repeat (first | refine blk_drewN ?_ _ | refine blk_drew ?_ | refine blk_alloc ?_ _)); exact BK177.out)) : gb177 ≠ gb190))
            have n12_ := Aside0.mk ((by rw [hg]; exact Nat.ne_of_gt (blk_lt (g := gb177) (o := .cells #[.int .i64 0, .int .i64 0] 28 (0, 0)) (by (with_reducible repeat (first | refine blk_drewN ?_ _ | refine blk_drew ?_ | refine blk_alloc ?_ _)); exact BK177.out)) : gb190 ≠ gb177))
            have n13_ := Aside0.mk ((by rw [hg]; exact Nat.ne_of_lt (blk_lt (g := gb178) (o := .cells #[.int .i64 0, .int .i64 0] 28 (0, 0)) (by (with_reducible repeat (first | refine blk_drewN ?_ _ | refine blk_drew ?_ | refine blk_alloc ?_ _)); exact BK178.out)) : gb178 ≠ gb190))
            have n14_ := Aside0.mk ((by rw [hg]; exact Nat.ne_of_gt (blk_lt (g := gb178) (o := .cells #[.int .i64 0, .int .i64 0] 28 (0, 0)) (by (with_reducible repeat (first | refine blk_drewN ?_ _ | refine blk_drew ?_ | refine blk_alloc ?_ _)); exact BK178.out)) : gb190 ≠ gb178))
            have n15_ := Aside0.mk ((by rw [hg]; exact Nat.ne_of_lt (blk_lt (g := gb189) (o := .cells #[.int .i64 0, .int .i64 0] 61 (0, 0)) (by (with_reducible repeat (first | refine blk_drewN ?_ _ | refine blk_drew ?_ | refine blk_alloc ?_ _)); exact BK189.out)) : gb189 ≠ gb190))
            have n16_ := Aside0.mk ((by rw [hg]; exact Nat.ne_of_gt (blk_lt (g := gb189) (o := .cells #[.int .i64 0, .int .i64 0] 61 (0, 0)) (by (with_reducible repeat (first | refine blk_drewN ?_ _ | refine blk_drew ?_ | refine blk_alloc ?_ _)); exact BK189.out)) : gb190 ≠ gb189))
            clear HO181
            clear BK176
            clear BK177
            clear BK178
            clear BK189
            clear HB
            have HO181 := n0_
            have BK176 := n1_
            have BK177 := n2_
            have BK178 := n3_
            have BK189 := n4_
            have HB := n5_
            have BK190 := n6_
            have GW190 := n7_
            have GE190 := n8_
            have NB176_190 := n9_
            have NB190_176 := n10_
            have NB177_190 := n11_
            have NB190_177 := n12_
            have NB178_190 := n13_
            have NB190_178 := n14_
            have NB189_190 := n15_
            have NB190_189 := n16_
            clear n0_ n1_ n2_ n3_ n4_ n5_ n6_ n7_ n8_ n9_ n10_ n11_ n12_ n13_ n14_ n15_ n16_
            clear hb hbox hg
            refine hK.out _ _ ⟨(blk_cell BK176.out 0).trans rfl, (blk_cell BK176.out 1).trans rfl⟩ (fun hHeld => ?_)
            clear hK K
            refine norm_ (a' := ?_) ?_ ?_
            rotate_left
            ·show Act.put _ (some 8) _ = _
             simp only [Act.put, List.setIfInBounds_toArray, List.set_cons_zero, List.set_cons_succ, i64_w, i32_w]
             rfl
            exact norm_ (by first | (simp only [putAll, Act.put, List.setIfInBounds_toArray, List.set_cons_zero, List.set_cons_succ]; done) | (simp only [putAll, Act.put, List.setIfInBounds_toArray, List.set_cons_zero, List.set_cons_succ]; rfl)) (hJ1_9_10 (_, gb189, gb190) _ ⟨hHeld, (by (with_reducible repeat (first | apply Kd.R_alloc | apply Kd.R_drewN | apply Kd.R_drew)); exact HO181.out), (by (with_reducible repeat (first | refine blk_drewN ?_ _ | refine blk_drew ?_ | refine blk_alloc ?_ _)); exact BK176.out), (by (with_reducible repeat (first | refine blk_drewN ?_ _ | refine blk_drew ?_ | refine blk_alloc ?_ _)); exact BK177.out), (by (with_reducible repeat (first | refine blk_drewN ?_ _ | refine blk_drew ?_ | refine blk_alloc ?_ _)); exact BK178.out), (by (with_reducible repeat (first | refine blk_drewN ?_ _ | refine blk_drew ?_ | refine blk_alloc ?_ _)); exact BK189.out), (by (with_reducible repeat (first | refine blk_drewN ?_ _ | refine blk_drew ?_ | refine blk_alloc ?_ _)); exact BK190.out), GW189.out, GE189.out, NB176_189.out, NB189_176.out, NB177_189.out, NB189_177.out, NB178_189.out, NB189_178.out, NB190_189.out, NB189_190.out, GW190.out, GE190.out, NB176_190.out, NB190_176.out, NB177_190.out, NB190_177.out, NB178_190.out, NB190_178.out, (by repeat (first | (with_reducible first | exact HB.out | apply below_alloc | apply pw_below_drewN | apply below_drew1 | refine below_set ?_ GE176.out | refine below_set ?_ GE177.out | refine below_set ?_ GE178.out | refine below_set ?_ GE189.out | refine below_set ?_ GE190.out) | exact HB.out))⟩)
         ·skip
          rintro v180 w14 ⟨hS_, h0_, h1_, h2_, h3_, h4_⟩
          have n0_ : Aside0 (Kd.R k61 61 w14 w.heap.size (fun _ => True) v180 t179) := ⟨h0_⟩
          have n1_ : Aside0 (w14.heap[gb176]? = some (.cells #[.int .i64 a1_0, .int .i64 a1_1] 28 (0, 0))) := ⟨h1_⟩
          have n2_ : Aside0 (w14.heap[gb177]? = some (.cells #[.int .i64 0, .int .i64 0] 28 (0, 0))) := ⟨h2_⟩
          have n3_ : Aside0 (w14.heap[gb178]? = some (.cells #[.int .i64 0, .int .i64 0] 28 (0, 0))) := ⟨h3_⟩
          have n4_ : Aside0 (Below w.heap.size w w14) := ⟨h4_⟩
          clear BK176
          clear BK177
          clear BK178
          clear HB
          clear h0_ h1_ h2_ h3_ h4_
          have HO181 := n0_
          have BK176 := n1_
          have BK177 := n2_
          have BK178 := n3_
          have HB := n4_
          clear n0_ n1_ n2_ n3_ n4_
          have hHeld : w14.cell? ⟨gb176, 0, none⟩ = some (.int .i64 a1_0) ∧ w14.cell? ⟨gb176, 1, none⟩ = some (.int .i64 a1_1) := hS_
          obtain ⟨Ao15, co15, eo15⟩ := Kd.R_slice HO181.out
          (first | subst eo15 | (injection eo15 with f1_ f2_ f3_; have f4_ := f1_.symm; have f5_ := f3_.symm; clear f1_ f2_ f3_; subst f4_; subst f5_))
          refine norm_ (a' := ?_) ?_ ?_
          rotate_left
          ·simp only [putAll, Act.put, List.setIfInBounds_toArray, List.set_cons_zero, List.set_cons_succ]
           rfl
          refine three_ (i := 4) (j := 9) (k := 10) (Ni := some 14) (Nj := some 7) (Nk := some 8) #[true, true, true, true, true, false, false, false, false, false, false, false, false, false] #[true, true, true, true, false, false, false, false, false, true, false, false, false, false] #[true, true, true, true, false, false, false, false, false, false, true, false, false, false] rfl rfl rfl rfl rfl rfl (three_of HT_.out (by kernel_rfl)) (by decide) (by decide) (by decide) (fun K hK => ?_) (fun K hK => ?_) (fun K hK => ?_)
          ·skip
           refine goes_ Try.func44 (by kernel_rfl) rfl #[.slice Ao15 t179.length co15, .agg #[.int .i64 t182, .int .i64 t183]] (by rfl) rfl rfl (by (try simp only [List.map_toArray, List.map_cons, List.map_nil]); first | done | rfl | (simp only [List.length_drop, List.length_take]; rfl)) ?_
           with_reducible refine (ranges_Ranges_Find.calls _ _ t179 t182 t183 t184 t185 t186 t187 t188 _ ?side1 ?side2 A5.out).mono ?_
           (case side1 => repeat (first | exact (Kd.R_reads' HO181.out).2.2 | (with_reducible refine Kd.C_alloc ?_ _) | (with_reducible refine Kd.C_drewN ?_ _) | (with_reducible refine Kd.C_drew ?_)))
           (case side2 => exact (Kd.R_reads' HO181.out).2.1)
           rintro e w16 ⟨rfl, hb⟩
           refine ⟨_, rfl, ?_⟩
           have n0_ := Aside0.mk (Kd.R_below (by (with_reducible repeat (first | apply Kd.R_alloc | apply Kd.R_drewN | apply Kd.R_drew)); exact HO181.out) hb)
           have n1_ := Aside0.mk (blk_below (g := gb176) (o := .cells #[.int .i64 a1_0, .int .i64 a1_1] 28 (0, 0)) (by (with_reducible repeat (first | refine blk_drewN ?_ _ | refine blk_drew ?_ | refine blk_alloc ?_ _)); exact BK176.out) hb)
           have n2_ := Aside0.mk (blk_below (g := gb177) (o := .cells #[.int .i64 0, .int .i64 0] 28 (0, 0)) (by (with_reducible repeat (first | refine blk_drewN ?_ _ | refine blk_drew ?_ | refine blk_alloc ?_ _)); exact BK177.out) hb)
           have n3_ := Aside0.mk (blk_below (g := gb178) (o := .cells #[.int .i64 0, .int .i64 0] 28 (0, 0)) (by (with_reducible repeat (first | refine blk_drewN ?_ _ | refine blk_drew ?_ | refine blk_alloc ?_ _)); exact BK178.out) hb)
           have n4_ := Aside0.mk (below_step (by repeat (first | (with_reducible first | exact HB.out | apply below_alloc | apply pw_below_drewN | apply below_drew1 | refine below_set ?_ GE176.out | refine below_set ?_ GE177.out | refine below_set ?_ GE178.out) | exact HB.out)) hb)
           clear HO181
           clear BK176
           clear BK177
           clear BK178
           clear HB
           have HO181 := n0_
           have BK176 := n1_
           have BK177 := n2_
           have BK178 := n3_
           have HB := n4_
           clear n0_ n1_ n2_ n3_ n4_
           (try clear hb)
           (try clear hb2)
           (try clear hk)
           (try clear hi)
           refine hK.out _ _ ⟨(blk_cell BK176.out 0).trans rfl, (blk_cell BK176.out 1).trans rfl⟩ (fun hHeld => ?_)
           clear hK K
           refine norm_ (a' := ?_) ?_ ?_
           rotate_left
           ·show Act.put _ (some 14) _ = _
            simp only [Act.put, List.setIfInBounds_toArray, List.set_cons_zero, List.set_cons_succ, i64_w, i32_w]
            rfl
           refine pure_ (i := 5) (N := some 9) (v := ?_) (a' := ?_) #[true, true, true, true, true, true, false, false, false, false, false, false, false, false] rfl rfl (any_of HT_.out (by kernel_rfl)) (fun _ _ _ h => h) (Or.inl ⟨by rfl, ?_⟩) ?_ ?_
           rotate_left
           ·intro w'
            go_simp
            with_reducible rfl
           rotate_left
           ·simp only [Act.put, List.setIfInBounds_toArray, List.set_cons_zero, List.set_cons_succ, i64_w, i32_w]
            rfl
           refine pure_ (i := 6) (N := some 15) (v := ?_) (a' := ?_) #[true, true, true, true, true, true, true, false, false, false, false, false, false, false] rfl rfl (any_of HT_.out (by kernel_rfl)) (fun _ _ _ h => h) (Or.inl ⟨by rfl, ?_⟩) ?_ ?_
           rotate_left
           ·intro w'
            go_simp
            with_reducible rfl
           rotate_left
           ·simp only [Act.put, List.setIfInBounds_toArray, List.set_cons_zero, List.set_cons_succ, i64_w, i32_w]
            rfl
           refine pure_ (i := 7) (N := some 16) (v := ?_) (a' := ?_) #[true, true, true, true, true, true, true, true, false, false, false, false, false, false] rfl rfl (any_of HT_.out (by kernel_rfl)) (fun _ _ _ h => h) (Or.inl ⟨by rfl, ?_⟩) ?_ ?_
           rotate_left
           ·intro w'
            go_simp
            with_reducible rfl
           rotate_left
           ·simp only [Act.put, List.setIfInBounds_toArray, List.set_cons_zero, List.set_cons_succ, i64_w, i32_w]
            rfl
           refine pure_ (i := 8) (N := some 17) (v := ?_) (a' := ?_) #[true, true, true, true, true, true, true, true, true, false, false, false, false, false] rfl rfl (any_of HT_.out (by kernel_rfl)) (fun _ _ _ h => h) (Or.inl ⟨by rfl, ?_⟩) ?_ ?_
           rotate_left
           ·intro w'
            go_simp
            with_reducible rfl
           rotate_left
           ·simp only [Act.put, List.setIfInBounds_toArray, List.set_cons_zero, List.set_cons_succ, i64_w, i32_w]
            rfl
           exact norm_ (by first | (simp only [putAll, Act.put, List.setIfInBounds_toArray, List.set_cons_zero, List.set_cons_succ]; done) | (simp only [putAll, Act.put, List.setIfInBounds_toArray, List.set_cons_zero, List.set_cons_succ]; rfl)) (hJ1_3_4 (.slice Ao15 t179.length co15) _ ⟨hHeld, (by (with_reducible repeat (first | apply Kd.R_alloc | apply Kd.R_drewN | apply Kd.R_drew)); exact HO181.out), (by (with_reducible repeat (first | refine blk_drewN ?_ _ | refine blk_drew ?_ | refine blk_alloc ?_ _)); exact BK176.out), (by (with_reducible repeat (first | refine blk_drewN ?_ _ | refine blk_drew ?_ | refine blk_alloc ?_ _)); exact BK177.out), (by (with_reducible repeat (first | refine blk_drewN ?_ _ | refine blk_drew ?_ | refine blk_alloc ?_ _)); exact BK178.out), (by repeat (first | (with_reducible first | exact HB.out | apply below_alloc | apply pw_below_drewN | apply below_drew1 | refine below_set ?_ GE176.out | refine below_set ?_ GE177.out | refine below_set ?_ GE178.out) | exact HB.out))⟩)
          ·skip
           refine box_step ?hg (N := 7) ?hd (cs := #[.int .i64 0, .int .i64 0]) (t := 61) ?hr ?_; (case hd => rfl); (case hg => rfl); (case hr => first | (go_simp; done) | (go_simp; rfl))
           intro gb189 hg w15 hbox hb
           have n0_ := Aside0.mk (Kd.R_below (Kd.R_elderB (by (with_reducible repeat (first | apply Kd.R_alloc | apply Kd.R_drewN | apply Kd.R_drew)); exact HO181.out) gb189 (Nat.le_of_eq hg.symm)) hb)
           have n1_ := Aside0.mk (blk_below (g := gb176) (o := .cells #[.int .i64 a1_0, .int .i64 a1_1] 28 (0, 0)) (by (with_reducible repeat (first | refine blk_drewN ?_ _ | refine blk_drew ?_ | refine blk_alloc ?_ _)); exact BK176.out) hb)
           have n2_ := Aside0.mk (blk_below (g := gb177) (o := .cells #[.int .i64 0, .int .i64 0] 28 (0, 0)) (by (with_reducible repeat (first | refine blk_drewN ?_ _ | refine blk_drew ?_ | refine blk_alloc ?_ _)); exact BK177.out) hb)
           have n3_ := Aside0.mk (blk_below (g := gb178) (o := .cells #[.int .i64 0, .int .i64 0] 28 (0, 0)) (by (with_reducible repeat (first | refine blk_drewN ?_ _ | refine blk_drew ?_ | refine blk_alloc ?_ _)); exact BK178.out) hb)
           have n4_ := Aside0.mk (below_step (by repeat (first | (with_reducible first | exact HB.out | apply below_alloc | apply pw_below_drewN | apply below_drew1 | refine below_set ?_ GE176.out | refine below_set ?_ GE177.out | refine below_set ?_ GE178.out) | exact HB.out)) hb)
           have n5_ := Aside0.mk (hbox)
           have n6_ := Aside0.mk ((by rw [hg]; exact (below_size (by repeat (first | (with_reducible first | exact HB.out | apply below_alloc | apply pw_below_drewN | apply below_drew1 | refine below_set ?_ GE176.out | refine below_set ?_ GE177.out | refine below_set ?_ GE178.out) | exact HB.out))) : w.heap.size ≤ gb189))
           have n7_ := Aside0.mk ((by rw [hg]; exact (below_size (by repeat (first | (with_reducible first | exact HB.out | apply below_alloc | apply pw_below_drewN | apply below_drew1 | refine below_set ?_ GE176.out | refine below_set ?_ GE177.out | refine below_set ?_ GE178.out) | exact HB.out))) : w.heap.size ≤ gb189))
           have n8_ := Aside0.mk ((by rw [hg]; exact Nat.ne_of_lt (blk_lt (g := gb176) (o := .cells #[.int .i64 a1_0, .int .i64 a1_1] 28 (0, 0)) (by (with_reducible repeat (first | refine blk_drewN ?_ _ | refine blk_drew ?_ | refine blk_alloc ?_ _)); exact BK176.out)) : gb176 ≠ gb189))
           have n9_ := Aside0.mk ((by rw [hg]; exact Nat.ne_of_gt (blk_lt (g := gb176) (o := .cells #[.int .i64 a1_0, .int .i64 a1_1] 28 (0, 0)) (by (with_reducible repeat (first | refine blk_drewN ?_ _ | refine blk_drew ?_ | refine blk_alloc ?_ _)); exact BK176.out)) : gb189 ≠ gb176))
           have n10_ := Aside0.mk ((by rw [hg]; exact Nat.ne_of_lt (blk_lt (g := gb177) (o := .cells #[.int .i64 0, .int .i64 0] 28 (0, 0)) (by (with_reducible repeat (first | refine blk_drewN ?_ _ | refine blk_drew ?_ | refine blk_alloc ?_ _)); exact BK177.out)) : gb177 ≠ gb189))
           have n11_ := Aside0.mk ((by rw [hg]; exact Nat.ne_of_gt (blk_lt (g := gb177) (o := .cells #[.int .i64 0, .int .i64 0] 28 (0, 0)) (by (with_reducible repeat (first | refine blk_drewN ?_ _ | refine blk_drew ?_ | refine blk_alloc ?_ _)); exact BK177.out)) : gb189 ≠ gb177))
           have n12_ := Aside0.mk ((by rw [hg]; exact Nat.ne_of_lt (blk_lt (g := gb178) (o := .cells #[.int .i64 0, .int .i64 0] 28 (0, 0)) (by (with_reducible repeat (first | refine blk_drewN ?_ _ | refine blk_drew ?_ | refine blk_alloc ?_ _)); exact BK178.out)) : gb178 ≠ gb189))
           have n13_ := Aside0.mk ((by rw [hg]; exact Nat.ne_of_gt (blk_lt (g := gb178) (o := .cells #[.int .i64 0, .int .i64 0] 28 (0, 0)) (by (with_reducible repeat (first | refine blk_drewN ?_ _ | refine blk_drew ?_ | refine blk_alloc ?_ _)); exact BK178.out)) : gb189 ≠ gb178))
           clear HO181
           clear BK176
           clear BK177
           clear BK178
           clear HB
           have HO181 := n0_
           have BK176 := n1_
           have BK177 := n2_
           have BK178 := n3_
           have HB := n4_
           have BK189 := n5_
           have GW189 := n6_
           have GE189 := n7_
           have NB176_189 := n8_
           have NB189_176 := n9_
           have NB177_189 := n10_
           have NB189_177 := n11_
           have NB178_189 := n12_
           have NB189_178 := n13_
           clear n0_ n1_ n2_ n3_ n4_ n5_ n6_ n7_ n8_ n9_ n10_ n11_ n12_ n13_
           clear hb hbox hg
           refine hK.out _ _ ⟨(blk_cell BK176.out 0).trans rfl, (blk_cell BK176.out 1).trans rfl⟩ (fun hHeld => ?_)
           clear hK K
           refine norm_ (a' := ?_) ?_ ?_
           rotate_left
           ·show Act.put _ (some 7) _ = _
            simp only [Act.put, List.setIfInBounds_toArray, List.set_cons_zero, List.set_cons_succ, i64_w, i32_w]
            rfl
           exact norm_ (by first | (simp only [putAll, Act.put, List.setIfInBounds_toArray, List.set_cons_zero, List.set_cons_succ]; done) | (simp only [putAll, Act.put, List.setIfInBounds_toArray, List.set_cons_zero, List.set_cons_succ]; rfl)) (hJ1_3_9 (_, gb189) _ ⟨hHeld, (by (with_reducible repeat (first | apply Kd.R_alloc | apply Kd.R_drewN | apply Kd.R_drew)); exact Kd.R_mono HO181.out (fun _ hk => hk.2)), (by (with_reducible repeat (first | refine blk_drewN ?_ _ | refine blk_drew ?_ | refine blk_alloc ?_ _)); exact BK176.out), (by (with_reducible repeat (first | refine blk_drewN ?_ _ | refine blk_drew ?_ | refine blk_alloc ?_ _)); exact BK177.out), (by (with_reducible repeat (first | refine blk_drewN ?_ _ | refine blk_drew ?_ | refine blk_alloc ?_ _)); exact BK178.out), (by (with_reducible repeat (first | refine blk_drewN ?_ _ | refine blk_drew ?_ | refine blk_alloc ?_ _)); exact BK189.out), GW189.out, GE189.out, NB176_189.out, NB189_176.out, NB177_189.out, NB189_177.out, NB178_189.out, NB189_178.out, (by repeat (first | (with_reducible first | exact HB.out | apply below_alloc | apply pw_below_drewN | apply below_drew1 | refine below_set ?_ GE176.out | refine below_set ?_ GE177.out | refine below_set ?_ GE178.out | refine below_set ?_ GE189.out) | exact HB.out))⟩)
          ·skip
           refine box_step ?hg (N := 8) ?hd (cs := #[.int .i64 0, .int .i64 0]) (t := 61) ?hr ?_; (case hd => rfl); (case hg => rfl); (case hr => first | (go_simp; done) | (go_simp; rfl))
           intro gb190 hg w15 hbox hb
           have n0_ := Aside0.mk (Kd.R_below (Kd.R_elderB (by (with_reducible repeat (first | apply Kd.R_alloc | apply Kd.R_drewN | apply Kd.R_drew)); exact HO181.out) gb190 (Nat.le_of_eq hg.symm)) hb)
           have n1_ := Aside0.mk (blk_below (g := gb176) (o := .cells #[.int .i64 a1_0, .int .i64 a1_1] 28 (0, 0)) (by (with_reducible repeat (first | refine blk_drewN ?_ _ | refine blk_drew ?_ | refine blk_alloc ?_ _)); exact BK176.out) hb)
           have n2_ := Aside0.mk (blk_below (g := gb177) (o := .cells #[.int .i64 0, .int .i64 0] 28 (0, 0)) (by (with_reducible repeat (first | refine blk_drewN ?_ _ | refine blk_drew ?_ | refine blk_alloc ?_ _)); exact BK177.out) hb)
           have n3_ := Aside0.mk (blk_below (g := gb178) (o := .cells #[.int .i64 0, .int .i64 0] 28 (0, 0)) (by (with_reducible repeat (first | refine blk_drewN ?_ _ | refine blk_drew ?_ | refine blk_alloc ?_ _)); exact BK178.out) hb)
           have n4_ := Aside0.mk (below_step (by repeat (first | (with_reducible first | exact HB.out | apply below_alloc | apply pw_below_drewN | apply below_drew1 | refine below_set ?_ GE176.out | refine below_set ?_ GE177.out | refine below_set ?_ GE178.out) | exact HB.out)) hb)
           have n5_ := Aside0.mk (hbox)
           have n6_ := Aside0.mk ((by rw [hg]; exact (below_size (by repeat (first | (with_reducible first | exact HB.out | apply below_alloc | apply pw_below_drewN | apply below_drew1 | refine below_set ?_ GE176.out | refine below_set ?_ GE177.out | refine below_set ?_ GE178.out) | exact HB.out))) : w.heap.size ≤ gb190))
           have n7_ := Aside0.mk ((by rw [hg]; exact (below_size (by repeat (first | (with_reducible first | exact HB.out | apply below_alloc | apply pw_below_drewN | apply below_drew1 | refine below_set ?_ GE176.out | refine below_set ?_ GE177.out | refine below_set ?_ GE178.out) | exact HB.out))) : w.heap.size ≤ gb190))
           have n8_ := Aside0.mk ((by rw [hg]; exact Nat.ne_of_lt (blk_lt (g := gb176) (o := .cells #[.int .i64 a1_0, .int .i64 a1_1] 28 (0, 0)) (by (with_reducible repeat (first | refine blk_drewN ?_ _ | refine blk_drew ?_ | refine blk_alloc ?_ _)); exact BK176.out)) : gb176 ≠ gb190))
           have n9_ := Aside0.mk ((by rw [hg]; exact Nat.ne_of_gt (blk_lt (g := gb176) (o := .cells #[.int .i64 a1_0, .int .i64 a1_1] 28 (0, 0)) (by (with_reducible repeat (first | refine blk_drewN ?_ _ | refine blk_drew ?_ | refine blk_alloc ?_ _)); exact BK176.out)) : gb190 ≠ gb176))
           have n10_ := Aside0.mk ((by rw [hg]; exact Nat.ne_of_lt (blk_lt (g := gb177) (o := .cells #[.int .i64 0, .int .i64 0] 28 (0, 0)) (by (with_reducible repeat (first | refine blk_drewN ?_ _ | refine blk_drew ?_ | refine blk_alloc ?_ _)); exact BK177.out)) : gb177 ≠ gb190))
           have n11_ := Aside0.mk ((by rw [hg]; exact Nat.ne_of_gt (blk_lt (g := gb177) (o := .cells #[.int .i64 0, .int .i64 0] 28 (0, 0)) (by (with_reducible repeat (first | refine blk_drewN ?_ _ | refine blk_drew ?_ | refine blk_alloc ?_ _)); exact BK177.out)) : gb190 ≠ gb177))
           have n12_ := Aside0.mk ((by rw [hg]; exact Nat.ne_of_lt (blk_lt (g := gb178) (o := .cells #[.int .i64 0, .int .i64 0] 28 (0, 0)) (by (with_reducible repeat (first | refine blk_drewN ?_ _ | refine blk_drew ?_ | refine blk_alloc ?_ _)); exact BK178.out)) : gb178 ≠ gb190))
           have n13_ := Aside0.mk ((by rw [hg]; exact Nat.ne_of_gt (blk_lt (g := gb178) (o := .cells #[.int .i64 0, .int .i64 0] 28 (0, 0)) (by (with_reducible repeat (first | refine blk_drewN ?_ _ | refine blk_drew ?_ | refine blk_alloc ?_ _)); exact BK178.out)) : gb190 ≠ gb178))
           clear HO181
           clear BK176
           clear BK177
           clear BK178
           clear HB
           have HO181 := n0_
           have BK176 := n1_
           have BK177 := n2_
           have BK178 := n3_
           have HB := n4_
           have BK190 := n5_
           have GW190 := n6_
           have GE190 := n7_
           have NB176_190 := n8_
           have NB190_176 := n9_
           have NB177_190 := n10_
           have NB190_177 := n11_
           have NB178_190 := n12_
           have NB190_178 := n13_
           clear n0_ n1_ n2_ n3_ n4_ n5_ n6_ n7_ n8_ n9_ n10_ n11_ n12_ n13_
           clear hb hbox hg
           refine hK.out _ _ ⟨(blk_cell BK176.out 0).trans rfl, (blk_cell BK176.out 1).trans rfl⟩ (fun hHeld => ?_)
           clear hK K
           refine norm_ (a' := ?_) ?_ ?_
           rotate_left
           ·show Act.put _ (some 8) _ = _
            simp only [Act.put, List.setIfInBounds_toArray, List.set_cons_zero, List.set_cons_succ, i64_w, i32_w]
            rfl
           exact norm_ (by first | (simp only [putAll, Act.put, List.setIfInBounds_toArray, List.set_cons_zero, List.set_cons_succ]; done) | (simp only [putAll, Act.put, List.setIfInBounds_toArray, List.set_cons_zero, List.set_cons_succ]; rfl)) (hJ1_3_10 (_, gb190) _ ⟨hHeld, (by (with_reducible repeat (first | apply Kd.R_alloc | apply Kd.R_drewN | apply Kd.R_drew)); exact Kd.R_mono HO181.out (fun _ hk => hk.2)), (by (with_reducible repeat (first | refine blk_drewN ?_ _ | refine blk_drew ?_ | refine blk_alloc ?_ _)); exact BK176.out), (by (with_reducible repeat (first | refine blk_drewN ?_ _ | refine blk_drew ?_ | refine blk_alloc ?_ _)); exact BK177.out), (by (with_reducible repeat (first | refine blk_drewN ?_ _ | refine blk_drew ?_ | refine blk_alloc ?_ _)); exact BK178.out), (by (with_reducible repeat (first | refine blk_drewN ?_ _ | refine blk_drew ?_ | refine blk_alloc ?_ _)); exact BK190.out), GW190.out, GE190.out, NB176_190.out, NB190_176.out, NB177_190.out, NB190_177.out, NB178_190.out, NB190_178.out, (by repeat (first | (with_reducible first | exact HB.out | apply below_alloc | apply pw_below_drewN | apply below_drew1 | refine below_set ?_ GE176.out | refine below_set ?_ GE177.out | refine below_set ?_ GE178.out | refine below_set ?_ GE190.out) | exact HB.out))⟩)
        ·skip
         rintro ⟨v180, gb189, gb190⟩ w15 ⟨hS_, h0_, h1_, h2_, h3_, h4_, h5_, h6_, h7_, h8_, h9_, h10_, h11_, h12_, h13_, h14_, h15_, h16_, h17_, h18_, h19_, h20_, h21_, h22_, h23_, h24_⟩
         have n0_ : Aside0 (Kd.R k61 61 w15 w.heap.size (fun k_ => k_ ≠ gb189 ∧ k_ ≠ gb190) v180 t179) := ⟨h0_⟩
         have n1_ : Aside0 (w15.heap[gb176]? = some (.cells #[.int .i64 a1_0, .int .i64 a1_1] 28 (0, 0))) := ⟨h1_⟩
         have n2_ : Aside0 (w15.heap[gb177]? = some (.cells #[.int .i64 0, .int .i64 0] 28 (0, 0))) := ⟨h2_⟩
         have n3_ : Aside0 (w15.heap[gb178]? = some (.cells #[.int .i64 0, .int .i64 0] 28 (0, 0))) := ⟨h3_⟩
         have n4_ : Aside0 (w15.heap[gb189]? = some (.cells #[.int .i64 0, .int .i64 0] 61 (0, 0))) := ⟨h4_⟩
         have n5_ : Aside0 (w15.heap[gb190]? = some (.cells #[.int .i64 0, .int .i64 0] 61 (0, 0))) := ⟨h5_⟩
         have n6_ : Aside0 (w.heap.size ≤ gb189) := ⟨h6_⟩
         have n7_ : Aside0 (w.heap.size ≤ gb189) := ⟨h7_⟩
         have n8_ : Aside0 (gb176 ≠ gb189) := ⟨h8_⟩
         have n9_ : Aside0 (gb189 ≠ gb176) := ⟨h9_⟩
         have n10_ : Aside0 (gb177 ≠ gb189) := ⟨h10_⟩
         have n11_ : Aside0 (gb189 ≠ gb177) := ⟨h11_⟩
         have n12_ : Aside0 (gb178 ≠ gb189) := ⟨h12_⟩
         have n13_ : Aside0 (gb189 ≠ gb178) := ⟨h13_⟩
         have n14_ : Aside0 (gb190 ≠ gb189) := ⟨h14_⟩
         have n15_ : Aside0 (gb189 ≠ gb190) := ⟨h15_⟩
         have n16_ : Aside0 (w.heap.size ≤ gb190) := ⟨h16_⟩
         have n17_ : Aside0 (w.heap.size ≤ gb190) := ⟨h17_⟩
         have n18_ : Aside0 (gb176 ≠ gb190) := ⟨h18_⟩
         have n19_ : Aside0 (gb190 ≠ gb176) := ⟨h19_⟩
         have n20_ : Aside0 (gb177 ≠ gb190) := ⟨h20_⟩
         have n21_ : Aside0 (gb190 ≠ gb177) := ⟨h21_⟩
         have n22_ : Aside0 (gb178 ≠ gb190) := ⟨h22_⟩
         have n23_ : Aside0 (gb190 ≠ gb178) := ⟨h23_⟩
         have n24_ : Aside0 (Below w.heap.size w w15) := ⟨h24_⟩
         clear BK176
         clear BK177
         clear BK178
         clear HB
         clear h0_ h1_ h2_ h3_ h4_ h5_ h6_ h7_ h8_ h9_ h10_ h11_ h12_ h13_ h14_ h15_ h16_ h17_ h18_ h19_ h20_ h21_ h22_ h23_ h24_
         have HO181 := n0_
         have BK176 := n1_
         have BK177 := n2_
         have BK178 := n3_
         have BK189 := n4_
         have BK190 := n5_
         have GW189 := n6_
         have GE189 := n7_
         have NB176_189 := n8_
         have NB189_176 := n9_
         have NB177_189 := n10_
         have NB189_177 := n11_
         have NB178_189 := n12_
         have NB189_178 := n13_
         have NB190_189 := n14_
         have NB189_190 := n15_
         have GW190 := n16_
         have GE190 := n17_
         have NB176_190 := n18_
         have NB190_176 := n19_
         have NB177_190 := n20_
         have NB190_177 := n21_
         have NB178_190 := n22_
         have NB190_178 := n23_
         have HB := n24_
         clear n0_ n1_ n2_ n3_ n4_ n5_ n6_ n7_ n8_ n9_ n10_ n11_ n12_ n13_ n14_ n15_ n16_ n17_ n18_ n19_ n20_ n21_ n22_ n23_ n24_
         have hHeld : w15.cell? ⟨gb176, 0, none⟩ = some (.int .i64 a1_0) ∧ w15.cell? ⟨gb176, 1, none⟩ = some (.int .i64 a1_1) := hS_
         refine norm_ (a' := ?_) ?_ ?_
         rotate_left
         ·simp only [putAll, Act.put, List.setIfInBounds_toArray, List.set_cons_zero, List.set_cons_succ]
          rfl
         refine one_ (i := 3) (N := some 13) #[true, true, true, true, false, false, false, false, false, true, true, false, false, false] rfl rfl (one_of HT_.out (by kernel_rfl)) (by decide) (fun K hK => ?_)
         refine goes_ Try.func41 (by kernel_rfl) rfl #[.agg #[.int .i64 a1_0, .int .i64 a1_1]] (by rfl) rfl rfl (by (try simp only [List.map_toArray, List.map_cons, List.map_nil]); first | done | rfl | (simp only [List.length_drop, List.length_take]; rfl)) ?_
         with_reducible refine (impl_given.calls a1_0 a1_1 t182 t183 _ A4.out).mono ?_
         rintro e w16 ⟨rfl, hb⟩
         refine ⟨_, rfl, ?_⟩
         have n0_ := Aside0.mk (Kd.R_below (by (with_reducible repeat (first | apply Kd.R_alloc | apply Kd.R_drewN | apply Kd.R_drew)); exact HO181.out) hb)
         have n1_ := Aside0.mk (blk_below (g := gb176) (o := .cells #[.int .i64 a1_0, .int .i64 a1_1] 28 (0, 0)) (by (with_reducible repeat (first | refine blk_drewN ?_ _ | refine blk_drew ?_ | refine blk_alloc ?_ _)); exact BK176.out) hb)
         have n2_ := Aside0.mk (blk_below (g := gb177) (o := .cells #[.int .i64 0, .int .i64 0] 28 (0, 0)) (by (with_reducible repeat (first | refine blk_drewN ?_ _ | refine blk_drew ?_ | refine blk_alloc ?_ _)); exact BK177.out) hb)
         have n3_ := Aside0.mk (blk_below (g := gb178) (o := .cells #[.int .i64 0, .int .i64 0] 28 (0, 0)) (by (with_reducible repeat (first | refine blk_drewN ?_ _ | refine blk_drew ?_ | refine blk_alloc ?_ _)); exact BK178.out) hb)
         have n4_ := Aside0.mk (blk_below (g := gb189) (o := .cells #[.int .i64 0, .int .i64 0] 61 (0, 0)) (by (with_reducible repeat (first | refine blk_drewN ?_ _ | refine blk_drew ?_ | refine blk_alloc ?_ _)); exact BK189.out) hb)
         have n5_ := Aside0.mk (blk_below (g := gb190) (o := .cells #[.int .i64 0, .int .i64 0] 61 (0, 0)) (by (with_reducible repeat (first | refine blk_drewN ?_ _ | refine blk_drew ?_ | refine blk_alloc ?_ _)); exact BK190.out) hb)
         have n6_ := Aside0.mk (below_step (by repeat (first | (with_reducible first | exact HB.out | apply below_alloc | apply pw_below_drewN | apply below_drew1 | refine below_set ?_ GE176.out | refine below_set ?_ GE177.out | refine below_set ?_ GE178.out | refine below_set ?_ GE189.out | refine below_set ?_ GE190.out) | exact HB.out)) hb)
         clear HO181
         clear BK176
         clear BK177
         clear BK178
         clear BK189
         clear BK190
         clear HB
         have HO181 := n0_
         have BK176 := n1_
         have BK177 := n2_
         have BK178 := n3_
         have BK189 := n4_
         have BK190 := n5_
         have HB := n6_
         clear n0_ n1_ n2_ n3_ n4_ n5_ n6_
         (try clear hb)
         (try clear hb2)
         (try clear hk)
         (try clear hi)
         refine hK.out _ _ ⟨(blk_cell BK176.out 0).trans rfl, (blk_cell BK176.out 1).trans rfl⟩ (fun hHeld => ?_)
         clear hK K
         refine norm_ (a' := ?_) ?_ ?_
         rotate_left
         ·show Act.put _ (some 13) _ = _
          simp only [Act.put, List.setIfInBounds_toArray, List.set_cons_zero, List.set_cons_succ, i64_w, i32_w]
          rfl
         exact norm_ (by first | (simp only [putAll, Act.put, List.setIfInBounds_toArray, List.set_cons_zero, List.set_cons_succ]; done) | (simp only [putAll, Act.put, List.setIfInBounds_toArray, List.set_cons_zero, List.set_cons_succ]; rfl)) (hJ1_3_9_10 (_, gb189, gb190) _ ⟨hHeld, (by (with_reducible repeat (first | apply Kd.R_alloc | apply Kd.R_drewN | apply Kd.R_drew)); exact HO181.out), (by (with_reducible repeat (first | refine blk_drewN ?_ _ | refine blk_drew ?_ | refine blk_alloc ?_ _)); exact BK176.out), (by (with_reducible repeat (first | refine blk_drewN ?_ _ | refine blk_drew ?_ | refine blk_alloc ?_ _)); exact BK177.out), (by (with_reducible repeat (first | refine blk_drewN ?_ _ | refine blk_drew ?_ | refine blk_alloc ?_ _)); exact BK178.out), (by (with_reducible repeat (first | refine blk_drewN ?_ _ | refine blk_drew ?_ | refine blk_alloc ?_ _)); exact BK189.out), (by (with_reducible repeat (first | refine blk_drewN ?_ _ | refine blk_drew ?_ | refine blk_alloc ?_ _)); exact BK190.out), GW189.out, GE189.out, NB176_189.out, NB189_176.out, NB177_189.out, NB189_177.out, NB178_189.out, NB189_178.out, NB190_189.out, NB189_190.out, GW190.out, GE190.out, NB176_190.out, NB190_176.out, NB177_190.out, NB190_177.out, NB178_190.out, NB190_178.out, (by repeat (first | (with_reducible first | exact HB.out | apply below_alloc | apply pw_below_drewN | apply below_drew1 | refine below_set ?_ GE176.out | refine below_set ?_ GE177.out | refine below_set ?_ GE178.out | refine below_set ?_ GE189.out | refine below_set ?_ GE190.out) | exact HB.out))⟩)
       ·skip
        rintro ⟨v180, gb190⟩ w15 ⟨hS_, h0_, h1_, h2_, h3_, h4_, h5_, h6_, h7_, h8_, h9_, h10_, h11_, h12_, h13_⟩
        have n0_ : Aside0 (Kd.R k61 61 w15 w.heap.size (fun k_ => k_ ≠ gb190) v180 t179) := ⟨h0_⟩
        have n1_ : Aside0 (w15.heap[gb176]? = some (.cells #[.int .i64 a1_0, .int .i64 a1_1] 28 (0, 0))) := ⟨h1_⟩
        have n2_ : Aside0 (w15.heap[gb177]? = some (.cells #[.int .i64 0, .int .i64 0] 28 (0, 0))) := ⟨h2_⟩
        have n3_ : Aside0 (w15.heap[gb178]? = some (.cells #[.int .i64 0, .int .i64 0] 28 (0, 0))) := ⟨h3_⟩
        have n4_ : Aside0 (w15.heap[gb190]? = some (.cells #[.int .i64 0, .int .i64 0] 61 (0, 0))) := ⟨h4_⟩
        have n5_ : Aside0 (w.heap.size ≤ gb190) := ⟨h5_⟩
        have n6_ : Aside0 (w.heap.size ≤ gb190) := ⟨h6_⟩
        have n7_ : Aside0 (gb176 ≠ gb190) := ⟨h7_⟩
        have n8_ : Aside0 (gb190 ≠ gb176) := ⟨h8_⟩
        have n9_ : Aside0 (gb177 ≠ gb190) := ⟨h9_⟩
        have n10_ : Aside0 (gb190 ≠ gb177) := ⟨h10_⟩
        have n11_ : Aside0 (gb178 ≠ gb190) := ⟨h11_⟩
        have n12_ : Aside0 (gb190 ≠ gb178) := ⟨h12_⟩
        have n13_ : Aside0 (Below w.heap.size w w15) := ⟨h13_⟩
        clear BK176
        clear BK177
        clear BK178
        clear HB
        clear h0_ h1_ h2_ h3_ h4_ h5_ h6_ h7_ h8_ h9_ h10_ h11_ h12_ h13_
        have HO181 := n0_
        have BK176 := n1_
        have BK177 := n2_
        have BK178 := n3_
        have BK190 := n4_
        have GW190 := n5_
        have GE190 := n6_
        have NB176_190 := n7_
        have NB190_176 := n8_
        have NB177_190 := n9_
        have NB190_177 := n10_
        have NB178_190 := n11_
        have NB190_178 := n12_
        have HB := n13_
        clear n0_ n1_ n2_ n3_ n4_ n5_ n6_ n7_ n8_ n9_ n10_ n11_ n12_ n13_
        have hHeld : w15.cell? ⟨gb176, 0, none⟩ = some (.int .i64 a1_0) ∧ w15.cell? ⟨gb176, 1, none⟩ = some (.int .i64 a1_1) := hS_
        obtain ⟨Ao16, co16, eo16⟩ := Kd.R_slice HO181.out
        (first | subst eo16 | (injection eo16 with f1_ f2_ f3_; have f4_ := f1_.symm; have f5_ := f3_.symm; clear f1_ f2_ f3_; subst f4_; subst f5_))
        refine norm_ (a' := ?_) ?_ ?_
        rotate_left
        ·simp only [putAll, Act.put, List.setIfInBounds_toArray, List.set_cons_zero, List.set_cons_succ]
         rfl
        refine two_ (i := 4) (j := 9) (Ni := some 14) (Nj := some 7) #[true, true, true, true, true, false, false, false, false, false, true, false, false, false] #[true, true, true, true, false, false, false, false, false, true, true, false, false, false] rfl rfl rfl rfl (two_of HT_.out (by kernel_rfl)) (by decide) (by decide) (fun K hK => ?_) (fun K hK => ?_)
        ·skip
         refine goes_ Try.func44 (by kernel_rfl) rfl #[.slice Ao16 t179.length co16, .agg #[.int .i64 t182, .int .i64 t183]] (by rfl) rfl rfl (by (try simp only [List.map_toArray, List.map_cons, List.map_nil]); first | done | rfl | (simp only [List.length_drop, List.length_take]; rfl)) ?_
         with_reducible refine (ranges_Ranges_Find.calls _ _ t179 t182 t183 t184 t185 t186 t187 t188 _ ?side1 ?side2 A5.out).mono ?_
         (case side1 => repeat (first | exact (Kd.R_reads' HO181.out).2.2 | (with_reducible refine Kd.C_alloc ?_ _) | (with_reducible refine Kd.C_drewN ?_ _) | (with_reducible refine Kd.C_drew ?_)))
         (case side2 => exact (Kd.R_reads' HO181.out).2.1)
         rintro e w17 ⟨rfl, hb⟩
         refine ⟨_, rfl, ?_⟩
         have n0_ := Aside0.mk (Kd.R_below (by (with_reducible repeat (first | apply Kd.R_alloc | apply Kd.R_drewN | apply Kd.R_drew)); exact HO181.out) hb)
         have n1_ := Aside0.mk (blk_below (g := gb176) (o := .cells #[.int .i64 a1_0, .int .i64 a1_1] 28 (0, 0)) (by (with_reducible repeat (first | refine blk_drewN ?_ _ | refine blk_drew ?_ | refine blk_alloc ?_ _)); exact BK176.out) hb)
         have n2_ := Aside0.mk (blk_below (g := gb177) (o := .cells #[.int .i64 0, .int .i64 0] 28 (0, 0)) (by (with_reducible repeat (first | refine blk_drewN ?_ _ | refine blk_drew ?_ | refine blk_alloc ?_ _)); exact BK177.out) hb)
         have n3_ := Aside0.mk (blk_below (g := gb178) (o := .cells #[.int .i64 0, .int .i64 0] 28 (0, 0)) (by (with_reducible repeat (first | refine blk_drewN ?_ _ | refine blk_drew ?_ | refine blk_alloc ?_ _)); exact BK178.out) hb)
         have n4_ := Aside0.mk (blk_below (g := gb190) (o := .cells #[.int .i64 0, .int .i64 0] 61 (0, 0)) (by (with_reducible repeat (first | refine blk_drewN ?_ _ | refine blk_drew ?_ | refine blk_alloc ?_ _)); exact BK190.out) hb)
         have n5_ := Aside0.mk (below_step (by repeat (first | (with_reducible first | exact HB.out | apply below_alloc | apply pw_below_drewN | apply below_drew1 | refine below_set ?_ GE176.out | refine below_set ?_ GE177.out | refine below_set ?_ GE178.out | refine below_set ?_ GE190.out) | exact HB.out)) hb)
         clear HO181
         clear BK176
         clear BK177
         clear BK178
         clear BK190
         clear HB
         have HO181 := n0_
         have BK176 := n1_
         have BK177 := n2_
         have BK178 := n3_
         have BK190 := n4_
         have HB := n5_
         clear n0_ n1_ n2_ n3_ n4_ n5_
         (try clear hb)
         (try clear hb2)
         (try clear hk)
         (try clear hi)
         refine hK.out _ _ ⟨(blk_cell BK176.out 0).trans rfl, (blk_cell BK176.out 1).trans rfl⟩ (fun hHeld => ?_)
         clear hK K
         refine norm_ (a' := ?_) ?_ ?_
         rotate_left
         ·show Act.put _ (some 14) _ = _
          simp only [Act.put, List.setIfInBounds_toArray, List.set_cons_zero, List.set_cons_succ, i64_w, i32_w]
          rfl
         refine pure_ (i := 5) (N := some 9) (v := ?_) (a' := ?_) #[true, true, true, true, true, true, false, false, false, false, true, false, false, false] rfl rfl (any_of HT_.out (by kernel_rfl)) (fun _ _ _ h => h) (Or.inl ⟨by rfl, ?_⟩) ?_ ?_
         rotate_left
         ·intro w'
          go_simp
          with_reducible rfl
         rotate_left
         ·simp only [Act.put, List.setIfInBounds_toArray, List.set_cons_zero, List.set_cons_succ, i64_w, i32_w]
          rfl
         refine pure_ (i := 6) (N := some 15) (v := ?_) (a' := ?_) #[true, true, true, true, true, true, true, false, false, false, true, false, false, false] rfl rfl (any_of HT_.out (by kernel_rfl)) (fun _ _ _ h => h) (Or.inl ⟨by rfl, ?_⟩) ?_ ?_
         rotate_left
         ·intro w'
          go_simp
          with_reducible rfl
         rotate_left
         ·simp only [Act.put, List.setIfInBounds_toArray, List.set_cons_zero, List.set_cons_succ, i64_w, i32_w]
          rfl
         refine pure_ (i := 7) (N := some 16) (v := ?_) (a' := ?_) #[true, true, true, true, true, true, true, true, false, false, true, false, false, false] rfl rfl (any_of HT_.out (by kernel_rfl)) (fun _ _ _ h => h) (Or.inl ⟨by rfl, ?_⟩) ?_ ?_
         rotate_left
         ·intro w'
          go_simp
          with_reducible rfl
         rotate_left
         ·simp only [Act.put, List.setIfInBounds_toArray, List.set_cons_zero, List.set_cons_succ, i64_w, i32_w]
          rfl
         refine pure_ (i := 8) (N := some 17) (v := ?_) (a' := ?_) #[true, true, true, true, true, true, true, true, true, false, true, false, false, false] rfl rfl (any_of HT_.out (by kernel_rfl)) (fun _ _ _ h => h) (Or.inl ⟨by rfl, ?_⟩) ?_ ?_
         rotate_left
         ·intro w'
          go_simp
          with_reducible rfl
         rotate_left
         ·simp only [Act.put, List.setIfInBounds_toArray, List.set_cons_zero, List.set_cons_succ, i64_w, i32_w]
          rfl
         exact norm_ (by first | (simp only [putAll, Act.put, List.setIfInBounds_toArray, List.set_cons_zero, List.set_cons_succ]; done) | (simp only [putAll, Act.put, List.setIfInBounds_toArray, List.set_cons_zero, List.set_cons_succ]; rfl)) (hJ1_3_4_10 (.slice Ao16 t179.length co16, gb190) _ ⟨hHeld, (by (with_reducible repeat (first | apply Kd.R_alloc | apply Kd.R_drewN | apply Kd.R_drew)); exact HO181.out), (by (with_reducible repeat (first | refine blk_drewN ?_ _ | refine blk_drew ?_ | refine blk_alloc ?_ _)); exact BK176.out), (by (with_reducible repeat (first | refine blk_drewN ?_ _ | refine blk_drew ?_ | refine blk_alloc ?_ _)); exact BK177.out), (by (with_reducible repeat (first | refine blk_drewN ?_ _ | refine blk_drew ?_ | refine blk_alloc ?_ _)); exact BK178.out), (by (with_reducible repeat (first | refine blk_drewN ?_ _ | refine blk_drew ?_ | refine blk_alloc ?_ _)); exact BK190.out), GW190.out, GE190.out, NB176_190.out, NB190_176.out, NB177_190.out, NB190_177.out, NB178_190.out, NB190_178.out, (by repeat (first | (with_reducible first | exact HB.out | apply below_alloc | apply pw_below_drewN | apply below_drew1 | refine below_set ?_ GE176.out | refine below_set ?_ GE177.out | refine below_set ?_ GE178.out | refine below_set ?_ GE190.out) | exact HB.out))⟩)
        ·skip
         refine box_step ?hg (N := 7) ?hd (cs := #[.int .i64 0, .int .i64 0]) (t := 61) ?hr ?_; (case hd => rfl); (case hg => rfl); (case hr => first | (go_simp; done) | (go_simp; rfl))
         intro gb189 hg w16 hbox hb
         have n0_ := Aside0.mk (Kd.R_below (Kd.R_elderB (by (with_reducible repeat (first | apply Kd.R_alloc | apply Kd.R_drewN | apply Kd.R_drew)); exact HO181.out) gb189 (Nat.le_of_eq hg.symm)) hb)
         have n1_ := Aside0.mk (blk_below (g := gb176) (o := .cells #[.int .i64 a1_0, .int .i64 a1_1] 28 (0, 0)) (by (with_reducible repeat (first | refine blk_drewN ?_ _ | refine blk_drew ?_ | refine blk_alloc ?_ _)); exact BK176.out) hb)
         have n2_ := Aside0.mk (blk_below (g := gb177) (o := .cells #[.int .i64 0, .int .i64 0] 28 (0, 0)) (by (with_reducible repeat (first | refine blk_drewN ?_ _ | refine blk_drew ?_ | refine blk_alloc ?_ _)); exact BK177.out) hb)
         have n3_ := Aside0.mk (blk_below (g := gb178) (o := .cells #[.int .i64 0, .int .i64 0] 28 (0, 0)) (by (with_reducible repeat (first | refine blk_drewN ?_ _ | refine blk_drew ?_ | refine blk_alloc ?_ _)); exact BK178.out) hb)
         have n4_ := Aside0.mk (blk_below (g := gb190) (o := .cells #[.int .i64 0, .int .i64 0] 61 (0, 0)) (by (with_reducible repeat (first | refine blk_drewN ?_ _ | refine blk_drew ?_ | refine blk_alloc ?_ _)); exact BK190.out) hb)
         have n5_ := Aside0.mk (below_step (by repeat (first | (with_reducible first | exact HB.out | apply below_alloc | apply pw_below_drewN | apply below_drew1 | refine below_set ?_ GE176.out | refine below_set ?_ GE177.out | refine below_set ?_ GE178.out | refine below_set ?_ GE190.out) | exact HB.out)) hb)
         have n6_ := Aside0.mk (hbox)
         have n7_ := Aside0.mk ((by rw [hg]; exact (below_size (by repeat (first | (with_reducible first | exact HB.out | apply below_alloc | apply pw_below_drewN | apply below_drew1 | refine below_set ?_ GE176.out | refine below_set ?_ GE177.out | refine below_set ?_ GE178.out | refine below_set ?_ GE190.out) | exact HB.out))) : w.heap.size ≤ gb189))
         have n8_ := Aside0.mk ((by rw [hg]; exact (below_size (by repeat (first | (with_reducible first | exact HB.out | apply below_alloc | apply pw_below_drewN | apply below_drew1 | refine below_set ?_ GE176.out | refine below_set ?_ GE177.out | refine below_set ?_ GE178.out | refine below_set ?_ GE190.out) | exact HB.out))) : w.heap.size ≤ gb189))
         have n9_ := Aside0.mk ((by rw [hg]; exact Nat.ne_of_lt (blk_lt (g := gb176) (o := .cells #[.int .i64 a1_0, .int .i64 a1_1] 28 (0, 0)) (by (with_reducible repeat (first | refine blk_drewN ?_ _ | refine blk_drew ?_ | refine blk_alloc ?_ _)); exact BK176.out)) : gb176 ≠ gb189))
         have n10_ := Aside0.mk ((by rw [hg]; exact Nat.ne_of_gt (blk_lt (g := gb176) (o := .cells #[.int .i64 a1_0, .int .i64 a1_1] 28 (0, 0)) (by (with_reducible repeat (first | refine blk_drewN ?_ _ | refine blk_drew ?_ | refine blk_alloc ?_ _)); exact BK176.out)) : gb189 ≠ gb176))
         have n11_ := Aside0.mk ((by rw [hg]; exact Nat.ne_of_lt (blk_lt (g := gb177) (o := .cells #[.int .i64 0, .int .i64 0] 28 (0, 0)) (by (with_reducible repeat (first | refine blk_drewN ?_ _ | refine blk_drew ?_ | refine blk_alloc ?_ _)); exact BK177.out)) : gb177 ≠ gb189))
         have n12_ := Aside0.mk ((by rw [hg]; exact Nat.ne_of_gt (blk_lt (g := gb177) (o := .cells #[.int .i64 0, .int .i64 0] 28 (0, 0)) (by (with_reducible repeat (first | refine blk_drewN ?_ _ | refine blk_drew ?_ | refine blk_alloc ?_ _)); exact BK177.out)) : gb189 ≠ gb177))
         have n13_ := Aside0.mk ((by rw [hg]; exact Nat.ne_of_lt (blk_lt (g := gb178) (o := .cells #[.int .i64 0, .int .i64 0] 28 (0, 0)) (by (with_reducible repeat (first | refine blk_drewN ?_ _ | refine blk_drew ?_ | refine blk_alloc ?_ _)); exact BK178.out)) : gb178 ≠ gb189))
         have n14_ := Aside0.mk ((by rw [hg]; exact Nat.ne_of_gt (blk_lt (g := gb178) (o := .cells #[.int .i64 0, .int .i64 0] 28 (0, 0)) (by (with_reducible repeat (first | refine blk_drewN ?_ _ | refine blk_drew ?_ | refine blk_alloc ?_ _)); exact BK178.out)) : gb189 ≠ gb178))
         have n15_ := Aside0.mk ((by rw [hg]; exact Nat.ne_of_lt (blk_lt (g := gb190) (o := .cells #[.int .i64 0, .int .i64 0] 61 (0, 0)) (by (with_reducible repeat (first | refine blk_drewN ?_ _ | refine blk_drew ?_ | refine blk_alloc ?_ _)); exact BK190.out)) : gb190 ≠ gb189))
         have n16_ := Aside0.mk ((by rw [hg]; exact Nat.ne_of_gt (blk_lt (g := gb190) (o := .cells #[.int .i64 0, .int .i64 0] 61 (0, 0)) (by (with_reducible repeat (first | refine blk_drewN ?_ _ | refine blk_drew ?_ | refine blk_alloc ?_ _)); exact BK190.out)) : gb189 ≠ gb190))
         clear HO181
         clear BK176
         clear BK177
         clear BK178
         clear BK190
         clear HB
         have HO181 := n0_
         have BK176 := n1_
         have BK177 := n2_
         have BK178 := n3_
         have BK190 := n4_
         have HB := n5_
         have BK189 := n6_
         have GW189 := n7_
         have GE189 := n8_
         have NB176_189 := n9_
         have NB189_176 := n10_
         have NB177_189 := n11_
         have NB189_177 := n12_
         have NB178_189 := n13_
         have NB189_178 := n14_
         have NB190_189 := n15_
         have NB189_190 := n16_
         clear n0_ n1_ n2_ n3_ n4_ n5_ n6_ n7_ n8_ n9_ n10_ n11_ n12_ n13_ n14_ n15_ n16_
         clear hb hbox hg
         refine hK.out _ _ ⟨(blk_cell BK176.out 0).trans rfl, (blk_cell BK176.out 1).trans rfl⟩ (fun hHeld => ?_)
         clear hK K
         refine norm_ (a' := ?_) ?_ ?_
         rotate_left
         ·show Act.put _ (some 7) _ = _
          simp only [Act.put, List.setIfInBounds_toArray, List.set_cons_zero, List.set_cons_succ, i64_w, i32_w]
          rfl
         exact norm_ (by first | (simp only [putAll, Act.put, List.setIfInBounds_toArray, List.set_cons_zero, List.set_cons_succ]; done) | (simp only [putAll, Act.put, List.setIfInBounds_toArray, List.set_cons_zero, List.set_cons_succ]; rfl)) (hJ1_3_9_10 (_, gb189, gb190) _ ⟨hHeld, (by (with_reducible repeat (first | apply Kd.R_alloc | apply Kd.R_drewN | apply Kd.R_drew)); exact Kd.R_mono HO181.out (fun _ hk => ⟨hk.2, hk.1⟩)), (by (with_reducible repeat (first | refine blk_drewN ?_ _ | refine blk_drew ?_ | refine blk_alloc ?_ _)); exact BK176.out), (by (with_reducible repeat (first | refine blk_drewN ?_ _ | refine blk_drew ?_ | refine blk_alloc ?_ _)); exact BK177.out), (by (with_reducible repeat (first | refine blk_drewN ?_ _ | refine blk_drew ?_ | refine blk_alloc ?_ _)); exact BK178.out), (by (with_reducible repeat (first | refine blk_drewN ?_ _ | refine blk_drew ?_ | refine blk_alloc ?_ _)); exact BK189.out), (by (with_reducible repeat (first | refine blk_drewN ?_ _ | refine blk_drew ?_ | refine blk_alloc ?_ _)); exact BK190.out), GW189.out, GE189.out, NB176_189.out, NB189_176.out, NB177_189.out, NB189_177.out, NB178_189.out, NB189_178.out, NB190_189.out, NB189_190.out, GW190.out, GE190.out, NB176_190.out, NB190_176.out, NB177_190.out, NB190_177.out, NB178_190.out, NB190_178.out, (by repeat (first | (with_reducible first | exact HB.out | apply below_alloc | apply pw_below_drewN | apply below_drew1 | refine below_set ?_ GE176.out | refine below_set ?_ GE177.out | refine below_set ?_ GE178.out | refine below_set ?_ GE190.out | refine below_set ?_ GE189.out) | exact HB.out))⟩)
      ·skip
       rintro ⟨v180, gb189⟩ w15 ⟨hS_, h0_, h1_, h2_, h3_, h4_, h5_, h6_, h7_, h8_, h9_, h10_, h11_, h12_, h13_⟩
       have n0_ : Aside0 (Kd.R k61 61 w15 w.heap.size (fun k_ => k_ ≠ gb189) v180 t179) := ⟨h0_⟩
       have n1_ : Aside0 (w15.heap[gb176]? = some (.cells #[.int .i64 a1_0, .int .i64 a1_1] 28 (0, 0))) := ⟨h1_⟩
       have n2_ : Aside0 (w15.heap[gb177]? = some (.cells #[.int .i64 0, .int .i64 0] 28 (0, 0))) := ⟨h2_⟩
       have n3_ : Aside0 (w15.heap[gb178]? = some (.cells #[.int .i64 0, .int .i64 0] 28 (0, 0))) := ⟨h3_⟩
       have n4_ : Aside0 (w15.heap[gb189]? = some (.cells #[.int .i64 0, .int .i64 0] 61 (0, 0))) := ⟨h4_⟩
       have n5_ : Aside0 (w.heap.size ≤ gb189) := ⟨h5_⟩
       have n6_ : Aside0 (w.heap.size ≤ gb189) := ⟨h6_⟩
       have n7_ : Aside0 (gb176 ≠ gb189) := ⟨h7_⟩
       have n8_ : Aside0 (gb189 ≠ gb176) := ⟨h8_⟩
       have n9_ : Aside0 (gb177 ≠ gb189) := ⟨h9_⟩
       have n10_ : Aside0 (gb189 ≠ gb177) := ⟨h10_⟩
       have n11_ : Aside0 (gb178 ≠ gb189) := ⟨h11_⟩
       have n12_ : Aside0 (gb189 ≠ gb178) := ⟨h12_⟩
       have n13_ : Aside0 (Below w.heap.size w w15) := ⟨h13_⟩
       clear BK176
       clear BK177
       clear BK178
       clear HB
       clear h0_ h1_ h2_ h3_ h4_ h5_ h6_ h7_ h8_ h9_ h10_ h11_ h12_ h13_
       have HO181 := n0_
       have BK176 := n1_
       have BK177 := n2_
       have BK178 := n3_
       have BK189 := n4_
       have GW189 := n5_
       have GE189 := n6_
       have NB176_189 := n7_
       have NB189_176 := n8_
       have NB177_189 := n9_
       have NB189_177 := n10_
       have NB178_189 := n11_
       have NB189_178 := n12_
       have HB := n13_
       clear n0_ n1_ n2_ n3_ n4_ n5_ n6_ n7_ n8_ n9_ n10_ n11_ n12_ n13_
       have hHeld : w15.cell? ⟨gb176, 0, none⟩ = some (.int .i64 a1_0) ∧ w15.cell? ⟨gb176, 1, none⟩ = some (.int .i64 a1_1) := hS_
       obtain ⟨Ao16, co16, eo16⟩ := Kd.R_slice HO181.out
       (first | subst eo16 | (injection eo16 with f1_ f2_ f3_; have f4_ := f1_.symm; have f5_ := f3_.symm; clear f1_ f2_ f3_; subst f4_; subst f5_))
       refine norm_ (a' := ?_) ?_ ?_
       rotate_left
       ·simp only [putAll, Act.put, List.setIfInBounds_toArray, List.set_cons_zero, List.set_cons_succ]
        rfl
       refine two_ (i := 4) (j := 10) (Ni := some 14) (Nj := some 8) #[true, true, true, true, true, false, false, false, false, true, false, false, false, false] #[true, true, true, true, false, false, false, false, false, true, true, false, false, false] rfl rfl rfl rfl (two_of HT_.out (by kernel_rfl)) (by decide) (by decide) (fun K hK => ?_) (fun K hK => ?_)
       ·skip
        refine goes_ Try.func44 (by kernel_rfl) rfl #[.slice Ao16 t179.length co16, .agg #[.int .i64 t182, .int .i64 t183]] (by rfl) rfl rfl (by (try simp only [List.map_toArray, List.map_cons, List.map_nil]); first | done | rfl | (simp only [List.length_drop, List.length_take]; rfl)) ?_
        with_reducible refine (ranges_Ranges_Find.calls _ _ t179 t182 t183 t184 t185 t186 t187 t188 _ ?side1 ?side2 A5.out).mono ?_
        (case side1 => repeat (first | exact (Kd.R_reads' HO181.out).2.2 | (with_reducible refine Kd.C_alloc ?_ _) | (with_reducible refine Kd.C_drewN ?_ _) | (with_reducible refine Kd.C_drew ?_)))
        (case side2 => exact (Kd.R_reads' HO181.out).2.1)
        rintro e w17 ⟨rfl, hb⟩
        refine ⟨_, rfl, ?_⟩
        have n0_ := Aside0.mk (Kd.R_below (by (with_reducible repeat (first | apply Kd.R_alloc | apply Kd.R_drewN | apply Kd.R_drew)); exact HO181.out) hb)
        have n1_ := Aside0.mk (blk_below (g := gb176) (o := .cells #[.int .i64 a1_0, .int .i64 a1_1] 28 (0, 0)) (by (with_reducible repeat (first | refine blk_drewN ?_ _ | refine blk_drew ?_ | refine blk_alloc ?_ _)); exact BK176.out) hb)
        have n2_ := Aside0.mk (blk_below (g := gb177) (o := .cells #[.int .i64 0, .int .i64 0] 28 (0, 0)) (by (with_reducible repeat (first | refine blk_drewN ?_ _ | refine blk_drew ?_ | refine blk_alloc ?_ _)); exact BK177.out) hb)
        have n3_ := Aside0.mk (blk_below (g := gb178) (o := .cells #[.int .i64 0, .int .i64 0] 28 (0, 0)) (by (with_reducible repeat (first | refine blk_drewN ?_ _ | refine blk_drew ?_ | refine blk_alloc ?_ _)); exact BK178.out) hb)
        have n4_ := Aside0.mk (blk_below (g := gb189) (o := .cells #[.int .i64 0, .int .i64 0] 61 (0, 0)) (by (with_reducible repeat (first | refine blk_drewN ?_ _ | refine blk_drew ?_ | refine blk_alloc ?_ _)); exact BK189.out) hb)
        have n5_ := Aside0.mk (below_step (by repeat (first | (with_reducible first | exact HB.out | apply below_alloc | apply pw_below_drewN | apply below_drew1 | refine below_set ?_ GE176.out | refine below_set ?_ GE177.out | refine below_set ?_ GE178.out | refine below_set ?_ GE189.out) | exact HB.out)) hb)
        clear HO181
        clear BK176
        clear BK177
        clear BK178
        clear BK189
        clear HB
        have HO181 := n0_
        have BK176 := n1_
        have BK177 := n2_
        have BK178 := n3_
        have BK189 := n4_
        have HB := n5_
        clear n0_ n1_ n2_ n3_ n4_ n5_
        (try clear hb)
        (try clear hb2)
        (try clear hk)
        (try clear hi)
        refine hK.out _ _ ⟨(blk_cell BK176.out 0).trans rfl, (blk_cell BK176.out 1).trans rfl⟩ (fun hHeld => ?_)
        clear hK K
        refine norm_ (a' := ?_) ?_ ?_
        rotate_left
        ·show Act.put _ (some 14) _ = _
         simp only [Act.put, List.setIfInBounds_toArray, List.set_cons_zero, List.set_cons_succ, i64_w, i32_w]
         rfl
        refine pure_ (i := 5) (N := some 9) (v := ?_) (a' := ?_) #[true, true, true, true, true, true, false, false, false, true, false, false, false, false] rfl rfl (any_of HT_.out (by kernel_rfl)) (fun _ _ _ h => h) (Or.inl ⟨by rfl, ?_⟩) ?_ ?_
        rotate_left
        ·intro w'
         go_simp
         with_reducible rfl
        rotate_left
        ·simp only [Act.put, List.setIfInBounds_toArray, List.set_cons_zero, List.set_cons_succ, i64_w, i32_w]
         rfl
        refine pure_ (i := 6) (N := some 15) (v := ?_) (a' := ?_) #[true, true, true, true, true, true, true, false, false, true, false, false, false, false] rfl rfl (any_of HT_.out (by kernel_rfl)) (fun _ _ _ h => h) (Or.inl ⟨by rfl, ?_⟩) ?_ ?_
        rotate_left
        ·intro w'
         go_simp
         with_reducible rfl
        rotate_left
        ·simp only [Act.put, List.setIfInBounds_toArray, List.set_cons_zero, List.set_cons_succ, i64_w, i32_w]
         rfl
        refine pure_ (i := 7) (N := some 16) (v := ?_) (a' := ?_) #[true, true, true, true, true, true, true, true, false, true, false, false, false, false] rfl rfl (any_of HT_.out (by kernel_rfl)) (fun _ _ _ h => h) (Or.inl ⟨by rfl, ?_⟩) ?_ ?_
        rotate_left
        ·intro w'
         go_simp
         with_reducible rfl
        rotate_left
        ·simp only [Act.put, List.setIfInBounds_toArray, List.set_cons_zero, List.set_cons_succ, i64_w, i32_w]
         rfl
        refine pure_ (i := 8) (N := some 17) (v := ?_) (a' := ?_) #[true, true, true, true, true, true, true, true, true, true, false, false, false, false] rfl rfl (any_of HT_.out (by kernel_rfl)) (fun _ _ _ h => h) (Or.inl ⟨by rfl, ?_⟩) ?_ ?_
        rotate_left
        ·intro w'
         go_simp
         with_reducible rfl
        rotate_left
        ·simp only [Act.put, List.setIfInBounds_toArray, List.set_cons_zero, List.set_cons_succ, i64_w, i32_w]
         rfl
        exact norm_ (by first | (simp only [putAll, Act.put, List.setIfInBounds_toArray, List.set_cons_zero, List.set_cons_succ]; done) | (simp only [putAll, Act.put, List.setIfInBounds_toArray, List.set_cons_zero, List.set_cons_succ]; rfl)) (hJ1_3_4_9 (.slice Ao16 t179.length co16, gb189) _ ⟨hHeld, (by (with_reducible repeat (first | apply Kd.R_alloc | apply Kd.R_drewN | apply Kd.R_drew)); exact HO181.out), (by (with_reducible repeat (first | refine blk_drewN ?_ _ | refine blk_drew ?_ | refine blk_alloc ?_ _)); exact BK176.out), (by (with_reducible repeat (first | refine blk_drewN ?_ _ | refine blk_drew ?_ | refine blk_alloc ?_ _)); exact BK177.out), (by (with_reducible repeat (first | refine blk_drewN ?_ _ | refine blk_drew ?_ | refine blk_alloc ?_ _)); exact BK178.out), (by (with_reducible repeat (first | refine blk_drewN ?_ _ | refine blk_drew ?_ | refine blk_alloc ?_ _)); exact BK189.out), GW189.out, GE189.out, NB176_189.out, NB189_176.out, NB177_189.out, NB189_177.out, NB178_189.out, NB189_178.out, (by repeat (first | (with_reducible first | exact HB.out | apply below_alloc | apply pw_below_drewN | apply below_drew1 | refine below_set ?_ GE176.out | refine below_set ?_ GE177.out | refine below_set ?_ GE178.out | refine below_set ?_ GE189.out) | exact HB.out))⟩)
       ·skip
        refine box_step ?hg (N := 8) ?hd (cs := #[.int .i64 0, .int .i64 0]) (t := 61) ?hr ?_; (case hd => rfl); (case hg => rfl); (case hr => first | (go_simp; done) | (go_simp; rfl))
        intro gb190 hg w16 hbox hb
        have n0_ := Aside0.mk (Kd.R_below (Kd.R_elderB (by (with_reducible repeat (first | apply Kd.R_alloc | apply Kd.R_drewN | apply Kd.R_drew)); exact HO181.out) gb190 (Nat.le_of_eq hg.symm)) hb)
        have n1_ := Aside0.mk (blk_below (g := gb176) (o := .cells #[.int .i64 a1_0, .int .i64 a1_1] 28 (0, 0)) (by (with_reducible repeat (first | refine blk_drewN ?_ _ | refine blk_drew ?_ | refine blk_alloc ?_ _)); exact BK176.out) hb)
        have n2_ := Aside0.mk (blk_below (g := gb177) (o := .cells #[.int .i64 0, .int .i64 0] 28 (0, 0)) (by (with_reducible repeat (first | refine blk_drewN ?_ _ | refine blk_drew ?_ | refine blk_alloc ?_ _)); exact BK177.out) hb)
        have n3_ := Aside0.mk (blk_below (g := gb178) (o := .cells #[.int .i64 0, .int .i64 0] 28 (0, 0)) (by (with_reducible repeat (first | refine blk_drewN ?_ _ | refine blk_drew ?_ | refine blk_alloc ?_ _)); exact BK178.out) hb)
        have n4_ := Aside0.mk (blk_below (g := gb189) (o := .cells #[.int .i64 0, .int .i64 0] 61 (0, 0)) (by (with_reducible repeat (first | refine blk_drewN ?_ _ | refine blk_drew ?_ | refine blk_alloc ?_ _)); exact BK189.out) hb)
        have n5_ := Aside0.mk (below_step (by repeat (first | (with_reducible first | exact HB.out | apply below_alloc | apply pw_below_drewN | apply below_drew1 | refine below_set ?_ GE176.out | refine below_set ?_ GE177.out | refine below_set ?_ GE178.out | refine below_set ?_ GE189.out) | exact HB.out)) hb)
        have n6_ := Aside0.mk (hbox)
        have n7_ := Aside0.mk ((by rw [hg]; exact (below_size (by repeat (first | (with_reducible first | exact HB.out | apply below_alloc | apply pw_below_drewN | apply below_drew1 | refine below_set ?_ GE176.out | refine below_set ?_ GE177.out | refine below_set ?_ GE178.out | refine below_set ?_ GE189.out) | exact HB.out))) : w.heap.size ≤ gb190))
        have n8_ := Aside0.mk ((by rw [hg]; exact (below_size (by repeat (first | (with_reducible first | exact HB.out | apply below_alloc | apply pw_below_drewN | apply below_drew1 | refine below_set ?_ GE176.out | refine below_set ?_ GE177.out | refine below_set ?_ GE178.out | refine below_set ?_ GE189.out) | exact HB.out))) : w.heap.size ≤ gb190))
        have n9_ := Aside0.mk ((by rw [hg]; exact Nat.ne_of_lt (blk_lt (g := gb176) (o := .cells #[.int .i64 a1_0, .int .i64 a1_1] 28 (0, 0)) (by (with_reducible repeat (first | refine blk_drewN ?_ _ | refine blk_drew ?_ | refine blk_alloc ?_ _)); exact BK176.out)) : gb176 ≠ gb190))
        have n10_ := Aside0.mk ((by rw [hg]; exact Nat.ne_of_gt (blk_lt (g := gb176) (o := .cells #[.int .i64 a1_0, .int .i64 a1_1] 28 (0, 0)) (by (with_reducible repeat (first | refine blk_drewN ?_ _ | refine blk_drew ?_ | refine blk_alloc ?_ _)); exact BK176.out)) : gb190 ≠ gb176))
        have n11_ := Aside0.mk ((by rw [hg]; exact Nat.ne_of_lt (blk_lt (g := gb177) (o := .cells #[.int .i64 0, .int .i64 0] 28 (0, 0)) (by (with_reducible repeat (first | refine blk_drewN ?_ _ | refine blk_drew ?_ | refine blk_alloc ?_ _)); exact BK177.out)) : gb177 ≠ gb190))
        have n12_ := Aside0.mk ((by rw [hg]; exact Nat.ne_of_gt (blk_lt (g := gb177) (o := .cells #[.int .i64 0, .int .i64 0] 28 (0, 0)) (by (with_reducible repeat (first | refine blk_drewN ?_ _ | refine blk_drew ?_ | refine blk_alloc ?_ _)); exact BK177.out)) : gb190 ≠ gb177))
        have n13_ := Aside0.mk ((by rw [hg]; exact Nat.ne_of_lt (blk_lt (g := gb178) (o := .cells #[.int .i64 0, .int .i64 0] 28 (0, 0)) (by (with_reducible repeat (first | refine blk_drewN ?_ _ | refine blk_drew ?_ | refine blk_alloc ?_ _)); exact BK178.out)) : gb178 ≠ gb190))
        have n14_ := Aside0.mk ((by rw [hg]; exact Nat.ne_of_gt (blk_lt (g := gb178) (o := .cells #[.int .i64 0, .int .i64 0] 28 (0, 0)) (by (with_reducible repeat (first | refine blk_drewN ?_ _ | refine blk_drew ?_ | refine blk_alloc ?_ _)); exact BK178.out)) : gb190 ≠ gb178))
        have n15_ := Aside0.mk ((by rw [hg]; exact Nat.ne_of_lt (blk_lt (g := gb189) (o := .cells #[.int .i64 0, .int .i64 0] 61 (0, 0)) (by (with_reducible repeat (first | refine blk_drewN ?_ _ | refine blk_drew ?_ | refine blk_alloc ?_ _)); exact BK189.out)) : gb189 ≠ gb190))
        have n16_ := Aside0.mk ((by rw [hg]; exact Nat.ne_of_gt (blk_lt (g := gb189) (o := .cells #[.int .i64 0, .int .i64 0] 61 (0, 0)) (by (with_reducible repeat (first | refine blk_drewN ?_ _ | refine blk_drew ?_ | refine blk_alloc ?_ _)); exact BK189.out)) : gb190 ≠ gb189))
        clear HO181
        clear BK176
        clear BK177
        clear BK178
        clear BK189
        clear HB
        have HO181 := n0_
        have BK176 := n1_
        have BK177 := n2_
        have BK178 := n3_
        have BK189 := n4_
        have HB := n5_
        have BK190 := n6_
        have GW190 := n7_
        have GE190 := n8_
        have NB176_190 := n9_
        have NB190_176 := n10_
        have NB177_190 := n11_
        have NB190_177 := n12_
        have NB178_190 := n13_
        have NB190_178 := n14_
        have NB189_190 := n15_
        have NB190_189 := n16_
        clear n0_ n1_ n2_ n3_ n4_ n5_ n6_ n7_ n8_ n9_ n10_ n11_ n12_ n13_ n14_ n15_ n16_
        clear hb hbox hg
        refine hK.out _ _ ⟨(blk_cell BK176.out 0).trans rfl, (blk_cell BK176.out 1).trans rfl⟩ (fun hHeld => ?_)
        clear hK K
        refine norm_ (a' := ?_) ?_ ?_
        rotate_left
        ·show Act.put _ (some 8) _ = _
         simp only [Act.put, List.setIfInBounds_toArray, List.set_cons_zero, List.set_cons_succ, i64_w, i32_w]
         rfl
        exact norm_ (by first | (simp only [putAll, Act.put, List.setIfInBounds_toArray, List.set_cons_zero, List.set_cons_succ]; done) | (simp only [putAll, Act.put, List.setIfInBounds_toArray, List.set_cons_zero, List.set_cons_succ]; rfl)) (hJ1_3_9_10 (_, gb189, gb190) _ ⟨hHeld, (by (with_reducible repeat (first | apply Kd.R_alloc | apply Kd.R_drewN | apply Kd.R_drew)); exact HO181.out), (by (with_reducible repeat (first | refine blk_drewN ?_ _ | refine blk_drew ?_ | refine blk_alloc ?_ _)); exact BK176.out), (by (with_reducible repeat (first | refine blk_drewN ?_ _ | refine blk_drew ?_ | refine blk_alloc ?_ _)); exact BK177.out), (by (with_reducible repeat (first | refine blk_drewN ?_ _ | refine blk_drew ?_ | refine blk_alloc ?_ _)); exact BK178.out), (by (with_reducible repeat (first | refine blk_drewN ?_ _ | refine blk_drew ?_ | refine blk_alloc ?_ _)); exact BK189.out), (by (with_reducible repeat (first | refine blk_drewN ?_ _ | refine blk_drew ?_ | refine blk_alloc ?_ _)); exact BK190.out), GW189.out, GE189.out, NB176_189.out, NB189_176.out, NB177_189.out, NB189_177.out, NB178_189.out, NB189_178.out, NB190_189.out, NB189_190.out, GW190.out, GE190.out, NB176_190.out, NB190_176.out, NB177_190.out, NB190_177.out, NB178_190.out, NB190_178.out, (by repeat (first | (with_reducible first | exact HB.out | apply below_alloc | apply pw_below_drewN | apply below_drew1 | refine below_set ?_ GE176.out | refine below_set ?_ GE177.out | refine below_set ?_ GE178.out | refine below_set ?_ GE189.out | refine below_set ?_ GE190.out) | exact HB.out))⟩)
     ·skip
      rintro v180 w16 ⟨hS_, h0_, h1_, h2_, h3_, h4_⟩
      have n0_ : Aside0 (Kd.R k61 61 w16 w.heap.size (fun _ => True) v180 t179) := ⟨h0_⟩
      have n1_ : Aside0 (w16.heap[gb176]? = some (.cells #[.int .i64 a1_0, .int .i64 a1_1] 28 (0, 0))) := ⟨h1_⟩
      have n2_ : Aside0 (w16.heap[gb177]? = some (.cells #[.int .i64 0, .int .i64 0] 28 (0, 0))) := ⟨h2_⟩
      have n3_ : Aside0 (w16.heap[gb178]? = some (.cells #[.int .i64 0, .int .i64 0] 28 (0, 0))) := ⟨h3_⟩
      have n4_ : Aside0 (Below w.heap.size w w16) := ⟨h4_⟩
      clear BK176
      clear BK177
      clear BK178
      clear HB
      clear h0_ h1_ h2_ h3_ h4_
      have HO181 := n0_
      have BK176 := n1_
      have BK177 := n2_
      have BK178 := n3_
      have HB := n4_
      clear n0_ n1_ n2_ n3_ n4_
      have hHeld : w16.cell? ⟨gb176, 0, none⟩ = some (.int .i64 a1_0) ∧ w16.cell? ⟨gb176, 1, none⟩ = some (.int .i64 a1_1) := hS_
      refine norm_ (a' := ?_) ?_ ?_
      rotate_left
      ·simp only [putAll, Act.put, List.setIfInBounds_toArray, List.set_cons_zero, List.set_cons_succ]
       rfl
      refine two_ (i := 9) (j := 10) (Ni := some 7) (Nj := some 8) #[true, true, true, true, true, true, true, true, true, true, false, false, false, false] #[true, true, true, true, true, true, true, true, true, false, true, false, false, false] rfl rfl rfl rfl (two_of HT_.out (by kernel_rfl)) (by decide) (by decide) (fun K hK => ?_) (fun K hK => ?_)
      ·skip
       refine box_step ?hg (N := 7) ?hd (cs := #[.int .i64 0, .int .i64 0]) (t := 61) ?hr ?_; (case hd => rfl); (case hg => rfl); (case hr => first | (go_simp; done) | (go_simp; rfl))
       intro gb189 hg w17 hbox hb
       have n0_ := Aside0.mk (Kd.R_below (Kd.R_elderB (by (with_reducible repeat (first | apply Kd.R_alloc | apply Kd.R_drewN | apply Kd.R_drew)); exact HO181.out) gb189 (Nat.le_of_eq hg.symm)) hb)
       have n1_ := Aside0.mk (blk_below (g := gb176) (o := .cells #[.int .i64 a1_0, .int .i64 a1_1] 28 (0, 0)) (by (with_reducible repeat (first | refine blk_drewN ?_ _ | refine blk_drew ?_ | refine blk_alloc ?_ _)); exact BK176.out) hb)
       have n2_ := Aside0.mk (blk_below (g := gb177) (o := .cells #[.int .i64 0, .int .i64 0] 28 (0, 0)) (by (with_reducible repeat (first | refine blk_drewN ?_ _ | refine blk_drew ?_ | refine blk_alloc ?_ _)); exact BK177.out) hb)
       have n3_ := Aside0.mk (blk_below (g := gb178) (o := .cells #[.int .i64 0, .int .i64 0] 28 (0, 0)) (by (with_reducible repeat (first | refine blk_drewN ?_ _ | refine blk_drew ?_ | refine blk_alloc ?_ _)); exact BK178.out) hb)
       have n4_ := Aside0.mk (below_step (by repeat (first | (with_reducible first | exact HB.out | apply below_alloc | apply pw_below_drewN | apply below_drew1 | refine below_set ?_ GE176.out | refine below_set ?_ GE177.out | refine below_set ?_ GE178.out) | exact HB.out)) hb)
       have n5_ := Aside0.mk (hbox)
       have n6_ := Aside0.mk ((by rw [hg]; exact (below_size (by repeat (first | (with_reducible first | exact HB.out | apply below_alloc | apply pw_below_drewN | apply below_drew1 | refine below_set ?_ GE176.out | refine below_set ?_ GE177.out | refine below_set ?_ GE178.out) | exact HB.out))) : w.heap.size ≤ gb189))
       have n7_ := Aside0.mk ((by rw [hg]; exact (below_size (by repeat (first | (with_reducible first | exact HB.out | apply below_alloc | apply pw_below_drewN | apply below_drew1 | refine below_set ?_ GE176.out | refine below_set ?_ GE177.out | refine below_set ?_ GE178.out) | exact HB.out))) : w.heap.size ≤ gb189))
       have n8_ := Aside0.mk ((by rw [hg]; exact Nat.ne_of_lt (blk_lt (g := gb176) (o := .cells #[.int .i64 a1_0, .int .i64 a1_1] 28 (0, 0)) (by (with_reducible repeat (first | refine blk_drewN ?_ _ | refine blk_drew ?_ | refine blk_alloc ?_ _)); exact BK176.out)) : gb176 ≠ gb189))
       have n9_ := Aside0.mk ((by rw [hg]; exact Nat.ne_of_gt (blk_lt (g := gb176) (o := .cells #[.int .i64 a1_0, .int .i64 a1_1] 28 (0, 0)) (by (with_reducible repeat (first | refine blk_drewN ?_ _ | refine blk_drew ?_ | refine blk_alloc ?_ _)); exact BK176.out)) : gb189 ≠ gb176))
       have n10_ := Aside0.mk ((by rw [hg]; exact Nat.ne_of_lt (blk_lt (g := gb177) (o := .cells #[.int .i64 0, .int .i64 0] 28 (0, 0)) (by (with_reducible repeat (first | refine blk_drewN ?_ _ | refine blk_drew ?_ | refine blk_alloc ?_ _)); exact BK177.out)) : gb177 ≠ gb189))
       have n11_ := Aside0.mk ((by rw [hg]; exact Nat.ne_of_gt (blk_lt (g := gb177) (o := .cells #[.int .i64 0, .int .i64 0] 28 (0, 0)) (by (with_reducible repeat (first | refine blk_drewN ?_ _ | refine blk_drew ?_ | refine blk_alloc ?_ _)); exact BK177.out)) : gb189 ≠ gb177))
       have n12_ := Aside0.mk ((by rw [hg]; exact Nat.ne_of_lt (blk_lt (g := gb178) (o := .cells #[.int .i64 0, .int .i64 0] 28 (0, 0)) (by (with_reducible repeat (first | refine blk_drewN ?_ _ | refine blk_drew ?_ | refine blk_alloc ?_ _)); exact BK178.out)) : gb178 ≠ gb189))
       have n13_ := Aside0.mk ((by rw [hg]; exact Nat.ne_of_gt (blk_lt (g := gb178) (o := .cells #[.int .i64 0, .int .i64 0] 28 (0, 0)) (by (with_reducible repeat (first | refine blk_drewN ?_ _ | refine blk_drew ?_ | refine blk_alloc ?_ _)); exact BK178.out)) : gb189 ≠ gb178))
       clear HO181
       clear BK176
       clear BK177
       clear BK178
       clear HB
       have HO181 := n0_
       have BK176 := n1_
       have BK177 := n2_
       have BK178 := n3_
       have HB := n4_
       have BK189 := n5_
       have GW189 := n6_
       have GE189 := n7_
       have NB176_189 := n8_
       have NB189_176 := n9_
       have NB177_189 := n10_
       have NB189_177 := n11_
       have NB178_189 := n12_
       have NB189_178 := n13_
       clear n0_ n1_ n2_ n3_ n4_ n5_ n6_ n7_ n8_ n9_ n10_ n11_ n12_ n13_
       clear hb hbox hg
       refine hK.out _ _ ⟨(blk_cell BK176.out 0).trans rfl, (blk_cell BK176.out 1).trans rfl⟩ (fun hHeld => ?_)
       clear hK K
       refine norm_ (a' := ?_) ?_ ?_
       rotate_left
       ·show Act.put _ (some 7) _ = _
        simp only [Act.put, List.setIfInBounds_toArray, List.set_cons_zero, List.set_cons_succ, i64_w, i32_w]
        rfl
       exact norm_ (by first | (simp only [putAll, Act.put, List.setIfInBounds_toArray, List.set_cons_zero, List.set_cons_succ]; done) | (simp only [putAll, Act.put, List.setIfInBounds_toArray, List.set_cons_zero, List.set_cons_succ]; rfl)) (hJ1_3_4_9 (_, gb189) _ ⟨hHeld, (by (with_reducible repeat (first | apply Kd.R_alloc | apply Kd.R_drewN | apply Kd.R_drew)); exact Kd.R_mono HO181.out (fun _ hk => hk.2)), (by (with_reducible repeat (first | refine blk_drewN ?_ _ | refine blk_drew ?_ | refine blk_alloc ?_ _)); exact BK176.out), (by (with_reducible repeat (first | refine blk_drewN ?_ _ | refine blk_drew ?_ | refine blk_alloc ?_ _)); exact BK177.out), (by (with_reducible repeat (first | refine blk_drewN ?_ _ | refine blk_drew ?_ | refine blk_alloc ?_ _)); exact BK178.out), (by (with_reducible repeat (first | refine blk_drewN ?_ _ | refine blk_drew ?_ | refine blk_alloc ?_ _)); exact BK189.out), GW189.out, GE189.out, NB176_189.out, NB189_176.out, NB177_189.out, NB189_177.out, NB178_189.out, NB189_178.out, (by repeat (first | (with_reducible first | exact HB.out | apply below_alloc | apply pw_below_drewN | apply below_drew1 | refine below_set ?_ GE176.out | refine below_set ?_ GE177.out | refine below_set ?_ GE178.out | refine below_set ?_ GE189.out) | exact HB.out))⟩)
      ·skip
       refine box_step ?hg (N := 8) ?hd (cs := #[.int .i64 0, .int .i64 0]) (t := 61) ?hr ?_; (case hd => rfl); (case hg => rfl); (case hr => first | (go_simp; done) | (go_simp; rfl))
       intro gb190 hg w17 hbox hb
       have n0_ := Aside0.mk (Kd.R_below (Kd.R_elderB (by (with_reducible repeat (first | apply Kd.R_alloc | apply Kd.R_drewN | apply Kd.R_drew)); exact HO181.out) gb190 (Nat.le_of_eq hg.symm)) hb)
       have n1_ := Aside0.mk (blk_below (g := gb176) (o := .cells #[.int .i64 a1_0, .int .i64 a1_1] 28 (0, 0)) (by (with_reducible repeat (first | refine blk_drewN ?_ _ | refine blk_drew ?_ | refine blk_alloc ?_ _)); exact BK176.out) hb)
       have n2_ := Aside0.mk (blk_below (g := gb177) (o := .cells #[.int .i64 0, .int .i64 0] 28 (0, 0)) (by (with_reducible repeat (first | refine blk_drewN ?_ _ | refine blk_drew ?_ | refine blk_alloc ?_ _)); exact BK177.out) hb)
       have n3_ := Aside0.mk (blk_below (g := gb178) (o := .cells #[.int .i64 0, .int .i64 0] 28 (0, 0)) (by (with_reducible repeat (first | refine blk_drewN ?_ _ | refine blk_drew ?_ | refine blk_alloc ?_ _)); exact BK178.out) hb)
       have n4_ := Aside0.mk (below_step (by repeat (first | (with_reducible first | exact HB.out | apply below_alloc | apply pw_below_drewN | apply below_drew1 | refine below_set ?_ GE176.out | refine below_set ?_ GE177.out | refine below_set ?_ GE178.out) | exact HB.out)) hb)
       have n5_ := Aside0.mk (hbox)
       have n6_ := Aside0.mk ((by rw [hg]; exact (below_size (by repeat (first | (with_reducible first | exact HB.out | apply below_alloc | apply pw_below_drewN | apply below_drew1 | refine below_set ?_ GE176.out | refine below_set ?_ GE177.out | refine below_set ?_ GE178.out) | exact HB.out))) : w.heap.size ≤ gb190))
       have n7_ := Aside0.mk ((by rw [hg]; exact (below_size (by repeat (first | (with_reducible first | exact HB.out | apply below_alloc | apply pw_below_drewN | apply below_drew1 | refine below_set ?_ GE176.out | refine below_set ?_ GE177.out | refine below_set ?_ GE178.out) | exact HB.out))) : w.heap.size ≤ gb190))
       have n8_ := Aside0.mk ((by rw [hg]; exact Nat.ne_of_lt (blk_lt (g := gb176) (o := .cells #[.int .i64 a1_0, .int .i64 a1_1] 28 (0, 0)) (by (with_reducible repeat (first | refine blk_drewN ?_ _ | refine blk_drew ?_ | refine blk_alloc ?_ _)); exact BK176.out)) : gb176 ≠ gb190))
       have n9_ := Aside0.mk ((by rw [hg]; exact Nat.ne_of_gt (blk_lt (g := gb176) (o := .cells #[.int .i64 a1_0, .int .i64 a1_1] 28 (0, 0)) (by (with_reducible repeat (first | refine blk_drewN ?_ _ | refine blk_drew ?_ | refine blk_alloc ?_ _)); exact BK176.out)) : gb190 ≠ gb176))
       have n10_ := Aside0.mk ((by rw [hg]; exact Nat.ne_of_lt (blk_lt (g := gb177) (o := .cells #[.int .i64 0, .int .i64 0] 28 (0, 0)) (by (with_reducible repeat (first | refine blk_drewN ?_ _ | refine blk_drew ?_ | refine blk_alloc ?_ _)); exact BK177.out)) : gb177 ≠ gb190))
       have n11_ := Aside0.mk ((by rw [hg]; exact Nat.ne_of_gt (blk_lt (g := gb177) (o := .cells #[.int .i64 0, .int .i64 0] 28 (0, 0)) (by (with_reducible repeat (first | refine blk_drewN ?_ _ | refine blk_drew ?_ | refine blk_alloc ?_ _)); exact BK177.out)) : gb190 ≠ gb177))
       have n12_ := Aside0.mk ((by rw [hg]; exact Nat.ne_of_lt (blk_lt (g := gb178) (o := .cells #[.int .i64 0, .int .i64 0] 28 (0, 0)) (by (with_reducible repeat (first | refine blk_drewN ?_ _ | refine blk_drew ?_ | refine blk_alloc ?_ _)); exact BK178.out)) : gb178 ≠ gb190))
       have n13_ := Aside0.mk ((by rw [hg]; exact Nat.ne_of_gt (blk_lt (g := gb178) (o := .cells #[.int .i64 0, .int .i64 0] 28 (0, 0)) (by (with_reducible repeat (first | refine blk_drewN ?_ _ | refine blk_drew ?_ | refine blk_alloc ?_ _)); exact BK178.out)) : gb190 ≠ gb178))
       clear HO181
       clear BK176
       clear BK177
       clear BK178
       clear HB
       have HO181 := n0_
       have BK176 := n1_
       have BK177 := n2_
       have BK178 := n3_
       have HB := n4_
       have BK190 := n5_
       have GW190 := n6_
       have GE190 := n7_
       have NB176_190 := n8_
       have NB190_176 := n9_
       have NB177_190 := n10_
       have NB190_177 := n11_
       have NB178_190 := n12_
       have NB190_178 := n13_
       clear n0_ n1_ n2_ n3_ n4_ n5_ n6_ n7_ n8_ n9_ n10_ n11_ n12_ n13_
       clear hb hbox hg
       refine hK.out _ _ ⟨(blk_cell BK176.out 0).trans rfl, (blk_cell BK176.out 1).trans rfl⟩ (fun hHeld => ?_)
       clear hK K
       refine norm_ (a' := ?_) ?_ ?_
       rotate_left
       ·show Act.put _ (some 8) _ = _
        simp only [Act.put, List.setIfInBounds_toArray, List.set_cons_zero, List.set_cons_succ, i64_w, i32_w]
        rfl
       exact norm_ (by first | (simp only [putAll, Act.put, List.setIfInBounds_toArray, List.set_cons_zero, List.set_cons_succ]; done) | (simp only [putAll, Act.put, List.setIfInBounds_toArray, List.set_cons_zero, List.set_cons_succ]; rfl)) (hJ1_3_4_10 (_, gb190) _ ⟨hHeld, (by (with_reducible repeat (first | apply Kd.R_alloc | apply Kd.R_drewN | apply Kd.R_drew)); exact Kd.R_mono HO181.out (fun _ hk => hk.2)), (by (with_reducible repeat (first | refine blk_drewN ?_ _ | refine blk_drew ?_ | refine blk_alloc ?_ _)); exact BK176.out), (by (with_reducible repeat (first | refine blk_drewN ?_ _ | refine blk_drew ?_ | refine blk_alloc ?_ _)); exact BK177.out), (by (with_reducible repeat (first | refine blk_drewN ?_ _ | refine blk_drew ?_ | refine blk_alloc ?_ _)); exact BK178.out), (by (with_reducible repeat (first | refine blk_drewN ?_ _ | refine blk_drew ?_ | refine blk_alloc ?_ _)); exact BK190.out), GW190.out, GE190.out, NB176_190.out, NB190_176.out, NB177_190.out, NB190_177.out, NB178_190.out, NB190_178.out, (by repeat (first | (with_reducible first | exact HB.out | apply below_alloc | apply pw_below_drewN | apply below_drew1 | refine below_set ?_ GE176.out | refine below_set ?_ GE177.out | refine below_set ?_ GE178.out | refine below_set ?_ GE190.out) | exact HB.out))⟩)
    ·skip
     rintro ⟨v180, gb189, gb190⟩ w16 ⟨hS_, h0_, h1_, h2_, h3_, h4_, h5_, h6_, h7_, h8_, h9_, h10_, h11_, h12_, h13_, h14_, h15_, h16_, h17_, h18_, h19_, h20_, h21_, h22_, h23_, h24_⟩
     have n0_ : Aside0 (Kd.R k61 61 w16 w.heap.size (fun k_ => k_ ≠ gb189 ∧ k_ ≠ gb190) v180 t179) := ⟨h0_⟩
     have n1_ : Aside0 (w16.heap[gb176]? = some (.cells #[.int .i64 a1_0, .int .i64 a1_1] 28 (0, 0))) := ⟨h1_⟩
     have n2_ : Aside0 (w16.heap[gb177]? = some (.cells #[.int .i64 0, .int .i64 0] 28 (0, 0))) := ⟨h2_⟩
     have n3_ : Aside0 (w16.heap[gb178]? = some (.cells #[.int .i64 0, .int .i64 0] 28 (0, 0))) := ⟨h3_⟩
     have n4_ : Aside0 (w16.heap[gb189]? = some (.cells #[.int .i64 0, .int .i64 0] 61 (0, 0))) := ⟨h4_⟩
     have n5_ : Aside0 (w16.heap[gb190]? = some (.cells #[.int .i64 0, .int .i64 0] 61 (0, 0))) := ⟨h5_⟩
     have n6_ : Aside0 (w.heap.size ≤ gb189) := ⟨h6_⟩
     have n7_ : Aside0 (w.heap.size ≤ gb189) := ⟨h7_⟩
     have n8_ : Aside0 (gb176 ≠ gb189) := ⟨h8_⟩
     have n9_ : Aside0 (gb189 ≠ gb176) := ⟨h9_⟩
     have n10_ : Aside0 (gb177 ≠ gb189) := ⟨h10_⟩
     have n11_ : Aside0 (gb189 ≠ gb177) := ⟨h11_⟩
     have n12_ : Aside0 (gb178 ≠ gb189) := ⟨h12_⟩
     have n13_ : Aside0 (gb189 ≠ gb178) := ⟨h13_⟩
     have n14_ : Aside0 (gb190 ≠ gb189) := ⟨h14_⟩
     have n15_ : Aside0 (gb189 ≠ gb190) := ⟨h15_⟩
     have n16_ : Aside0 (w.heap.size ≤ gb190) := ⟨h16_⟩
     have n17_ : Aside0 (w.heap.size ≤ gb190) := ⟨h17_⟩
     have n18_ : Aside0 (gb176 ≠ gb190) := ⟨h18_⟩
     have n19_ : Aside0 (gb190 ≠ gb176) := ⟨h19_⟩
     have n20_ : Aside0 (gb177 ≠ gb190) := ⟨h20_⟩
     have n21_ : Aside0 (gb190 ≠ gb177) := ⟨h21_⟩
     have n22_ : Aside0 (gb178 ≠ gb190) := ⟨h22_⟩
     have n23_ : Aside0 (gb190 ≠ gb178) := ⟨h23_⟩
     have n24_ : Aside0 (Below w.heap.size w w16) := ⟨h24_⟩
     clear BK176
     clear BK177
     clear BK178
     clear HB
     clear h0_ h1_ h2_ h3_ h4_ h5_ h6_ h7_ h8_ h9_ h10_ h11_ h12_ h13_ h14_ h15_ h16_ h17_ h18_ h19_ h20_ h21_ h22_ h23_ h24_
     have HO181 := n0_
     have BK176 := n1_
     have BK177 := n2_
     have BK178 := n3_
     have BK189 := n4_
     have BK190 := n5_
     have GW189 := n6_
     have GE189 := n7_
     have NB176_189 := n8_
     have NB189_176 := n9_
     have NB177_189 := n10_
     have NB189_177 := n11_
     have NB178_189 := n12_
     have NB189_178 := n13_
     have NB190_189 := n14_
     have NB189_190 := n15_
     have GW190 := n16_
     have GE190 := n17_
     have NB176_190 := n18_
     have NB190_176 := n19_
     have NB177_190 := n20_
     have NB190_177 := n21_
     have NB178_190 := n22_
     have NB190_178 := n23_
     have HB := n24_
     clear n0_ n1_ n2_ n3_ n4_ n5_ n6_ n7_ n8_ n9_ n10_ n11_ n12_ n13_ n14_ n15_ n16_ n17_ n18_ n19_ n20_ n21_ n22_ n23_ n24_
     have hHeld : w16.cell? ⟨gb176, 0, none⟩ = some (.int .i64 a1_0) ∧ w16.cell? ⟨gb176, 1, none⟩ = some (.int .i64 a1_1) := hS_
     obtain ⟨Ao17, co17, eo17⟩ := Kd.R_slice HO181.out
     (first | subst eo17 | (injection eo17 with f1_ f2_ f3_; have f4_ := f1_.symm; have f5_ := f3_.symm; clear f1_ f2_ f3_; subst f4_; subst f5_))
     refine norm_ (a' := ?_) ?_ ?_
     rotate_left
     ·simp only [putAll, Act.put, List.setIfInBounds_toArray, List.set_cons_zero, List.set_cons_succ]
      rfl
     refine one_ (i := 4) (N := some 14) #[true, true, true, true, true, false, false, false, false, true, true, false, false, false] rfl rfl (one_of HT_.out (by kernel_rfl)) (by decide) (fun K hK => ?_)
     refine goes_ Try.func44 (by kernel_rfl) rfl #[.slice Ao17 t179.length co17, .agg #[.int .i64 t182, .int .i64 t183]] (by rfl) rfl rfl (by (try simp only [List.map_toArray, List.map_cons, List.map_nil]); first | done | rfl | (simp only [List.length_drop, List.length_take]; rfl)) ?_
     with_reducible refine (ranges_Ranges_Find.calls _ _ t179 t182 t183 t184 t185 t186 t187 t188 _ ?side1 ?side2 A5.out).mono ?_
     (case side1 => repeat (first | exact (Kd.R_reads' HO181.out).2.2 | (with_reducible refine Kd.C_alloc ?_ _) | (with_reducible refine Kd.C_drewN ?_ _) | (with_reducible refine Kd.C_drew ?_)))
     (case side2 => exact (Kd.R_reads' HO181.out).2.1)
     rintro e w18 ⟨rfl, hb⟩
     refine ⟨_, rfl, ?_⟩
     have n0_ := Aside0.mk (Kd.R_below (by (with_reducible repeat (first | apply Kd.R_alloc | apply Kd.R_drewN | apply Kd.R_drew)); exact HO181.out) hb)
     have n1_ := Aside0.mk (blk_below (g := gb176) (o := .cells #[.int .i64 a1_0, .int .i64 a1_1] 28 (0, 0)) (by (with_reducible repeat (first | refine blk_drewN ?_ _ | refine blk_drew ?_ | refine blk_alloc ?_ _)); exact BK176.out) hb)
     have n2_ := Aside0.mk (blk_below (g := gb177) (o := .cells #[.int .i64 0, .int .i64 0] 28 (0, 0)) (by (with_reducible repeat (first | refine blk_drewN ?_ _ | refine blk_drew ?_ | refine blk_alloc ?_ _)); exact BK177.out) hb)
     have n3_ := Aside0.mk (blk_below (g := gb178) (o := .cells #[.int .i64 0, .int .i64 0] 28 (0, 0)) (by (with_reducible repeat (first | refine blk_drewN ?_ _ | refine blk_drew ?_ | refine blk_alloc ?_ _)); exact BK178.out) hb)
     have n4_ := Aside0.mk (blk_below (g := gb189) (o := .cells #[.int .i64 0, .int .i64 0] 61 (0, 0)) (by (with_reducible repeat (first | refine blk_drewN ?_ _ | refine blk_drew ?_ | refine blk_alloc ?_ _)); exact BK189.out) hb)
     have n5_ := Aside0.mk (blk_below (g := gb190) (o := .cells #[.int .i64 0, .int .i64 0] 61 (0, 0)) (by (with_reducible repeat (first | refine blk_drewN ?_ _ | refine blk_drew ?_ | refine blk_alloc ?_ _)); exact BK190.out) hb)
     have n6_ := Aside0.mk (below_step (by repeat (first | (with_reducible first | exact HB.out | apply below_alloc | apply pw_below_drewN | apply below_drew1 | refine below_set ?_ GE176.out | refine below_set ?_ GE177.out | refine below_set ?_ GE178.out | refine below_set ?_ GE189.out | refine below_set ?_ GE190.out) | exact HB.out)) hb)
     clear HO181
     clear BK176
     clear BK177
     clear BK178
     clear BK189
     clear BK190
     clear HB
     have HO181 := n0_
     have BK176 := n1_
     have BK177 := n2_
     have BK178 := n3_
     have BK189 := n4_
     have BK190 := n5_
     have HB := n6_
     clear n0_ n1_ n2_ n3_ n4_ n5_ n6_
     (try clear hb)
     (try clear hb2)
     (try clear hk)
     (try clear hi)
     refine hK.out _ _ ⟨(blk_cell BK176.out 0).trans rfl, (blk_cell BK176.out 1).trans rfl⟩ (fun hHeld => ?_)
     clear hK K
     refine norm_ (a' := ?_) ?_ ?_
     rotate_left
     ·show Act.put _ (some 14) _ = _
      simp only [Act.put, List.setIfInBounds_toArray, List.set_cons_zero, List.set_cons_succ, i64_w, i32_w]
      rfl
     refine pure_ (i := 5) (N := some 9) (v := ?_) (a' := ?_) #[true, true, true, true, true, true, false, false, false, true, true, false, false, false] rfl rfl (any_of HT_.out (by kernel_rfl)) (fun _ _ _ h => h) (Or.inl ⟨by rfl, ?_⟩) ?_ ?_
     rotate_left
     ·intro w'
      go_simp
      with_reducible rfl
     rotate_left
     ·simp only [Act.put, List.setIfInBounds_toArray, List.set_cons_zero, List.set_cons_succ, i64_w, i32_w]
      rfl
     refine pure_ (i := 6) (N := some 15) (v := ?_) (a' := ?_) #[true, true, true, true, true, true, true, false, false, true, true, false, false, false] rfl rfl (any_of HT_.out (by kernel_rfl)) (fun _ _ _ h => h) (Or.inl ⟨by rfl, ?_⟩) ?_ ?_
     rotate_left
     ·intro w'
      go_simp
      with_reducible rfl
     rotate_left
     ·simp only [Act.put, List.setIfInBounds_toArray, List.set_cons_zero, List.set_cons_succ, i64_w, i32_w]
      rfl
     refine pure_ (i := 7) (N := some 16) (v := ?_) (a' := ?_) #[true, true, true, true, true, true, true, true, false, true, true, false, false, false] rfl rfl (any_of HT_.out (by kernel_rfl)) (fun _ _ _ h => h) (Or.inl ⟨by rfl, ?_⟩) ?_ ?_
     rotate_left
     ·intro w'
      go_simp
      with_reducible rfl
     rotate_left
     ·simp only [Act.put, List.setIfInBounds_toArray, List.set_cons_zero, List.set_cons_succ, i64_w, i32_w]
      rfl
     refine pure_ (i := 8) (N := some 17) (v := ?_) (a' := ?_) #[true, true, true, true, true, true, true, true, true, true, true, false, false, false] rfl rfl (any_of HT_.out (by kernel_rfl)) (fun _ _ _ h => h) (Or.inl ⟨by rfl, ?_⟩) ?_ ?_
     rotate_left
     ·intro w'
      go_simp
      with_reducible rfl
     rotate_left
     ·simp only [Act.put, List.setIfInBounds_toArray, List.set_cons_zero, List.set_cons_succ, i64_w, i32_w]
      rfl
     exact norm_ (by first | (simp only [putAll, Act.put, List.setIfInBounds_toArray, List.set_cons_zero, List.set_cons_succ]; done) | (simp only [putAll, Act.put, List.setIfInBounds_toArray, List.set_cons_zero, List.set_cons_succ]; rfl)) (hJ1_3_4_9_10 (.slice Ao17 t179.length co17, gb189, gb190) _ ⟨hHeld, (by (with_reducible repeat (first | apply Kd.R_alloc | apply Kd.R_drewN | apply Kd.R_drew)); exact HO181.out), (by (with_reducible repeat (first | refine blk_drewN ?_ _ | refine blk_drew ?_ | refine blk_alloc ?_ _)); exact BK176.out), (by (with_reducible repeat (first | refine blk_drewN ?_ _ | refine blk_drew ?_ | refine blk_alloc ?_ _)); exact BK177.out), (by (with_reducible repeat (first | refine blk_drewN ?_ _ | refine blk_drew ?_ | refine blk_alloc ?_ _)); exact BK178.out), (by (with_reducible repeat (first | refine blk_drewN ?_ _ | refine blk_drew ?_ | refine blk_alloc ?_ _)); exact BK189.out), (by (with_reducible repeat (first | refine blk_drewN ?_ _ | refine blk_drew ?_ | refine blk_alloc ?_ _)); exact BK190.out), GW189.out, GE189.out, NB176_189.out, NB189_176.out, NB177_189.out, NB189_177.out, NB178_189.out, NB189_178.out, NB190_189.out, NB189_190.out, GW190.out, GE190.out, NB176_190.out, NB190_176.out, NB177_190.out, NB190_177.out, NB178_190.out, NB190_178.out, (by repeat (first | (with_reducible first | exact HB.out | apply below_alloc | apply pw_below_drewN | apply below_drew1 | refine below_set ?_ GE176.out | refine below_set ?_ GE177.out | refine below_set ?_ GE178.out | refine below_set ?_ GE189.out | refine below_set ?_ GE190.out) | exact HB.out))⟩)
   ·skip
    rintro ⟨v180, gb190⟩ w17 ⟨hS_, h0_, h1_, h2_, h3_, h4_, h5_, h6_, h7_, h8_, h9_, h10_, h11_, h12_, h13_⟩
    have n0_ : Aside0 (Kd.R k61 61 w17 w.heap.size (fun k_ => k_ ≠ gb190) v180 t179) := ⟨h0_⟩
    have n1_ : Aside0 (w17.heap[gb176]? = some (.cells #[.int .i64 a1_0, .int .i64 a1_1] 28 (0, 0))) := ⟨h1_⟩
    have n2_ : Aside0 (w17.heap[gb177]? = some (.cells #[.int .i64 0, .int .i64 0] 28 (0, 0))) := ⟨h2_⟩
    have n3_ : Aside0 (w17.heap[gb178]? = some (.cells #[.int .i64 0, .int .i64 0] 28 (0, 0))) := ⟨h3_⟩
    have n4_ : Aside0 (w17.heap[gb190]? = some (.cells #[.int .i64 0, .int .i64 0] 61 (0, 0))) := ⟨h4_⟩
    have n5_ : Aside0 (w.heap.size ≤ gb190) := ⟨h5_⟩
    have n6_ : Aside0 (w.heap.size ≤ gb190) := ⟨h6_⟩
    have n7_ : Aside0 (gb176 ≠ gb190) := ⟨h7_⟩
    have n8_ : Aside0 (gb190 ≠ gb176) := ⟨h8_⟩
    have n9_ : Aside0 (gb177 ≠ gb190) := ⟨h9_⟩
    have n10_ : Aside0 (gb190 ≠ gb177) := ⟨h10_⟩
    have n11_ : Aside0 (gb178 ≠ gb190) := ⟨h11_⟩
    have n12_ : Aside0 (gb190 ≠ gb178) := ⟨h12_⟩
    have n13_ : Aside0 (Below w.heap.size w w17) := ⟨h13_⟩
    clear BK176
    clear BK177
    clear BK178
    clear HB
    clear h0_ h1_ h2_ h3_ h4_ h5_ h6_ h7_ h8_ h9_ h10_ h11_ h12_ h13_
    have HO181 := n0_
    have BK176 := n1_
    have BK177 := n2_
    have BK178 := n3_
    have BK190 := n4_
    have GW190 := n5_
    have GE190 := n6_
    have NB176_190 := n7_
    have NB190_176 := n8_
    have NB177_190 := n9_
    have NB190_177 := n10_
    have NB178_190 := n11_
    have NB190_178 := n12_
    have HB := n13_
    clear n0_ n1_ n2_ n3_ n4_ n5_ n6_ n7_ n8_ n9_ n10_ n11_ n12_ n13_
    have hHeld : w17.cell? ⟨gb176, 0, none⟩ = some (.int .i64 a1_0) ∧ w17.cell? ⟨gb176, 1, none⟩ = some (.int .i64 a1_1) := hS_
    refine norm_ (a' := ?_) ?_ ?_
    rotate_left
    ·simp only [putAll, Act.put, List.setIfInBounds_toArray, List.set_cons_zero, List.set_cons_succ]
     rfl
    refine one_ (i := 9) (N := some 7) #[true, true, true, true, true, true, true, true, true, true, true, false, false, false] rfl rfl (one_of HT_.out (by kernel_rfl)) (by decide) (fun K hK => ?_)
    refine box_step ?hg (N := 7) ?hd (cs := #[.int .i64 0, .int .i64 0]) (t := 61) ?hr ?_; (case hd => rfl); (case hg => rfl); (case hr => first | (go_simp; done) | (go_simp; rfl))
    intro gb189 hg w18 hbox hb
    have n0_ := Aside0.mk (Kd.R_below (Kd.R_elderB (by (with_reducible repeat (first | apply Kd.R_alloc | apply Kd.R_drewN | apply Kd.R_drew)); exact HO181.out) gb189 (Nat.le_of_eq hg.symm)) hb)
    have n1_ := Aside0.mk (blk_below (g := gb176) (o := .cells #[.int .i64 a1_0, .int .i64 a1_1] 28 (0, 0)) (by (with_reducible repeat (first | refine blk_drewN ?_ _ | refine blk_drew ?_ | refine blk_alloc ?_ _)); exact BK176.out) hb)
    have n2_ := Aside0.mk (blk_below (g := gb177) (o := .cells #[.int .i64 0, .int .i64 0] 28 (0, 0)) (by (with_reducible repeat (first | refine blk_drewN ?_ _ | refine blk_drew ?_ | refine blk_alloc ?_ _)); exact BK177.out) hb)
    have n3_ := Aside0.mk (blk_below (g := gb178) (o := .cells #[.int .i64 0, .int .i64 0] 28 (0, 0)) (by (with_reducible repeat (first | refine blk_drewN ?_ _ | refine blk_drew ?_ | refine blk_alloc ?_ _)); exact BK178.out) hb)
    have n4_ := Aside0.mk (blk_below (g := gb190) (o := .cells #[.int .i64 0, .int .i64 0] 61 (0, 0)) (by (with_reducible repeat (first | refine blk_drewN ?_ _ | refine blk_drew ?_ | refine blk_alloc ?_ _)); exact BK190.out) hb)
    have n5_ := Aside0.mk (below_step (by repeat (first | (with_reducible first | exact HB.out | apply below_alloc | apply pw_below_drewN | apply below_drew1 | refine below_set ?_ GE176.out | refine below_set ?_ GE177.out | refine below_set ?_ GE178.out | refine below_set ?_ GE190.out) | exact HB.out)) hb)
    have n6_ := Aside0.mk (hbox)
    have n7_ := Aside0.mk ((by rw [hg]; exact (below_size (by repeat (first | (with_reducible first | exact HB.out | apply below_alloc | apply pw_below_drewN | apply below_drew1 | refine below_set ?_ GE176.out | refine below_set ?_ GE177.out | refine below_set ?_ GE178.out | refine below_set ?_ GE190.out) | exact HB.out))) : w.heap.size ≤ gb189))
    have n8_ := Aside0.mk ((by rw [hg]; exact (below_size (by repeat (first | (with_reducible first | exact HB.out | apply below_alloc | apply pw_below_drewN | apply below_drew1 | refine below_set ?_ GE176.out | refine below_set ?_ GE177.out | refine below_set ?_ GE178.out | refine below_set ?_ GE190.out) | exact HB.out))) : w.heap.size ≤ gb189))
    have n9_ := Aside0.mk ((by rw [hg]; exact Nat.ne_of_lt (blk_lt (g := gb176) (o := .cells #[.int .i64 a1_0, .int .i64 a1_1] 28 (0, 0)) (by (with_reducible repeat (first | refine blk_drewN ?_ _ | refine blk_drew ?_ | refine blk_alloc ?_ _)); exact BK176.out)) : gb176 ≠ gb189))
    have n10_ := Aside0.mk ((by rw [hg]; exact Nat.ne_of_gt (blk_lt (g := gb176) (o := .cells #[.int .i64 a1_0, .int .i64 a1_1] 28 (0, 0)) (by (with_reducible repeat (first | refine blk_drewN ?_ _ | refine blk_drew ?_ | refine blk_alloc ?_ _)); exact BK176.out)) : gb189 ≠ gb176))
    have n11_ := Aside0.mk ((by rw [hg]; exact Nat.ne_of_lt (blk_lt (g := gb177) (o := .cells #[.int .i64 0, .int .i64 0] 28 (0, 0)) (by (with_reducible repeat (first | refine blk_drewN ?_ _ | refine blk_drew ?_ | refine blk_alloc ?_ _)); exact BK177.out)) : gb177 ≠ gb189))
    have n12_ := Aside0.mk ((by rw [hg]; exact Nat.ne_of_gt (blk_lt (g := gb177) (o := .cells #[.int .i64 0, .int .i64 0] 28 (0, 0)) (by (with_reducible repeat (first | refine blk_drewN ?_ _ | refine blk_drew ?_ | refine blk_alloc ?_ _)); exact BK177.out)) : gb189 ≠ gb177))
    have n13_ := Aside0.mk ((by rw [hg]; exact Nat.ne_of_lt (blk_lt (g := gb178) (o := .cells #[.int .i64 0, .int .i64 0] 28 (0, 0)) (by (with_reducible repeat (first | refine blk_drewN ?_ _ | refine blk_drew ?_ | refine blk_alloc ?_ _)); exact BK178.out)) : gb178 ≠ gb189))
    have n14_ := Aside0.mk ((by rw [hg]; exact Nat.ne_of_gt (blk_lt (g := gb178) (o := .cells #[.int .i64 0, .int .i64 0] 28 (0, 0)) (by (with_reducible repeat (first | refine blk_drewN ?_ _ | refine blk_drew ?_ | refine blk_alloc ?_ _)); exact BK178.out)) : gb189 ≠ gb178))
    have n15_ := Aside0.mk ((by rw [hg]; exact Nat.ne_of_lt (blk_lt (g := gb190) (o := .cells #[.int .i64 0, .int .i64 0] 61 (0, 0)) (by (with_reducible repeat (first | refine blk_drewN ?_ _ | refine blk_drew ?_ | refine blk_alloc ?_ _)); exact BK190.out)) : gb190 ≠ gb189))
    have n16_ := Aside0.mk ((by rw [hg]; exact Nat.ne_of_gt (blk_lt (g := gb190) (o := .cells #[.int .i64 0, .int .i64 0] 61 (0, 0)) (by (with_reducible repeat (first | refine blk_drewN ?_ _ | refine blk_drew ?_ | refine blk_alloc ?_ _)); exact BK190.out)) : gb189 ≠ gb190))
    clear HO181
    clear BK176
    clear BK177
    clear BK178
    clear BK190
    clear HB
    have HO181 := n0_
    have BK176 := n1_
    have BK177 := n2_
    have BK178 := n3_
    have BK190 := n4_
    have HB := n5_
    have BK189 := n6_
    have GW189 := n7_
    have GE189 := n8_
    have NB176_189 := n9_
    have NB189_176 := n10_
    have NB177_189 := n11_
    have NB189_177 := n12_
    have NB178_189 := n13_
    have NB189_178 := n14_
    have NB190_189 := n15_
    have NB189_190 := n16_
    clear n0_ n1_ n2_ n3_ n4_ n5_ n6_ n7_ n8_ n9_ n10_ n11_ n12_ n13_ n14_ n15_ n16_
    clear hb hbox hg
    refine hK.out _ _ ⟨(blk_cell BK176.out 0).trans rfl, (blk_cell BK176.out 1).trans rfl⟩ (fun hHeld => ?_)
    clear hK K
    refine norm_ (a' := ?_) ?_ ?_
    rotate_left
    ·show Act.put _ (some 7) _ = _
     simp only [Act.put, List.setIfInBounds_toArray, List.set_cons_zero, List.set_cons_succ, i64_w, i32_w]
     rfl
    exact norm_ (by first | (simp only [putAll, Act.put, List.setIfInBounds_toArray, List.set_cons_zero, List.set_cons_succ]; done) | (simp only [putAll, Act.put, List.setIfInBounds_toArray, List.set_cons_zero, List.set_cons_succ]; rfl)) (hJ1_3_4_9_10 (_, gb189, gb190) _ ⟨hHeld, (by (with_reducible repeat (first | apply Kd.R_alloc | apply Kd.R_drewN | apply Kd.R_drew)); exact Kd.R_mono HO181.out (fun _ hk => ⟨hk.2, hk.1⟩)), (by (with_reducible repeat (first | refine blk_drewN ?_ _ | refine blk_drew ?_ | refine blk_alloc ?_ _)); exact BK176.out), (by (with_reducible repeat (first | refine blk_drewN ?_ _ | refine blk_drew ?_ | refine blk_alloc ?_ _)); exact BK177.out), (by (with_reducible repeat (first | refine blk_drewN ?_ _ | refine blk_drew ?_ | refine blk_alloc ?_ _)); exact BK178.out), (by (with_reducible repeat (first | refine blk_drewN ?_ _ | refine blk_drew ?_ | refine blk_alloc ?_ _)); exact BK189.out), (by (with_reducible repeat (first | refine blk_drewN ?_ _ | refine blk_drew ?_ | refine blk_alloc ?_ _)); exact BK190.out), GW189.out, GE189.out, NB176_189.out, NB189_176.out, NB177_189.out, NB189_177.out, NB178_189.out, NB189_178.out, NB190_189.out, NB189_190.out, GW190.out, GE190.out, NB176_190.out, NB190_176.out, NB177_190.out, NB190_177.out, NB178_190.out, NB190_178.out, (by repeat (first | (with_reducible first | exact HB.out | apply below_alloc | apply pw_below_drewN | apply below_drew1 | refine below_set ?_ GE176.out | refine below_set ?_ GE177.out | refine below_set ?_ GE178.out | refine below_set ?_ GE190.out | refine below_set ?_ GE189.out) | exact HB.out))⟩)
  ·skip
   rintro ⟨v180, gb189⟩ w17 ⟨hS_, h0_, h1_, h2_, h3_, h4_, h5_, h6_, h7_, h8_, h9_, h10_, h11_, h12_, h13_⟩
   have n0_ : Aside0 (Kd.R k61 61 w17 w.heap.size (fun k_ => k_ ≠ gb189) v180 t179) := ⟨h0_⟩
   have n1_ : Aside0 (w17.heap[gb176]? = some (.cells #[.int .i64 a1_0, .int .i64 a1_1] 28 (0, 0))) := ⟨h1_⟩
   have n2_ : Aside0 (w17.heap[gb177]? = some (.cells #[.int .i64 0, .int .i64 0] 28 (0, 0))) := ⟨h2_⟩
   have n3_ : Aside0 (w17.heap[gb178]? = some (.cells #[.int .i64 0, .int .i64 0] 28 (0, 0))) := ⟨h3_⟩
   have n4_ : Aside0 (w17.heap[gb189]? = some (.cells #[.int .i64 0, .int .i64 0] 61 (0, 0))) := ⟨h4_⟩
   have n5_ : Aside0 (w.heap.size ≤ gb189) := ⟨h5_⟩
   have n6_ : Aside0 (w.heap.size ≤ gb189) := ⟨h6_⟩
   have n7_ : Aside0 (gb176 ≠ gb189) := ⟨h7_⟩
   have n8_ : Aside0 (gb189 ≠ gb176) := ⟨h8_⟩
   have n9_ : Aside0 (gb177 ≠ gb189) := ⟨h9_⟩
   have n10_ : Aside0 (gb189 ≠ gb177) := ⟨h10_⟩
   have n11_ : Aside0 (gb178 ≠ gb189) := ⟨h11_⟩
   have n12_ : Aside0 (gb189 ≠ gb178) := ⟨h12_⟩
   have n13_ : Aside0 (Below w.heap.size w w17) := ⟨h13_⟩
   clear BK176
   clear BK177
   clear BK178
   clear HB
   clear h0_ h1_ h2_ h3_ h4_ h5_ h6_ h7_ h8_ h9_ h10_ h11_ h12_ h13_
   have HO181 := n0_
   have BK176 := n1_
   have BK177 := n2_
   have BK178 := n3_
   have BK189 := n4_
   have GW189 := n5_
   have GE189 := n6_
   have NB176_189 := n7_
   have NB189_176 := n8_
   have NB177_189 := n9_
   have NB189_177 := n10_
   have NB178_189 := n11_
   have NB189_178 := n12_
   have HB := n13_
   clear n0_ n1_ n2_ n3_ n4_ n5_ n6_ n7_ n8_ n9_ n10_ n11_ n12_ n13_
   have hHeld : w17.cell? ⟨gb176, 0, none⟩ = some (.int .i64 a1_0) ∧ w17.cell? ⟨gb176, 1, none⟩ = some (.int .i64 a1_1) := hS_
   refine norm_ (a' := ?_) ?_ ?_
   rotate_left
   ·simp only [putAll, Act.put, List.setIfInBounds_toArray, List.set_cons_zero, List.set_cons_succ]
    rfl
   refine one_ (i := 10) (N := some 8) #[true, true, true, true, true, true, true, true, true, true, true, false, false, false] rfl rfl (one_of HT_.out (by kernel_rfl)) (by decide) (fun K hK => ?_)
   refine box_step ?hg (N := 8) ?hd (cs := #[.int .i64 0, .int .i64 0]) (t := 61) ?hr ?_; (case hd => rfl); (case hg => rfl); (case hr => first | (go_simp; done) | (go_simp; rfl))
   intro gb190 hg w18 hbox hb
   have n0_ := Aside0.mk (Kd.R_below (Kd.R_elderB (by (with_reducible repeat (first | apply Kd.R_alloc | apply Kd.R_drewN | apply Kd.R_drew)); exact HO181.out) gb190 (Nat.le_of_eq hg.symm)) hb)
   have n1_ := Aside0.mk (blk_below (g := gb176) (o := .cells #[.int .i64 a1_0, .int .i64 a1_1] 28 (0, 0)) (by (with_reducible repeat (first | refine blk_drewN ?_ _ | refine blk_drew ?_ | refine blk_alloc ?_ _)); exact BK176.out) hb)
   have n2_ := Aside0.mk (blk_below (g := gb177) (o := .cells #[.int .i64 0, .int .i64 0] 28 (0, 0)) (by (with_reducible repeat (first | refine blk_drewN ?_ _ | refine blk_drew ?_ | refine blk_alloc ?_ _)); exact BK177.out) hb)
   have n3_ := Aside0.mk (blk_below (g := gb178) (o := .cells #[.int .i64 0, .int .i64 0] 28 (0, 0)) (by (with_reducible repeat (first | refine blk_drewN ?_ _ | refine blk_drew ?_ | refine blk_alloc ?_ _)); exact BK178.out) hb)
   have n4_ := Aside0.mk (blk_below (g := gb189) (o := .cells #[.int .i64 0, .int .i64 0] 61 (0, 0)) (by (with_reducible repeat (first | refine blk_drewN ?_ _ | refine blk_drew ?_ | refine blk_alloc ?_ _)); exact BK189.out) hb)
   have n5_ := Aside0.mk (below_step (by repeat (first | (with_reducible first | exact HB.out | apply below_alloc | apply pw_below_drewN | apply below_drew1 | refine below_set ?_ GE176.out | refine below_set ?_ GE177.out | refine below_set ?_ GE178.out | refine below_set ?_ GE189.out) | exact HB.out)) hb)
   have n6_ := Aside0.mk (hbox)
   have n7_ := Aside0.mk ((by rw [hg]; exact (below_size (by repeat (first | (with_reducible first | exact HB.out | apply below_alloc | apply pw_below_drewN | apply below_drew1 | refine below_set ?_ GE176.out | refine below_set ?_ GE177.out | refine below_set ?_ GE178.out | refine below_set ?_ GE189.out) | exact HB.out))) : w.heap.size ≤ gb190))
   have n8_ := Aside0.mk ((by rw [hg]; exact (below_size (by repeat (first | (with_reducible first | exact HB.out | apply below_alloc | apply pw_below_drewN | apply below_drew1 | refine below_set ?_ GE176.out | refine below_set ?_ GE177.out | refine below_set ?_ GE178.out | refine below_set ?_ GE189.out) | exact HB.out))) : w.heap.size ≤ gb190))
   have n9_ := Aside0.mk ((by rw [hg]; exact Nat.ne_of_lt (blk_lt (g := gb176) (o := .cells #[.int .i64 a1_0, .int .i64 a1_1] 28 (0, 0)) (by (with_reducible repeat (first | refine blk_drewN ?_ _ | refine blk_drew ?_ | refine blk_alloc ?_ _)); exact BK176.out)) : gb176 ≠ gb190))
   have n10_ := Aside0.mk ((by rw [hg]; exact Nat.ne_of_gt (blk_lt (g := gb176) (o := .cells #[.int .i64 a1_0, .int .i64 a1_1] 28 (0, 0)) (by (with_reducible repeat (first | refine blk_drewN ?_ _ | refine blk_drew ?_ | refine blk_alloc ?_ _)); exact BK176.out)) : gb190 ≠ gb176))
   have n11_ := Aside0.mk ((by rw [hg]; exact Nat.ne_of_lt (blk_lt (g := gb177) (o := .cells #[.int .i64 0, .int .i64 0] 28 (0, 0)) (by (with_reducible repeat (first | refine blk_drewN ?_ _ | refine blk_drew ?_ | refine blk_alloc ?_ _)); exact BK177.out)) : gb177 ≠ gb190))
   have n12_ := Aside0.mk ((by rw [hg]; exact Nat.ne_of_gt (blk_lt (g := gb177) (o := .cells #[.int .i64 0, .int .i64 0] 28 (0, 0)) (by (with_reducible repeat (first | refine blk_drewN ?_ _ | refine blk_drew ?_ | refine blk_alloc ?_ _)); exact BK177.out)) : gb190 ≠ gb177))
   have n13_ := Aside0.mk ((by rw [hg]; exact Nat.ne_of_lt (blk_lt (g := gb178) (o := .cells #[.int .i64 0, .int .i64 0] 28 (0, 0)) (by (with_reducible repeat (first | refine blk_drewN ?_ _ | refine blk_drew ?_ | refine blk_alloc ?_ _)); exact BK178.out)) : gb178 ≠ gb190))
   have n14_ := Aside0.mk ((by rw [hg]; exact Nat.ne_of_gt (blk_lt (g := gb178) (o := .cells #[.int .i64 0, .int .i64 0] 28 (0, 0)) (by (with_reducible repeat (first | refine blk_drewN ?_ _ | refine blk_drew ?_ | refine blk_alloc ?_ _)); exact BK178.out)) : gb190 ≠ gb178))
   have n15_ := Aside0.mk ((by rw [hg]; exact Nat.ne_of_lt (blk_lt (g := gb189) (o := .cells #[.int .i64 0, .int .i64 0] 61 (0, 0)) (by (with_reducible repeat (first | refine blk_drewN ?_ _ | refine blk_drew ?_ | refine blk_alloc ?_ _)); exact BK189.out)) : gb189 ≠ gb190))
   have n16_ := Aside0.mk ((by rw [hg]; exact Nat.ne_of_gt (blk_lt (g := gb189) (o := .cells #[.int .i64 0, .int .i64 0] 61 (0, 0)) (by (with_reducible repeat (first | refine blk_drewN ?_ _ | refine blk_drew ?_ | refine blk_alloc ?_ _)); exact BK189.out)) : gb190 ≠ gb189))
   clear HO181
   clear BK176
   clear BK177
   clear BK178
   clear BK189
   clear HB
   have HO181 := n0_
   have BK176 := n1_
   have BK177 := n2_
   have BK178 := n3_
   have BK189 := n4_
   have HB := n5_
   have BK190 := n6_
   have GW190 := n7_
   have GE190 := n8_
   have NB176_190 := n9_
   have NB190_176 := n10_
   have NB177_190 := n11_
   have NB190_177 := n12_
   have NB178_190 := n13_
   have NB190_178 := n14_
   have NB189_190 := n15_
   have NB190_189 := n16_
   clear n0_ n1_ n2_ n3_ n4_ n5_ n6_ n7_ n8_ n9_ n10_ n11_ n12_ n13_ n14_ n15_ n16_
   clear hb hbox hg
   refine hK.out _ _ ⟨(blk_cell BK176.out 0).trans rfl, (blk_cell BK176.out 1).trans rfl⟩ (fun hHeld => ?_)
   clear hK K
   refine norm_ (a' := ?_) ?_ ?_
   rotate_left
   ·show Act.put _ (some 8) _ = _
    simp only [Act.put, List.setIfInBounds_toArray, List.set_cons_zero, List.set_cons_succ, i64_w, i32_w]
    rfl
   exact norm_ (by first | (simp only [putAll, Act.put, List.setIfInBounds_toArray, List.set_cons_zero, List.set_cons_succ]; done) | (simp only [putAll, Act.put, List.setIfInBounds_toArray, List.set_cons_zero, List.set_cons_succ]; rfl)) (hJ1_3_4_9_10 (_, gb189, gb190) _ ⟨hHeld, (by (with_reducible repeat (first | apply Kd.R_alloc | apply Kd.R_drewN | apply Kd.R_drew)); exact HO181.out), (by (with_reducible repeat (first | refine blk_drewN ?_ _ | refine blk_drew ?_ | refine blk_alloc ?_ _)); exact BK176.out), (by (with_reducible repeat (first | refine blk_drewN ?_ _ | refine blk_drew ?_ | refine blk_alloc ?_ _)); exact BK177.out), (by (with_reducible repeat (first | refine blk_drewN ?_ _ | refine blk_drew ?_ | refine blk_alloc ?_ _)); exact BK178.out), (by (with_reducible repeat (first | refine blk_drewN ?_ _ | refine blk_drew ?_ | refine blk_alloc ?_ _)); exact BK189.out), (by (with_reducible repeat (first | refine blk_drewN ?_ _ | refine blk_drew ?_ | refine blk_alloc ?_ _)); exact BK190.out), GW189.out, GE189.out, NB176_189.out, NB189_176.out, NB177_189.out, NB189_177.out, NB178_189.out, NB189_178.out, NB190_189.out, NB189_190.out, GW190.out, GE190.out, NB176_190.out, NB190_176.out, NB177_190.out, NB190_177.out, NB178_190.out, NB190_178.out, (by repeat (first | (with_reducible first | exact HB.out | apply below_alloc | apply pw_below_drewN | apply below_drew1 | refine below_set ?_ GE176.out | refine below_set ?_ GE177.out | refine below_set ?_ GE178.out | refine below_set ?_ GE189.out | refine below_set ?_ GE190.out) | exact HB.out))⟩)
 rintro ⟨v180, gb189, gb190⟩ w18 ⟨hS_, h0_, h1_, h2_, h3_, h4_, h5_, h6_, h7_, h8_, h9_, h10_, h11_, h12_, h13_, h14_, h15_, h16_, h17_, h18_, h19_, h20_, h21_, h22_, h23_, h24_⟩
 have n0_ : Aside0 (Kd.R k61 61 w18 w.heap.size (fun k_ => k_ ≠ gb189 ∧ k_ ≠ gb190) v180 t179) := ⟨h0_⟩
 have n1_ : Aside0 (w18.heap[gb176]? = some (.cells #[.int .i64 a1_0, .int .i64 a1_1] 28 (0, 0))) := ⟨h1_⟩
 have n2_ : Aside0 (w18.heap[gb177]? = some (.cells #[.int .i64 0, .int .i64 0] 28 (0, 0))) := ⟨h2_⟩
 have n3_ : Aside0 (w18.heap[gb178]? = some (.cells #[.int .i64 0, .int .i64 0] 28 (0, 0))) := ⟨h3_⟩
 have n4_ : Aside0 (w18.heap[gb189]? = some (.cells #[.int .i64 0, .int .i64 0] 61 (0, 0))) := ⟨h4_⟩
 have n5_ : Aside0 (w18.heap[gb190]? = some (.cells #[.int .i64 0, .int .i64 0] 61 (0, 0))) := ⟨h5_⟩
 have n6_ : Aside0 (w.heap.size ≤ gb189) := ⟨h6_⟩
 have n7_ : Aside0 (w.heap.size ≤ gb189) := ⟨h7_⟩
 have n8_ : Aside0 (gb176 ≠ gb189) := ⟨h8_⟩
 have n9_ : Aside0 (gb189 ≠ gb176) := ⟨h9_⟩
 have n10_ : Aside0 (gb177 ≠ gb189) := ⟨h10_⟩
 have n11_ : Aside0 (gb189 ≠ gb177) := ⟨h11_⟩
 have n12_ : Aside0 (gb178 ≠ gb189) := ⟨h12_⟩
 have n13_ : Aside0 (gb189 ≠ gb178) := ⟨h13_⟩
 have n14_ : Aside0 (gb190 ≠ gb189) := ⟨h14_⟩
 have n15_ : Aside0 (gb189 ≠ gb190) := ⟨h15_⟩
 have n16_ : Aside0 (w.heap.size ≤ gb190) := ⟨h16_⟩
 have n17_ : Aside0 (w.heap.size ≤ gb190) := ⟨h17_⟩
 have n18_ : Aside0 (gb176 ≠ gb190) := ⟨h18_⟩
 have n19_ : Aside0 (gb190 ≠ gb176) := ⟨h19_⟩
 have n20_ : Aside0 (gb177 ≠ gb190) := ⟨h20_⟩
 have n21_ : Aside0 (gb190 ≠ gb177) := ⟨h21_⟩
 have n22_ : Aside0 (gb178 ≠ gb190) := ⟨h22_⟩
 have n23_ : Aside0 (gb190 ≠ gb178) := ⟨h23_⟩
 have n24_ : Aside0 (Below w.heap.size w w18) := ⟨h24_⟩
 clear BK176
 clear BK177
 clear BK178
 clear HB
 clear h0_ h1_ h2_ h3_ h4_ h5_ h6_ h7_ h8_ h9_ h10_ h11_ h12_ h13_ h14_ h15_ h16_ h17_ h18_ h19_ h20_ h21_ h22_ h23_ h24_
 have HO181 := n0_
 have BK176 := n1_
 have BK177 := n2_
 have BK178 := n3_
 have BK189 := n4_
 have BK190 := n5_
 have GW189 := n6_
 have GE189 := n7_
 have NB176_189 := n8_
 have NB189_176 := n9_
 have NB177_189 := n10_
 have NB189_177 := n11_
 have NB178_189 := n12_
 have NB189_178 := n13_
 have NB190_189 := n14_
 have NB189_190 := n15_
 have GW190 := n16_
 have GE190 := n17_
 have NB176_190 := n18_
 have NB190_176 := n19_
 have NB177_190 := n20_
 have NB190_177 := n21_
 have NB178_190 := n22_
 have NB190_178 := n23_
 have HB := n24_
 clear n0_ n1_ n2_ n3_ n4_ n5_ n6_ n7_ n8_ n9_ n10_ n11_ n12_ n13_ n14_ n15_ n16_ n17_ n18_ n19_ n20_ n21_ n22_ n23_ n24_
 have hHeld : w18.cell? ⟨gb176, 0, none⟩ = some (.int .i64 a1_0) ∧ w18.cell? ⟨gb176, 1, none⟩ = some (.int .i64 a1_1) := hS_
 refine norm_ (a' := ?_) ?_ ?_
 rotate_left
 ·simp only [putAll, Act.put, List.setIfInBounds_toArray, List.set_cons_zero, List.set_cons_succ]
  rfl
 refine one_ (i := 11) (N := none) #[true, true, true, true, true, true, true, true, true, true, true, true, false, false] rfl rfl (one_of HT_.out (by kernel_rfl)) (by decide) (fun K hK => ?_)
 have hs19 : w18.cell? ⟨gb189, 0, none⟩ = some (.int .i64 0) := (blk_cell BK189.out 0).trans rfl
 have hfs19 := blk_frozen BK189.out 0
 have hns19_0 := NB176_189.out
 have hns19_1 := NB177_189.out
 have hns19_2 := NB178_189.out
 have hns19_4 := NB190_189.out
 have hms19_0 := NB189_176.out
 have hms19_1 := NB189_177.out
 have hms19_2 := NB189_178.out
 have hms19_4 := NB189_190.out
 have hs20 : w18.cell? ⟨gb189, 1, none⟩ = some (.int .i64 0) := (blk_cell BK189.out 1).trans rfl
 have hfs20 := blk_frozen BK189.out 1
 have hns20_0 := NB176_189.out
 have hns20_1 := NB177_189.out
 have hns20_2 := NB178_189.out
 have hns20_4 := NB190_189.out
 have hms20_0 := NB189_176.out
 have hms20_1 := NB189_177.out
 have hms20_2 := NB189_178.out
 have hms20_4 := NB189_190.out
 refine skip_ (w1 := ?_) (by rfl) rfl ?_ ?_
 rotate_left
 ·go_simp
  rfl
 refine hK.out _ _ ⟨((cell_far (p := ⟨gb189, _, none⟩) NB176_189.out _).trans (((cell_far (p := ⟨gb189, _, none⟩) NB176_189.out _).trans (hHeld.1)))), ((cell_far (p := ⟨gb189, _, none⟩) NB176_189.out _).trans (((cell_far (p := ⟨gb189, _, none⟩) NB176_189.out _).trans (hHeld.2))))⟩ (fun hHeld => ?_)
 clear hK K
 refine one_ (i := 12) (N := none) #[true, true, true, true, true, true, true, true, true, true, true, true, true, false] rfl rfl (one_of HT_.out (by kernel_rfl)) (by decide) (fun K hK => ?_)
 have hs21 : w18.cell? ⟨gb190, 0, none⟩ = some (.int .i64 0) := (blk_cell BK190.out 0).trans rfl
 have hfs21 := blk_frozen BK190.out 0
 have hns21_0 := NB176_190.out
 have hns21_1 := NB177_190.out
 have hns21_2 := NB178_190.out
 have hns21_3 := NB189_190.out
 have hms21_0 := NB190_176.out
 have hms21_1 := NB190_177.out
 have hms21_2 := NB190_178.out
 have hms21_3 := NB190_189.out
 have hs22 : w18.cell? ⟨gb190, 1, none⟩ = some (.int .i64 0) := (blk_cell BK190.out 1).trans rfl
 have hfs22 := blk_frozen BK190.out 1
 have hns22_0 := NB176_190.out
 have hns22_1 := NB177_190.out
 have hns22_2 := NB178_190.out
 have hns22_3 := NB189_190.out
 have hms22_0 := NB190_176.out
 have hms22_1 := NB190_177.out
 have hms22_2 := NB190_178.out
 have hms22_3 := NB190_189.out
 refine skip_ (w1 := ?_) (by rfl) rfl ?_ ?_
 rotate_left
 ·go_simp
  rfl
 refine hK.out _ _ ⟨((cell_far (p := ⟨gb190, _, none⟩) NB176_190.out _).trans (((cell_far (p := ⟨gb190, _, none⟩) NB176_190.out _).trans (hHeld.1)))), ((cell_far (p := ⟨gb190, _, none⟩) NB176_190.out _).trans (((cell_far (p := ⟨gb190, _, none⟩) NB176_190.out _).trans (hHeld.2))))⟩ (fun hHeld => ?_)
 clear hK K
 refine pure_ (i := 13) (N := some 6) (v := ?_) (a' := ?_) #[true, true, true, true, true, true, true, true, true, true, true, true, true, true] rfl rfl (any_of HT_.out (by kernel_rfl)) (fun _ _ _ h => h) (Or.inl ⟨by rfl, ?_⟩) ?_ ?_
 rotate_left
 ·intro w'
  go_simp
  with_reducible rfl
 rotate_left
 ·simp only [Act.put, List.setIfInBounds_toArray, List.set_cons_zero, List.set_cons_succ, i64_w, i32_w]
  rfl
 refine done_ (done_of HT_.out (by kernel_rfl)) ?_
 try go_wp2
 have n0_ : Aside0 (Kd.R k61 61 ((((w18.setCell ⟨gb189, 0, none⟩ (.int .i64 t184)).setCell ⟨gb189, 1, none⟩ (.int .i64 t185)).setCell ⟨gb190, 0, none⟩ (.int .i64 t186)).setCell ⟨gb190, 1, none⟩ (.int .i64 t187)) w.heap.size (fun k_ => k_ ≠ gb189 ∧ k_ ≠ gb190) v180 t179) := ⟨by (with_reducible repeat (first | apply Kd.R_alloc | apply Kd.R_drewN | apply Kd.R_drew)); exact Kd.R_mono (Kd.R_far (p := ⟨gb190, 1, none⟩) (Kd.R_far (p := ⟨gb190, 0, none⟩) (Kd.R_far (p := ⟨gb189, 1, none⟩) (Kd.R_far (p := ⟨gb189, 0, none⟩) (Kd.R_mono (Kd.R_mono HO181.out (fun k_ hk => (⟨hk, hk.1⟩ : _ ∧ k_ ≠ gb189))) (fun k_ hk => (⟨hk, hk.1.2⟩ : _ ∧ k_ ≠ gb190))) (fun _ hk => hk.1.2) (.int .i64 t184)) (fun _ hk => hk.1.2) (.int .i64 t185)) (fun _ hk => hk.2) (.int .i64 t186)) (fun _ hk => hk.2) (.int .i64 t187)) (fun _ hk => ⟨hk.1.1.1, hk.1.1.2⟩)⟩
 have n1_ : Aside0 (((((w18.setCell ⟨gb189, 0, none⟩ (.int .i64 t184)).setCell ⟨gb189, 1, none⟩ (.int .i64 t185)).setCell ⟨gb190, 0, none⟩ (.int .i64 t186)).setCell ⟨gb190, 1, none⟩ (.int .i64 t187)).heap[gb176]? = some (.cells #[.int .i64 a1_0, .int .i64 a1_1] 28 (0, 0))) := ⟨by (with_reducible repeat (first | refine blk_drewN ?_ _ | refine blk_drew ?_ | refine blk_alloc ?_ _)); refine blk_far ?_ NB176_190.out _; (with_reducible repeat (first | refine blk_drewN ?_ _ | refine blk_drew ?_ | refine blk_alloc ?_ _)); refine blk_far ?_ NB176_190.out _; (with_reducible repeat (first | refine blk_drewN ?_ _ | refine blk_drew ?_ | refine blk_alloc ?_ _)); refine blk_far ?_ NB176_189.out _; (with_reducible repeat (first | refine blk_drewN ?_ _ | refine blk_drew ?_ | refine blk_alloc ?_ _)); refine blk_far ?_ NB176_189.out _; (with_reducible repeat (first | refine blk_drewN ?_ _ | refine blk_drew ?_ | refine blk_alloc ?_ _)); exact BK176.out⟩
 have n2_ : Aside0 (((((w18.setCell ⟨gb189, 0, none⟩ (.int .i64 t184)).setCell ⟨gb189, 1, none⟩ (.int .i64 t185)).setCell ⟨gb190, 0, none⟩ (.int .i64 t186)).setCell ⟨gb190, 1, none⟩ (.int .i64 t187)).heap[gb177]? = some (.cells #[.int .i64 0, .int .i64 0] 28 (0, 0))) := ⟨by (with_reducible repeat (first | refine blk_drewN ?_ _ | refine blk_drew ?_ | refine blk_alloc ?_ _)); refine blk_far ?_ NB177_190.out _; (with_reducible repeat (first | refine blk_drewN ?_ _ | refine blk_drew ?_ | refine blk_alloc ?_ _)); refine blk_far ?_ NB177_190.out _; (with_reducible repeat (first | refine blk_drewN ?_ _ | refine blk_drew ?_ | refine blk_alloc ?_ _)); refine blk_far ?_ NB177_189.out _; (with_reducible repeat (first | refine blk_drewN ?_ _ | refine blk_drew ?_ | refine blk_alloc ?_ _)); refine blk_far ?_ NB177_189.out _; (with_reducible repeat (first | refine blk_drewN ?_ _ | refine blk_drew ?_ | refine blk_alloc ?_ _)); exact BK177.out⟩
 have n3_ : Aside0 (((((w18.setCell ⟨gb189, 0, none⟩ (.int .i64 t184)).setCell ⟨gb189, 1, none⟩ (.int .i64 t185)).setCell ⟨gb190, 0, none⟩ (.int .i64 t186)).setCell ⟨gb190, 1, none⟩ (.int .i64 t187)).heap[gb178]? = some (.cells #[.int .i64 0, .int .i64 0] 28 (0, 0))) := ⟨by (with_reducible repeat (first | refine blk_drewN ?_ _ | refine blk_drew ?_ | refine blk_alloc ?_ _)); refine blk_far ?_ NB178_190.out _; (with_reducible repeat (first | refine blk_drewN ?_ _ | refine blk_drew ?_ | refine blk_alloc ?_ _)); refine blk_far ?_ NB178_190.out _; (with_reducible repeat (first | refine blk_drewN ?_ _ | refine blk_drew ?_ | refine blk_alloc ?_ _)); refine blk_far ?_ NB178_189.out _; (with_reducible repeat (first | refine blk_drewN ?_ _ | refine blk_drew ?_ | refine blk_alloc ?_ _)); refine blk_far ?_ NB178_189.out _; (with_reducible repeat (first | refine blk_drewN ?_ _ | refine blk_drew ?_ | refine blk_alloc ?_ _)); exact BK178.out⟩
 have n4_ : Aside0 (((((w18.setCell ⟨gb189, 0, none⟩ (.int .i64 t184)).setCell ⟨gb189, 1, none⟩ (.int .i64 t185)).setCell ⟨gb190, 0, none⟩ (.int .i64 t186)).setCell ⟨gb190, 1, none⟩ (.int .i64 t187)).heap[gb189]? = some (.cells #[.int .i64 t184, .int .i64 t185] 61 (0, 0))) := ⟨by (with_reducible repeat (first | refine blk_drewN ?_ _ | refine blk_drew ?_ | refine blk_alloc ?_ _)); refine blk_far ?_ NB189_190.out _; (with_reducible repeat (first | refine blk_drewN ?_ _ | refine blk_drew ?_ | refine blk_alloc ?_ _)); refine blk_far ?_ NB189_190.out _; (with_reducible repeat (first | refine blk_drewN ?_ _ | refine blk_drew ?_ | refine blk_alloc ?_ _)); refine blk_put (cs := #[.int .i64 t184, .int .i64 0]) ?_ 1 _ rfl; (with_reducible repeat (first | refine blk_drewN ?_ _ | refine blk_drew ?_ | refine blk_alloc ?_ _)); refine blk_put (cs := #[.int .i64 0, .int .i64 0]) ?_ 0 _ rfl; (with_reducible repeat (first | refine blk_drewN ?_ _ | refine blk_drew ?_ | refine blk_alloc ?_ _)); exact BK189.out⟩
 have n5_ : Aside0 (((((w18.setCell ⟨gb189, 0, none⟩ (.int .i64 t184)).setCell ⟨gb189, 1, none⟩ (.int .i64 t185)).setCell ⟨gb190, 0, none⟩ (.int .i64 t186)).setCell ⟨gb190, 1, none⟩ (.int .i64 t187)).heap[gb190]? = some (.cells #[.int .i64 t186, .int .i64 t187] 61 (0, 0))) := ⟨by (with_reducible repeat (first | refine blk_drewN ?_ _ | refine blk_drew ?_ | refine blk_alloc ?_ _)); refine blk_put (cs := #[.int .i64 t186, .int .i64 0]) ?_ 1 _ rfl; (with_reducible repeat (first | refine blk_drewN ?_ _ | refine blk_drew ?_ | refine blk_alloc ?_ _)); refine blk_put (cs := #[.int .i64 0, .int .i64 0]) ?_ 0 _ rfl; (with_reducible repeat (first | refine blk_drewN ?_ _ | refine blk_drew ?_ | refine blk_alloc ?_ _)); refine blk_far ?_ NB190_189.out _; (with_reducible repeat (first | refine blk_drewN ?_ _ | refine blk_drew ?_ | refine blk_alloc ?_ _)); refine blk_far ?_ NB190_189.out _; (with_reducible repeat (first | refine blk_drewN ?_ _ | refine blk_drew ?_ | refine blk_alloc ?_ _)); exact BK190.out⟩
 have n6_ : Aside0 (Below w.heap.size w ((((w18.setCell ⟨gb189, 0, none⟩ (.int .i64 t184)).setCell ⟨gb189, 1, none⟩ (.int .i64 t185)).setCell ⟨gb190, 0, none⟩ (.int .i64 t186)).setCell ⟨gb190, 1, none⟩ (.int .i64 t187))) := ⟨by repeat (first | (with_reducible first | exact HB.out | apply below_alloc | apply pw_below_drewN | apply below_drew1 | refine below_set ?_ GE176.out | refine below_set ?_ GE177.out | refine below_set ?_ GE178.out | refine below_set ?_ GE189.out | refine below_set ?_ GE190.out) | exact HB.out)⟩
 (try clear HO181)
 (try clear BK176)
 (try clear BK177)
 (try clear BK178)
 (try clear BK189)
 (try clear BK190)
 (try clear HB)
 generalize ((((w18.setCell ⟨gb189, 0, none⟩ (.int .i64 t184)).setCell ⟨gb189, 1, none⟩ (.int .i64 t185)).setCell ⟨gb190, 0, none⟩ (.int .i64 t186)).setCell ⟨gb190, 1, none⟩ (.int .i64 t187)) = w23 at n0_ n1_ n2_ n3_ n4_ n5_ n6_ ⊢
 have HO181 := n0_
 have BK176 := n1_
 have BK177 := n2_
 have BK178 := n3_
 have BK189 := n4_
 have BK190 := n5_
 have HB := n6_
 clear n0_ n1_ n2_ n3_ n4_ n5_ n6_
 have n0_ := Aside0.mk (Kd.R_drew HO181.out)
 have n1_ := Aside0.mk (blk_drew BK176.out)
 have n2_ := Aside0.mk (blk_drew BK177.out)
 have n3_ := Aside0.mk (blk_drew BK178.out)
 have n4_ := Aside0.mk (blk_drew BK189.out)
 have n5_ := Aside0.mk (blk_drew BK190.out)
 have n6_ := Aside0.mk (below_drew1 HB.out)
 clear HO181
 clear BK176
 clear BK177
 clear BK178
 clear BK189
 clear BK190
 clear HB
 have HO181 := n0_
 have BK176 := n1_
 have BK177 := n2_
 have BK178 := n3_
 have BK189 := n4_
 have BK190 := n5_
 have HB := n6_
 clear n0_ n1_ n2_ n3_ n4_ n5_ n6_
 refine start_ (n := 8) (S := fun w' => w'.cell? ⟨gb189, 0, none⟩ = some (.int .i64 t184) ∧ w'.cell? ⟨gb189, 1, none⟩ = some (.int .i64 t185) ∧ w'.cell? ⟨gb190, 0, none⟩ = some (.int .i64 t186) ∧ w'.cell? ⟨gb190, 1, none⟩ = some (.int .i64 t187)) (ds := []) #[false, false, false, false, false, false, false, false] (by kernel_rfl) rfl rfl ⟨(blk_cell BK189.out 0).trans rfl, (blk_cell BK189.out 1).trans rfl, (blk_cell BK190.out 0).trans rfl, (blk_cell BK190.out 1).trans rfl⟩ (fun hHeld => ?_); refine with_tabW impl_RangesFind.tab2 impl_RangesFind.bits2 (fun HT_ HW_ => ?_)
 generalize w23.drew = w24 at HO181 BK176 BK177 BK178 BK189 BK190 HB hHeld ⊢
 refine pure_ (i := 4) (N := some 22) (v := ?_) (a' := ?_) #[false, false, false, false, true, false, false, false] rfl rfl (any_of HT_.out (by kernel_rfl)) (fun _ _ _ h => h) (Or.inl ⟨by rfl, ?_⟩) ?_ ?_
 rotate_left
 ·intro w'
  go_simp
  with_reducible rfl
 rotate_left
 ·simp only [Act.put, List.setIfInBounds_toArray, List.set_cons_zero, List.set_cons_succ, i64_w, i32_w]
  rfl
 refine take_ (i := 0) (N := some 18) (v := ?_) (a' := ?_) #[true, false, false, false, true, false, false, false] rfl rfl (take_ofW HT_.out HW_.out (by kernel_rfl)) (fun _ _ _ h => h) (Or.inl ⟨by rfl, ?_⟩) hHeld ?_ ?_
 rotate_left
 ·rintro w' ⟨s0, s1, s2, s3⟩
  go_simp
  with_reducible rfl
 rotate_left
 ·simp only [Act.put, List.setIfInBounds_toArray, List.set_cons_zero, List.set_cons_succ, i64_w, i32_w]
  rfl
 refine take_ (i := 2) (N := some 20) (v := ?_) (a' := ?_) #[true, false, true, false, true, false, false, false] rfl rfl (take_ofW HT_.out HW_.out (by kernel_rfl)) (fun _ _ _ h => h) (Or.inl ⟨by rfl, ?_⟩) hHeld ?_ ?_
 rotate_left
 ·rintro w' ⟨s0, s1, s2, s3⟩
  go_simp
  with_reducible rfl
 rotate_left
 ·simp only [Act.put, List.setIfInBounds_toArray, List.set_cons_zero, List.set_cons_succ, i64_w, i32_w]
  rfl
 refine one_ (i := 1) (N := some 19) #[true, true, true, false, true, false, false, false] rfl rfl (one_of HT_.out (by kernel_rfl)) (by decide) (fun K hK => ?_)
 refine goes_ Try.func45 (by kernel_rfl) rfl #[.agg #[.int .i64 t184, .int .i64 t185]] (by rfl) rfl rfl (by (try simp only [List.map_toArray, List.map_cons, List.map_nil]); first | done | rfl | (simp only [List.length_drop, List.length_take]; rfl)) ?_
 with_reducible refine (impl_told.calls t184 t185 t191 t192 _ A6.out).mono ?_
 rintro e w25 ⟨rfl, hb⟩
 refine ⟨_, rfl, ?_⟩
 have n0_ := Aside0.mk (Kd.R_below (by (with_reducible repeat (first | apply Kd.R_alloc | apply Kd.R_drewN | apply Kd.R_drew)); exact HO181.out) hb)
 have n1_ := Aside0.mk (blk_below (g := gb176) (o := .cells #[.int .i64 a1_0, .int .i64 a1_1] 28 (0, 0)) (by (with_reducible repeat (first | refine blk_drewN ?_ _ | refine blk_drew ?_ | refine blk_alloc ?_ _)); exact BK176.out) hb)
 have n2_ := Aside0.mk (blk_below (g := gb177) (o := .cells #[.int .i64 0, .int .i64 0] 28 (0, 0)) (by (with_reducible repeat (first | refine blk_drewN ?_ _ | refine blk_drew ?_ | refine blk_alloc ?_ _)); exact BK177.out) hb)
 have n3_ := Aside0.mk (blk_below (g := gb178) (o := .cells #[.int .i64 0, .int .i64 0] 28 (0, 0)) (by (with_reducible repeat (first | refine blk_drewN ?_ _ | refine blk_drew ?_ | refine blk_alloc ?_ _)); exact BK178.out) hb)
 have n4_ := Aside0.mk (blk_below (g := gb189) (o := .cells #[.int .i64 t184, .int .i64 t185] 61 (0, 0)) (by (with_reducible repeat (first | refine blk_drewN ?_ _ | refine blk_drew ?_ | refine blk_alloc ?_ _)); exact BK189.out) hb)
 have n5_ := Aside0.mk (blk_below (g := gb190) (o := .cells #[.int .i64 t186, .int .i64 t187] 61 (0, 0)) (by (with_reducible repeat (first | refine blk_drewN ?_ _ | refine blk_drew ?_ | refine blk_alloc ?_ _)); exact BK190.out) hb)
 have n6_ := Aside0.mk (below_step (by repeat (first | (with_reducible first | exact HB.out | apply below_alloc | apply pw_below_drewN | apply below_drew1 | refine below_set ?_ GE176.out | refine below_set ?_ GE177.out | refine below_set ?_ GE178.out | refine below_set ?_ GE189.out | refine below_set ?_ GE190.out) | exact HB.out)) hb)
 clear HO181
 clear BK176
 clear BK177
 clear BK178
 clear BK189
 clear BK190
 clear HB
 have HO181 := n0_
 have BK176 := n1_
 have BK177 := n2_
 have BK178 := n3_
 have BK189 := n4_
 have BK190 := n5_
 have HB := n6_
 clear n0_ n1_ n2_ n3_ n4_ n5_ n6_
 (try clear hb)
 (try clear hb2)
 (try clear hk)
 (try clear hi)
 refine hK.out _ _ ⟨(blk_cell BK189.out 0).trans rfl, (blk_cell BK189.out 1).trans rfl, (blk_cell BK190.out 0).trans rfl, (blk_cell BK190.out 1).trans rfl⟩ (fun hHeld => ?_)
 clear hK K
 refine norm_ (a' := ?_) ?_ ?_
 rotate_left
 ·show Act.put _ (some 19) _ = _
  simp only [Act.put, List.setIfInBounds_toArray, List.set_cons_zero, List.set_cons_succ, i64_w, i32_w]
  rfl
 refine one_ (i := 3) (N := some 21) #[true, true, true, true, true, false, false, false] rfl rfl (one_of HT_.out (by kernel_rfl)) (by decide) (fun K hK => ?_)
 refine goes_ Try.func45 (by kernel_rfl) rfl #[.agg #[.int .i64 t186, .int .i64 t187]] (by rfl) rfl rfl (by (try simp only [List.map_toArray, List.map_cons, List.map_nil]); first | done | rfl | (simp only [List.length_drop, List.length_take]; rfl)) ?_
 with_reducible refine (impl_told.calls t186 t187 t193 t194 _ A7.out).mono ?_
 rintro e w26 ⟨rfl, hb⟩
 refine ⟨_, rfl, ?_⟩
 have n0_ := Aside0.mk (Kd.R_below (by (with_reducible repeat (first | apply Kd.R_alloc | apply Kd.R_drewN | apply Kd.R_drew)); exact HO181.out) hb)
 have n1_ := Aside0.mk (blk_below (g := gb176) (o := .cells #[.int .i64 a1_0, .int .i64 a1_1] 28 (0, 0)) (by (with_reducible repeat (first | refine blk_drewN ?_ _ | refine blk_drew ?_ | refine blk_alloc ?_ _)); exact BK176.out) hb)
 have n2_ := Aside0.mk (blk_below (g := gb177) (o := .cells #[.int .i64 0, .int .i64 0] 28 (0, 0)) (by (with_reducible repeat (first | refine blk_drewN ?_ _ | refine blk_drew ?_ | refine blk_alloc ?_ _)); exact BK177.out) hb)
 have n3_ := Aside0.mk (blk_below (g := gb178) (o := .cells #[.int .i64 0, .int .i64 0] 28 (0, 0)) (by (with_reducible repeat (first | refine blk_drewN ?_ _ | refine blk_drew ?_ | refine blk_alloc ?_ _)); exact BK178.out) hb)
 have n4_ := Aside0.mk (blk_below (g := gb189) (o := .cells #[.int .i64 t184, .int .i64 t185] 61 (0, 0)) (by (with_reducible repeat (first | refine blk_drewN ?_ _ | refine blk_drew ?_ | refine blk_alloc ?_ _)); exact BK189.out) hb)
 have n5_ := Aside0.mk (blk_below (g := gb190) (o := .cells #[.int .i64 t186, .int .i64 t187] 61 (0, 0)) (by (with_reducible repeat (first | refine blk_drewN ?_ _ | refine blk_drew ?_ | refine blk_alloc ?_ _)); exact BK190.out) hb)
 have n6_ := Aside0.mk (below_step (by repeat (first | (with_reducible first | exact HB.out | apply below_alloc | apply pw_below_drewN | apply below_drew1 | refine below_set ?_ GE176.out | refine below_set ?_ GE177.out | refine below_set ?_ GE178.out | refine below_set ?_ GE189.out | refine below_set ?_ GE190.out) | exact HB.out)) hb)
 clear HO181
 clear BK176
 clear BK177
 clear BK178
 clear BK189
 clear BK190
 clear HB
 have HO181 := n0_
 have BK176 := n1_
 have BK177 := n2_
 have BK178 := n3_
 have BK189 := n4_
 have BK190 := n5_
 have HB := n6_
 clear n0_ n1_ n2_ n3_ n4_ n5_ n6_
 (try clear hb)
 (try clear hb2)
 (try clear hk)
 (try clear hi)
 refine hK.out _ _ ⟨(blk_cell BK189.out 0).trans rfl, (blk_cell BK189.out 1).trans rfl, (blk_cell BK190.out 0).trans rfl, (blk_cell BK190.out 1).trans rfl⟩ (fun hHeld => ?_)
 clear hK K
 refine norm_ (a' := ?_) ?_ ?_
 rotate_left
 ·show Act.put _ (some 21) _ = _
  simp only [Act.put, List.setIfInBounds_toArray, List.set_cons_zero, List.set_cons_succ, i64_w, i32_w]
  rfl
 refine one_ (i := 5) (N := none) #[true, true, true, true, true, true, false, false] rfl rfl (one_of HT_.out (by kernel_rfl)) (by decide) (fun K hK => ?_)
 have hs27 : w26.cell? ⟨gb177, 0, none⟩ = some (.int .i64 0) := (blk_cell BK177.out 0).trans rfl
 have hfs27 := blk_frozen BK177.out 0
 have hns27_0 := NB176_177.out
 have hns27_2 := NB178_177.out
 have hns27_3 := NB189_177.out
 have hns27_4 := NB190_177.out
 have hms27_0 := NB177_176.out
 have hms27_2 := NB177_178.out
 have hms27_3 := NB177_189.out
 have hms27_4 := NB177_190.out
 have hs28 : w26.cell? ⟨gb177, 1, none⟩ = some (.int .i64 0) := (blk_cell BK177.out 1).trans rfl
 have hfs28 := blk_frozen BK177.out 1
 have hns28_0 := NB176_177.out
 have hns28_2 := NB178_177.out
 have hns28_3 := NB189_177.out
 have hns28_4 := NB190_177.out
 have hms28_0 := NB177_176.out
 have hms28_2 := NB177_178.out
 have hms28_3 := NB177_189.out
 have hms28_4 := NB177_190.out
 refine skip_ (w1 := ?_) (by rfl) rfl ?_ ?_
 rotate_left
 ·go_simp
  rfl
 refine hK.out _ _ ⟨((cell_far (p := ⟨gb177, _, none⟩) NB189_177.out _).trans (((cell_far (p := ⟨gb177, _, none⟩) NB189_177.out _).trans (hHeld.1)))), ((cell_far (p := ⟨gb177, _, none⟩) NB189_177.out _).trans (((cell_far (p := ⟨gb177, _, none⟩) NB189_177.out _).trans (hHeld.2.1)))), ((cell_far (p := ⟨gb177, _, none⟩) NB190_177.out _).trans (((cell_far (p := ⟨gb177, _, none⟩) NB190_177.out _).trans (hHeld.2.2.1)))), ((cell_far (p := ⟨gb177, _, none⟩) NB190_177.out _).trans (((cell_far (p := ⟨gb177, _, none⟩) NB190_177.out _).trans (hHeld.2.2.2))))⟩ (fun hHeld => ?_)
 clear hK K
 refine one_ (i := 6) (N := none) #[true, true, true, true, true, true, true, false] rfl rfl (one_of HT_.out (by kernel_rfl)) (by decide) (fun K hK => ?_)
 have hs29 : w26.cell? ⟨gb178, 0, none⟩ = some (.int .i64 0) := (blk_cell BK178.out 0).trans rfl
 have hfs29 := blk_frozen BK178.out 0
 have hns29_0 := NB176_178.out
 have hns29_1 := NB177_178.out
 have hns29_3 := NB189_178.out
 have hns29_4 := NB190_178.out
 have hms29_0 := NB178_176.out
 have hms29_1 := NB178_177.out
 have hms29_3 := NB178_189.out
 have hms29_4 := NB178_190.out
 have hs30 : w26.cell? ⟨gb178, 1, none⟩ = some (.int .i64 0) := (blk_cell BK178.out 1).trans rfl
 have hfs30 := blk_frozen BK178.out 1
 have hns30_0 := NB176_178.out
 have hns30_1 := NB177_178.out
 have hns30_3 := NB189_178.out
 have hns30_4 := NB190_178.out
 have hms30_0 := NB178_176.out
 have hms30_1 := NB178_177.out
 have hms30_3 := NB178_189.out
 have hms30_4 := NB178_190.out
 refine skip_ (w1 := ?_) (by rfl) rfl ?_ ?_
 rotate_left
 ·go_simp
  rfl
 refine hK.out _ _ ⟨((cell_far (p := ⟨gb178, _, none⟩) NB189_178.out _).trans (((cell_far (p := ⟨gb178, _, none⟩) NB189_178.out _).trans (hHeld.1)))), ((cell_far (p := ⟨gb178, _, none⟩) NB189_178.out _).trans (((cell_far (p := ⟨gb178, _, none⟩) NB189_178.out _).trans (hHeld.2.1)))), ((cell_far (p := ⟨gb178, _, none⟩) NB190_178.out _).trans (((cell_far (p := ⟨gb178, _, none⟩) NB190_178.out _).trans (hHeld.2.2.1)))), ((cell_far (p := ⟨gb178, _, none⟩) NB190_178.out _).trans (((cell_far (p := ⟨gb178, _, none⟩) NB190_178.out _).trans (hHeld.2.2.2))))⟩ (fun hHeld => ?_)
 clear hK K
 refine pure_ (i := 7) (N := some 6) (v := ?_) (a' := ?_) #[true, true, true, true, true, true, true, true] rfl rfl (any_of HT_.out (by kernel_rfl)) (fun _ _ _ h => h) (Or.inl ⟨by rfl, ?_⟩) ?_ ?_
 rotate_left
 ·intro w'
  go_simp
  with_reducible rfl
 rotate_left
 ·simp only [Act.put, List.setIfInBounds_toArray, List.set_cons_zero, List.set_cons_succ, i64_w, i32_w]
  rfl
 refine done_ (done_of HT_.out (by kernel_rfl)) ?_
 try go_wp2
 refine bodyPost_ret (results_list (rs := [.cell 4 28, .cell 5 28, .tmp 6]) rfl (by simp) (.cell gb177 28 #[.int .i64 t191, .int .i64 t192] (0, 0) _ rfl (by (with_reducible repeat (first | refine blk_drewN ?_ _ | refine blk_drew ?_ | refine blk_alloc ?_ _)); refine blk_far ?_ NB177_178.out _; (with_reducible repeat (first | refine blk_drewN ?_ _ | refine blk_drew ?_ | refine blk_alloc ?_ _)); refine blk_far ?_ NB177_178.out _; (with_reducible repeat (first | refine blk_drewN ?_ _ | refine blk_drew ?_ | refine blk_alloc ?_ _)); refine blk_put (cs := #[.int .i64 t191, .int .i64 0]) ?_ 1 _ rfl; (with_reducible repeat (first | refine blk_drewN ?_ _ | refine blk_drew ?_ | refine blk_alloc ?_ _)); refine blk_put (cs := #[.int .i64 0, .int .i64 0]) ?_ 0 _ rfl; (with_reducible repeat (first | refine blk_drewN ?_ _ | refine blk_drew ?_ | refine blk_alloc ?_ _)); exact BK177.out) Try.underlying28 rfl (by kernel_rfl) (.cell gb178 28 #[.int .i64 t193, .int .i64 t194] (0, 0) _ rfl (by (with_reducible repeat (first | refine blk_drewN ?_ _ | refine blk_drew ?_ | refine blk_alloc ?_ _)); refine blk_put (cs := #[.int .i64 t193, .int .i64 0]) ?_ 1 _ rfl; (with_reducible repeat (first | refine blk_drewN ?_ _ | refine blk_drew ?_ | refine blk_alloc ?_ _)); refine blk_put (cs := #[.int .i64 0, .int .i64 0]) ?_ 0 _ rfl; (with_reducible repeat (first | refine blk_drewN ?_ _ | refine blk_drew ?_ | refine blk_alloc ?_ _)); refine blk_far ?_ NB178_177.out _; (with_reducible repeat (first | refine blk_drewN ?_ _ | refine blk_drew ?_ | refine blk_alloc ?_ _)); refine blk_far ?_ NB178_177.out _; (with_reducible repeat (first | refine blk_drewN ?_ _ | refine blk_drew ?_ | refine blk_alloc ?_ _)); exact BK178.out) Try.underlying28 rfl (by kernel_rfl) (.tmp .nil)))) rfl ?_
 exact ⟨by first | rfl | (simp [errW_none, errW_some] <;> rfl) | (simp [*, errW_none, errW_some] <;> rfl), by repeat (first | (with_reducible first | exact HB.out | apply below_alloc | apply pw_below_drewN | apply below_drew1 | refine below_set ?_ GE176.out | refine below_set ?_ GE177.out | refine below_set ?_ GE178.out | refine below_set ?_ GE189.out | refine below_set ?_ GE190.out) | exact HB.out)⟩

end Go.Proofs.Ytfegihmnpcjdgaa.PFnRangesWalk

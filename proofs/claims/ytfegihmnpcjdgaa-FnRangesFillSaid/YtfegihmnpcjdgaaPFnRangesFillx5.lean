-- Written by a program of this session's (over the kit's print), with contracts proved by hand among what it calls.
import Derived.Test.YtfegihmnpcjdgaaPFnRangesFillx0
import Derived.Test.YtfegihmnpcjdgaaPFnRangesFillx3
import Derived.Test.YtfegihmnpcjdgaaPFnRangesFillx4
namespace Go.Proofs.Ytfegihmnpcjdgaa.PFnRangesFill
open Go.RowKit Go.Proofs.YtfegihmnpcjdgaaW.PrintWords Go.Proofs.YtfegihmnpcjdgaaW.PrintLast Go.Proofs.YtfegihmnpcjdgaaW.PrintMore
attribute [local go_sem] max2_int min2_int max_two min_two max_three min_three max_four min_four   -- for this text's walks alone
set_option linter.unusedVariables false
set_option linter.unusedSimpArgs false

/-! ### impl_RangesFind: function 22 -/
def impl_RangesFind.f (l0 : List (S28)) (a1_0 : Int) (a1_1 : Int) : Option (Int × Int × Int × Int × Bool) := (impl_inserted.f l0).bind fun t177 => ((impl_given.f a1_0 a1_1).bind fun bt180 => ((ranges_Ranges_Find.f t177 bt180.1 bt180.2).bind fun bt182 => ((impl_told.f bt182.1 bt182.2.1).bind fun bt189 => ((impl_told.f bt182.2.2.1 bt182.2.2.2.1).bind fun bt191 => (some (bt189.1, bt189.2, bt191.1, bt191.2, bt182.2.2.2.2))))))
def impl_RangesFind.T1 : Bool × List (List Nat × List Nat) := (true, [([], []), ([0], [0]), ([], []), ([2, 1], [2]), ([1, 3, 3], [1, 3]), ([4], [4]), ([5], [5]), ([5], [5]), ([5], [5]), ([], []), ([], []), ([9, 6, 4, 0, 1, 2, 3, 4, 5, 6, 9, 10], [6, 9]), ([10, 7, 11, 0, 1, 2, 3, 4, 5, 6, 7, 9, 10, 11], [7, 10]), ([8, 12, 0, 1, 2, 3, 4, 5, 6, 7, 8, 9, 10, 11, 12], [8])])
def impl_RangesFind.B1 : List Nat := [0, 1, 0, 7, 15, 31, 63, 63, 63, 0, 0, 1663, 3839, 8191]
theorem impl_RangesFind.tab1 : rtab .any (opsOf Try.f22 1) = impl_RangesFind.T1 := by kernel_rfl
theorem impl_RangesFind.bits1 : waitsOk impl_RangesFind.T1.2 impl_RangesFind.B1 = true := by kernel_rfl
def impl_RangesFind.T2 : Bool × List (List Nat × List Nat) := (true, [([], []), ([0], [0]), ([], []), ([2, 1], [2]), ([], []), ([1, 3, 0, 1], [1]), ([3, 5, 0, 1, 2, 3, 5], [3]), ([4, 6, 0, 1, 2, 3, 4, 5, 6], [4])])
def impl_RangesFind.B2 : List Nat := [0, 1, 0, 7, 0, 15, 47, 127]
theorem impl_RangesFind.tab2 : rtab .any (opsOf Try.f22 2) = impl_RangesFind.T2 := by kernel_rfl
theorem impl_RangesFind.bits2 : waitsOk impl_RangesFind.T2.2 impl_RangesFind.B2 = true := by kernel_rfl
set_option maxHeartbeats 8000000 in
set_option maxRecDepth 100000 in
theorem impl_RangesFind.calls (A0 : Option Addr) (c0 : Nat) (l0 : List (S28)) (a1_0 : Int) (a1_1 : Int) (r1 : Int) (r2 : Int) (r3 : Int) (r4 : Int) (r5 : Bool) (w : World) (hr0 : Kd.C k28 w A0 l0.length l0) (hc0 : l0.length ≤ c0) (h : impl_RangesFind.f l0 a1_0 a1_1 = some (r1, r2, r3, r4, r5)) :
    Calls Try.prog 22 #[.slice A0 l0.length c0, .agg #[.int .i64 a1_0, .int .i64 a1_1]] w fun e w' => e = .returned (.tuple #[.agg #[.int .i64 r1, .int .i64 r2], .agg #[.int .i64 r3, .int .i64 r4], .bool r5]) ∧ Below w.heap.size w w' := by
  have hu28 := Try.underlying28
  have hu61 := Try.underlying61
  have HR0 := Aside0.mk hr0
  have HC0 := Aside0.mk hc0
  clear hr0 hc0
  have HB := Aside0.mk (Below.refl w.heap.size w)
  have H : ((impl_inserted.f l0).bind fun t177 => ((impl_given.f a1_0 a1_1).bind fun bt180 => ((ranges_Ranges_Find.f t177 bt180.1 bt180.2).bind fun bt182 => ((impl_told.f bt182.1 bt182.2.1).bind fun bt189 => ((impl_told.f bt182.2.2.1 bt182.2.2.2.1).bind fun bt191 => (some (bt189.1, bt189.2, bt191.1, bt191.2, bt182.2.2.2.2))))))) = some (r1, r2, r3, r4, r5) := h
  clear h
  replace H := Option.bind_eq_some_iff.mp H
  obtain ⟨t177, A30, H⟩ := H
  replace H : ((impl_given.f a1_0 a1_1).bind fun bt180 => ((ranges_Ranges_Find.f t177 bt180.1 bt180.2).bind fun bt182 => ((impl_told.f bt182.1 bt182.2.1).bind fun bt189 => ((impl_told.f bt182.2.2.1 bt182.2.2.2.1).bind fun bt191 => (some (bt189.1, bt189.2, bt191.1, bt191.2, bt182.2.2.2.2)))))) = some (r1, r2, r3, r4, r5) := H
  have A3 := Aside0.mk A30
  clear A30
  replace H := Option.bind_eq_some_iff.mp H
  obtain ⟨⟨t180, t181⟩, A40, H⟩ := H
  replace H : ((ranges_Ranges_Find.f t177 t180 t181).bind fun bt182 => ((impl_told.f bt182.1 bt182.2.1).bind fun bt189 => ((impl_told.f bt182.2.2.1 bt182.2.2.2.1).bind fun bt191 => (some (bt189.1, bt189.2, bt191.1, bt191.2, bt182.2.2.2.2))))) = some (r1, r2, r3, r4, r5) := H
  have A4 := Aside0.mk A40
  clear A40
  replace H := Option.bind_eq_some_iff.mp H
  obtain ⟨⟨t182, t183, t184, t185, t186⟩, A50, H⟩ := H
  replace H : ((impl_told.f t182 t183).bind fun bt189 => ((impl_told.f t184 t185).bind fun bt191 => (some (bt189.1, bt189.2, bt191.1, bt191.2, t186)))) = some (r1, r2, r3, r4, r5) := H
  have A5 := Aside0.mk A50
  clear A50
  replace H := Option.bind_eq_some_iff.mp H
  obtain ⟨⟨t189, t190⟩, A60, H⟩ := H
  replace H : ((impl_told.f t184 t185).bind fun bt191 => (some (t189, t190, bt191.1, bt191.2, t186))) = some (r1, r2, r3, r4, r5) := H
  have A6 := Aside0.mk A60
  clear A60
  replace H := Option.bind_eq_some_iff.mp H
  obtain ⟨⟨t191, t192⟩, A70, H⟩ := H
  replace H : (some (t189, t190, t191, t192, t186)) = some (r1, r2, r3, r4, r5) := H
  have A7 := Aside0.mk A70
  clear A70
  simp only [Option.some.injEq, Prod.mk.injEq] at H
  obtain ⟨rfl, rfl, rfl, rfl, rfl⟩ := H
  go_enter Try.func22, Try.ntmps22
  try go_wp2_with (first | ((with_reducible refine gate_dst (N := 3) rfl ?_); refine box_event ?hg (N := 3) ?hd (cs := #[.int .i64 a1_0, .int .i64 a1_1]) (t := 28) ?hr ?_; (case hd => rfl); (case hg => rfl); (case hr => first | (go_simp; done) | (go_simp; rfl)); intro gb174 hg w8 hbox hb; have n0_ := Aside0.mk (below_step (by repeat (first | (with_reducible first | exact HB.out | apply below_alloc | apply pw_below_drewN | apply below_drew1) | exact HB.out)) hb); have n1_ := Aside0.mk (hbox); have n2_ := Aside0.mk ((by rw [hg]; exact (below_size (by repeat (first | (with_reducible first | exact HB.out | apply below_alloc | apply pw_below_drewN | apply below_drew1) | exact HB.out))) : w.heap.size ≤ gb174)); have n3_ := Aside0.mk ((by rw [hg]; exact (below_size (by repeat (first | (with_reducible first | exact HB.out | apply below_alloc | apply pw_below_drewN | apply below_drew1) | exact HB.out))) : w.heap.size ≤ gb174)); clear HB; have HB := n0_; have BK174 := n1_; have GW174 := n2_; have GE174 := n3_; clear n0_ n1_ n2_ n3_; clear hb hbox hg) | ((with_reducible refine gate_dst (N := 4) rfl ?_); refine box_event ?hg (N := 4) ?hd (cs := #[.int .i64 0, .int .i64 0]) (t := 28) ?hr ?_; (case hd => rfl); (case hg => rfl); (case hr => first | (go_simp; done) | (go_simp; rfl)); intro gb175 hg w9 hbox hb; have n0_ := Aside0.mk (blk_below (g := gb174) (o := .cells #[.int .i64 a1_0, .int .i64 a1_1] 28 (0, 0)) (by (with_reducible repeat (first | refine blk_drewN ?_ _ | refine blk_drew ?_ | refine blk_alloc ?_ _)); exact BK174.out) hb); have n1_ := Aside0.mk (below_step (by repeat (first | (with_reducible first | exact HB.out | apply below_alloc | apply pw_below_drewN | apply below_drew1 | refine below_set ?_ GE174.out) | exact HB.out)) hb); have n2_ := Aside0.mk (hbox); have n3_ := Aside0.mk ((by rw [hg]; exact (below_size (by repeat (first | (with_reducible first | exact HB.out | apply below_alloc | apply pw_below_drewN | apply below_drew1 | refine below_set ?_ GE174.out) | exact HB.out))) : w.heap.size ≤ gb175)); have n4_ := Aside0.mk ((by rw [hg]; exact (below_size (by repeat (first | (with_reducible first | exact HB.out | apply below_alloc | apply pw_below_drewN | apply below_drew1 | refine below_set ?_ GE174.out) | exact HB.out))) : w.heap.size ≤ gb175)); have n5_ := Aside0.mk ((by rw [hg]; exact Nat.ne_of_lt (blk_lt (g := gb174) (o := .cells #[.int .i64 a1_0, .int .i64 a1_1] 28 (0, 0)) (by (with_reducible repeat (first | refine blk_drewN ?_ _ | refine blk_drew ?_ | refine blk_alloc ?_ _)); exact BK174.out)) : gb174 ≠ gb175)); have n6_ := Aside0.mk ((by rw [hg]; exact Nat.ne_of_gt (blk_lt (g := gb174) (o := .cells #[.int .i64 a1_0, .int .i64 a1_1] 28 (0, 0)) (by (with_reducible repeat (first | refine blk_drewN ?_ _ | refine blk_drew ?_ | refine blk_alloc ?_ _)); exact BK174.out)) : gb175 ≠ gb174)); clear BK174; clear HB; have BK174 := n0_; have HB := n1_; have BK175 := n2_; have GW175 := n3_; have GE175 := n4_; have NB174_175 := n5_; have NB175_174 := n6_; clear n0_ n1_ n2_ n3_ n4_ n5_ n6_; clear hb hbox hg) | ((with_reducible refine gate_dst (N := 5) rfl ?_); refine box_event ?hg (N := 5) ?hd (cs := #[.int .i64 0, .int .i64 0]) (t := 28) ?hr ?_; (case hd => rfl); (case hg => rfl); (case hr => first | (go_simp; done) | (go_simp; rfl)); intro gb176 hg w10 hbox hb; have n0_ := Aside0.mk (blk_below (g := gb174) (o := .cells #[.int .i64 a1_0, .int .i64 a1_1] 28 (0, 0)) (by (with_reducible repeat (first | refine blk_drewN ?_ _ | refine blk_drew ?_ | refine blk_alloc ?_ _)); exact BK174.out) hb); have n1_ := Aside0.mk (blk_below (g := gb175) (o := .cells #[.int .i64 0, .int .i64 0] 28 (0, 0)) (by (with_reducible repeat (first | refine blk_drewN ?_ _ | refine blk_drew ?_ | refine blk_alloc ?_ _)); exact BK175.out) hb); have n2_ := Aside0.mk (below_step (by repeat (first | (with_reducible first | exact HB.out | apply below_alloc | apply pw_below_drewN | apply below_drew1 | refine below_set ?_ GE174.out | refine below_set ?_ GE175.out) | exact HB.out)) hb); have n3_ := Aside0.mk (hbox); have n4_ := Aside0.mk ((by rw [hg]; exact (below_size (by repeat (first | (with_reducible first | exact HB.out | apply below_alloc | apply pw_below_drewN | apply below_drew1 | refine below_set ?_ GE174.out | refine below_set ?_ GE175.out) | exact HB.out))) : w.heap.size ≤ gb176)); have n5_ := Aside0.mk ((by rw [hg]; exact (below_size (by repeat (first | (with_reducible first | exact HB.out | apply below_alloc | apply pw_below_drewN | apply below_drew1 | refine below_set ?_ GE174.out | refine below_set ?_ GE175.out) | exact HB.out))) : w.heap.size ≤ gb176)); have n6_ := Aside0.mk ((by rw [hg]; exact Nat.ne_of_lt (blk_lt (g := gb174) (o := .cells #[.int .i64 a1_0, .int .i64 a1_1] 28 (0, 0)) (by (with_reducible repeat (first | refine blk_drewN ?_ _ | refine blk_drew ?_ | refine blk_alloc ?_ _)); exact BK174.out)) : gb174 ≠ gb176)); have n7_ := Aside0.mk ((by rw [hg]; exact Nat.ne_of_gt (blk_lt (g := gb174) (o := .cells #[.int .i64 a1_0, .int .i64 a1_1] 28 (0, 0)) (by (with_reducible repeat (first | refine blk_drewN ?_ _ | refine blk_drew ?_ | refine blk_alloc ?_ _)); exact BK174.out)) : gb176 ≠ gb174)); have n8_ := Aside0.mk ((by rw [hg]; exact Nat.ne_of_lt (blk_lt (g := gb175) (o := .cells #[.int .i64 0, .int .i64 0] 28 (0, 0)) (by (with_reducible repeat (first | refine blk_drewN ?_ _ | refine blk_drew ?_ | refine blk_alloc ?_ _)); exact BK175.out)) : gb175 ≠ gb176)); have n9_ := Aside0.mk ((by rw [hg]; exact Nat.ne_of_gt (blk_lt (g := gb175) (o := .cells #[.int .i64 0, .int .i64 0] 28 (0, 0)) (by (with_reducible repeat (first | refine blk_drewN ?_ _ | refine blk_drew ?_ | refine blk_alloc ?_ _)); exact BK175.out)) : gb176 ≠ gb175)); clear BK174; clear BK175; clear HB; have BK174 := n0_; have BK175 := n1_; have HB := n2_; have BK176 := n3_; have GW176 := n4_; have GE176 := n5_; have NB174_176 := n6_; have NB176_174 := n7_; have NB175_176 := n8_; have NB176_175 := n9_; clear n0_ n1_ n2_ n3_ n4_ n5_ n6_ n7_ n8_ n9_; clear hb hbox hg))
  have n0_ := Aside0.mk (blk_drew BK174.out)
  have n1_ := Aside0.mk (blk_drew BK175.out)
  have n2_ := Aside0.mk (blk_drew BK176.out)
  have n3_ := Aside0.mk (below_drew1 HB.out)
  clear BK174
  clear BK175
  clear BK176
  clear HB
  have BK174 := n0_
  have BK175 := n1_
  have BK176 := n2_
  have HB := n3_
  clear n0_ n1_ n2_ n3_
  refine start_ (n := 14) (S := fun w' => w'.cell? ⟨gb174, 0, none⟩ = some (.int .i64 a1_0) ∧ w'.cell? ⟨gb174, 1, none⟩ = some (.int .i64 a1_1)) (ds := []) #[false, false, false, false, false, false, false, false, false, false, false, false, false, false] (by kernel_rfl) rfl rfl ⟨(blk_cell BK174.out 0).trans rfl, (blk_cell BK174.out 1).trans rfl⟩ (fun hHeld => ?_); refine with_tabW impl_RangesFind.tab1 impl_RangesFind.bits1 (fun HT_ HW_ => ?_)
  generalize w10.drew = w11 at BK174 BK175 BK176 HB hHeld ⊢
  refine pure_ (i := 0) (N := some 10) (v := ?_) (a' := ?_) #[true, false, false, false, false, false, false, false, false, false, false, false, false, false] rfl rfl (any_of HT_.out (by kernel_rfl)) (fun _ _ _ h => h) (Or.inl ⟨by rfl, ?_⟩) ?_ ?_
  rotate_left
  · intro w'
    go_simp
    with_reducible rfl
  rotate_left
  · simp only [Act.put, List.setIfInBounds_toArray, List.set_cons_zero, List.set_cons_succ, i64_w, i32_w]
    rfl
  refine take_ (i := 2) (N := some 12) (v := ?_) (a' := ?_) #[true, false, true, false, false, false, false, false, false, false, false, false, false, false] rfl rfl (take_ofW HT_.out HW_.out (by kernel_rfl)) (fun _ _ _ h => h) (Or.inl ⟨by rfl, ?_⟩) hHeld ?_ ?_
  rotate_left
  · rintro w' ⟨s0, s1⟩
    go_simp
    with_reducible rfl
  rotate_left
  · simp only [Act.put, List.setIfInBounds_toArray, List.set_cons_zero, List.set_cons_succ, i64_w, i32_w]
    rfl
  refine join_ (σ := Value × Nat × Nat) 3 #[true, true, true, true, true, true, true, true, true, true, true, false, false, false] (fun s_ => [(11, s_.1), (13, .agg #[.int .i64 t180, .int .i64 t181]), (14, .tuple #[.agg #[.int .i64 t182, .int .i64 t183], .agg #[.int .i64 t184, .int .i64 t185], .bool t186]), (7, .pointer (some ⟨s_.2.1, 0, none⟩)), (8, .pointer (some ⟨s_.2.2, 0, none⟩)), (9, .tuple #[.agg #[.int .i64 t182, .int .i64 t183], .agg #[.int .i64 t184, .int .i64 t185], .bool t186]), (15, .agg #[.int .i64 t182, .int .i64 t183]), (16, .agg #[.int .i64 t184, .int .i64 t185]), (17, .bool t186)]) (fun s_ w' => (w'.cell? ⟨gb174, 0, none⟩ = some (.int .i64 a1_0) ∧ w'.cell? ⟨gb174, 1, none⟩ = some (.int .i64 a1_1)) ∧ (Kd.R k61 61 w' w.heap.size (fun k_ => k_ ≠ s_.2.1 ∧ k_ ≠ s_.2.2) s_.1 t177) ∧ (w'.heap[gb174]? = some (.cells #[.int .i64 a1_0, .int .i64 a1_1] 28 (0, 0))) ∧ (w'.heap[gb175]? = some (.cells #[.int .i64 0, .int .i64 0] 28 (0, 0))) ∧ (w'.heap[gb176]? = some (.cells #[.int .i64 0, .int .i64 0] 28 (0, 0))) ∧ (w'.heap[s_.2.1]? = some (.cells #[.int .i64 0, .int .i64 0] 61 (0, 0))) ∧ (w'.heap[s_.2.2]? = some (.cells #[.int .i64 0, .int .i64 0] 61 (0, 0))) ∧ (w.heap.size ≤ s_.2.1) ∧ (w.heap.size ≤ s_.2.1) ∧ (gb174 ≠ s_.2.1) ∧ (s_.2.1 ≠ gb174) ∧ (gb175 ≠ s_.2.1) ∧ (s_.2.1 ≠ gb175) ∧ (gb176 ≠ s_.2.1) ∧ (s_.2.1 ≠ gb176) ∧ (s_.2.2 ≠ s_.2.1) ∧ (s_.2.1 ≠ s_.2.2) ∧ (w.heap.size ≤ s_.2.2) ∧ (w.heap.size ≤ s_.2.2) ∧ (gb174 ≠ s_.2.2) ∧ (s_.2.2 ≠ gb174) ∧ (gb175 ≠ s_.2.2) ∧ (s_.2.2 ≠ gb175) ∧ (gb176 ≠ s_.2.2) ∧ (s_.2.2 ≠ gb176) ∧ (Below w.heap.size w w')) ?_ ?_
  rotate_left
  · intro hJ1_3_4_9_10
    refine join_ (σ := Value × Nat) 4 #[true, true, true, true, true, true, true, true, true, true, false, false, false, false] (fun s_ => [(11, s_.1), (13, .agg #[.int .i64 t180, .int .i64 t181]), (14, .tuple #[.agg #[.int .i64 t182, .int .i64 t183], .agg #[.int .i64 t184, .int .i64 t185], .bool t186]), (7, .pointer (some ⟨s_.2, 0, none⟩)), (9, .tuple #[.agg #[.int .i64 t182, .int .i64 t183], .agg #[.int .i64 t184, .int .i64 t185], .bool t186]), (15, .agg #[.int .i64 t182, .int .i64 t183]), (16, .agg #[.int .i64 t184, .int .i64 t185]), (17, .bool t186)]) (fun s_ w' => (w'.cell? ⟨gb174, 0, none⟩ = some (.int .i64 a1_0) ∧ w'.cell? ⟨gb174, 1, none⟩ = some (.int .i64 a1_1)) ∧ (Kd.R k61 61 w' w.heap.size (fun k_ => k_ ≠ s_.2) s_.1 t177) ∧ (w'.heap[gb174]? = some (.cells #[.int .i64 a1_0, .int .i64 a1_1] 28 (0, 0))) ∧ (w'.heap[gb175]? = some (.cells #[.int .i64 0, .int .i64 0] 28 (0, 0))) ∧ (w'.heap[gb176]? = some (.cells #[.int .i64 0, .int .i64 0] 28 (0, 0))) ∧ (w'.heap[s_.2]? = some (.cells #[.int .i64 0, .int .i64 0] 61 (0, 0))) ∧ (w.heap.size ≤ s_.2) ∧ (w.heap.size ≤ s_.2) ∧ (gb174 ≠ s_.2) ∧ (s_.2 ≠ gb174) ∧ (gb175 ≠ s_.2) ∧ (s_.2 ≠ gb175) ∧ (gb176 ≠ s_.2) ∧ (s_.2 ≠ gb176) ∧ (Below w.heap.size w w')) ?_ ?_
    rotate_left
    · intro hJ1_3_4_9
      refine join_ (σ := Value × Nat) 4 #[true, true, true, true, true, true, true, true, true, false, true, false, false, false] (fun s_ => [(11, s_.1), (13, .agg #[.int .i64 t180, .int .i64 t181]), (14, .tuple #[.agg #[.int .i64 t182, .int .i64 t183], .agg #[.int .i64 t184, .int .i64 t185], .bool t186]), (8, .pointer (some ⟨s_.2, 0, none⟩)), (9, .tuple #[.agg #[.int .i64 t182, .int .i64 t183], .agg #[.int .i64 t184, .int .i64 t185], .bool t186]), (15, .agg #[.int .i64 t182, .int .i64 t183]), (16, .agg #[.int .i64 t184, .int .i64 t185]), (17, .bool t186)]) (fun s_ w' => (w'.cell? ⟨gb174, 0, none⟩ = some (.int .i64 a1_0) ∧ w'.cell? ⟨gb174, 1, none⟩ = some (.int .i64 a1_1)) ∧ (Kd.R k61 61 w' w.heap.size (fun k_ => k_ ≠ s_.2) s_.1 t177) ∧ (w'.heap[gb174]? = some (.cells #[.int .i64 a1_0, .int .i64 a1_1] 28 (0, 0))) ∧ (w'.heap[gb175]? = some (.cells #[.int .i64 0, .int .i64 0] 28 (0, 0))) ∧ (w'.heap[gb176]? = some (.cells #[.int .i64 0, .int .i64 0] 28 (0, 0))) ∧ (w'.heap[s_.2]? = some (.cells #[.int .i64 0, .int .i64 0] 61 (0, 0))) ∧ (w.heap.size ≤ s_.2) ∧ (w.heap.size ≤ s_.2) ∧ (gb174 ≠ s_.2) ∧ (s_.2 ≠ gb174) ∧ (gb175 ≠ s_.2) ∧ (s_.2 ≠ gb175) ∧ (gb176 ≠ s_.2) ∧ (s_.2 ≠ gb176) ∧ (Below w.heap.size w w')) ?_ ?_
      rotate_left
      · intro hJ1_3_4_10
        refine join_ (σ := Value × Nat × Nat) 8 #[true, true, true, true, false, false, false, false, false, true, true, false, false, false] (fun s_ => [(11, s_.1), (13, .agg #[.int .i64 t180, .int .i64 t181]), (7, .pointer (some ⟨s_.2.1, 0, none⟩)), (8, .pointer (some ⟨s_.2.2, 0, none⟩))]) (fun s_ w' => (w'.cell? ⟨gb174, 0, none⟩ = some (.int .i64 a1_0) ∧ w'.cell? ⟨gb174, 1, none⟩ = some (.int .i64 a1_1)) ∧ (Kd.R k61 61 w' w.heap.size (fun k_ => k_ ≠ s_.2.1 ∧ k_ ≠ s_.2.2) s_.1 t177) ∧ (w'.heap[gb174]? = some (.cells #[.int .i64 a1_0, .int .i64 a1_1] 28 (0, 0))) ∧ (w'.heap[gb175]? = some (.cells #[.int .i64 0, .int .i64 0] 28 (0, 0))) ∧ (w'.heap[gb176]? = some (.cells #[.int .i64 0, .int .i64 0] 28 (0, 0))) ∧ (w'.heap[s_.2.1]? = some (.cells #[.int .i64 0, .int .i64 0] 61 (0, 0))) ∧ (w'.heap[s_.2.2]? = some (.cells #[.int .i64 0, .int .i64 0] 61 (0, 0))) ∧ (w.heap.size ≤ s_.2.1) ∧ (w.heap.size ≤ s_.2.1) ∧ (gb174 ≠ s_.2.1) ∧ (s_.2.1 ≠ gb174) ∧ (gb175 ≠ s_.2.1) ∧ (s_.2.1 ≠ gb175) ∧ (gb176 ≠ s_.2.1) ∧ (s_.2.1 ≠ gb176) ∧ (s_.2.2 ≠ s_.2.1) ∧ (s_.2.1 ≠ s_.2.2) ∧ (w.heap.size ≤ s_.2.2) ∧ (w.heap.size ≤ s_.2.2) ∧ (gb174 ≠ s_.2.2) ∧ (s_.2.2 ≠ gb174) ∧ (gb175 ≠ s_.2.2) ∧ (s_.2.2 ≠ gb175) ∧ (gb176 ≠ s_.2.2) ∧ (s_.2.2 ≠ gb176) ∧ (Below w.heap.size w w')) ?_ ?_
        rotate_left
        · intro hJ1_3_9_10
          refine join_ (σ := Value) 5 #[true, true, true, true, true, true, true, true, true, false, false, false, false, false] (fun s_ => [(11, s_), (13, .agg #[.int .i64 t180, .int .i64 t181]), (14, .tuple #[.agg #[.int .i64 t182, .int .i64 t183], .agg #[.int .i64 t184, .int .i64 t185], .bool t186]), (9, .tuple #[.agg #[.int .i64 t182, .int .i64 t183], .agg #[.int .i64 t184, .int .i64 t185], .bool t186]), (15, .agg #[.int .i64 t182, .int .i64 t183]), (16, .agg #[.int .i64 t184, .int .i64 t185]), (17, .bool t186)]) (fun s_ w' => (w'.cell? ⟨gb174, 0, none⟩ = some (.int .i64 a1_0) ∧ w'.cell? ⟨gb174, 1, none⟩ = some (.int .i64 a1_1)) ∧ (Kd.R k61 61 w' w.heap.size (fun _ => True) s_ t177) ∧ (w'.heap[gb174]? = some (.cells #[.int .i64 a1_0, .int .i64 a1_1] 28 (0, 0))) ∧ (w'.heap[gb175]? = some (.cells #[.int .i64 0, .int .i64 0] 28 (0, 0))) ∧ (w'.heap[gb176]? = some (.cells #[.int .i64 0, .int .i64 0] 28 (0, 0))) ∧ (Below w.heap.size w w')) ?_ ?_
          rotate_left
          · intro hJ1_3_4
            refine join_ (σ := Value × Nat) 9 #[true, true, true, true, false, false, false, false, false, true, false, false, false, false] (fun s_ => [(11, s_.1), (13, .agg #[.int .i64 t180, .int .i64 t181]), (7, .pointer (some ⟨s_.2, 0, none⟩))]) (fun s_ w' => (w'.cell? ⟨gb174, 0, none⟩ = some (.int .i64 a1_0) ∧ w'.cell? ⟨gb174, 1, none⟩ = some (.int .i64 a1_1)) ∧ (Kd.R k61 61 w' w.heap.size (fun k_ => k_ ≠ s_.2) s_.1 t177) ∧ (w'.heap[gb174]? = some (.cells #[.int .i64 a1_0, .int .i64 a1_1] 28 (0, 0))) ∧ (w'.heap[gb175]? = some (.cells #[.int .i64 0, .int .i64 0] 28 (0, 0))) ∧ (w'.heap[gb176]? = some (.cells #[.int .i64 0, .int .i64 0] 28 (0, 0))) ∧ (w'.heap[s_.2]? = some (.cells #[.int .i64 0, .int .i64 0] 61 (0, 0))) ∧ (w.heap.size ≤ s_.2) ∧ (w.heap.size ≤ s_.2) ∧ (gb174 ≠ s_.2) ∧ (s_.2 ≠ gb174) ∧ (gb175 ≠ s_.2) ∧ (s_.2 ≠ gb175) ∧ (gb176 ≠ s_.2) ∧ (s_.2 ≠ gb176) ∧ (Below w.heap.size w w')) ?_ ?_
            rotate_left
            · intro hJ1_3_9
              refine join_ (σ := Value × Nat) 9 #[true, true, true, true, false, false, false, false, false, false, true, false, false, false] (fun s_ => [(11, s_.1), (13, .agg #[.int .i64 t180, .int .i64 t181]), (8, .pointer (some ⟨s_.2, 0, none⟩))]) (fun s_ w' => (w'.cell? ⟨gb174, 0, none⟩ = some (.int .i64 a1_0) ∧ w'.cell? ⟨gb174, 1, none⟩ = some (.int .i64 a1_1)) ∧ (Kd.R k61 61 w' w.heap.size (fun k_ => k_ ≠ s_.2) s_.1 t177) ∧ (w'.heap[gb174]? = some (.cells #[.int .i64 a1_0, .int .i64 a1_1] 28 (0, 0))) ∧ (w'.heap[gb175]? = some (.cells #[.int .i64 0, .int .i64 0] 28 (0, 0))) ∧ (w'.heap[gb176]? = some (.cells #[.int .i64 0, .int .i64 0] 28 (0, 0))) ∧ (w'.heap[s_.2]? = some (.cells #[.int .i64 0, .int .i64 0] 61 (0, 0))) ∧ (w.heap.size ≤ s_.2) ∧ (w.heap.size ≤ s_.2) ∧ (gb174 ≠ s_.2) ∧ (s_.2 ≠ gb174) ∧ (gb175 ≠ s_.2) ∧ (s_.2 ≠ gb175) ∧ (gb176 ≠ s_.2) ∧ (s_.2 ≠ gb176) ∧ (Below w.heap.size w w')) ?_ ?_
              rotate_left
              · intro hJ1_3_10
                refine join_ (σ := Value × Nat × Nat) 9 #[true, true, true, false, false, false, false, false, false, true, true, false, false, false] (fun s_ => [(11, s_.1), (7, .pointer (some ⟨s_.2.1, 0, none⟩)), (8, .pointer (some ⟨s_.2.2, 0, none⟩))]) (fun s_ w' => (w'.cell? ⟨gb174, 0, none⟩ = some (.int .i64 a1_0) ∧ w'.cell? ⟨gb174, 1, none⟩ = some (.int .i64 a1_1)) ∧ (Kd.R k61 61 w' w.heap.size (fun k_ => k_ ≠ s_.2.1 ∧ k_ ≠ s_.2.2) s_.1 t177) ∧ (w'.heap[gb174]? = some (.cells #[.int .i64 a1_0, .int .i64 a1_1] 28 (0, 0))) ∧ (w'.heap[gb175]? = some (.cells #[.int .i64 0, .int .i64 0] 28 (0, 0))) ∧ (w'.heap[gb176]? = some (.cells #[.int .i64 0, .int .i64 0] 28 (0, 0))) ∧ (w'.heap[s_.2.1]? = some (.cells #[.int .i64 0, .int .i64 0] 61 (0, 0))) ∧ (w'.heap[s_.2.2]? = some (.cells #[.int .i64 0, .int .i64 0] 61 (0, 0))) ∧ (w.heap.size ≤ s_.2.1) ∧ (w.heap.size ≤ s_.2.1) ∧ (gb174 ≠ s_.2.1) ∧ (s_.2.1 ≠ gb174) ∧ (gb175 ≠ s_.2.1) ∧ (s_.2.1 ≠ gb175) ∧ (gb176 ≠ s_.2.1) ∧ (s_.2.1 ≠ gb176) ∧ (s_.2.2 ≠ s_.2.1) ∧ (s_.2.1 ≠ s_.2.2) ∧ (w.heap.size ≤ s_.2.2) ∧ (w.heap.size ≤ s_.2.2) ∧ (gb174 ≠ s_.2.2) ∧ (s_.2.2 ≠ gb174) ∧ (gb175 ≠ s_.2.2) ∧ (s_.2.2 ≠ gb175) ∧ (gb176 ≠ s_.2.2) ∧ (s_.2.2 ≠ gb176) ∧ (Below w.heap.size w w')) ?_ ?_
                rotate_left
                · intro hJ1_9_10
                  refine join_ (σ := Value) 10 #[true, true, true, true, false, false, false, false, false, false, false, false, false, false] (fun s_ => [(11, s_), (13, .agg #[.int .i64 t180, .int .i64 t181])]) (fun s_ w' => (w'.cell? ⟨gb174, 0, none⟩ = some (.int .i64 a1_0) ∧ w'.cell? ⟨gb174, 1, none⟩ = some (.int .i64 a1_1)) ∧ (Kd.R k61 61 w' w.heap.size (fun _ => True) s_ t177) ∧ (w'.heap[gb174]? = some (.cells #[.int .i64 a1_0, .int .i64 a1_1] 28 (0, 0))) ∧ (w'.heap[gb175]? = some (.cells #[.int .i64 0, .int .i64 0] 28 (0, 0))) ∧ (w'.heap[gb176]? = some (.cells #[.int .i64 0, .int .i64 0] 28 (0, 0))) ∧ (Below w.heap.size w w')) ?_ ?_
                  rotate_left
                  · intro hJ1_3
                    refine join_ (σ := Value × Nat) 10 #[true, true, true, false, false, false, false, false, false, true, false, false, false, false] (fun s_ => [(11, s_.1), (7, .pointer (some ⟨s_.2, 0, none⟩))]) (fun s_ w' => (w'.cell? ⟨gb174, 0, none⟩ = some (.int .i64 a1_0) ∧ w'.cell? ⟨gb174, 1, none⟩ = some (.int .i64 a1_1)) ∧ (Kd.R k61 61 w' w.heap.size (fun k_ => k_ ≠ s_.2) s_.1 t177) ∧ (w'.heap[gb174]? = some (.cells #[.int .i64 a1_0, .int .i64 a1_1] 28 (0, 0))) ∧ (w'.heap[gb175]? = some (.cells #[.int .i64 0, .int .i64 0] 28 (0, 0))) ∧ (w'.heap[gb176]? = some (.cells #[.int .i64 0, .int .i64 0] 28 (0, 0))) ∧ (w'.heap[s_.2]? = some (.cells #[.int .i64 0, .int .i64 0] 61 (0, 0))) ∧ (w.heap.size ≤ s_.2) ∧ (w.heap.size ≤ s_.2) ∧ (gb174 ≠ s_.2) ∧ (s_.2 ≠ gb174) ∧ (gb175 ≠ s_.2) ∧ (s_.2 ≠ gb175) ∧ (gb176 ≠ s_.2) ∧ (s_.2 ≠ gb176) ∧ (Below w.heap.size w w')) ?_ ?_
                    rotate_left
                    · intro hJ1_9
                      refine join_ (σ := Value × Nat) 10 #[true, true, true, false, false, false, false, false, false, false, true, false, false, false] (fun s_ => [(11, s_.1), (8, .pointer (some ⟨s_.2, 0, none⟩))]) (fun s_ w' => (w'.cell? ⟨gb174, 0, none⟩ = some (.int .i64 a1_0) ∧ w'.cell? ⟨gb174, 1, none⟩ = some (.int .i64 a1_1)) ∧ (Kd.R k61 61 w' w.heap.size (fun k_ => k_ ≠ s_.2) s_.1 t177) ∧ (w'.heap[gb174]? = some (.cells #[.int .i64 a1_0, .int .i64 a1_1] 28 (0, 0))) ∧ (w'.heap[gb175]? = some (.cells #[.int .i64 0, .int .i64 0] 28 (0, 0))) ∧ (w'.heap[gb176]? = some (.cells #[.int .i64 0, .int .i64 0] 28 (0, 0))) ∧ (w'.heap[s_.2]? = some (.cells #[.int .i64 0, .int .i64 0] 61 (0, 0))) ∧ (w.heap.size ≤ s_.2) ∧ (w.heap.size ≤ s_.2) ∧ (gb174 ≠ s_.2) ∧ (s_.2 ≠ gb174) ∧ (gb175 ≠ s_.2) ∧ (s_.2 ≠ gb175) ∧ (gb176 ≠ s_.2) ∧ (s_.2 ≠ gb176) ∧ (Below w.heap.size w w')) ?_ ?_
                      rotate_left
                      · intro hJ1_10
                        refine join_ (σ := Nat × Nat) 10 #[true, false, true, false, false, false, false, false, false, true, true, false, false, false] (fun s_ => [(7, .pointer (some ⟨s_.1, 0, none⟩)), (8, .pointer (some ⟨s_.2, 0, none⟩))]) (fun s_ w' => (w'.cell? ⟨gb174, 0, none⟩ = some (.int .i64 a1_0) ∧ w'.cell? ⟨gb174, 1, none⟩ = some (.int .i64 a1_1)) ∧ (w'.heap[gb174]? = some (.cells #[.int .i64 a1_0, .int .i64 a1_1] 28 (0, 0))) ∧ (w'.heap[gb175]? = some (.cells #[.int .i64 0, .int .i64 0] 28 (0, 0))) ∧ (w'.heap[gb176]? = some (.cells #[.int .i64 0, .int .i64 0] 28 (0, 0))) ∧ (w'.heap[s_.1]? = some (.cells #[.int .i64 0, .int .i64 0] 61 (0, 0))) ∧ (w'.heap[s_.2]? = some (.cells #[.int .i64 0, .int .i64 0] 61 (0, 0))) ∧ (w.heap.size ≤ s_.1) ∧ (w.heap.size ≤ s_.1) ∧ (gb174 ≠ s_.1) ∧ (s_.1 ≠ gb174) ∧ (gb175 ≠ s_.1) ∧ (s_.1 ≠ gb175) ∧ (gb176 ≠ s_.1) ∧ (s_.1 ≠ gb176) ∧ (s_.2 ≠ s_.1) ∧ (s_.1 ≠ s_.2) ∧ (w.heap.size ≤ s_.2) ∧ (w.heap.size ≤ s_.2) ∧ (gb174 ≠ s_.2) ∧ (s_.2 ≠ gb174) ∧ (gb175 ≠ s_.2) ∧ (s_.2 ≠ gb175) ∧ (gb176 ≠ s_.2) ∧ (s_.2 ≠ gb176) ∧ (Below w.heap.size w w')) ?_ ?_
                        rotate_left
                        · intro hJ9_10
                          refine join_ (σ := Value) 11 #[true, true, true, false, false, false, false, false, false, false, false, false, false, false] (fun s_ => [(11, s_)]) (fun s_ w' => (w'.cell? ⟨gb174, 0, none⟩ = some (.int .i64 a1_0) ∧ w'.cell? ⟨gb174, 1, none⟩ = some (.int .i64 a1_1)) ∧ (Kd.R k61 61 w' w.heap.size (fun _ => True) s_ t177) ∧ (w'.heap[gb174]? = some (.cells #[.int .i64 a1_0, .int .i64 a1_1] 28 (0, 0))) ∧ (w'.heap[gb175]? = some (.cells #[.int .i64 0, .int .i64 0] 28 (0, 0))) ∧ (w'.heap[gb176]? = some (.cells #[.int .i64 0, .int .i64 0] 28 (0, 0))) ∧ (Below w.heap.size w w')) ?_ ?_
                          rotate_left
                          · intro hJ1
                            refine join_ (σ := Nat) 11 #[true, false, true, false, false, false, false, false, false, true, false, false, false, false] (fun s_ => [(7, .pointer (some ⟨s_, 0, none⟩))]) (fun s_ w' => (w'.cell? ⟨gb174, 0, none⟩ = some (.int .i64 a1_0) ∧ w'.cell? ⟨gb174, 1, none⟩ = some (.int .i64 a1_1)) ∧ (w'.heap[gb174]? = some (.cells #[.int .i64 a1_0, .int .i64 a1_1] 28 (0, 0))) ∧ (w'.heap[gb175]? = some (.cells #[.int .i64 0, .int .i64 0] 28 (0, 0))) ∧ (w'.heap[gb176]? = some (.cells #[.int .i64 0, .int .i64 0] 28 (0, 0))) ∧ (w'.heap[s_]? = some (.cells #[.int .i64 0, .int .i64 0] 61 (0, 0))) ∧ (w.heap.size ≤ s_) ∧ (w.heap.size ≤ s_) ∧ (gb174 ≠ s_) ∧ (s_ ≠ gb174) ∧ (gb175 ≠ s_) ∧ (s_ ≠ gb175) ∧ (gb176 ≠ s_) ∧ (s_ ≠ gb176) ∧ (Below w.heap.size w w')) ?_ ?_
                            rotate_left
                            · intro hJ9
                              refine join_ (σ := Nat) 11 #[true, false, true, false, false, false, false, false, false, false, true, false, false, false] (fun s_ => [(8, .pointer (some ⟨s_, 0, none⟩))]) (fun s_ w' => (w'.cell? ⟨gb174, 0, none⟩ = some (.int .i64 a1_0) ∧ w'.cell? ⟨gb174, 1, none⟩ = some (.int .i64 a1_1)) ∧ (w'.heap[gb174]? = some (.cells #[.int .i64 a1_0, .int .i64 a1_1] 28 (0, 0))) ∧ (w'.heap[gb175]? = some (.cells #[.int .i64 0, .int .i64 0] 28 (0, 0))) ∧ (w'.heap[gb176]? = some (.cells #[.int .i64 0, .int .i64 0] 28 (0, 0))) ∧ (w'.heap[s_]? = some (.cells #[.int .i64 0, .int .i64 0] 61 (0, 0))) ∧ (w.heap.size ≤ s_) ∧ (w.heap.size ≤ s_) ∧ (gb174 ≠ s_) ∧ (s_ ≠ gb174) ∧ (gb175 ≠ s_) ∧ (s_ ≠ gb175) ∧ (gb176 ≠ s_) ∧ (s_ ≠ gb176) ∧ (Below w.heap.size w w')) ?_ ?_
                              rotate_left
                              · intro hJ10
                                refine three_ (i := 1) (j := 9) (k := 10) (Ni := some 11) (Nj := some 7) (Nk := some 8) #[true, true, true, false, false, false, false, false, false, false, false, false, false, false] #[true, false, true, false, false, false, false, false, false, true, false, false, false, false] #[true, false, true, false, false, false, false, false, false, false, true, false, false, false] rfl rfl rfl rfl rfl rfl (three_of HT_.out (by kernel_rfl)) (by decide) (by decide) (by decide) (fun K hK => ?_) (fun K hK => ?_) (fun K hK => ?_)
                                · skip
                                  refine goes_ Try.func38 (by kernel_rfl) rfl #[.slice A0 l0.length c0] (by rfl) rfl rfl (by (try simp only [List.map_toArray, List.map_cons, List.map_nil]); first | done | rfl | (simp only [List.length_drop, List.length_take]; rfl)) ?_
                                  with_reducible refine (impl_inserted.calls _ _ l0 t177 _ ?side1 ?side2 A3.out).mono ?_
                                  (case side1 => repeat (first | exact (Kd.C_below HR0.out HB.out) | (with_reducible refine Kd.C_alloc ?_ _) | (with_reducible refine Kd.C_drewN ?_ _) | (with_reducible refine Kd.C_drew ?_)))
                                  (case side2 => exact HC0.out)
                                  rintro e w12 ⟨v178, rfl, ho0, hb⟩
                                  refine ⟨_, rfl, ?_⟩
                                  have n0_ := Aside0.mk (Kd.R_lower ho0 (below_size (by repeat (first | (with_reducible first | exact HB.out | apply below_alloc | apply pw_below_drewN | apply below_drew1 | refine below_set ?_ GE174.out | refine below_set ?_ GE175.out | refine below_set ?_ GE176.out) | exact HB.out))))
                                  have n1_ := Aside0.mk (blk_below (g := gb174) (o := .cells #[.int .i64 a1_0, .int .i64 a1_1] 28 (0, 0)) (by (with_reducible repeat (first | refine blk_drewN ?_ _ | refine blk_drew ?_ | refine blk_alloc ?_ _)); exact BK174.out) hb)
                                  have n2_ := Aside0.mk (blk_below (g := gb175) (o := .cells #[.int .i64 0, .int .i64 0] 28 (0, 0)) (by (with_reducible repeat (first | refine blk_drewN ?_ _ | refine blk_drew ?_ | refine blk_alloc ?_ _)); exact BK175.out) hb)
                                  have n3_ := Aside0.mk (blk_below (g := gb176) (o := .cells #[.int .i64 0, .int .i64 0] 28 (0, 0)) (by (with_reducible repeat (first | refine blk_drewN ?_ _ | refine blk_drew ?_ | refine blk_alloc ?_ _)); exact BK176.out) hb)
                                  have n4_ := Aside0.mk (below_step (by repeat (first | (with_reducible first | exact HB.out | apply below_alloc | apply pw_below_drewN | apply below_drew1 | refine below_set ?_ GE174.out | refine below_set ?_ GE175.out | refine below_set ?_ GE176.out) | exact HB.out)) hb)
                                  clear BK174
                                  clear BK175
                                  clear BK176
                                  clear HB
                                  have HO179 := n0_
                                  have BK174 := n1_
                                  have BK175 := n2_
                                  have BK176 := n3_
                                  have HB := n4_
                                  clear n0_ n1_ n2_ n3_ n4_
                                  (try clear hb)
                                  (try clear hb2)
                                  (try clear hk)
                                  (try clear hi)
                                  (try clear ho0)
                                  refine hK.out _ _ ⟨(blk_cell BK174.out 0).trans rfl, (blk_cell BK174.out 1).trans rfl⟩ (fun hHeld => ?_)
                                  clear hK K
                                  refine norm_ (a' := ?_) ?_ ?_
                                  rotate_left
                                  · show Act.put _ (some 11) _ = _
                                    simp only [Act.put, List.setIfInBounds_toArray, List.set_cons_zero, List.set_cons_succ, i64_w, i32_w]
                                    rfl
                                  exact norm_ (by first | (simp only [putAll, Act.put, List.setIfInBounds_toArray, List.set_cons_zero, List.set_cons_succ]; done) | (simp only [putAll, Act.put, List.setIfInBounds_toArray, List.set_cons_zero, List.set_cons_succ]; rfl)) (hJ1 (v178) _ ⟨hHeld, (by (with_reducible repeat (first | apply Kd.R_alloc | apply Kd.R_drewN | apply Kd.R_drew)); exact HO179.out), (by (with_reducible repeat (first | refine blk_drewN ?_ _ | refine blk_drew ?_ | refine blk_alloc ?_ _)); exact BK174.out), (by (with_reducible repeat (first | refine blk_drewN ?_ _ | refine blk_drew ?_ | refine blk_alloc ?_ _)); exact BK175.out), (by (with_reducible repeat (first | refine blk_drewN ?_ _ | refine blk_drew ?_ | refine blk_alloc ?_ _)); exact BK176.out), (by repeat (first | (with_reducible first | exact HB.out | apply below_alloc | apply pw_below_drewN | apply below_drew1 | refine below_set ?_ GE174.out | refine below_set ?_ GE175.out | refine below_set ?_ GE176.out) | exact HB.out))⟩)
                                · skip
                                  refine box_step ?hg (N := 7) ?hd (cs := #[.int .i64 0, .int .i64 0]) (t := 61) ?hr ?_; (case hd => rfl); (case hg => rfl); (case hr => first | (go_simp; done) | (go_simp; rfl))
                                  intro gb187 hg w12 hbox hb
                                  have n0_ := Aside0.mk (blk_below (g := gb174) (o := .cells #[.int .i64 a1_0, .int .i64 a1_1] 28 (0, 0)) (by (with_reducible repeat (first | refine blk_drewN ?_ _ | refine blk_drew ?_ | refine blk_alloc ?_ _)); exact BK174.out) hb)
                                  have n1_ := Aside0.mk (blk_below (g := gb175) (o := .cells #[.int .i64 0, .int .i64 0] 28 (0, 0)) (by (with_reducible repeat (first | refine blk_drewN ?_ _ | refine blk_drew ?_ | refine blk_alloc ?_ _)); exact BK175.out) hb)
                                  have n2_ := Aside0.mk (blk_below (g := gb176) (o := .cells #[.int .i64 0, .int .i64 0] 28 (0, 0)) (by (with_reducible repeat (first | refine blk_drewN ?_ _ | refine blk_drew ?_ | refine blk_alloc ?_ _)); exact BK176.out) hb)
                                  have n3_ := Aside0.mk (below_step (by repeat (first | (with_reducible first | exact HB.out | apply below_alloc | apply pw_below_drewN | apply below_drew1 | refine below_set ?_ GE174.out | refine below_set ?_ GE175.out | refine below_set ?_ GE176.out) | exact HB.out)) hb)
                                  have n4_ := Aside0.mk (hbox)
                                  have n5_ := Aside0.mk ((by rw [hg]; exact (below_size (by repeat (first | (with_reducible first | exact HB.out | apply below_alloc | apply pw_below_drewN | apply below_drew1 | refine below_set ?_ GE174.out | refine below_set ?_ GE175.out | refine below_set ?_ GE176.out) | exact HB.out))) : w.heap.size ≤ gb187))
                                  have n6_ := Aside0.mk ((by rw [hg]; exact (below_size (by repeat (first | (with_reducible first | exact HB.out | apply below_alloc | apply pw_below_drewN | apply below_drew1 | refine below_set ?_ GE174.out | refine below_set ?_ GE175.out | refine below_set ?_ GE176.out) | exact HB.out))) : w.heap.size ≤ gb187))
                                  have n7_ := Aside0.mk ((by rw [hg]; exact Nat.ne_of_lt (blk_lt (g := gb174) (o := .cells #[.int .i64 a1_0, .int .i64 a1_1] 28 (0, 0)) (by (with_reducible repeat (first | refine blk_drewN ?_ _ | refine blk_drew ?_ | refine blk_alloc ?_ _)); exact BK174.out)) : gb174 ≠ gb187))
                                  have n8_ := Aside0.mk ((by rw [hg]; exact Nat.ne_of_gt (blk_lt (g := gb174) (o := .cells #[.int .i64 a1_0, .int .i64 a1_1] 28 (0, 0)) (by (with_reducible repeat (first | refine blk_drewN ?_ _ | refine blk_drew ?_ | refine blk_alloc ?_ _)); exact BK174.out)) : gb187 ≠ gb174))
                                  have n9_ := Aside0.mk ((by rw [hg]; exact Nat.ne_of_lt (blk_lt (g := gb175) (o := .cells #[.int .i64 0, .int .i64 0] 28 (0, 0)) (by (with_reducible repeat (first | refine blk_drewN ?_ _ | refine blk_drew ?_ | refine blk_alloc ?_ _)); exact BK175.out)) : gb175 ≠ gb187))
                                  have n10_ := Aside0.mk ((by rw [hg]; exact Nat.ne_of_gt (blk_lt (g := gb175) (o := .cells #[.int .i64 0, .int .i64 0] 28 (0, 0)) (by (with_reducible repeat (first | refine blk_drewN ?_ _ | refine blk_drew ?_ | refine blk_alloc ?_ _)); exact BK175.out)) : gb187 ≠ gb175))
                                  have n11_ := Aside0.mk ((by rw [hg]; exact Nat.ne_of_lt (blk_lt (g := gb176) (o := .cells #[.int .i64 0, .int .i64 0] 28 (0, 0)) (by (with_reducible repeat (first | refine blk_drewN ?_ _ | refine blk_drew ?_ | refine blk_alloc ?_ _)); exact BK176.out)) : gb176 ≠ gb187))
                                  have n12_ := Aside0.mk ((by rw [hg]; exact Nat.ne_of_gt (blk_lt (g := gb176) (o := .cells #[.int .i64 0, .int .i64 0] 28 (0, 0)) (by (with_reducible repeat (first | refine blk_drewN ?_ _ | refine blk_drew ?_ | refine blk_alloc ?_ _)); exact BK176.out)) : gb187 ≠ gb176))
                                  clear BK174
                                  clear BK175
                                  clear BK176
                                  clear HB
                                  have BK174 := n0_
                                  have BK175 := n1_
                                  have BK176 := n2_
                                  have HB := n3_
                                  have BK187 := n4_
                                  have GW187 := n5_
                                  have GE187 := n6_
                                  have NB174_187 := n7_
                                  have NB187_174 := n8_
                                  have NB175_187 := n9_
                                  have NB187_175 := n10_
                                  have NB176_187 := n11_
                                  have NB187_176 := n12_
                                  clear n0_ n1_ n2_ n3_ n4_ n5_ n6_ n7_ n8_ n9_ n10_ n11_ n12_
                                  clear hb hbox hg
                                  refine hK.out _ _ ⟨(blk_cell BK174.out 0).trans rfl, (blk_cell BK174.out 1).trans rfl⟩ (fun hHeld => ?_)
                                  clear hK K
                                  refine norm_ (a' := ?_) ?_ ?_
                                  rotate_left
                                  · show Act.put _ (some 7) _ = _
                                    simp only [Act.put, List.setIfInBounds_toArray, List.set_cons_zero, List.set_cons_succ, i64_w, i32_w]
                                    rfl
                                  exact norm_ (by first | (simp only [putAll, Act.put, List.setIfInBounds_toArray, List.set_cons_zero, List.set_cons_succ]; done) | (simp only [putAll, Act.put, List.setIfInBounds_toArray, List.set_cons_zero, List.set_cons_succ]; rfl)) (hJ9 (gb187) _ ⟨hHeld, (by (with_reducible repeat (first | refine blk_drewN ?_ _ | refine blk_drew ?_ | refine blk_alloc ?_ _)); exact BK174.out), (by (with_reducible repeat (first | refine blk_drewN ?_ _ | refine blk_drew ?_ | refine blk_alloc ?_ _)); exact BK175.out), (by (with_reducible repeat (first | refine blk_drewN ?_ _ | refine blk_drew ?_ | refine blk_alloc ?_ _)); exact BK176.out), (by (with_reducible repeat (first | refine blk_drewN ?_ _ | refine blk_drew ?_ | refine blk_alloc ?_ _)); exact BK187.out), GW187.out, GE187.out, NB174_187.out, NB187_174.out, NB175_187.out, NB187_175.out, NB176_187.out, NB187_176.out, (by repeat (first | (with_reducible first | exact HB.out | apply below_alloc | apply pw_below_drewN | apply below_drew1 | refine below_set ?_ GE174.out | refine below_set ?_ GE175.out | refine below_set ?_ GE176.out | refine below_set ?_ GE187.out) | exact HB.out))⟩)
                                · skip
                                  refine box_step ?hg (N := 8) ?hd (cs := #[.int .i64 0, .int .i64 0]) (t := 61) ?hr ?_; (case hd => rfl); (case hg => rfl); (case hr => first | (go_simp; done) | (go_simp; rfl))
                                  intro gb188 hg w12 hbox hb
                                  have n0_ := Aside0.mk (blk_below (g := gb174) (o := .cells #[.int .i64 a1_0, .int .i64 a1_1] 28 (0, 0)) (by (with_reducible repeat (first | refine blk_drewN ?_ _ | refine blk_drew ?_ | refine blk_alloc ?_ _)); exact BK174.out) hb)
                                  have n1_ := Aside0.mk (blk_below (g := gb175) (o := .cells #[.int .i64 0, .int .i64 0] 28 (0, 0)) (by (with_reducible repeat (first | refine blk_drewN ?_ _ | refine blk_drew ?_ | refine blk_alloc ?_ _)); exact BK175.out) hb)
                                  have n2_ := Aside0.mk (blk_below (g := gb176) (o := .cells #[.int .i64 0, .int .i64 0] 28 (0, 0)) (by (with_reducible repeat (first | refine blk_drewN ?_ _ | refine blk_drew ?_ | refine blk_alloc ?_ _)); exact BK176.out) hb)
                                  have n3_ := Aside0.mk (below_step (by repeat (first | (with_reducible first | exact HB.out | apply below_alloc | apply pw_below_drewN | apply below_drew1 | refine below_set ?_ GE174.out | refine below_set ?_ GE175.out | refine below_set ?_ GE176.out) | exact HB.out)) hb)
                                  have n4_ := Aside0.mk (hbox)
                                  have n5_ := Aside0.mk ((by rw [hg]; exact (below_size (by repeat (first | (with_reducible first | exact HB.out | apply below_alloc | apply pw_below_drewN | apply below_drew1 | refine below_set ?_ GE174.out | refine below_set ?_ GE175.out | refine below_set ?_ GE176.out) | exact HB.out))) : w.heap.size ≤ gb188))
                                  have n6_ := Aside0.mk ((by rw [hg]; exact (below_size (by repeat (first | (with_reducible first | exact HB.out | apply below_alloc | apply pw_below_drewN | apply below_drew1 | refine below_set ?_ GE174.out | refine below_set ?_ GE175.out | refine below_set ?_ GE176.out) | exact HB.out))) : w.heap.size ≤ gb188))
                                  have n7_ := Aside0.mk ((by rw [hg]; exact Nat.ne_of_lt (blk_lt (g := gb174) (o := .cells #[.int .i64 a1_0, .int .i64 a1_1] 28 (0, 0)) (by (with_reducible repeat (first | refine blk_drewN ?_ _ | refine blk_drew ?_ | refine blk_alloc ?_ _)); exact BK174.out)) : gb174 ≠ gb188))
                                  have n8_ := Aside0.mk ((by rw [hg]; exact Nat.ne_of_gt (blk_lt (g := gb174) (o := .cells #[.int .i64 a1_0, .int .i64 a1_1] 28 (0, 0)) (by (with_reducible repeat (first | refine blk_drewN ?_ _ | refine blk_drew ?_ | refine blk_alloc ?_ _)); exact BK174.out)) : gb188 ≠ gb174))
                                  have n9_ := Aside0.mk ((by rw [hg]; exact Nat.ne_of_lt (blk_lt (g := gb175) (o := .cells #[.int .i64 0, .int .i64 0] 28 (0, 0)) (by (with_reducible repeat (first | refine blk_drewN ?_ _ | refine blk_drew ?_ | refine blk_alloc ?_ _)); exact BK175.out)) : gb175 ≠ gb188))
                                  have n10_ := Aside0.mk ((by rw [hg]; exact Nat.ne_of_gt (blk_lt (g := gb175) (o := .cells #[.int .i64 0, .int .i64 0] 28 (0, 0)) (by (with_reducible repeat (first | refine blk_drewN ?_ _ | refine blk_drew ?_ | refine blk_alloc ?_ _)); exact BK175.out)) : gb188 ≠ gb175))
                                  have n11_ := Aside0.mk ((by rw [hg]; exact Nat.ne_of_lt (blk_lt (g := gb176) (o := .cells #[.int .i64 0, .int .i64 0] 28 (0, 0)) (by (with_reducible repeat (first | refine blk_drewN ?_ _ | refine blk_drew ?_ | refine blk_alloc ?_ _)); exact BK176.out)) : gb176 ≠ gb188))
                                  have n12_ := Aside0.mk ((by rw [hg]; exact Nat.ne_of_gt (blk_lt (g := gb176) (o := .cells #[.int .i64 0, .int .i64 0] 28 (0, 0)) (by (with_reducible repeat (first | refine blk_drewN ?_ _ | refine blk_drew ?_ | refine blk_alloc ?_ _)); exact BK176.out)) : gb188 ≠ gb176))
                                  clear BK174
                                  clear BK175
                                  clear BK176
                                  clear HB
                                  have BK174 := n0_
                                  have BK175 := n1_
                                  have BK176 := n2_
                                  have HB := n3_
                                  have BK188 := n4_
                                  have GW188 := n5_
                                  have GE188 := n6_
                                  have NB174_188 := n7_
                                  have NB188_174 := n8_
                                  have NB175_188 := n9_
                                  have NB188_175 := n10_
                                  have NB176_188 := n11_
                                  have NB188_176 := n12_
                                  clear n0_ n1_ n2_ n3_ n4_ n5_ n6_ n7_ n8_ n9_ n10_ n11_ n12_
                                  clear hb hbox hg
                                  refine hK.out _ _ ⟨(blk_cell BK174.out 0).trans rfl, (blk_cell BK174.out 1).trans rfl⟩ (fun hHeld => ?_)
                                  clear hK K
                                  refine norm_ (a' := ?_) ?_ ?_
                                  rotate_left
                                  · show Act.put _ (some 8) _ = _
                                    simp only [Act.put, List.setIfInBounds_toArray, List.set_cons_zero, List.set_cons_succ, i64_w, i32_w]
                                    rfl
                                  exact norm_ (by first | (simp only [putAll, Act.put, List.setIfInBounds_toArray, List.set_cons_zero, List.set_cons_succ]; done) | (simp only [putAll, Act.put, List.setIfInBounds_toArray, List.set_cons_zero, List.set_cons_succ]; rfl)) (hJ10 (gb188) _ ⟨hHeld, (by (with_reducible repeat (first | refine blk_drewN ?_ _ | refine blk_drew ?_ | refine blk_alloc ?_ _)); exact BK174.out), (by (with_reducible repeat (first | refine blk_drewN ?_ _ | refine blk_drew ?_ | refine blk_alloc ?_ _)); exact BK175.out), (by (with_reducible repeat (first | refine blk_drewN ?_ _ | refine blk_drew ?_ | refine blk_alloc ?_ _)); exact BK176.out), (by (with_reducible repeat (first | refine blk_drewN ?_ _ | refine blk_drew ?_ | refine blk_alloc ?_ _)); exact BK188.out), GW188.out, GE188.out, NB174_188.out, NB188_174.out, NB175_188.out, NB188_175.out, NB176_188.out, NB188_176.out, (by repeat (first | (with_reducible first | exact HB.out | apply below_alloc | apply pw_below_drewN | apply below_drew1 | refine below_set ?_ GE174.out | refine below_set ?_ GE175.out | refine below_set ?_ GE176.out | refine below_set ?_ GE188.out) | exact HB.out))⟩)
                              · skip
                                rintro gb188 w13 ⟨hS_, h0_, h1_, h2_, h3_, h4_, h5_, h6_, h7_, h8_, h9_, h10_, h11_, h12_⟩
                                have n0_ : Aside0 (w13.heap[gb174]? = some (.cells #[.int .i64 a1_0, .int .i64 a1_1] 28 (0, 0))) := ⟨h0_⟩
                                have n1_ : Aside0 (w13.heap[gb175]? = some (.cells #[.int .i64 0, .int .i64 0] 28 (0, 0))) := ⟨h1_⟩
                                have n2_ : Aside0 (w13.heap[gb176]? = some (.cells #[.int .i64 0, .int .i64 0] 28 (0, 0))) := ⟨h2_⟩
                                have n3_ : Aside0 (w13.heap[gb188]? = some (.cells #[.int .i64 0, .int .i64 0] 61 (0, 0))) := ⟨h3_⟩
                                have n4_ : Aside0 (w.heap.size ≤ gb188) := ⟨h4_⟩
                                have n5_ : Aside0 (w.heap.size ≤ gb188) := ⟨h5_⟩
                                have n6_ : Aside0 (gb174 ≠ gb188) := ⟨h6_⟩
                                have n7_ : Aside0 (gb188 ≠ gb174) := ⟨h7_⟩
                                have n8_ : Aside0 (gb175 ≠ gb188) := ⟨h8_⟩
                                have n9_ : Aside0 (gb188 ≠ gb175) := ⟨h9_⟩
                                have n10_ : Aside0 (gb176 ≠ gb188) := ⟨h10_⟩
                                have n11_ : Aside0 (gb188 ≠ gb176) := ⟨h11_⟩
                                have n12_ : Aside0 (Below w.heap.size w w13) := ⟨h12_⟩
                                clear BK174
                                clear BK175
                                clear BK176
                                clear HB
                                clear h0_ h1_ h2_ h3_ h4_ h5_ h6_ h7_ h8_ h9_ h10_ h11_ h12_
                                have BK174 := n0_
                                have BK175 := n1_
                                have BK176 := n2_
                                have BK188 := n3_
                                have GW188 := n4_
                                have GE188 := n5_
                                have NB174_188 := n6_
                                have NB188_174 := n7_
                                have NB175_188 := n8_
                                have NB188_175 := n9_
                                have NB176_188 := n10_
                                have NB188_176 := n11_
                                have HB := n12_
                                clear n0_ n1_ n2_ n3_ n4_ n5_ n6_ n7_ n8_ n9_ n10_ n11_ n12_
                                have hHeld : w13.cell? ⟨gb174, 0, none⟩ = some (.int .i64 a1_0) ∧ w13.cell? ⟨gb174, 1, none⟩ = some (.int .i64 a1_1) := hS_
                                refine norm_ (a' := ?_) ?_ ?_
                                rotate_left
                                · simp only [putAll, Act.put, List.setIfInBounds_toArray, List.set_cons_zero, List.set_cons_succ]
                                  rfl
                                refine two_ (i := 1) (j := 9) (Ni := some 11) (Nj := some 7) #[true, true, true, false, false, false, false, false, false, false, true, false, false, false] #[true, false, true, false, false, false, false, false, false, true, true, false, false, false] rfl rfl rfl rfl (two_of HT_.out (by kernel_rfl)) (by decide) (by decide) (fun K hK => ?_) (fun K hK => ?_)
                                · skip
                                  refine goes_ Try.func38 (by kernel_rfl) rfl #[.slice A0 l0.length c0] (by rfl) rfl rfl (by (try simp only [List.map_toArray, List.map_cons, List.map_nil]); first | done | rfl | (simp only [List.length_drop, List.length_take]; rfl)) ?_
                                  with_reducible refine (impl_inserted.calls _ _ l0 t177 _ ?side1 ?side2 A3.out).mono ?_
                                  (case side1 => repeat (first | exact (Kd.C_below HR0.out HB.out) | (with_reducible refine Kd.C_alloc ?_ _) | (with_reducible refine Kd.C_drewN ?_ _) | (with_reducible refine Kd.C_drew ?_)))
                                  (case side2 => exact HC0.out)
                                  rintro e w14 ⟨v178, rfl, ho0, hb⟩
                                  refine ⟨_, rfl, ?_⟩
                                  have n0_ := Aside0.mk (Kd.R_lower (Kd.R_newB ho0 (g := gb188) (o := .cells #[.int .i64 0, .int .i64 0] 61 (0, 0)) (by (with_reducible repeat (first | refine blk_drewN ?_ _ | refine blk_drew ?_ | refine blk_alloc ?_ _)); exact BK188.out)) (below_size (by repeat (first | (with_reducible first | exact HB.out | apply below_alloc | apply pw_below_drewN | apply below_drew1 | refine below_set ?_ GE174.out | refine below_set ?_ GE175.out | refine below_set ?_ GE176.out | refine below_set ?_ GE188.out) | exact HB.out))))
                                  have n1_ := Aside0.mk (blk_below (g := gb174) (o := .cells #[.int .i64 a1_0, .int .i64 a1_1] 28 (0, 0)) (by (with_reducible repeat (first | refine blk_drewN ?_ _ | refine blk_drew ?_ | refine blk_alloc ?_ _)); exact BK174.out) hb)
                                  have n2_ := Aside0.mk (blk_below (g := gb175) (o := .cells #[.int .i64 0, .int .i64 0] 28 (0, 0)) (by (with_reducible repeat (first | refine blk_drewN ?_ _ | refine blk_drew ?_ | refine blk_alloc ?_ _)); exact BK175.out) hb)
                                  have n3_ := Aside0.mk (blk_below (g := gb176) (o := .cells #[.int .i64 0, .int .i64 0] 28 (0, 0)) (by (with_reducible repeat (first | refine blk_drewN ?_ _ | refine blk_drew ?_ | refine blk_alloc ?_ _)); exact BK176.out) hb)
                                  have n4_ := Aside0.mk (blk_below (g := gb188) (o := .cells #[.int .i64 0, .int .i64 0] 61 (0, 0)) (by (with_reducible repeat (first | refine blk_drewN ?_ _ | refine blk_drew ?_ | refine blk_alloc ?_ _)); exact BK188.out) hb)
                                  have n5_ := Aside0.mk (below_step (by repeat (first | (with_reducible first | exact HB.out | apply below_alloc | apply pw_below_drewN | apply below_drew1 | refine below_set ?_ GE174.out | refine below_set ?_ GE175.out | refine below_set ?_ GE176.out | refine below_set ?_ GE188.out) | exact HB.out)) hb)
                                  clear BK174
                                  clear BK175
                                  clear BK176
                                  clear BK188
                                  clear HB
                                  have HO179 := n0_
                                  have BK174 := n1_
                                  have BK175 := n2_
                                  have BK176 := n3_
                                  have BK188 := n4_
                                  have HB := n5_
                                  clear n0_ n1_ n2_ n3_ n4_ n5_
                                  (try clear hb)
                                  (try clear hb2)
                                  (try clear hk)
                                  (try clear hi)
                                  (try clear ho0)
                                  refine hK.out _ _ ⟨(blk_cell BK174.out 0).trans rfl, (blk_cell BK174.out 1).trans rfl⟩ (fun hHeld => ?_)
                                  clear hK K
                                  refine norm_ (a' := ?_) ?_ ?_
                                  rotate_left
                                  · show Act.put _ (some 11) _ = _
                                    simp only [Act.put, List.setIfInBounds_toArray, List.set_cons_zero, List.set_cons_succ, i64_w, i32_w]
                                    rfl
                                  exact norm_ (by first | (simp only [putAll, Act.put, List.setIfInBounds_toArray, List.set_cons_zero, List.set_cons_succ]; done) | (simp only [putAll, Act.put, List.setIfInBounds_toArray, List.set_cons_zero, List.set_cons_succ]; rfl)) (hJ1_10 (_, gb188) _ ⟨hHeld, (by (with_reducible repeat (first | apply Kd.R_alloc | apply Kd.R_drewN | apply Kd.R_drew)); exact Kd.R_mono HO179.out (fun _ hk => hk.2)), (by (with_reducible repeat (first | refine blk_drewN ?_ _ | refine blk_drew ?_ | refine blk_alloc ?_ _)); exact BK174.out), (by (with_reducible repeat (first | refine blk_drewN ?_ _ | refine blk_drew ?_ | refine blk_alloc ?_ _)); exact BK175.out), (by (with_reducible repeat (first | refine blk_drewN ?_ _ | refine blk_drew ?_ | refine blk_alloc ?_ _)); exact BK176.out), (by (with_reducible repeat (first | refine blk_drewN ?_ _ | refine blk_drew ?_ | refine blk_alloc ?_ _)); exact BK188.out), GW188.out, GE188.out, NB174_188.out, NB188_174.out, NB175_188.out, NB188_175.out, NB176_188.out, NB188_176.out, (by repeat (first | (with_reducible first | exact HB.out | apply below_alloc | apply pw_below_drewN | apply below_drew1 | refine below_set ?_ GE174.out | refine below_set ?_ GE175.out | refine below_set ?_ GE176.out | refine below_set ?_ GE188.out) | exact HB.out))⟩)
                                · skip
                                  refine box_step ?hg (N := 7) ?hd (cs := #[.int .i64 0, .int .i64 0]) (t := 61) ?hr ?_; (case hd => rfl); (case hg => rfl); (case hr => first | (go_simp; done) | (go_simp; rfl))
                                  intro gb187 hg w14 hbox hb
                                  have n0_ := Aside0.mk (blk_below (g := gb174) (o := .cells #[.int .i64 a1_0, .int .i64 a1_1] 28 (0, 0)) (by (with_reducible repeat (first | refine blk_drewN ?_ _ | refine blk_drew ?_ | refine blk_alloc ?_ _)); exact BK174.out) hb)
                                  have n1_ := Aside0.mk (blk_below (g := gb175) (o := .cells #[.int .i64 0, .int .i64 0] 28 (0, 0)) (by (with_reducible repeat (first | refine blk_drewN ?_ _ | refine blk_drew ?_ | refine blk_alloc ?_ _)); exact BK175.out) hb)
                                  have n2_ := Aside0.mk (blk_below (g := gb176) (o := .cells #[.int .i64 0, .int .i64 0] 28 (0, 0)) (by (with_reducible repeat (first | refine blk_drewN ?_ _ | refine blk_drew ?_ | refine blk_alloc ?_ _)); exact BK176.out) hb)
                                  have n3_ := Aside0.mk (blk_below (g := gb188) (o := .cells #[.int .i64 0, .int .i64 0] 61 (0, 0)) (by (with_reducible repeat (first | refine blk_drewN ?_ _ | refine blk_drew ?_ | refine blk_alloc ?_ _)); exact BK188.out) hb)
                                  have n4_ := Aside0.mk (below_step (by repeat (first | (with_reducible first | exact HB.out | apply below_alloc | apply pw_below_drewN | apply below_drew1 | refine below_set ?_ GE174.out | refine below_set ?_ GE175.out | refine below_set ?_ GE176.out | refine below_set ?_ GE188.out) | exact HB.out)) hb)
                                  have n5_ := Aside0.mk (hbox)
                                  have n6_ := Aside0.mk ((by rw [hg]; exact (below_size (by repeat (first | (with_reducible first | exact HB.out | apply below_alloc | apply pw_below_drewN | apply below_drew1 | refine below_set ?_ GE174.out | refine below_set ?_ GE175.out | refine below_set ?_ GE176.out | refine below_set ?_ GE188.out) | exact HB.out))) : w.heap.size ≤ gb187))
                                  have n7_ := Aside0.mk ((by rw [hg]; exact (below_size (by repeat (first | (with_reducible first | exact HB.out | apply below_alloc | apply pw_below_drewN | apply below_drew1 | refine below_set ?_ GE174.out | refine below_set ?_ GE175.out | refine below_set ?_ GE176.out | refine below_set ?_ GE188.out) | exact HB.out))) : w.heap.size ≤ gb187))
                                  have n8_ := Aside0.mk ((by rw [hg]; exact Nat.ne_of_lt (blk_lt (g := gb174) (o := .cells #[.int .i64 a1_0, .int .i64 a1_1] 28 (0, 0)) (by (with_reducible repeat (first | refine blk_drewN ?_ _ | refine blk_drew ?_ | refine blk_alloc ?_ _)); exact BK174.out)) : gb174 ≠ gb187))
                                  have n9_ := Aside0.mk ((by rw [hg]; exact Nat.ne_of_gt (blk_lt (g := gb174) (o := .cells #[.int .i64 a1_0, .int .i64 a1_1] 28 (0, 0)) (by (with_reducible repeat (first | refine blk_drewN ?_ _ | refine blk_drew ?_ | refine blk_alloc ?_ _)); exact BK174.out)) : gb187 ≠ gb174))
                                  have n10_ := Aside0.mk ((by rw [hg]; exact Nat.ne_of_lt (blk_lt (g := gb175) (o := .cells #[.int .i64 0, .int .i64 0] 28 (0, 0)) (by (with_reducible repeat (first | refine blk_drewN ?_ _ | refine blk_drew ?_ | refine blk_alloc ?_ _)); exact BK175.out)) : gb175 ≠ gb187))
                                  have n11_ := Aside0.mk ((by rw [hg]; exact Nat.ne_of_gt (blk_lt (g := gb175) (o := .cells #[.int .i64 0, .int .i64 0] 28 (0, 0)) (by (with_reducible repeat (first | refine blk_drewN ?_ _ | refine blk_drew ?_ | refine blk_alloc ?_ _)); exact BK175.out)) : gb187 ≠ gb175))
                                  have n12_ := Aside0.mk ((by rw [hg]; exact Nat.ne_of_lt (blk_lt (g := gb176) (o := .cells #[.int .i64 0, .int .i64 0] 28 (0, 0)) (by (with_reducible repeat (first | refine blk_drewN ?_ _ | refine blk_drew ?_ | refine blk_alloc ?_ _)); exact BK176.out)) : gb176 ≠ gb187))
                                  have n13_ := Aside0.mk ((by rw [hg]; exact Nat.ne_of_gt (blk_lt (g := gb176) (o := .cells #[.int .i64 0, .int .i64 0] 28 (0, 0)) (by (with_reducible repeat (first | refine blk_drewN ?_ _ | refine blk_drew ?_ | refine blk_alloc ?_ _)); exact BK176.out)) : gb187 ≠ gb176))
                                  have n14_ := Aside0.mk ((by rw [hg]; exact Nat.ne_of_lt (blk_lt (g := gb188) (o := .cells #[.int .i64 0, .int .i64 0] 61 (0, 0)) (by (with_reducible repeat (first | refine blk_drewN ?_ _ | refine blk_drew ?_ | refine blk_alloc ?_ _)); exact BK188.out)) : gb188 ≠ gb187))
                                  have n15_ := Aside0.mk ((by rw [hg]; exact Nat.ne_of_gt (blk_lt (g := gb188) (o := .cells #[.int .i64 0, .int .i64 0] 61 (0, 0)) (by (with_reducible repeat (first | refine blk_drewN ?_ _ | refine blk_drew ?_ | refine blk_alloc ?_ _)); exact BK188.out)) : gb187 ≠ gb188))
                                  clear BK174
                                  clear BK175
                                  clear BK176
                                  clear BK188
                                  clear HB
                                  have BK174 := n0_
                                  have BK175 := n1_
                                  have BK176 := n2_
                                  have BK188 := n3_
                                  have HB := n4_
                                  have BK187 := n5_
                                  have GW187 := n6_
                                  have GE187 := n7_
                                  have NB174_187 := n8_
                                  have NB187_174 := n9_
                                  have NB175_187 := n10_
                                  have NB187_175 := n11_
                                  have NB176_187 := n12_
                                  have NB187_176 := n13_
                                  have NB188_187 := n14_
                                  have NB187_188 := n15_
                                  clear n0_ n1_ n2_ n3_ n4_ n5_ n6_ n7_ n8_ n9_ n10_ n11_ n12_ n13_ n14_ n15_
                                  clear hb hbox hg
                                  refine hK.out _ _ ⟨(blk_cell BK174.out 0).trans rfl, (blk_cell BK174.out 1).trans rfl⟩ (fun hHeld => ?_)
                                  clear hK K
                                  refine norm_ (a' := ?_) ?_ ?_
                                  rotate_left
                                  · show Act.put _ (some 7) _ = _
                                    simp only [Act.put, List.setIfInBounds_toArray, List.set_cons_zero, List.set_cons_succ, i64_w, i32_w]
                                    rfl
                                  exact norm_ (by first | (simp only [putAll, Act.put, List.setIfInBounds_toArray, List.set_cons_zero, List.set_cons_succ]; done) | (simp only [putAll, Act.put, List.setIfInBounds_toArray, List.set_cons_zero, List.set_cons_succ]; rfl)) (hJ9_10 (gb187, gb188) _ ⟨hHeld, (by (with_reducible repeat (first | refine blk_drewN ?_ _ | refine blk_drew ?_ | refine blk_alloc ?_ _)); exact BK174.out), (by (with_reducible repeat (first | refine blk_drewN ?_ _ | refine blk_drew ?_ | refine blk_alloc ?_ _)); exact BK175.out), (by (with_reducible repeat (first | refine blk_drewN ?_ _ | refine blk_drew ?_ | refine blk_alloc ?_ _)); exact BK176.out), (by (with_reducible repeat (first | refine blk_drewN ?_ _ | refine blk_drew ?_ | refine blk_alloc ?_ _)); exact BK187.out), (by (with_reducible repeat (first | refine blk_drewN ?_ _ | refine blk_drew ?_ | refine blk_alloc ?_ _)); exact BK188.out), GW187.out, GE187.out, NB174_187.out, NB187_174.out, NB175_187.out, NB187_175.out, NB176_187.out, NB187_176.out, NB188_187.out, NB187_188.out, GW188.out, GE188.out, NB174_188.out, NB188_174.out, NB175_188.out, NB188_175.out, NB176_188.out, NB188_176.out, (by repeat (first | (with_reducible first | exact HB.out | apply below_alloc | apply pw_below_drewN | apply below_drew1 | refine below_set ?_ GE174.out | refine below_set ?_ GE175.out | refine below_set ?_ GE176.out | refine below_set ?_ GE188.out | refine below_set ?_ GE187.out) | exact HB.out))⟩)
                            · skip
                              rintro gb187 w13 ⟨hS_, h0_, h1_, h2_, h3_, h4_, h5_, h6_, h7_, h8_, h9_, h10_, h11_, h12_⟩
                              have n0_ : Aside0 (w13.heap[gb174]? = some (.cells #[.int .i64 a1_0, .int .i64 a1_1] 28 (0, 0))) := ⟨h0_⟩
                              have n1_ : Aside0 (w13.heap[gb175]? = some (.cells #[.int .i64 0, .int .i64 0] 28 (0, 0))) := ⟨h1_⟩
                              have n2_ : Aside0 (w13.heap[gb176]? = some (.cells #[.int .i64 0, .int .i64 0] 28 (0, 0))) := ⟨h2_⟩
                              have n3_ : Aside0 (w13.heap[gb187]? = some (.cells #[.int .i64 0, .int .i64 0] 61 (0, 0))) := ⟨h3_⟩
                              have n4_ : Aside0 (w.heap.size ≤ gb187) := ⟨h4_⟩
                              have n5_ : Aside0 (w.heap.size ≤ gb187) := ⟨h5_⟩
                              have n6_ : Aside0 (gb174 ≠ gb187) := ⟨h6_⟩
                              have n7_ : Aside0 (gb187 ≠ gb174) := ⟨h7_⟩
                              have n8_ : Aside0 (gb175 ≠ gb187) := ⟨h8_⟩
                              have n9_ : Aside0 (gb187 ≠ gb175) := ⟨h9_⟩
                              have n10_ : Aside0 (gb176 ≠ gb187) := ⟨h10_⟩
                              have n11_ : Aside0 (gb187 ≠ gb176) := ⟨h11_⟩
                              have n12_ : Aside0 (Below w.heap.size w w13) := ⟨h12_⟩
                              clear BK174
                              clear BK175
                              clear BK176
                              clear HB
                              clear h0_ h1_ h2_ h3_ h4_ h5_ h6_ h7_ h8_ h9_ h10_ h11_ h12_
                              have BK174 := n0_
                              have BK175 := n1_
                              have BK176 := n2_
                              have BK187 := n3_
                              have GW187 := n4_
                              have GE187 := n5_
                              have NB174_187 := n6_
                              have NB187_174 := n7_
                              have NB175_187 := n8_
                              have NB187_175 := n9_
                              have NB176_187 := n10_
                              have NB187_176 := n11_
                              have HB := n12_
                              clear n0_ n1_ n2_ n3_ n4_ n5_ n6_ n7_ n8_ n9_ n10_ n11_ n12_
                              have hHeld : w13.cell? ⟨gb174, 0, none⟩ = some (.int .i64 a1_0) ∧ w13.cell? ⟨gb174, 1, none⟩ = some (.int .i64 a1_1) := hS_
                              refine norm_ (a' := ?_) ?_ ?_
                              rotate_left
                              · simp only [putAll, Act.put, List.setIfInBounds_toArray, List.set_cons_zero, List.set_cons_succ]
                                rfl
                              refine two_ (i := 1) (j := 10) (Ni := some 11) (Nj := some 8) #[true, true, true, false, false, false, false, false, false, true, false, false, false, false] #[true, false, true, false, false, false, false, false, false, true, true, false, false, false] rfl rfl rfl rfl (two_of HT_.out (by kernel_rfl)) (by decide) (by decide) (fun K hK => ?_) (fun K hK => ?_)
                              · skip
                                refine goes_ Try.func38 (by kernel_rfl) rfl #[.slice A0 l0.length c0] (by rfl) rfl rfl (by (try simp only [List.map_toArray, List.map_cons, List.map_nil]); first | done | rfl | (simp only [List.length_drop, List.length_take]; rfl)) ?_
                                with_reducible refine (impl_inserted.calls _ _ l0 t177 _ ?side1 ?side2 A3.out).mono ?_
                                (case side1 => repeat (first | exact (Kd.C_below HR0.out HB.out) | (with_reducible refine Kd.C_alloc ?_ _) | (with_reducible refine Kd.C_drewN ?_ _) | (with_reducible refine Kd.C_drew ?_)))
                                (case side2 => exact HC0.out)
                                rintro e w14 ⟨v178, rfl, ho0, hb⟩
                                refine ⟨_, rfl, ?_⟩
                                have n0_ := Aside0.mk (Kd.R_lower (Kd.R_newB ho0 (g := gb187) (o := .cells #[.int .i64 0, .int .i64 0] 61 (0, 0)) (by (with_reducible repeat (first | refine blk_drewN ?_ _ | refine blk_drew ?_ | refine blk_alloc ?_ _)); exact BK187.out)) (below_size (by repeat (first | (with_reducible first | exact HB.out | apply below_alloc | apply pw_below_drewN | apply below_drew1 | refine below_set ?_ GE174.out | refine below_set ?_ GE175.out | refine below_set ?_ GE176.out | refine below_set ?_ GE187.out) | exact HB.out))))
                                have n1_ := Aside0.mk (blk_below (g := gb174) (o := .cells #[.int .i64 a1_0, .int .i64 a1_1] 28 (0, 0)) (by (with_reducible repeat (first | refine blk_drewN ?_ _ | refine blk_drew ?_ | refine blk_alloc ?_ _)); exact BK174.out) hb)
                                have n2_ := Aside0.mk (blk_below (g := gb175) (o := .cells #[.int .i64 0, .int .i64 0] 28 (0, 0)) (by (with_reducible repeat (first | refine blk_drewN ?_ _ | refine blk_drew ?_ | refine blk_alloc ?_ _)); exact BK175.out) hb)
                                have n3_ := Aside0.mk (blk_below (g := gb176) (o := .cells #[.int .i64 0, .int .i64 0] 28 (0, 0)) (by (with_reducible repeat (first | refine blk_drewN ?_ _ | refine blk_drew ?_ | refine blk_alloc ?_ _)); exact BK176.out) hb)
                                have n4_ := Aside0.mk (blk_below (g := gb187) (o := .cells #[.int .i64 0, .int .i64 0] 61 (0, 0)) (by (with_reducible repeat (first | refine blk_drewN ?_ _ | refine blk_drew ?_ | refine blk_alloc ?_ _)); exact BK187.out) hb)
                                have n5_ := Aside0.mk (below_step (by repeat (first | (with_reducible first | exact HB.out | apply below_alloc | apply pw_below_drewN | apply below_drew1 | refine below_set ?_ GE174.out | refine below_set ?_ GE175.out | refine below_set ?_ GE176.out | refine below_set ?_ GE187.out) | exact HB.out)) hb)
                                clear BK174
                                clear BK175
                                clear BK176
                                clear BK187
                                clear HB
                                have HO179 := n0_
                                have BK174 := n1_
                                have BK175 := n2_
                                have BK176 := n3_
                                have BK187 := n4_
                                have HB := n5_
                                clear n0_ n1_ n2_ n3_ n4_ n5_
                                (try clear hb)
                                (try clear hb2)
                                (try clear hk)
                                (try clear hi)
                                (try clear ho0)
                                refine hK.out _ _ ⟨(blk_cell BK174.out 0).trans rfl, (blk_cell BK174.out 1).trans rfl⟩ (fun hHeld => ?_)
                                clear hK K
                                refine norm_ (a' := ?_) ?_ ?_
                                rotate_left
                                · show Act.put _ (some 11) _ = _
                                  simp only [Act.put, List.setIfInBounds_toArray, List.set_cons_zero, List.set_cons_succ, i64_w, i32_w]
                                  rfl
                                exact norm_ (by first | (simp only [putAll, Act.put, List.setIfInBounds_toArray, List.set_cons_zero, List.set_cons_succ]; done) | (simp only [putAll, Act.put, List.setIfInBounds_toArray, List.set_cons_zero, List.set_cons_succ]; rfl)) (hJ1_9 (_, gb187) _ ⟨hHeld, (by (with_reducible repeat (first | apply Kd.R_alloc | apply Kd.R_drewN | apply Kd.R_drew)); exact Kd.R_mono HO179.out (fun _ hk => hk.2)), (by (with_reducible repeat (first | refine blk_drewN ?_ _ | refine blk_drew ?_ | refine blk_alloc ?_ _)); exact BK174.out), (by (with_reducible repeat (first | refine blk_drewN ?_ _ | refine blk_drew ?_ | refine blk_alloc ?_ _)); exact BK175.out), (by (with_reducible repeat (first | refine blk_drewN ?_ _ | refine blk_drew ?_ | refine blk_alloc ?_ _)); exact BK176.out), (by (with_reducible repeat (first | refine blk_drewN ?_ _ | refine blk_drew ?_ | refine blk_alloc ?_ _)); exact BK187.out), GW187.out, GE187.out, NB174_187.out, NB187_174.out, NB175_187.out, NB187_175.out, NB176_187.out, NB187_176.out, (by repeat (first | (with_reducible first | exact HB.out | apply below_alloc | apply pw_below_drewN | apply below_drew1 | refine below_set ?_ GE174.out | refine below_set ?_ GE175.out | refine below_set ?_ GE176.out | refine below_set ?_ GE187.out) | exact HB.out))⟩)
                              · skip
                                refine box_step ?hg (N := 8) ?hd (cs := #[.int .i64 0, .int .i64 0]) (t := 61) ?hr ?_; (case hd => rfl); (case hg => rfl); (case hr => first | (go_simp; done) | (go_simp; rfl))
                                intro gb188 hg w14 hbox hb
                                have n0_ := Aside0.mk (blk_below (g := gb174) (o := .cells #[.int .i64 a1_0, .int .i64 a1_1] 28 (0, 0)) (by (with_reducible repeat (first | refine blk_drewN ?_ _ | refine blk_drew ?_ | refine blk_alloc ?_ _)); exact BK174.out) hb)
                                have n1_ := Aside0.mk (blk_below (g := gb175) (o := .cells #[.int .i64 0, .int .i64 0] 28 (0, 0)) (by (with_reducible repeat (first | refine blk_drewN ?_ _ | refine blk_drew ?_ | refine blk_alloc ?_ _)); exact BK175.out) hb)
                                have n2_ := Aside0.mk (blk_below (g := gb176) (o := .cells #[.int .i64 0, .int .i64 0] 28 (0, 0)) (by (with_reducible repeat (first | refine blk_drewN ?_ _ | refine blk_drew ?_ | refine blk_alloc ?_ _)); exact BK176.out) hb)
                                have n3_ := Aside0.mk (blk_below (g := gb187) (o := .cells #[.int .i64 0, .int .i64 0] 61 (0, 0)) (by (with_reducible repeat (first | refine blk_drewN ?_ _ | refine blk_drew ?_ | refine blk_alloc ?_ _)); exact BK187.out) hb)
                                have n4_ := Aside0.mk (below_step (by repeat (first | (with_reducible first | exact HB.out | apply below_alloc | apply pw_below_drewN | apply below_drew1 | refine below_set ?_ GE174.out | refine below_set ?_ GE175.out | refine below_set ?_ GE176.out | refine below_set ?_ GE187.out) | exact HB.out)) hb)
                                have n5_ := Aside0.mk (hbox)
                                have n6_ := Aside0.mk ((by rw [hg]; exact (below_size (by repeat (first | (with_reducible first | exact HB.out | apply below_alloc | apply pw_below_drewN | apply below_drew1 | refine below_set ?_ GE174.out | refine below_set ?_ GE175.out | refine below_set ?_ GE176.out | refine below_set ?_ GE187.out) | exact HB.out))) : w.heap.size ≤ gb188))
                                have n7_ := Aside0.mk ((by rw [hg]; exact (below_size (by repeat (first | (with_reducible first | exact HB.out | apply below_alloc | apply pw_below_drewN | apply below_drew1 | refine below_set ?_ GE174.out | refine below_set ?_ GE175.out | refine below_set ?_ GE176.out | refine below_set ?_ GE187.out) | exact HB.out))) : w.heap.size ≤ gb188))
                                have n8_ := Aside0.mk ((by rw [hg]; exact Nat.ne_of_lt (blk_lt (g := gb174) (o := .cells #[.int .i64 a1_0, .int .i64 a1_1] 28 (0, 0)) (by (with_reducible repeat (first | refine blk_drewN ?_ _ | refine blk_drew ?_ | refine blk_alloc ?_ _)); exact BK174.out)) : gb174 ≠ gb188))
                                have n9_ := Aside0.mk ((by rw [hg]; exact Nat.ne_of_gt (blk_lt (g := gb174) (o := .cells #[.int .i64 a1_0, .int .i64 a1_1] 28 (0, 0)) (by (with_reducible repeat (first | refine blk_drewN ?_ _ | refine blk_drew ?_ | refine blk_alloc ?_ _)); exact BK174.out)) : gb188 ≠ gb174))
                                have n10_ := Aside0.mk ((by rw [hg]; exact Nat.ne_of_lt (blk_lt (g := gb175) (o := .cells #[.int .i64 0, .int .i64 0] 28 (0, 0)) (by (with_reducible repeat (first | refine blk_drewN ?_ _ | refine blk_drew ?_ | refine blk_alloc ?_ _)); exact BK175.out)) : gb175 ≠ gb188))
                                have n11_ := Aside0.mk ((by rw [hg]; exact Nat.ne_of_gt (blk_lt (g := gb175) (o := .cells #[.int .i64 0, .int .i64 0] 28 (0, 0)) (by (with_reducible repeat (first | refine blk_drewN ?_ _ | refine blk_drew ?_ | refine blk_alloc ?_ _)); exact BK175.out)) : gb188 ≠ gb175))
                                have n12_ := Aside0.mk ((by rw [hg]; exact Nat.ne_of_lt (blk_lt (g := gb176) (o := .cells #[.int .i64 0, .int .i64 0] 28 (0, 0)) (by (with_reducible repeat (first | refine blk_drewN ?_ _ | refine blk_drew ?_ | refine blk_alloc ?_ _)); exact BK176.out)) : gb176 ≠ gb188))
                                have n13_ := Aside0.mk ((by rw [hg]; exact Nat.ne_of_gt (blk_lt (g := gb176) (o := .cells #[.int .i64 0, .int .i64 0] 28 (0, 0)) (by (with_reducible repeat (first | refine blk_drewN ?_ _ | refine blk_drew ?_ | refine blk_alloc ?_ _)); exact BK176.out)) : gb188 ≠ gb176))
                                have n14_ := Aside0.mk ((by rw [hg]; exact Nat.ne_of_lt (blk_lt (g := gb187) (o := .cells #[.int .i64 0, .int .i64 0] 61 (0, 0)) (by (with_reducible repeat (first | refine blk_drewN ?_ _ | refine blk_drew ?_ | refine blk_alloc ?_ _)); exact BK187.out)) : gb187 ≠ gb188))
                                have n15_ := Aside0.mk ((by rw [hg]; exact Nat.ne_of_gt (blk_lt (g := gb187) (o := .cells #[.int .i64 0, .int .i64 0] 61 (0, 0)) (by (with_reducible repeat (first | refine blk_drewN ?_ _ | refine blk_drew ?_ | refine blk_alloc ?_ _)); exact BK187.out)) : gb188 ≠ gb187))
                                clear BK174
                                clear BK175
                                clear BK176
                                clear BK187
                                clear HB
                                have BK174 := n0_
                                have BK175 := n1_
                                have BK176 := n2_
                                have BK187 := n3_
                                have HB := n4_
                                have BK188 := n5_
                                have GW188 := n6_
                                have GE188 := n7_
                                have NB174_188 := n8_
                                have NB188_174 := n9_
                                have NB175_188 := n10_
                                have NB188_175 := n11_
                                have NB176_188 := n12_
                                have NB188_176 := n13_
                                have NB187_188 := n14_
                                have NB188_187 := n15_
                                clear n0_ n1_ n2_ n3_ n4_ n5_ n6_ n7_ n8_ n9_ n10_ n11_ n12_ n13_ n14_ n15_
                                clear hb hbox hg
                                refine hK.out _ _ ⟨(blk_cell BK174.out 0).trans rfl, (blk_cell BK174.out 1).trans rfl⟩ (fun hHeld => ?_)
                                clear hK K
                                refine norm_ (a' := ?_) ?_ ?_
                                rotate_left
                                · show Act.put _ (some 8) _ = _
                                  simp only [Act.put, List.setIfInBounds_toArray, List.set_cons_zero, List.set_cons_succ, i64_w, i32_w]
                                  rfl
                                exact norm_ (by first | (simp only [putAll, Act.put, List.setIfInBounds_toArray, List.set_cons_zero, List.set_cons_succ]; done) | (simp only [putAll, Act.put, List.setIfInBounds_toArray, List.set_cons_zero, List.set_cons_succ]; rfl)) (hJ9_10 (gb187, gb188) _ ⟨hHeld, (by (with_reducible repeat (first | refine blk_drewN ?_ _ | refine blk_drew ?_ | refine blk_alloc ?_ _)); exact BK174.out), (by (with_reducible repeat (first | refine blk_drewN ?_ _ | refine blk_drew ?_ | refine blk_alloc ?_ _)); exact BK175.out), (by (with_reducible repeat (first | refine blk_drewN ?_ _ | refine blk_drew ?_ | refine blk_alloc ?_ _)); exact BK176.out), (by (with_reducible repeat (first | refine blk_drewN ?_ _ | refine blk_drew ?_ | refine blk_alloc ?_ _)); exact BK187.out), (by (with_reducible repeat (first | refine blk_drewN ?_ _ | refine blk_drew ?_ | refine blk_alloc ?_ _)); exact BK188.out), GW187.out, GE187.out, NB174_187.out, NB187_174.out, NB175_187.out, NB187_175.out, NB176_187.out, NB187_176.out, NB188_187.out, NB187_188.out, GW188.out, GE188.out, NB174_188.out, NB188_174.out, NB175_188.out, NB188_175.out, NB176_188.out, NB188_176.out, (by repeat (first | (with_reducible first | exact HB.out | apply below_alloc | apply pw_below_drewN | apply below_drew1 | refine below_set ?_ GE174.out | refine below_set ?_ GE175.out | refine below_set ?_ GE176.out | refine below_set ?_ GE187.out | refine below_set ?_ GE188.out) | exact HB.out))⟩)
                          · skip
                            rintro v178 w13 ⟨hS_, h0_, h1_, h2_, h3_, h4_⟩
                            have n0_ : Aside0 (Kd.R k61 61 w13 w.heap.size (fun _ => True) v178 t177) := ⟨h0_⟩
                            have n1_ : Aside0 (w13.heap[gb174]? = some (.cells #[.int .i64 a1_0, .int .i64 a1_1] 28 (0, 0))) := ⟨h1_⟩
                            have n2_ : Aside0 (w13.heap[gb175]? = some (.cells #[.int .i64 0, .int .i64 0] 28 (0, 0))) := ⟨h2_⟩
                            have n3_ : Aside0 (w13.heap[gb176]? = some (.cells #[.int .i64 0, .int .i64 0] 28 (0, 0))) := ⟨h3_⟩
                            have n4_ : Aside0 (Below w.heap.size w w13) := ⟨h4_⟩
                            clear BK174
                            clear BK175
                            clear BK176
                            clear HB
                            clear h0_ h1_ h2_ h3_ h4_
                            have HO179 := n0_
                            have BK174 := n1_
                            have BK175 := n2_
                            have BK176 := n3_
                            have HB := n4_
                            clear n0_ n1_ n2_ n3_ n4_
                            have hHeld : w13.cell? ⟨gb174, 0, none⟩ = some (.int .i64 a1_0) ∧ w13.cell? ⟨gb174, 1, none⟩ = some (.int .i64 a1_1) := hS_
                            refine norm_ (a' := ?_) ?_ ?_
                            rotate_left
                            · simp only [putAll, Act.put, List.setIfInBounds_toArray, List.set_cons_zero, List.set_cons_succ]
                              rfl
                            refine three_ (i := 3) (j := 9) (k := 10) (Ni := some 13) (Nj := some 7) (Nk := some 8) #[true, true, true, true, false, false, false, false, false, false, false, false, false, false] #[true, true, true, false, false, false, false, false, false, true, false, false, false, false] #[true, true, true, false, false, false, false, false, false, false, true, false, false, false] rfl rfl rfl rfl rfl rfl (three_of HT_.out (by kernel_rfl)) (by decide) (by decide) (by decide) (fun K hK => ?_) (fun K hK => ?_) (fun K hK => ?_)
                            · skip
                              refine goes_ Try.func41 (by kernel_rfl) rfl #[.agg #[.int .i64 a1_0, .int .i64 a1_1]] (by rfl) rfl rfl (by (try simp only [List.map_toArray, List.map_cons, List.map_nil]); first | done | rfl | (simp only [List.length_drop, List.length_take]; rfl)) ?_
                              with_reducible refine (impl_given.calls a1_0 a1_1 t180 t181 _ A4.out).mono ?_
                              rintro e w14 ⟨rfl, hb⟩
                              refine ⟨_, rfl, ?_⟩
                              have n0_ := Aside0.mk (Kd.R_below (by (with_reducible repeat (first | apply Kd.R_alloc | apply Kd.R_drewN | apply Kd.R_drew)); exact HO179.out) hb)
                              have n1_ := Aside0.mk (blk_below (g := gb174) (o := .cells #[.int .i64 a1_0, .int .i64 a1_1] 28 (0, 0)) (by (with_reducible repeat (first | refine blk_drewN ?_ _ | refine blk_drew ?_ | refine blk_alloc ?_ _)); exact BK174.out) hb)
                              have n2_ := Aside0.mk (blk_below (g := gb175) (o := .cells #[.int .i64 0, .int .i64 0] 28 (0, 0)) (by (with_reducible repeat (first | refine blk_drewN ?_ _ | refine blk_drew ?_ | refine blk_alloc ?_ _)); exact BK175.out) hb)
                              have n3_ := Aside0.mk (blk_below (g := gb176) (o := .cells #[.int .i64 0, .int .i64 0] 28 (0, 0)) (by (with_reducible repeat (first | refine blk_drewN ?_ _ | refine blk_drew ?_ | refine blk_alloc ?_ _)); exact BK176.out) hb)
                              have n4_ := Aside0.mk (below_step (by repeat (first | (with_reducible first | exact HB.out | apply below_alloc | apply pw_below_drewN | apply below_drew1 | refine below_set ?_ GE174.out | refine below_set ?_ GE175.out | refine below_set ?_ GE176.out) | exact HB.out)) hb)
                              clear HO179
                              clear BK174
                              clear BK175
                              clear BK176
                              clear HB
                              have HO179 := n0_
                              have BK174 := n1_
                              have BK175 := n2_
                              have BK176 := n3_
                              have HB := n4_
                              clear n0_ n1_ n2_ n3_ n4_
                              (try clear hb)
                              (try clear hb2)
                              (try clear hk)
                              (try clear hi)
                              refine hK.out _ _ ⟨(blk_cell BK174.out 0).trans rfl, (blk_cell BK174.out 1).trans rfl⟩ (fun hHeld => ?_)
                              clear hK K
                              refine norm_ (a' := ?_) ?_ ?_
                              rotate_left
                              · show Act.put _ (some 13) _ = _
                                simp only [Act.put, List.setIfInBounds_toArray, List.set_cons_zero, List.set_cons_succ, i64_w, i32_w]
                                rfl
                              exact norm_ (by first | (simp only [putAll, Act.put, List.setIfInBounds_toArray, List.set_cons_zero, List.set_cons_succ]; done) | (simp only [putAll, Act.put, List.setIfInBounds_toArray, List.set_cons_zero, List.set_cons_succ]; rfl)) (hJ1_3 (v178) _ ⟨hHeld, (by (with_reducible repeat (first | apply Kd.R_alloc | apply Kd.R_drewN | apply Kd.R_drew)); exact HO179.out), (by (with_reducible repeat (first | refine blk_drewN ?_ _ | refine blk_drew ?_ | refine blk_alloc ?_ _)); exact BK174.out), (by (with_reducible repeat (first | refine blk_drewN ?_ _ | refine blk_drew ?_ | refine blk_alloc ?_ _)); exact BK175.out), (by (with_reducible repeat (first | refine blk_drewN ?_ _ | refine blk_drew ?_ | refine blk_alloc ?_ _)); exact BK176.out), (by repeat (first | (with_reducible first | exact HB.out | apply below_alloc | apply pw_below_drewN | apply below_drew1 | refine below_set ?_ GE174.out | refine below_set ?_ GE175.out | refine below_set ?_ GE176.out) | exact HB.out))⟩)
                            · skip
                              refine box_step ?hg (N := 7) ?hd (cs := #[.int .i64 0, .int .i64 0]) (t := 61) ?hr ?_; (case hd => rfl); (case hg => rfl); (case hr => first | (go_simp; done) | (go_simp; rfl))
                              intro gb187 hg w14 hbox hb
                              have n0_ := Aside0.mk (Kd.R_below (Kd.R_elderB (by (with_reducible repeat (first | apply Kd.R_alloc | apply Kd.R_drewN | apply Kd.R_drew)); exact HO179.out) gb187 (Nat.le_of_eq hg.symm)) hb)
                              have n1_ := Aside0.mk (blk_below (g := gb174) (o := .cells #[.int .i64 a1_0, .int .i64 a1_1] 28 (0, 0)) (by (with_reducible repeat (first | refine blk_drewN ?_ _ | refine blk_drew ?_ | refine blk_alloc ?_ _)); exact BK174.out) hb)
                              have n2_ := Aside0.mk (blk_below (g := gb175) (o := .cells #[.int .i64 0, .int .i64 0] 28 (0, 0)) (by (with_reducible repeat (first | refine blk_drewN ?_ _ | refine blk_drew ?_ | refine blk_alloc ?_ _)); exact BK175.out) hb)
                              have n3_ := Aside0.mk (blk_below (g := gb176) (o := .cells #[.int .i64 0, .int .i64 0] 28 (0, 0)) (by (with_reducible repeat (first | refine blk_drewN ?_ _ | refine blk_drew ?_ | refine blk_alloc ?_ _)); exact BK176.out) hb)
                              have n4_ := Aside0.mk (below_step (by repeat (first | (with_reducible first | exact HB.out | apply below_alloc | apply pw_below_drewN | apply below_drew1 | refine below_set ?_ GE174.out | refine below_set ?_ GE175.out | refine below_set ?_ GE176.out) | exact HB.out)) hb)
                              have n5_ := Aside0.mk (hbox)
                              have n6_ := Aside0.mk ((by rw [hg]; exact (below_size (by repeat (first | (with_reducible first | exact HB.out | apply below_alloc | apply pw_below_drewN | apply below_drew1 | refine below_set ?_ GE174.out | refine below_set ?_ GE175.out | refine below_set ?_ GE176.out) | exact HB.out))) : w.heap.size ≤ gb187))
                              have n7_ := Aside0.mk ((by rw [hg]; exact (below_size (by repeat (first | (with_reducible first | exact HB.out | apply below_alloc | apply pw_below_drewN | apply below_drew1 | refine below_set ?_ GE174.out | refine below_set ?_ GE175.out | refine below_set ?_ GE176.out) | exact HB.out))) : w.heap.size ≤ gb187))
                              have n8_ := Aside0.mk ((by rw [hg]; exact Nat.ne_of_lt (blk_lt (g := gb174) (o := .cells #[.int .i64 a1_0, .int .i64 a1_1] 28 (0, 0)) (by (with_reducible repeat (first | refine blk_drewN ?_ _ | refine blk_drew ?_ | refine blk_alloc ?_ _)); exact BK174.out)) : gb174 ≠ gb187))
                              have n9_ := Aside0.mk ((by rw [hg]; exact Nat.ne_of_gt (blk_lt (g := gb174) (o := .cells #[.int .i64 a1_0, .int .i64 a1_1] 28 (0, 0)) (by (with_reducible repeat (first | refine blk_drewN ?_ _ | refine blk_drew ?_ | refine blk_alloc ?_ _)); exact BK174.out)) : gb187 ≠ gb174))
                              have n10_ := Aside0.mk ((by rw [hg]; exact Nat.ne_of_lt (blk_lt (g := gb175) (o := .cells #[.int .i64 0, .int .i64 0] 28 (0, 0)) (by (with_reducible repeat (first | refine blk_drewN ?_ _ | refine blk_drew ?_ | refine blk_alloc ?_ _)); exact BK175.out)) : gb175 ≠ gb187))
                              have n11_ := Aside0.mk ((by rw [hg]; exact Nat.ne_of_gt (blk_lt (g := gb175) (o := .cells #[.int .i64 0, .int .i64 0] 28 (0, 0)) (by (with_reducible repeat (first | refine blk_drewN ?_ _ | refine blk_drew ?_ | refine blk_alloc ?_ _)); exact BK175.out)) : gb187 ≠ gb175))
                              have n12_ := Aside0.mk ((by rw [hg]; exact Nat.ne_of_lt (blk_lt (g := gb176) (o := .cells #[.int .i64 0, .int .i64 0] 28 (0, 0)) (by (with_reducible repeat (first | refine blk_drewN ?_ _ | refine blk_drew ?_ | refine blk_alloc ?_ _)); exact BK176.out)) : gb176 ≠ gb187))
                              have n13_ := Aside0.mk ((by rw [hg]; exact Nat.ne_of_gt (blk_lt (g := gb176) (o := .cells #[.int .i64 0, .int .i64 0] 28 (0, 0)) (by (with_reducible repeat (first | refine blk_drewN ?_ _ | refine blk_drew ?_ | refine blk_alloc ?_ _)); exact BK176.out)) : gb187 ≠ gb176))
                              clear HO179
                              clear BK174
                              clear BK175
                              clear BK176
                              clear HB
                              have HO179 := n0_
                              have BK174 := n1_
                              have BK175 := n2_
                              have BK176 := n3_
                              have HB := n4_
                              have BK187 := n5_
                              have GW187 := n6_
                              have GE187 := n7_
                              have NB174_187 := n8_
                              have NB187_174 := n9_
                              have NB175_187 := n10_
                              have NB187_175 := n11_
                              have NB176_187 := n12_
                              have NB187_176 := n13_
                              clear n0_ n1_ n2_ n3_ n4_ n5_ n6_ n7_ n8_ n9_ n10_ n11_ n12_ n13_
                              clear hb hbox hg
                              refine hK.out _ _ ⟨(blk_cell BK174.out 0).trans rfl, (blk_cell BK174.out 1).trans rfl⟩ (fun hHeld => ?_)
                              clear hK K
                              refine norm_ (a' := ?_) ?_ ?_
                              rotate_left
                              · show Act.put _ (some 7) _ = _
                                simp only [Act.put, List.setIfInBounds_toArray, List.set_cons_zero, List.set_cons_succ, i64_w, i32_w]
                                rfl
                              exact norm_ (by first | (simp only [putAll, Act.put, List.setIfInBounds_toArray, List.set_cons_zero, List.set_cons_succ]; done) | (simp only [putAll, Act.put, List.setIfInBounds_toArray, List.set_cons_zero, List.set_cons_succ]; rfl)) (hJ1_9 (_, gb187) _ ⟨hHeld, (by (with_reducible repeat (first | apply Kd.R_alloc | apply Kd.R_drewN | apply Kd.R_drew)); exact Kd.R_mono HO179.out (fun _ hk => hk.2)), (by (with_reducible repeat (first | refine blk_drewN ?_ _ | refine blk_drew ?_ | refine blk_alloc ?_ _)); exact BK174.out), (by (with_reducible repeat (first | refine blk_drewN ?_ _ | refine blk_drew ?_ | refine blk_alloc ?_ _)); exact BK175.out), (by (with_reducible repeat (first | refine blk_drewN ?_ _ | refine blk_drew ?_ | refine blk_alloc ?_ _)); exact BK176.out), (by (with_reducible repeat (first | refine blk_drewN ?_ _ | refine blk_drew ?_ | refine blk_alloc ?_ _)); exact BK187.out), GW187.out, GE187.out, NB174_187.out, NB187_174.out, NB175_187.out, NB187_175.out, NB176_187.out, NB187_176.out, (by repeat (first | (with_reducible first | exact HB.out | apply below_alloc | apply pw_below_drewN | apply below_drew1 | refine below_set ?_ GE174.out | refine below_set ?_ GE175.out | refine below_set ?_ GE176.out | refine below_set ?_ GE187.out) | exact HB.out))⟩)
                            · skip
                              refine box_step ?hg (N := 8) ?hd (cs := #[.int .i64 0, .int .i64 0]) (t := 61) ?hr ?_; (case hd => rfl); (case hg => rfl); (case hr => first | (go_simp; done) | (go_simp; rfl))
                              intro gb188 hg w14 hbox hb
                              have n0_ := Aside0.mk (Kd.R_below (Kd.R_elderB (by (with_reducible repeat (first | apply Kd.R_alloc | apply Kd.R_drewN | apply Kd.R_drew)); exact HO179.out) gb188 (Nat.le_of_eq hg.symm)) hb)
                              have n1_ := Aside0.mk (blk_below (g := gb174) (o := .cells #[.int .i64 a1_0, .int .i64 a1_1] 28 (0, 0)) (by (with_reducible repeat (first | refine blk_drewN ?_ _ | refine blk_drew ?_ | refine blk_alloc ?_ _)); exact BK174.out) hb)
                              have n2_ := Aside0.mk (blk_below (g := gb175) (o := .cells #[.int .i64 0, .int .i64 0] 28 (0, 0)) (by (with_reducible repeat (first | refine blk_drewN ?_ _ | refine blk_drew ?_ | refine blk_alloc ?_ _)); exact BK175.out) hb)
                              have n3_ := Aside0.mk (blk_below (g := gb176) (o := .cells #[.int .i64 0, .int .i64 0] 28 (0, 0)) (by (with_reducible repeat (first | refine blk_drewN ?_ _ | refine blk_drew ?_ | refine blk_alloc ?_ _)); exact BK176.out) hb)
                              have n4_ := Aside0.mk (below_step (by repeat (first | (with_reducible first | exact HB.out | apply below_alloc | apply pw_below_drewN | apply below_drew1 | refine below_set ?_ GE174.out | refine below_set ?_ GE175.out | refine below_set ?_ GE176.out) | exact HB.out)) hb)
                              have n5_ := Aside0.mk (hbox)
                              have n6_ := Aside0.mk ((by rw [hg]; exact (below_size (by repeat (first | (with_reducible first | exact HB.out | apply below_alloc | apply pw_below_drewN | apply below_drew1 | refine below_set ?_ GE174.out | refine below_set ?_ GE175.out | refine below_set ?_ GE176.out) | exact HB.out))) : w.heap.size ≤ gb188))
                              have n7_ := Aside0.mk ((by rw [hg]; exact (below_size (by repeat (first | (with_reducible first | exact HB.out | apply below_alloc | apply pw_below_drewN | apply below_drew1 | refine below_set ?_ GE174.out | refine below_set ?_ GE175.out | refine below_set ?_ GE176.out) | exact HB.out))) : w.heap.size ≤ gb188))
                              have n8_ := Aside0.mk ((by rw [hg]; exact Nat.ne_of_lt (blk_lt (g := gb174) (o := .cells #[.int .i64 a1_0, .int .i64 a1_1] 28 (0, 0)) (by (with_reducible repeat (first | refine blk_drewN ?_ _ | refine blk_drew ?_ | refine blk_alloc ?_ _)); exact BK174.out)) : gb174 ≠ gb188))
                              have n9_ := Aside0.mk ((by rw [hg]; exact Nat.ne_of_gt (blk_lt (g := gb174) (o := .cells #[.int .i64 a1_0, .int .i64 a1_1] 28 (0, 0)) (by (with_reducible repeat (first | refine blk_drewN ?_ _ | refine blk_drew ?_ | refine blk_alloc ?_ _)); exact BK174.out)) : gb188 ≠ gb174))
                              have n10_ := Aside0.mk ((by rw [hg]; exact Nat.ne_of_lt (blk_lt (g := gb175) (o := .cells #[.int .i64 0, .int .i64 0] 28 (0, 0)) (by (with_reducible repeat (first | refine blk_drewN ?_ _ | refine blk_drew ?_ | refine blk_alloc ?_ _)); exact BK175.out)) : gb175 ≠ gb188))
                              have n11_ := Aside0.mk ((by rw [hg]; exact Nat.ne_of_gt (blk_lt (g := gb175) (o := .cells #[.int .i64 0, .int .i64 0] 28 (0, 0)) (by (with_reducible repeat (first | refine blk_drewN ?_ _ | refine blk_drew ?_ | refine blk_alloc ?_ _)); exact BK175.out)) : gb188 ≠ gb175))
                              have n12_ := Aside0.mk ((by rw [hg]; exact Nat.ne_of_lt (blk_lt (g := gb176) (o := .cells #[.int .i64 0, .int .i64 0] 28 (0, 0)) (by (with_reducible repeat (first | refine blk_drewN ?_ _ | refine blk_drew ?_ | refine blk_alloc ?_ _)); exact BK176.out)) : gb176 ≠ gb188))
                              have n13_ := Aside0.mk ((by rw [hg]; exact Nat.ne_of_gt (blk_lt (g := gb176) (o := .cells #[.int .i64 0, .int .i64 0] 28 (0, 0)) (by (with_reducible repeat (first | refine blk_drewN ?_ _ | refine blk_drew ?_ | refine blk_alloc ?_ _)); exact BK176.out)) : gb188 ≠ gb176))
                              clear HO179
                              clear BK174
                              clear BK175
                              clear BK176
                              clear HB
                              have HO179 := n0_
                              have BK174 := n1_
                              have BK175 := n2_
                              have BK176 := n3_
                              have HB := n4_
                              have BK188 := n5_
                              have GW188 := n6_
                              have GE188 := n7_
                              have NB174_188 := n8_
                              have NB188_174 := n9_
                              have NB175_188 := n10_
                              have NB188_175 := n11_
                              have NB176_188 := n12_
                              have NB188_176 := n13_
                              clear n0_ n1_ n2_ n3_ n4_ n5_ n6_ n7_ n8_ n9_ n10_ n11_ n12_ n13_
                              clear hb hbox hg
                              refine hK.out _ _ ⟨(blk_cell BK174.out 0).trans rfl, (blk_cell BK174.out 1).trans rfl⟩ (fun hHeld => ?_)
                              clear hK K
                              refine norm_ (a' := ?_) ?_ ?_
                              rotate_left
                              · show Act.put _ (some 8) _ = _
                                simp only [Act.put, List.setIfInBounds_toArray, List.set_cons_zero, List.set_cons_succ, i64_w, i32_w]
                                rfl
                              exact norm_ (by first | (simp only [putAll, Act.put, List.setIfInBounds_toArray, List.set_cons_zero, List.set_cons_succ]; done) | (simp only [putAll, Act.put, List.setIfInBounds_toArray, List.set_cons_zero, List.set_cons_succ]; rfl)) (hJ1_10 (_, gb188) _ ⟨hHeld, (by (with_reducible repeat (first | apply Kd.R_alloc | apply Kd.R_drewN | apply Kd.R_drew)); exact Kd.R_mono HO179.out (fun _ hk => hk.2)), (by (with_reducible repeat (first | refine blk_drewN ?_ _ | refine blk_drew ?_ | refine blk_alloc ?_ _)); exact BK174.out), (by (with_reducible repeat (first | refine blk_drewN ?_ _ | refine blk_drew ?_ | refine blk_alloc ?_ _)); exact BK175.out), (by (with_reducible repeat (first | refine blk_drewN ?_ _ | refine blk_drew ?_ | refine blk_alloc ?_ _)); exact BK176.out), (by (with_reducible repeat (first | refine blk_drewN ?_ _ | refine blk_drew ?_ | refine blk_alloc ?_ _)); exact BK188.out), GW188.out, GE188.out, NB174_188.out, NB188_174.out, NB175_188.out, NB188_175.out, NB176_188.out, NB188_176.out, (by repeat (first | (with_reducible first | exact HB.out | apply below_alloc | apply pw_below_drewN | apply below_drew1 | refine below_set ?_ GE174.out | refine below_set ?_ GE175.out | refine below_set ?_ GE176.out | refine below_set ?_ GE188.out) | exact HB.out))⟩)
                        · skip
                          rintro ⟨gb187, gb188⟩ w14 ⟨hS_, h0_, h1_, h2_, h3_, h4_, h5_, h6_, h7_, h8_, h9_, h10_, h11_, h12_, h13_, h14_, h15_, h16_, h17_, h18_, h19_, h20_, h21_, h22_, h23_⟩
                          have n0_ : Aside0 (w14.heap[gb174]? = some (.cells #[.int .i64 a1_0, .int .i64 a1_1] 28 (0, 0))) := ⟨h0_⟩
                          have n1_ : Aside0 (w14.heap[gb175]? = some (.cells #[.int .i64 0, .int .i64 0] 28 (0, 0))) := ⟨h1_⟩
                          have n2_ : Aside0 (w14.heap[gb176]? = some (.cells #[.int .i64 0, .int .i64 0] 28 (0, 0))) := ⟨h2_⟩
                          have n3_ : Aside0 (w14.heap[gb187]? = some (.cells #[.int .i64 0, .int .i64 0] 61 (0, 0))) := ⟨h3_⟩
                          have n4_ : Aside0 (w14.heap[gb188]? = some (.cells #[.int .i64 0, .int .i64 0] 61 (0, 0))) := ⟨h4_⟩
                          have n5_ : Aside0 (w.heap.size ≤ gb187) := ⟨h5_⟩
                          have n6_ : Aside0 (w.heap.size ≤ gb187) := ⟨h6_⟩
                          have n7_ : Aside0 (gb174 ≠ gb187) := ⟨h7_⟩
                          have n8_ : Aside0 (gb187 ≠ gb174) := ⟨h8_⟩
                          have n9_ : Aside0 (gb175 ≠ gb187) := ⟨h9_⟩
                          have n10_ : Aside0 (gb187 ≠ gb175) := ⟨h10_⟩
                          have n11_ : Aside0 (gb176 ≠ gb187) := ⟨h11_⟩
                          have n12_ : Aside0 (gb187 ≠ gb176) := ⟨h12_⟩
                          have n13_ : Aside0 (gb188 ≠ gb187) := ⟨h13_⟩
                          have n14_ : Aside0 (gb187 ≠ gb188) := ⟨h14_⟩
                          have n15_ : Aside0 (w.heap.size ≤ gb188) := ⟨h15_⟩
                          have n16_ : Aside0 (w.heap.size ≤ gb188) := ⟨h16_⟩
                          have n17_ : Aside0 (gb174 ≠ gb188) := ⟨h17_⟩
                          have n18_ : Aside0 (gb188 ≠ gb174) := ⟨h18_⟩
                          have n19_ : Aside0 (gb175 ≠ gb188) := ⟨h19_⟩
                          have n20_ : Aside0 (gb188 ≠ gb175) := ⟨h20_⟩
                          have n21_ : Aside0 (gb176 ≠ gb188) := ⟨h21_⟩
                          have n22_ : Aside0 (gb188 ≠ gb176) := ⟨h22_⟩
                          have n23_ : Aside0 (Below w.heap.size w w14) := ⟨h23_⟩
                          clear BK174
                          clear BK175
                          clear BK176
                          clear HB
                          clear h0_ h1_ h2_ h3_ h4_ h5_ h6_ h7_ h8_ h9_ h10_ h11_ h12_ h13_ h14_ h15_ h16_ h17_ h18_ h19_ h20_ h21_ h22_ h23_
                          have BK174 := n0_
                          have BK175 := n1_
                          have BK176 := n2_
                          have BK187 := n3_
                          have BK188 := n4_
                          have GW187 := n5_
                          have GE187 := n6_
                          have NB174_187 := n7_
                          have NB187_174 := n8_
                          have NB175_187 := n9_
                          have NB187_175 := n10_
                          have NB176_187 := n11_
                          have NB187_176 := n12_
                          have NB188_187 := n13_
                          have NB187_188 := n14_
                          have GW188 := n15_
                          have GE188 := n16_
                          have NB174_188 := n17_
                          have NB188_174 := n18_
                          have NB175_188 := n19_
                          have NB188_175 := n20_
                          have NB176_188 := n21_
                          have NB188_176 := n22_
                          have HB := n23_
                          clear n0_ n1_ n2_ n3_ n4_ n5_ n6_ n7_ n8_ n9_ n10_ n11_ n12_ n13_ n14_ n15_ n16_ n17_ n18_ n19_ n20_ n21_ n22_ n23_
                          have hHeld : w14.cell? ⟨gb174, 0, none⟩ = some (.int .i64 a1_0) ∧ w14.cell? ⟨gb174, 1, none⟩ = some (.int .i64 a1_1) := hS_
                          refine norm_ (a' := ?_) ?_ ?_
                          rotate_left
                          · simp only [putAll, Act.put, List.setIfInBounds_toArray, List.set_cons_zero, List.set_cons_succ]
                            rfl
                          refine one_ (i := 1) (N := some 11) #[true, true, true, false, false, false, false, false, false, true, true, false, false, false] rfl rfl (one_of HT_.out (by kernel_rfl)) (by decide) (fun K hK => ?_)
                          refine goes_ Try.func38 (by kernel_rfl) rfl #[.slice A0 l0.length c0] (by rfl) rfl rfl (by (try simp only [List.map_toArray, List.map_cons, List.map_nil]); first | done | rfl | (simp only [List.length_drop, List.length_take]; rfl)) ?_
                          with_reducible refine (impl_inserted.calls _ _ l0 t177 _ ?side1 ?side2 A3.out).mono ?_
                          (case side1 => repeat (first | exact (Kd.C_below HR0.out HB.out) | (with_reducible refine Kd.C_alloc ?_ _) | (with_reducible refine Kd.C_drewN ?_ _) | (with_reducible refine Kd.C_drew ?_)))
                          (case side2 => exact HC0.out)
                          rintro e w15 ⟨v178, rfl, ho0, hb⟩
                          refine ⟨_, rfl, ?_⟩
                          have n0_ := Aside0.mk (Kd.R_lower (Kd.R_newB (Kd.R_newB ho0 (g := gb187) (o := .cells #[.int .i64 0, .int .i64 0] 61 (0, 0)) (by (with_reducible repeat (first | refine blk_drewN ?_ _ | refine blk_drew ?_ | refine blk_alloc ?_ _)); exact BK187.out)) (g := gb188) (o := .cells #[.int .i64 0, .int .i64 0] 61 (0, 0)) (by (with_reducible repeat (first | refine blk_drewN ?_ _ | refine blk_drew ?_ | refine blk_alloc ?_ _)); exact BK188.out)) (below_size (by repeat (first | (with_reducible first | exact HB.out | apply below_alloc | apply pw_below_drewN | apply below_drew1 | refine below_set ?_ GE174.out | refine below_set ?_ GE175.out | refine below_set ?_ GE176.out | refine below_set ?_ GE187.out | refine below_set ?_ GE188.out) | exact HB.out))))
                          have n1_ := Aside0.mk (blk_below (g := gb174) (o := .cells #[.int .i64 a1_0, .int .i64 a1_1] 28 (0, 0)) (by (with_reducible repeat (first | refine blk_drewN ?_ _ | refine blk_drew ?_ | refine blk_alloc ?_ _)); exact BK174.out) hb)
                          have n2_ := Aside0.mk (blk_below (g := gb175) (o := .cells #[.int .i64 0, .int .i64 0] 28 (0, 0)) (by (with_reducible repeat (first | refine blk_drewN ?_ _ | refine blk_drew ?_ | refine blk_alloc ?_ _)); exact BK175.out) hb)
                          have n3_ := Aside0.mk (blk_below (g := gb176) (o := .cells #[.int .i64 0, .int .i64 0] 28 (0, 0)) (by (with_reducible repeat (first | refine blk_drewN ?_ _ | refine blk_drew ?_ | refine blk_alloc ?_ _)); exact BK176.out) hb)
                          have n4_ := Aside0.mk (blk_below (g := gb187) (o := .cells #[.int .i64 0, .int .i64 0] 61 (0, 0)) (by (with_reducible repeat (first | refine blk_drewN ?_ _ | refine blk_drew ?_ | refine blk_alloc ?_ _)); exact BK187.out) hb)
                          have n5_ := Aside0.mk (blk_below (g := gb188) (o := .cells #[.int .i64 0, .int .i64 0] 61 (0, 0)) (by (with_reducible repeat (first | refine blk_drewN ?_ _ | refine blk_drew ?_ | refine blk_alloc ?_ _)); exact BK188.out) hb)
                          have n6_ := Aside0.mk (below_step (by repeat (first | (with_reducible first | exact HB.out | apply below_alloc | apply pw_below_drewN | apply below_drew1 | refine below_set ?_ GE174.out | refine below_set ?_ GE175.out | refine below_set ?_ GE176.out | refine below_set ?_ GE187.out | refine below_set ?_ GE188.out) | exact HB.out)) hb)
                          clear BK174
                          clear BK175
                          clear BK176
                          clear BK187
                          clear BK188
                          clear HB
                          have HO179 := n0_
                          have BK174 := n1_
                          have BK175 := n2_
                          have BK176 := n3_
                          have BK187 := n4_
                          have BK188 := n5_
                          have HB := n6_
                          clear n0_ n1_ n2_ n3_ n4_ n5_ n6_
                          (try clear hb)
                          (try clear hb2)
                          (try clear hk)
                          (try clear hi)
                          (try clear ho0)
                          refine hK.out _ _ ⟨(blk_cell BK174.out 0).trans rfl, (blk_cell BK174.out 1).trans rfl⟩ (fun hHeld => ?_)
                          clear hK K
                          refine norm_ (a' := ?_) ?_ ?_
                          rotate_left
                          · show Act.put _ (some 11) _ = _
                            simp only [Act.put, List.setIfInBounds_toArray, List.set_cons_zero, List.set_cons_succ, i64_w, i32_w]
                            rfl
                          exact norm_ (by first | (simp only [putAll, Act.put, List.setIfInBounds_toArray, List.set_cons_zero, List.set_cons_succ]; done) | (simp only [putAll, Act.put, List.setIfInBounds_toArray, List.set_cons_zero, List.set_cons_succ]; rfl)) (hJ1_9_10 (_, gb187, gb188) _ ⟨hHeld, (by (with_reducible repeat (first | apply Kd.R_alloc | apply Kd.R_drewN | apply Kd.R_drew)); exact Kd.R_mono HO179.out (fun _ hk => ⟨hk.1.2, hk.2⟩)), (by (with_reducible repeat (first | refine blk_drewN ?_ _ | refine blk_drew ?_ | refine blk_alloc ?_ _)); exact BK174.out), (by (with_reducible repeat (first | refine blk_drewN ?_ _ | refine blk_drew ?_ | refine blk_alloc ?_ _)); exact BK175.out), (by (with_reducible repeat (first | refine blk_drewN ?_ _ | refine blk_drew ?_ | refine blk_alloc ?_ _)); exact BK176.out), (by (with_reducible repeat (first | refine blk_drewN ?_ _ | refine blk_drew ?_ | refine blk_alloc ?_ _)); exact BK187.out), (by (with_reducible repeat (first | refine blk_drewN ?_ _ | refine blk_drew ?_ | refine blk_alloc ?_ _)); exact BK188.out), GW187.out, GE187.out, NB174_187.out, NB187_174.out, NB175_187.out, NB187_175.out, NB176_187.out, NB187_176.out, NB188_187.out, NB187_188.out, GW188.out, GE188.out, NB174_188.out, NB188_174.out, NB175_188.out, NB188_175.out, NB176_188.out, NB188_176.out, (by repeat (first | (with_reducible first | exact HB.out | apply below_alloc | apply pw_below_drewN | apply below_drew1 | refine below_set ?_ GE174.out | refine below_set ?_ GE175.out | refine below_set ?_ GE176.out | refine below_set ?_ GE187.out | refine below_set ?_ GE188.out) | exact HB.out))⟩)
                      · skip
                        rintro ⟨v178, gb188⟩ w14 ⟨hS_, h0_, h1_, h2_, h3_, h4_, h5_, h6_, h7_, h8_, h9_, h10_, h11_, h12_, h13_⟩
                        have n0_ : Aside0 (Kd.R k61 61 w14 w.heap.size (fun k_ => k_ ≠ gb188) v178 t177) := ⟨h0_⟩
                        have n1_ : Aside0 (w14.heap[gb174]? = some (.cells #[.int .i64 a1_0, .int .i64 a1_1] 28 (0, 0))) := ⟨h1_⟩
                        have n2_ : Aside0 (w14.heap[gb175]? = some (.cells #[.int .i64 0, .int .i64 0] 28 (0, 0))) := ⟨h2_⟩
                        have n3_ : Aside0 (w14.heap[gb176]? = some (.cells #[.int .i64 0, .int .i64 0] 28 (0, 0))) := ⟨h3_⟩
                        have n4_ : Aside0 (w14.heap[gb188]? = some (.cells #[.int .i64 0, .int .i64 0] 61 (0, 0))) := ⟨h4_⟩
                        have n5_ : Aside0 (w.heap.size ≤ gb188) := ⟨h5_⟩
                        have n6_ : Aside0 (w.heap.size ≤ gb188) := ⟨h6_⟩
                        have n7_ : Aside0 (gb174 ≠ gb188) := ⟨h7_⟩
                        have n8_ : Aside0 (gb188 ≠ gb174) := ⟨h8_⟩
                        have n9_ : Aside0 (gb175 ≠ gb188) := ⟨h9_⟩
                        have n10_ : Aside0 (gb188 ≠ gb175) := ⟨h10_⟩
                        have n11_ : Aside0 (gb176 ≠ gb188) := ⟨h11_⟩
                        have n12_ : Aside0 (gb188 ≠ gb176) := ⟨h12_⟩
                        have n13_ : Aside0 (Below w.heap.size w w14) := ⟨h13_⟩
                        clear BK174
                        clear BK175
                        clear BK176
                        clear HB
                        clear h0_ h1_ h2_ h3_ h4_ h5_ h6_ h7_ h8_ h9_ h10_ h11_ h12_ h13_
                        have HO179 := n0_
                        have BK174 := n1_
                        have BK175 := n2_
                        have BK176 := n3_
                        have BK188 := n4_
                        have GW188 := n5_
                        have GE188 := n6_
                        have NB174_188 := n7_
                        have NB188_174 := n8_
                        have NB175_188 := n9_
                        have NB188_175 := n10_
                        have NB176_188 := n11_
                        have NB188_176 := n12_
                        have HB := n13_
                        clear n0_ n1_ n2_ n3_ n4_ n5_ n6_ n7_ n8_ n9_ n10_ n11_ n12_ n13_
                        have hHeld : w14.cell? ⟨gb174, 0, none⟩ = some (.int .i64 a1_0) ∧ w14.cell? ⟨gb174, 1, none⟩ = some (.int .i64 a1_1) := hS_
                        refine norm_ (a' := ?_) ?_ ?_
                        rotate_left
                        · simp only [putAll, Act.put, List.setIfInBounds_toArray, List.set_cons_zero, List.set_cons_succ]
                          rfl
                        refine two_ (i := 3) (j := 9) (Ni := some 13) (Nj := some 7) #[true, true, true, true, false, false, false, false, false, false, true, false, false, false] #[true, true, true, false, false, false, false, false, false, true, true, false, false, false] rfl rfl rfl rfl (two_of HT_.out (by kernel_rfl)) (by decide) (by decide) (fun K hK => ?_) (fun K hK => ?_)
                        · skip
                          refine goes_ Try.func41 (by kernel_rfl) rfl #[.agg #[.int .i64 a1_0, .int .i64 a1_1]] (by rfl) rfl rfl (by (try simp only [List.map_toArray, List.map_cons, List.map_nil]); first | done | rfl | (simp only [List.length_drop, List.length_take]; rfl)) ?_
                          with_reducible refine (impl_given.calls a1_0 a1_1 t180 t181 _ A4.out).mono ?_
                          rintro e w15 ⟨rfl, hb⟩
                          refine ⟨_, rfl, ?_⟩
                          have n0_ := Aside0.mk (Kd.R_below (by (with_reducible repeat (first | apply Kd.R_alloc | apply Kd.R_drewN | apply Kd.R_drew)); exact HO179.out) hb)
                          have n1_ := Aside0.mk (blk_below (g := gb174) (o := .cells #[.int .i64 a1_0, .int .i64 a1_1] 28 (0, 0)) (by (with_reducible repeat (first | refine blk_drewN ?_ _ | refine blk_drew ?_ | refine blk_alloc ?_ _)); exact BK174.out) hb)
                          have n2_ := Aside0.mk (blk_below (g := gb175) (o := .cells #[.int .i64 0, .int .i64 0] 28 (0, 0)) (by (with_reducible repeat (first | refine blk_drewN ?_ _ | refine blk_drew ?_ | refine blk_alloc ?_ _)); exact BK175.out) hb)
                          have n3_ := Aside0.mk (blk_below (g := gb176) (o := .cells #[.int .i64 0, .int .i64 0] 28 (0, 0)) (by (with_reducible repeat (first | refine blk_drewN ?_ _ | refine blk_drew ?_ | refine blk_alloc ?_ _)); exact BK176.out) hb)
                          have n4_ := Aside0.mk (blk_below (g := gb188) (o := .cells #[.int .i64 0, .int .i64 0] 61 (0, 0)) (by (with_reducible repeat (first | refine blk_drewN ?_ _ | refine blk_drew ?_ | refine blk_alloc ?_ _)); exact BK188.out) hb)
                          have n5_ := Aside0.mk (below_step (by repeat (first | (with_reducible first | exact HB.out | apply below_alloc | apply pw_below_drewN | apply below_drew1 | refine below_set ?_ GE174.out | refine below_set ?_ GE175.out | refine below_set ?_ GE176.out | refine below_set ?_ GE188.out) | exact HB.out)) hb)
                          clear HO179
                          clear BK174
                          clear BK175
                          clear BK176
                          clear BK188
                          clear HB
                          have HO179 := n0_
                          have BK174 := n1_
                          have BK175 := n2_
                          have BK176 := n3_
                          have BK188 := n4_
                          have HB := n5_
                          clear n0_ n1_ n2_ n3_ n4_ n5_
                          (try clear hb)
                          (try clear hb2)
                          (try clear hk)
                          (try clear hi)
                          refine hK.out _ _ ⟨(blk_cell BK174.out 0).trans rfl, (blk_cell BK174.out 1).trans rfl⟩ (fun hHeld => ?_)
                          clear hK K
                          refine norm_ (a' := ?_) ?_ ?_
                          rotate_left
                          · show Act.put _ (some 13) _ = _
                            simp only [Act.put, List.setIfInBounds_toArray, List.set_cons_zero, List.set_cons_succ, i64_w, i32_w]
                            rfl
                          exact norm_ (by first | (simp only [putAll, Act.put, List.setIfInBounds_toArray, List.set_cons_zero, List.set_cons_succ]; done) | (simp only [putAll, Act.put, List.setIfInBounds_toArray, List.set_cons_zero, List.set_cons_succ]; rfl)) (hJ1_3_10 (_, gb188) _ ⟨hHeld, (by (with_reducible repeat (first | apply Kd.R_alloc | apply Kd.R_drewN | apply Kd.R_drew)); exact HO179.out), (by (with_reducible repeat (first | refine blk_drewN ?_ _ | refine blk_drew ?_ | refine blk_alloc ?_ _)); exact BK174.out), (by (with_reducible repeat (first | refine blk_drewN ?_ _ | refine blk_drew ?_ | refine blk_alloc ?_ _)); exact BK175.out), (by (with_reducible repeat (first | refine blk_drewN ?_ _ | refine blk_drew ?_ | refine blk_alloc ?_ _)); exact BK176.out), (by (with_reducible repeat (first | refine blk_drewN ?_ _ | refine blk_drew ?_ | refine blk_alloc ?_ _)); exact BK188.out), GW188.out, GE188.out, NB174_188.out, NB188_174.out, NB175_188.out, NB188_175.out, NB176_188.out, NB188_176.out, (by repeat (first | (with_reducible first | exact HB.out | apply below_alloc | apply pw_below_drewN | apply below_drew1 | refine below_set ?_ GE174.out | refine below_set ?_ GE175.out | refine below_set ?_ GE176.out | refine below_set ?_ GE188.out) | exact HB.out))⟩)
                        · skip
                          refine box_step ?hg (N := 7) ?hd (cs := #[.int .i64 0, .int .i64 0]) (t := 61) ?hr ?_; (case hd => rfl); (case hg => rfl); (case hr => first | (go_simp; done) | (go_simp; rfl))
                          intro gb187 hg w15 hbox hb
                          have n0_ := Aside0.mk (Kd.R_below (Kd.R_elderB (by (with_reducible repeat (first | apply Kd.R_alloc | apply Kd.R_drewN | apply Kd.R_drew)); exact HO179.out) gb187 (Nat.le_of_eq hg.symm)) hb)
                          have n1_ := Aside0.mk (blk_below (g := gb174) (o := .cells #[.int .i64 a1_0, .int .i64 a1_1] 28 (0, 0)) (by (with_reducible repeat (first | refine blk_drewN ?_ _ | refine blk_drew ?_ | refine blk_alloc ?_ _)); exact BK174.out) hb)
                          have n2_ := Aside0.mk (blk_below (g := gb175) (o := .cells #[.int .i64 0, .int .i64 0] 28 (0, 0)) (by (with_reducible repeat (first | refine blk_drewN ?_ _ | refine blk_drew ?_ | refine blk_alloc ?_ _)); exact BK175.out) hb)
                          have n3_ := Aside0.mk (blk_below (g := gb176) (o := .cells #[.int .i64 0, .int .i64 0] 28 (0, 0)) (by (with_reducible repeat (first | refine blk_drewN ?_ _ | refine blk_drew ?_ | refine blk_alloc ?_ _)); exact BK176.out) hb)
                          have n4_ := Aside0.mk (blk_below (g := gb188) (o := .cells #[.int .i64 0, .int .i64 0] 61 (0, 0)) (by (with_reducible repeat (first | refine blk_drewN ?_ _ | refine blk_drew ?_ | refine blk_alloc ?_ _)); exact BK188.out) hb)
                          have n5_ := Aside0.mk (below_step (by repeat (first | (with_reducible first | exact HB.out | apply below_alloc | apply pw_below_drewN | apply below_drew1 | refine below_set ?_ GE174.out | refine below_set ?_ GE175.out | refine below_set ?_ GE176.out | refine below_set ?_ GE188.out) | exact HB.out)) hb)
                          have n6_ := Aside0.mk (hbox)
                          have n7_ := Aside0.mk ((by rw [hg]; exact (below_size (by repeat (first | (with_reducible first | exact HB.out | apply below_alloc | apply pw_below_drewN | apply below_drew1 | refine below_set ?_ GE174.out | refine below_set ?_ GE175.out | refine below_set ?_ GE176.out | refine below_set ?_ GE188.out) | exact HB.out))) : w.heap.size ≤ gb187))
                          have n8_ := Aside0.mk ((by rw [hg]; exact (below_size (by repeat (first | (with_reducible first | exact HB.out | apply below_alloc | apply pw_below_drewN | apply below_drew1 | refine below_set ?_ GE174.out | refine below_set ?_ GE175.out | refine below_set ?_ GE176.out | refine below_set ?_ GE188.out) | exact HB.out))) : w.heap.size ≤ gb187))
                          have n9_ := Aside0.mk ((by rw [hg]; exact Nat.ne_of_lt (blk_lt (g := gb174) (o := .cells #[.int .i64 a1_0, .int .i64 a1_1] 28 (0, 0)) (by (with_reducible repeat (first | refine blk_drewN ?_ _ | refine blk_drew ?_ | refine blk_alloc ?_ _)); exact BK174.out)) : gb174 ≠ gb187))
                          have n10_ := Aside0.mk ((by rw [hg]; exact Nat.ne_of_gt (blk_lt (g := gb174) (o := .cells #[.int .i64 a1_0, .int .i64 a1_1] 28 (0, 0)) (by (with_reducible repeat (first | refine blk_drewN ?_ _ | refine blk_drew ?_ | refine blk_alloc ?_ _)); exact BK174.out)) : gb187 ≠ gb174))
                          have n11_ := Aside0.mk ((by rw [hg]; exact Nat.ne_of_lt (blk_lt (g := gb175) (o := .cells #[.int .i64 0, .int .i64 0] 28 (0, 0)) (by (with_reducible repeat (first | refine blk_drewN ?_ _ | refine blk_drew ?_ | refine blk_alloc ?_ _)); exact BK175.out)) : gb175 ≠ gb187))
                          have n12_ := Aside0.mk ((by rw [hg]; exact Nat.ne_of_gt (blk_lt (g := gb175) (o := .cells #[.int .i64 0, .int .i64 0] 28 (0, 0)) (by (with_reducible repeat (first | refine blk_drewN ?_ _ | refine blk_drew ?_ | refine blk_alloc ?_ _)); exact BK175.out)) : gb187 ≠ gb175))
                          have n13_ := Aside0.mk ((by rw [hg]; exact Nat.ne_of_lt (blk_lt (g := gb176) (o := .cells #[.int .i64 0, .int .i64 0] 28 (0, 0)) (by (with_reducible repeat (first | refine blk_drewN ?_ _ | refine blk_drew ?_ | refine blk_alloc ?_ _)); exact BK176.out)) : gb176 ≠ gb187))
                          have n14_ := Aside0.mk ((by rw [hg]; exact Nat.ne_of_gt (blk_lt (g := gb176) (o := .cells #[.int .i64 0, .int .i64 0] 28 (0, 0)) (by (with_reducible repeat (first | refine blk_drewN ?_ _ | refine blk_drew ?_ | refine blk_alloc ?_ _)); exact BK176.out)) : gb187 ≠ gb176))
                          have n15_ := Aside0.mk ((by rw [hg]; exact Nat.ne_of_lt (blk_lt (g := gb188) (o := .cells #[.int .i64 0, .int .i64 0] 61 (0, 0)) (by (with_reducible repeat (first | refine blk_drewN ?_ _ | refine blk_drew ?_ | refine blk_alloc ?_ _)); exact BK188.out)) : gb188 ≠ gb187))
                          have n16_ := Aside0.mk ((by rw [hg]; exact Nat.ne_of_gt (blk_lt (g := gb188) (o := .cells #[.int .i64 0, .int .i64 0] 61 (0, 0)) (by (with_reducible repeat (first | refine blk_drewN ?_ _ | refine blk_drew ?_ | refine blk_alloc ?_ _)); exact BK188.out)) : gb187 ≠ gb188))
                          clear HO179
                          clear BK174
                          clear BK175
                          clear BK176
                          clear BK188
                          clear HB
                          have HO179 := n0_
                          have BK174 := n1_
                          have BK175 := n2_
                          have BK176 := n3_
                          have BK188 := n4_
                          have HB := n5_
                          have BK187 := n6_
                          have GW187 := n7_
                          have GE187 := n8_
                          have NB174_187 := n9_
                          have NB187_174 := n10_
                          have NB175_187 := n11_
                          have NB187_175 := n12_
                          have NB176_187 := n13_
                          have NB187_176 := n14_
                          have NB188_187 := n15_
                          have NB187_188 := n16_
                          clear n0_ n1_ n2_ n3_ n4_ n5_ n6_ n7_ n8_ n9_ n10_ n11_ n12_ n13_ n14_ n15_ n16_
                          clear hb hbox hg
                          refine hK.out _ _ ⟨(blk_cell BK174.out 0).trans rfl, (blk_cell BK174.out 1).trans rfl⟩ (fun hHeld => ?_)
                          clear hK K
                          refine norm_ (a' := ?_) ?_ ?_
                          rotate_left
                          · show Act.put _ (some 7) _ = _
                            simp only [Act.put, List.setIfInBounds_toArray, List.set_cons_zero, List.set_cons_succ, i64_w, i32_w]
                            rfl
                          exact norm_ (by first | (simp only [putAll, Act.put, List.setIfInBounds_toArray, List.set_cons_zero, List.set_cons_succ]; done) | (simp only [putAll, Act.put, List.setIfInBounds_toArray, List.set_cons_zero, List.set_cons_succ]; rfl)) (hJ1_9_10 (_, gb187, gb188) _ ⟨hHeld, (by (with_reducible repeat (first | apply Kd.R_alloc | apply Kd.R_drewN | apply Kd.R_drew)); exact Kd.R_mono HO179.out (fun _ hk => ⟨hk.2, hk.1⟩)), (by (with_reducible repeat (first | refine blk_drewN ?_ _ | refine blk_drew ?_ | refine blk_alloc ?_ _)); exact BK174.out), (by (with_reducible repeat (first | refine blk_drewN ?_ _ | refine blk_drew ?_ | refine blk_alloc ?_ _)); exact BK175.out), (by (with_reducible repeat (first | refine blk_drewN ?_ _ | refine blk_drew ?_ | refine blk_alloc ?_ _)); exact BK176.out), (by (with_reducible repeat (first | refine blk_drewN ?_ _ | refine blk_drew ?_ | refine blk_alloc ?_ _)); exact BK187.out), (by (with_reducible repeat (first | refine blk_drewN ?_ _ | refine blk_drew ?_ | refine blk_alloc ?_ _)); exact BK188.out), GW187.out, GE187.out, NB174_187.out, NB187_174.out, NB175_187.out, NB187_175.out, NB176_187.out, NB187_176.out, NB188_187.out, NB187_188.out, GW188.out, GE188.out, NB174_188.out, NB188_174.out, NB175_188.out, NB188_175.out, NB176_188.out, NB188_176.out, (by repeat (first | (with_reducible first | exact HB.out | apply below_alloc | apply pw_below_drewN | apply below_drew1 | refine below_set ?_ GE174.out | refine below_set ?_ GE175.out | refine below_set ?_ GE176.out | refine below_set ?_ GE188.out | refine below_set ?_ GE187.out) | exact HB.out))⟩)
                    · skip
                      rintro ⟨v178, gb187⟩ w14 ⟨hS_, h0_, h1_, h2_, h3_, h4_, h5_, h6_, h7_, h8_, h9_, h10_, h11_, h12_, h13_⟩
                      have n0_ : Aside0 (Kd.R k61 61 w14 w.heap.size (fun k_ => k_ ≠ gb187) v178 t177) := ⟨h0_⟩
                      have n1_ : Aside0 (w14.heap[gb174]? = some (.cells #[.int .i64 a1_0, .int .i64 a1_1] 28 (0, 0))) := ⟨h1_⟩
                      have n2_ : Aside0 (w14.heap[gb175]? = some (.cells #[.int .i64 0, .int .i64 0] 28 (0, 0))) := ⟨h2_⟩
                      have n3_ : Aside0 (w14.heap[gb176]? = some (.cells #[.int .i64 0, .int .i64 0] 28 (0, 0))) := ⟨h3_⟩
                      have n4_ : Aside0 (w14.heap[gb187]? = some (.cells #[.int .i64 0, .int .i64 0] 61 (0, 0))) := ⟨h4_⟩
                      have n5_ : Aside0 (w.heap.size ≤ gb187) := ⟨h5_⟩
                      have n6_ : Aside0 (w.heap.size ≤ gb187) := ⟨h6_⟩
                      have n7_ : Aside0 (gb174 ≠ gb187) := ⟨h7_⟩
                      have n8_ : Aside0 (gb187 ≠ gb174) := ⟨h8_⟩
                      have n9_ : Aside0 (gb175 ≠ gb187) := ⟨h9_⟩
                      have n10_ : Aside0 (gb187 ≠ gb175) := ⟨h10_⟩
                      have n11_ : Aside0 (gb176 ≠ gb187) := ⟨h11_⟩
                      have n12_ : Aside0 (gb187 ≠ gb176) := ⟨h12_⟩
                      have n13_ : Aside0 (Below w.heap.size w w14) := ⟨h13_⟩
                      clear BK174
                      clear BK175
                      clear BK176
                      clear HB
                      clear h0_ h1_ h2_ h3_ h4_ h5_ h6_ h7_ h8_ h9_ h10_ h11_ h12_ h13_
                      have HO179 := n0_
                      have BK174 := n1_
                      have BK175 := n2_
                      have BK176 := n3_
                      have BK187 := n4_
                      have GW187 := n5_
                      have GE187 := n6_
                      have NB174_187 := n7_
                      have NB187_174 := n8_
                      have NB175_187 := n9_
                      have NB187_175 := n10_
                      have NB176_187 := n11_
                      have NB187_176 := n12_
                      have HB := n13_
                      clear n0_ n1_ n2_ n3_ n4_ n5_ n6_ n7_ n8_ n9_ n10_ n11_ n12_ n13_
                      have hHeld : w14.cell? ⟨gb174, 0, none⟩ = some (.int .i64 a1_0) ∧ w14.cell? ⟨gb174, 1, none⟩ = some (.int .i64 a1_1) := hS_
                      refine norm_ (a' := ?_) ?_ ?_
                      rotate_left
                      · simp only [putAll, Act.put, List.setIfInBounds_toArray, List.set_cons_zero, List.set_cons_succ]
                        rfl
                      refine two_ (i := 3) (j := 10) (Ni := some 13) (Nj := some 8) #[true, true, true, true, false, false, false, false, false, true, false, false, false, false] #[true, true, true, false, false, false, false, false, false, true, true, false, false, false] rfl rfl rfl rfl (two_of HT_.out (by kernel_rfl)) (by decide) (by decide) (fun K hK => ?_) (fun K hK => ?_)
                      · skip
                        refine goes_ Try.func41 (by kernel_rfl) rfl #[.agg #[.int .i64 a1_0, .int .i64 a1_1]] (by rfl) rfl rfl (by (try simp only [List.map_toArray, List.map_cons, List.map_nil]); first | done | rfl | (simp only [List.length_drop, List.length_take]; rfl)) ?_
                        with_reducible refine (impl_given.calls a1_0 a1_1 t180 t181 _ A4.out).mono ?_
                        rintro e w15 ⟨rfl, hb⟩
                        refine ⟨_, rfl, ?_⟩
                        have n0_ := Aside0.mk (Kd.R_below (by (with_reducible repeat (first | apply Kd.R_alloc | apply Kd.R_drewN | apply Kd.R_drew)); exact HO179.out) hb)
                        have n1_ := Aside0.mk (blk_below (g := gb174) (o := .cells #[.int .i64 a1_0, .int .i64 a1_1] 28 (0, 0)) (by (with_reducible repeat (first | refine blk_drewN ?_ _ | refine blk_drew ?_ | refine blk_alloc ?_ _)); exact BK174.out) hb)
                        have n2_ := Aside0.mk (blk_below (g := gb175) (o := .cells #[.int .i64 0, .int .i64 0] 28 (0, 0)) (by (with_reducible repeat (first | refine blk_drewN ?_ _ | refine blk_drew ?_ | refine blk_alloc ?_ _)); exact BK175.out) hb)
                        have n3_ := Aside0.mk (blk_below (g := gb176) (o := .cells #[.int .i64 0, .int .i64 0] 28 (0, 0)) (by (with_reducible repeat (first | refine blk_drewN ?_ _ | refine blk_drew ?_ | refine blk_alloc ?_ _)); exact BK176.out) hb)
                        have n4_ := Aside0.mk (blk_below (g := gb187) (o := .cells #[.int .i64 0, .int .i64 0] 61 (0, 0)) (by (with_reducible repeat (first | refine blk_drewN ?_ _ | refine blk_drew ?_ | refine blk_alloc ?_ _)); exact BK187.out) hb)
                        have n5_ := Aside0.mk (below_step (by repeat (first | (with_reducible first | exact HB.out | apply below_alloc | apply pw_below_drewN | apply below_drew1 | refine below_set ?_ GE174.out | refine below_set ?_ GE175.out | refine below_set ?_ GE176.out | refine below_set ?_ GE187.out) | exact HB.out)) hb)
                        clear HO179
                        clear BK174
                        clear BK175
                        clear BK176
                        clear BK187
                        clear HB
                        have HO179 := n0_
                        have BK174 := n1_
                        have BK175 := n2_
                        have BK176 := n3_
                        have BK187 := n4_
                        have HB := n5_
                        clear n0_ n1_ n2_ n3_ n4_ n5_
                        (try clear hb)
                        (try clear hb2)
                        (try clear hk)
                        (try clear hi)
                        refine hK.out _ _ ⟨(blk_cell BK174.out 0).trans rfl, (blk_cell BK174.out 1).trans rfl⟩ (fun hHeld => ?_)
                        clear hK K
                        refine norm_ (a' := ?_) ?_ ?_
                        rotate_left
                        · show Act.put _ (some 13) _ = _
                          simp only [Act.put, List.setIfInBounds_toArray, List.set_cons_zero, List.set_cons_succ, i64_w, i32_w]
                          rfl
                        exact norm_ (by first | (simp only [putAll, Act.put, List.setIfInBounds_toArray, List.set_cons_zero, List.set_cons_succ]; done) | (simp only [putAll, Act.put, List.setIfInBounds_toArray, List.set_cons_zero, List.set_cons_succ]; rfl)) (hJ1_3_9 (_, gb187) _ ⟨hHeld, (by (with_reducible repeat (first | apply Kd.R_alloc | apply Kd.R_drewN | apply Kd.R_drew)); exact HO179.out), (by (with_reducible repeat (first | refine blk_drewN ?_ _ | refine blk_drew ?_ | refine blk_alloc ?_ _)); exact BK174.out), (by (with_reducible repeat (first | refine blk_drewN ?_ _ | refine blk_drew ?_ | refine blk_alloc ?_ _)); exact BK175.out), (by (with_reducible repeat (first | refine blk_drewN ?_ _ | refine blk_drew ?_ | refine blk_alloc ?_ _)); exact BK176.out), (by (with_reducible repeat (first | refine blk_drewN ?_ _ | refine blk_drew ?_ | refine blk_alloc ?_ _)); exact BK187.out), GW187.out, GE187.out, NB174_187.out, NB187_174.out, NB175_187.out, NB187_175.out, NB176_187.out, NB187_176.out, (by repeat (first | (with_reducible first | exact HB.out | apply below_alloc | apply pw_below_drewN | apply below_drew1 | refine below_set ?_ GE174.out | refine below_set ?_ GE175.out | refine below_set ?_ GE176.out | refine below_set ?_ GE187.out) | exact HB.out))⟩)
                      · skip
                        refine box_step ?hg (N := 8) ?hd (cs := #[.int .i64 0, .int .i64 0]) (t := 61) ?hr ?_; (case hd => rfl); (case hg => rfl); (case hr => first | (go_simp; done) | (go_simp; rfl))
                        intro gb188 hg w15 hbox hb
                        have n0_ := Aside0.mk (Kd.R_below (Kd.R_elderB (by (with_reducible repeat (first | apply Kd.R_alloc | apply Kd.R_drewN | apply Kd.R_drew)); exact HO179.out) gb188 (Nat.le_of_eq hg.symm)) hb)
                        have n1_ := Aside0.mk (blk_below (g := gb174) (o := .cells #[.int .i64 a1_0, .int .i64 a1_1] 28 (0, 0)) (by (with_reducible repeat (first | refine blk_drewN ?_ _ | refine blk_drew ?_ | refine blk_alloc ?_ _)); exact BK174.out) hb)
                        have n2_ := Aside0.mk (blk_below (g := gb175) (o := .cells #[.int .i64 0, .int .i64 0] 28 (0, 0)) (by (with_reducible repeat (first | refine blk_drewN ?_ _ | refine blk_drew ?_ | refine blk_alloc ?_ _)); exact BK175.out) hb)
                        have n3_ := Aside0.mk (blk_below (g := gb176) (o := .cells #[.int .i64 0, .int .i64 0] 28 (0, 0)) (by (with_reducible repeat (first | refine blk_drewN ?_ _ | refine blk_drew ?_ | refine blk_alloc ?_ _)); exact BK176.out) hb)
                        have n4_ := Aside0.mk (blk_below (g := gb187) (o := .cells #[.int .i64 0, .int .i64 0] 61 (0, 0)) (by (with_reducible repeat (first | refine blk_drewN ?_ _ | refine blk_drew ?_ | refine blk_alloc ?_ _)); exact BK187.out) hb)
                        have n5_ := Aside0.mk (below_step (by repeat (first | (with_reducible first | exact HB.out | apply below_alloc | apply pw_below_drewN | apply below_drew1 | refine below_set ?_ GE174.out | refine below_set ?_ GE175.out | refine below_set ?_ GE176.out | refine below_set ?_ GE187.out) | exact HB.out)) hb)
                        have n6_ := Aside0.mk (hbox)
                        have n7_ := Aside0.mk ((by rw [hg]; exact (below_size (by repeat (first | (with_reducible first | exact HB.out | apply below_alloc | apply pw_below_drewN | apply below_drew1 | refine below_set ?_ GE174.out | refine below_set ?_ GE175.out | refine below_set ?_ GE176.out | refine below_set ?_ GE187.out) | exact HB.out))) : w.heap.size ≤ gb188))
                        have n8_ := Aside0.mk ((by rw [hg]; exact (below_size (by repeat (first | (with_reducible first | exact HB.out | apply below_alloc | apply pw_below_drewN | apply below_drew1 | refine below_set ?_ GE174.out | refine below_set ?_ GE175.out | refine below_set ?_ GE176.out | refine below_set ?_ GE187.out) | exact HB.out))) : w.heap.size ≤ gb188))
                        have n9_ := Aside0.mk ((by rw [hg]; exact Nat.ne_of_lt (blk_lt (g := gb174) (o := .cells #[.int .i64 a1_0, .int .i64 a1_1] 28 (0, 0)) (by (with_reducible repeat (first | refine blk_drewN ?_ _ | refine blk_drew ?_ | refine blk_alloc ?_ _)); exact BK174.out)) : gb174 ≠ gb188))
                        have n10_ := Aside0.mk ((by rw [hg]; exact Nat.ne_of_gt (blk_lt (g := gb174) (o := .cells #[.int .i64 a1_0, .int .i64 a1_1] 28 (0, 0)) (by (with_reducible repeat (first | refine blk_drewN ?_ _ | refine blk_drew ?_ | refine blk_alloc ?_ _)); exact BK174.out)) : gb188 ≠ gb174))
                        have n11_ := Aside0.mk ((by rw [hg]; exact Nat.ne_of_lt (blk_lt (g := gb175) (o := .cells #[.int .i64 0, .int .i64 0] 28 (0, 0)) (by (with_reducible repeat (first | refine blk_drewN ?_ _ | refine blk_drew ?_ | refine blk_alloc ?_ _)); exact BK175.out)) : gb175 ≠ gb188))
                        have n12_ := Aside0.mk ((by rw [hg]; exact Nat.ne_of_gt (blk_lt (g := gb175) (o := .cells #[.int .i64 0, .int .i64 0] 28 (0, 0)) (by (with_reducible repeat (first | refine blk_drewN ?_ _ | refine blk_drew ?_ | refine blk_alloc ?_ _)); exact BK175.out)) : gb188 ≠ gb175))
                        have n13_ := Aside0.mk ((by rw [hg]; exact Nat.ne_of_lt (blk_lt (g := gb176) (o := .cells #[.int .i64 0, .int .i64 0] 28 (0, 0)) (by (with_reducible repeat (first | refine blk_drewN ?_ _ | refine blk_drew ?_ | refine blk_alloc ?_ _)); exact BK176.out)) : gb176 ≠ gb188))
                        have n14_ := Aside0.mk ((by rw [hg]; exact Nat.ne_of_gt (blk_lt (g := gb176) (o := .cells #[.int .i64 0, .int .i64 0] 28 (0, 0)) (by (with_reducible repeat (first | refine blk_drewN ?_ _ | refine blk_drew ?_ | refine blk_alloc ?_ _)); exact BK176.out)) : gb188 ≠ gb176))
                        have n15_ := Aside0.mk ((by rw [hg]; exact Nat.ne_of_lt (blk_lt (g := gb187) (o := .cells #[.int .i64 0, .int .i64 0] 61 (0, 0)) (by (with_reducible repeat (first | refine blk_drewN ?_ _ | refine blk_drew ?_ | refine blk_alloc ?_ _)); exact BK187.out)) : gb187 ≠ gb188))
                        have n16_ := Aside0.mk ((by rw [hg]; exact Nat.ne_of_gt (blk_lt (g := gb187) (o := .cells #[.int .i64 0, .int .i64 0] 61 (0, 0)) (by (with_reducible repeat (first | refine blk_drewN ?_ _ | refine blk_drew ?_ | refine blk_alloc ?_ _)); exact BK187.out)) : gb188 ≠ gb187))
                        clear HO179
                        clear BK174
                        clear BK175
                        clear BK176
                        clear BK187
                        clear HB
                        have HO179 := n0_
                        have BK174 := n1_
                        have BK175 := n2_
                        have BK176 := n3_
                        have BK187 := n4_
                        have HB := n5_
                        have BK188 := n6_
                        have GW188 := n7_
                        have GE188 := n8_
                        have NB174_188 := n9_
                        have NB188_174 := n10_
                        have NB175_188 := n11_
                        have NB188_175 := n12_
                        have NB176_188 := n13_
                        have NB188_176 := n14_
                        have NB187_188 := n15_
                        have NB188_187 := n16_
                        clear n0_ n1_ n2_ n3_ n4_ n5_ n6_ n7_ n8_ n9_ n10_ n11_ n12_ n13_ n14_ n15_ n16_
                        clear hb hbox hg
                        refine hK.out _ _ ⟨(blk_cell BK174.out 0).trans rfl, (blk_cell BK174.out 1).trans rfl⟩ (fun hHeld => ?_)
                        clear hK K
                        refine norm_ (a' := ?_) ?_ ?_
                        rotate_left
                        · show Act.put _ (some 8) _ = _
                          simp only [Act.put, List.setIfInBounds_toArray, List.set_cons_zero, List.set_cons_succ, i64_w, i32_w]
                          rfl
                        exact norm_ (by first | (simp only [putAll, Act.put, List.setIfInBounds_toArray, List.set_cons_zero, List.set_cons_succ]; done) | (simp only [putAll, Act.put, List.setIfInBounds_toArray, List.set_cons_zero, List.set_cons_succ]; rfl)) (hJ1_9_10 (_, gb187, gb188) _ ⟨hHeld, (by (with_reducible repeat (first | apply Kd.R_alloc | apply Kd.R_drewN | apply Kd.R_drew)); exact HO179.out), (by (with_reducible repeat (first | refine blk_drewN ?_ _ | refine blk_drew ?_ | refine blk_alloc ?_ _)); exact BK174.out), (by (with_reducible repeat (first | refine blk_drewN ?_ _ | refine blk_drew ?_ | refine blk_alloc ?_ _)); exact BK175.out), (by (with_reducible repeat (first | refine blk_drewN ?_ _ | refine blk_drew ?_ | refine blk_alloc ?_ _)); exact BK176.out), (by (with_reducible repeat (first | refine blk_drewN ?_ _ | refine blk_drew ?_ | refine blk_alloc ?_ _)); exact BK187.out), (by (with_reducible repeat (first | refine blk_drewN ?_ _ | refine blk_drew ?_ | refine blk_alloc ?_ _)); exact BK188.out), GW187.out, GE187.out, NB174_187.out, NB187_174.out, NB175_187.out, NB187_175.out, NB176_187.out, NB187_176.out, NB188_187.out, NB187_188.out, GW188.out, GE188.out, NB174_188.out, NB188_174.out, NB175_188.out, NB188_175.out, NB176_188.out, NB188_176.out, (by repeat (first | (with_reducible first | exact HB.out | apply below_alloc | apply pw_below_drewN | apply below_drew1 | refine below_set ?_ GE174.out | refine below_set ?_ GE175.out | refine below_set ?_ GE176.out | refine below_set ?_ GE187.out | refine below_set ?_ GE188.out) | exact HB.out))⟩)
                  · skip
                    rintro v178 w14 ⟨hS_, h0_, h1_, h2_, h3_, h4_⟩
                    have n0_ : Aside0 (Kd.R k61 61 w14 w.heap.size (fun _ => True) v178 t177) := ⟨h0_⟩
                    have n1_ : Aside0 (w14.heap[gb174]? = some (.cells #[.int .i64 a1_0, .int .i64 a1_1] 28 (0, 0))) := ⟨h1_⟩
                    have n2_ : Aside0 (w14.heap[gb175]? = some (.cells #[.int .i64 0, .int .i64 0] 28 (0, 0))) := ⟨h2_⟩
                    have n3_ : Aside0 (w14.heap[gb176]? = some (.cells #[.int .i64 0, .int .i64 0] 28 (0, 0))) := ⟨h3_⟩
                    have n4_ : Aside0 (Below w.heap.size w w14) := ⟨h4_⟩
                    clear BK174
                    clear BK175
                    clear BK176
                    clear HB
                    clear h0_ h1_ h2_ h3_ h4_
                    have HO179 := n0_
                    have BK174 := n1_
                    have BK175 := n2_
                    have BK176 := n3_
                    have HB := n4_
                    clear n0_ n1_ n2_ n3_ n4_
                    have hHeld : w14.cell? ⟨gb174, 0, none⟩ = some (.int .i64 a1_0) ∧ w14.cell? ⟨gb174, 1, none⟩ = some (.int .i64 a1_1) := hS_
                    obtain ⟨Ao15, co15, eo15⟩ := Kd.R_slice HO179.out
                    (first | subst eo15 | (injection eo15 with f1_ f2_ f3_; have f4_ := f1_.symm; have f5_ := f3_.symm; clear f1_ f2_ f3_; subst f4_; subst f5_))
                    refine norm_ (a' := ?_) ?_ ?_
                    rotate_left
                    · simp only [putAll, Act.put, List.setIfInBounds_toArray, List.set_cons_zero, List.set_cons_succ]
                      rfl
                    refine three_ (i := 4) (j := 9) (k := 10) (Ni := some 14) (Nj := some 7) (Nk := some 8) #[true, true, true, true, true, false, false, false, false, false, false, false, false, false] #[true, true, true, true, false, false, false, false, false, true, false, false, false, false] #[true, true, true, true, false, false, false, false, false, false, true, false, false, false] rfl rfl rfl rfl rfl rfl (three_of HT_.out (by kernel_rfl)) (by decide) (by decide) (by decide) (fun K hK => ?_) (fun K hK => ?_) (fun K hK => ?_)
                    · skip
                      refine goes_ Try.func44 (by kernel_rfl) rfl #[.slice Ao15 t177.length co15, .agg #[.int .i64 t180, .int .i64 t181]] (by rfl) rfl rfl (by (try simp only [List.map_toArray, List.map_cons, List.map_nil]); first | done | rfl | (simp only [List.length_drop, List.length_take]; rfl)) ?_
                      with_reducible refine (ranges_Ranges_Find.calls _ _ t177 t180 t181 t182 t183 t184 t185 t186 _ ?side1 ?side2 A5.out).mono ?_
                      (case side1 => repeat (first | exact (Kd.R_reads' HO179.out).2.2 | (with_reducible refine Kd.C_alloc ?_ _) | (with_reducible refine Kd.C_drewN ?_ _) | (with_reducible refine Kd.C_drew ?_)))
                      (case side2 => exact (Kd.R_reads' HO179.out).2.1)
                      rintro e w16 ⟨rfl, hb⟩
                      refine ⟨_, rfl, ?_⟩
                      have n0_ := Aside0.mk (Kd.R_below (by (with_reducible repeat (first | apply Kd.R_alloc | apply Kd.R_drewN | apply Kd.R_drew)); exact HO179.out) hb)
                      have n1_ := Aside0.mk (blk_below (g := gb174) (o := .cells #[.int .i64 a1_0, .int .i64 a1_1] 28 (0, 0)) (by (with_reducible repeat (first | refine blk_drewN ?_ _ | refine blk_drew ?_ | refine blk_alloc ?_ _)); exact BK174.out) hb)
                      have n2_ := Aside0.mk (blk_below (g := gb175) (o := .cells #[.int .i64 0, .int .i64 0] 28 (0, 0)) (by (with_reducible repeat (first | refine blk_drewN ?_ _ | refine blk_drew ?_ | refine blk_alloc ?_ _)); exact BK175.out) hb)
                      have n3_ := Aside0.mk (blk_below (g := gb176) (o := .cells #[.int .i64 0, .int .i64 0] 28 (0, 0)) (by (with_reducible repeat (first | refine blk_drewN ?_ _ | refine blk_drew ?_ | refine blk_alloc ?_ _)); exact BK176.out) hb)
                      have n4_ := Aside0.mk (below_step (by repeat (first | (with_reducible first | exact HB.out | apply below_alloc | apply pw_below_drewN | apply below_drew1 | refine below_set ?_ GE174.out | refine below_set ?_ GE175.out | refine below_set ?_ GE176.out) | exact HB.out)) hb)
                      clear HO179
                      clear BK174
                      clear BK175
                      clear BK176
                      clear HB
                      have HO179 := n0_
                      have BK174 := n1_
                      have BK175 := n2_
                      have BK176 := n3_
                      have HB := n4_
                      clear n0_ n1_ n2_ n3_ n4_
                      (try clear hb)
                      (try clear hb2)
                      (try clear hk)
                      (try clear hi)
                      refine hK.out _ _ ⟨(blk_cell BK174.out 0).trans rfl, (blk_cell BK174.out 1).trans rfl⟩ (fun hHeld => ?_)
                      clear hK K
                      refine norm_ (a' := ?_) ?_ ?_
                      rotate_left
                      · show Act.put _ (some 14) _ = _
                        simp only [Act.put, List.setIfInBounds_toArray, List.set_cons_zero, List.set_cons_succ, i64_w, i32_w]
                        rfl
                      refine pure_ (i := 5) (N := some 9) (v := ?_) (a' := ?_) #[true, true, true, true, true, true, false, false, false, false, false, false, false, false] rfl rfl (any_of HT_.out (by kernel_rfl)) (fun _ _ _ h => h) (Or.inl ⟨by rfl, ?_⟩) ?_ ?_
                      rotate_left
                      · intro w'
                        go_simp
                        with_reducible rfl
                      rotate_left
                      · simp only [Act.put, List.setIfInBounds_toArray, List.set_cons_zero, List.set_cons_succ, i64_w, i32_w]
                        rfl
                      refine pure_ (i := 6) (N := some 15) (v := ?_) (a' := ?_) #[true, true, true, true, true, true, true, false, false, false, false, false, false, false] rfl rfl (any_of HT_.out (by kernel_rfl)) (fun _ _ _ h => h) (Or.inl ⟨by rfl, ?_⟩) ?_ ?_
                      rotate_left
                      · intro w'
                        go_simp
                        with_reducible rfl
                      rotate_left
                      · simp only [Act.put, List.setIfInBounds_toArray, List.set_cons_zero, List.set_cons_succ, i64_w, i32_w]
                        rfl
                      refine pure_ (i := 7) (N := some 16) (v := ?_) (a' := ?_) #[true, true, true, true, true, true, true, true, false, false, false, false, false, false] rfl rfl (any_of HT_.out (by kernel_rfl)) (fun _ _ _ h => h) (Or.inl ⟨by rfl, ?_⟩) ?_ ?_
                      rotate_left
                      · intro w'
                        go_simp
                        with_reducible rfl
                      rotate_left
                      · simp only [Act.put, List.setIfInBounds_toArray, List.set_cons_zero, List.set_cons_succ, i64_w, i32_w]
                        rfl
                      refine pure_ (i := 8) (N := some 17) (v := ?_) (a' := ?_) #[true, true, true, true, true, true, true, true, true, false, false, false, false, false] rfl rfl (any_of HT_.out (by kernel_rfl)) (fun _ _ _ h => h) (Or.inl ⟨by rfl, ?_⟩) ?_ ?_
                      rotate_left
                      · intro w'
                        go_simp
                        with_reducible rfl
                      rotate_left
                      · simp only [Act.put, List.setIfInBounds_toArray, List.set_cons_zero, List.set_cons_succ, i64_w, i32_w]
                        rfl
                      exact norm_ (by first | (simp only [putAll, Act.put, List.setIfInBounds_toArray, List.set_cons_zero, List.set_cons_succ]; done) | (simp only [putAll, Act.put, List.setIfInBounds_toArray, List.set_cons_zero, List.set_cons_succ]; rfl)) (hJ1_3_4 (.slice Ao15 t177.length co15) _ ⟨hHeld, (by (with_reducible repeat (first | apply Kd.R_alloc | apply Kd.R_drewN | apply Kd.R_drew)); exact HO179.out), (by (with_reducible repeat (first | refine blk_drewN ?_ _ | refine blk_drew ?_ | refine blk_alloc ?_ _)); exact BK174.out), (by (with_reducible repeat (first | refine blk_drewN ?_ _ | refine blk_drew ?_ | refine blk_alloc ?_ _)); exact BK175.out), (by (with_reducible repeat (first | refine blk_drewN ?_ _ | refine blk_drew ?_ | refine blk_alloc ?_ _)); exact BK176.out), (by repeat (first | (with_reducible first | exact HB.out | apply below_alloc | apply pw_below_drewN | apply below_drew1 | refine below_set ?_ GE174.out | refine below_set ?_ GE175.out | refine below_set ?_ GE176.out) | exact HB.out))⟩)
                    · skip
                      refine box_step ?hg (N := 7) ?hd (cs := #[.int .i64 0, .int .i64 0]) (t := 61) ?hr ?_; (case hd => rfl); (case hg => rfl); (case hr => first | (go_simp; done) | (go_simp; rfl))
                      intro gb187 hg w15 hbox hb
                      have n0_ := Aside0.mk (Kd.R_below (Kd.R_elderB (by (with_reducible repeat (first | apply Kd.R_alloc | apply Kd.R_drewN | apply Kd.R_drew)); exact HO179.out) gb187 (Nat.le_of_eq hg.symm)) hb)
                      have n1_ := Aside0.mk (blk_below (g := gb174) (o := .cells #[.int .i64 a1_0, .int .i64 a1_1] 28 (0, 0)) (by (with_reducible repeat (first | refine blk_drewN ?_ _ | refine blk_drew ?_ | refine blk_alloc ?_ _)); exact BK174.out) hb)
                      have n2_ := Aside0.mk (blk_below (g := gb175) (o := .cells #[.int .i64 0, .int .i64 0] 28 (0, 0)) (by (with_reducible repeat (first | refine blk_drewN ?_ _ | refine blk_drew ?_ | refine blk_alloc ?_ _)); exact BK175.out) hb)
                      have n3_ := Aside0.mk (blk_below (g := gb176) (o := .cells #[.int .i64 0, .int .i64 0] 28 (0, 0)) (by (with_reducible repeat (first | refine blk_drewN ?_ _ | refine blk_drew ?_ | refine blk_alloc ?_ _)); exact BK176.out) hb)
                      have n4_ := Aside0.mk (below_step (by repeat (first | (with_reducible first | exact HB.out | apply below_alloc | apply pw_below_drewN | apply below_drew1 | refine below_set ?_ GE174.out | refine below_set ?_ GE175.out | refine below_set ?_ GE176.out) | exact HB.out)) hb)
                      have n5_ := Aside0.mk (hbox)
                      have n6_ := Aside0.mk ((by rw [hg]; exact (below_size (by repeat (first | (with_reducible first | exact HB.out | apply below_alloc | apply pw_below_drewN | apply below_drew1 | refine below_set ?_ GE174.out | refine below_set ?_ GE175.out | refine below_set ?_ GE176.out) | exact HB.out))) : w.heap.size ≤ gb187))
                      have n7_ := Aside0.mk ((by rw [hg]; exact (below_size (by repeat (first | (with_reducible first | exact HB.out | apply below_alloc | apply pw_below_drewN | apply below_drew1 | refine below_set ?_ GE174.out | refine below_set ?_ GE175.out | refine below_set ?_ GE176.out) | exact HB.out))) : w.heap.size ≤ gb187))
                      have n8_ := Aside0.mk ((by rw [hg]; exact Nat.ne_of_lt (blk_lt (g := gb174) (o := .cells #[.int .i64 a1_0, .int .i64 a1_1] 28 (0, 0)) (by (with_reducible repeat (first | refine blk_drewN ?_ _ | refine blk_drew ?_ | refine blk_alloc ?_ _)); exact BK174.out)) : gb174 ≠ gb187))
                      have n9_ := Aside0.mk ((by rw [hg]; exact Nat.ne_of_gt (blk_lt (g := gb174) (o := .cells #[.int .i64 a1_0, .int .i64 a1_1] 28 (0, 0)) (by (with_reducible repeat (first | refine blk_drewN ?_ _ | refine blk_drew ?_ | refine blk_alloc ?_ _)); exact BK174.out)) : gb187 ≠ gb174))
                      have n10_ := Aside0.mk ((by rw [hg]; exact Nat.ne_of_lt (blk_lt (g := gb175) (o := .cells #[.int .i64 0, .int .i64 0] 28 (0, 0)) (by (with_reducible repeat (first | refine blk_drewN ?_ _ | refine blk_drew ?_ | refine blk_alloc ?_ _)); exact BK175.out)) : gb175 ≠ gb187))
                      have n11_ := Aside0.mk ((by rw [hg]; exact Nat.ne_of_gt (blk_lt (g := gb175) (o := .cells #[.int .i64 0, .int .i64 0] 28 (0, 0)) (by (with_reducible repeat (first | refine blk_drewN ?_ _ | refine blk_drew ?_ | refine blk_alloc ?_ _)); exact BK175.out)) : gb187 ≠ gb175))
                      have n12_ := Aside0.mk ((by rw [hg]; exact Nat.ne_of_lt (blk_lt (g := gb176) (o := .cells #[.int .i64 0, .int .i64 0] 28 (0, 0)) (by (with_reducible repeat (first | refine blk_drewN ?_ _ | refine blk_drew ?_ | refine blk_alloc ?_ _)); exact BK176.out)) : gb176 ≠ gb187))
                      have n13_ := Aside0.mk ((by rw [hg]; exact Nat.ne_of_gt (blk_lt (g := gb176) (o := .cells #[.int .i64 0, .int .i64 0] 28 (0, 0)) (by (with_reducible repeat (first | refine blk_drewN ?_ _ | refine blk_drew ?_ | refine blk_alloc ?_ _)); exact BK176.out)) : gb187 ≠ gb176))
                      clear HO179
                      clear BK174
                      clear BK175
                      clear BK176
                      clear HB
                      have HO179 := n0_
                      have BK174 := n1_
                      have BK175 := n2_
                      have BK176 := n3_
                      have HB := n4_
                      have BK187 := n5_
                      have GW187 := n6_
                      have GE187 := n7_
                      have NB174_187 := n8_
                      have NB187_174 := n9_
                      have NB175_187 := n10_
                      have NB187_175 := n11_
                      have NB176_187 := n12_
                      have NB187_176 := n13_
                      clear n0_ n1_ n2_ n3_ n4_ n5_ n6_ n7_ n8_ n9_ n10_ n11_ n12_ n13_
                      clear hb hbox hg
                      refine hK.out _ _ ⟨(blk_cell BK174.out 0).trans rfl, (blk_cell BK174.out 1).trans rfl⟩ (fun hHeld => ?_)
                      clear hK K
                      refine norm_ (a' := ?_) ?_ ?_
                      rotate_left
                      · show Act.put _ (some 7) _ = _
                        simp only [Act.put, List.setIfInBounds_toArray, List.set_cons_zero, List.set_cons_succ, i64_w, i32_w]
                        rfl
                      exact norm_ (by first | (simp only [putAll, Act.put, List.setIfInBounds_toArray, List.set_cons_zero, List.set_cons_succ]; done) | (simp only [putAll, Act.put, List.setIfInBounds_toArray, List.set_cons_zero, List.set_cons_succ]; rfl)) (hJ1_3_9 (_, gb187) _ ⟨hHeld, (by (with_reducible repeat (first | apply Kd.R_alloc | apply Kd.R_drewN | apply Kd.R_drew)); exact Kd.R_mono HO179.out (fun _ hk => hk.2)), (by (with_reducible repeat (first | refine blk_drewN ?_ _ | refine blk_drew ?_ | refine blk_alloc ?_ _)); exact BK174.out), (by (with_reducible repeat (first | refine blk_drewN ?_ _ | refine blk_drew ?_ | refine blk_alloc ?_ _)); exact BK175.out), (by (with_reducible repeat (first | refine blk_drewN ?_ _ | refine blk_drew ?_ | refine blk_alloc ?_ _)); exact BK176.out), (by (with_reducible repeat (first | refine blk_drewN ?_ _ | refine blk_drew ?_ | refine blk_alloc ?_ _)); exact BK187.out), GW187.out, GE187.out, NB174_187.out, NB187_174.out, NB175_187.out, NB187_175.out, NB176_187.out, NB187_176.out, (by repeat (first | (with_reducible first | exact HB.out | apply below_alloc | apply pw_below_drewN | apply below_drew1 | refine below_set ?_ GE174.out | refine below_set ?_ GE175.out | refine below_set ?_ GE176.out | refine below_set ?_ GE187.out) | exact HB.out))⟩)
                    · skip
                      refine box_step ?hg (N := 8) ?hd (cs := #[.int .i64 0, .int .i64 0]) (t := 61) ?hr ?_; (case hd => rfl); (case hg => rfl); (case hr => first | (go_simp; done) | (go_simp; rfl))
                      intro gb188 hg w15 hbox hb
                      have n0_ := Aside0.mk (Kd.R_below (Kd.R_elderB (by (with_reducible repeat (first | apply Kd.R_alloc | apply Kd.R_drewN | apply Kd.R_drew)); exact HO179.out) gb188 (Nat.le_of_eq hg.symm)) hb)
                      have n1_ := Aside0.mk (blk_below (g := gb174) (o := .cells #[.int .i64 a1_0, .int .i64 a1_1] 28 (0, 0)) (by (with_reducible repeat (first | refine blk_drewN ?_ _ | refine blk_drew ?_ | refine blk_alloc ?_ _)); exact BK174.out) hb)
                      have n2_ := Aside0.mk (blk_below (g := gb175) (o := .cells #[.int .i64 0, .int .i64 0] 28 (0, 0)) (by (with_reducible repeat (first | refine blk_drewN ?_ _ | refine blk_drew ?_ | refine blk_alloc ?_ _)); exact BK175.out) hb)
                      have n3_ := Aside0.mk (blk_below (g := gb176) (o := .cells #[.int .i64 0, .int .i64 0] 28 (0, 0)) (by (with_reducible repeat (first | refine blk_drewN ?_ _ | refine blk_drew ?_ | refine blk_alloc ?_ _)); exact BK176.out) hb)
                      have n4_ := Aside0.mk (below_step (by repeat (first | (with_reducible first | exact HB.out | apply below_alloc | apply pw_below_drewN | apply below_drew1 | refine below_set ?_ GE174.out | refine below_set ?_ GE175.out | refine below_set ?_ GE176.out) | exact HB.out)) hb)
                      have n5_ := Aside0.mk (hbox)
                      have n6_ := Aside0.mk ((by rw [hg]; exact (below_size (by repeat (first | (with_reducible first | exact HB.out | apply below_alloc | apply pw_below_drewN | apply below_drew1 | refine below_set ?_ GE174.out | refine below_set ?_ GE175.out | refine below_set ?_ GE176.out) | exact HB.out))) : w.heap.size ≤ gb188))
                      have n7_ := Aside0.mk ((by rw [hg]; exact (below_size (by repeat (first | (with_reducible first | exact HB.out | apply below_alloc | apply pw_below_drewN | apply below_drew1 | refine below_set ?_ GE174.out | refine below_set ?_ GE175.out | refine below_set ?_ GE176.out) | exact HB.out))) : w.heap.size ≤ gb188))
                      have n8_ := Aside0.mk ((by rw [hg]; exact Nat.ne_of_lt (blk_lt (g := gb174) (o := .cells #[.int .i64 a1_0, .int .i64 a1_1] 28 (0, 0)) (by (with_reducible repeat (first | refine blk_drewN ?_ _ | refine blk_drew ?_ | refine blk_alloc ?_ _)); exact BK174.out)) : gb174 ≠ gb188))
                      have n9_ := Aside0.mk ((by rw [hg]; exact Nat.ne_of_gt (blk_lt (g := gb174) (o := .cells #[.int .i64 a1_0, .int .i64 a1_1] 28 (0, 0)) (by (with_reducible repeat (first | refine blk_drewN ?_ _ | refine blk_drew ?_ | refine blk_alloc ?_ _)); exact BK174.out)) : gb188 ≠ gb174))
                      have n10_ := Aside0.mk ((by rw [hg]; exact Nat.ne_of_lt (blk_lt (g := gb175) (o := .cells #[.int .i64 0, .int .i64 0] 28 (0, 0)) (by (with_reducible repeat (first | refine blk_drewN ?_ _ | refine blk_drew ?_ | refine blk_alloc ?_ _)); exact BK175.out)) : gb175 ≠ gb188))
                      have n11_ := Aside0.mk ((by rw [hg]; exact Nat.ne_of_gt (blk_lt (g := gb175) (o := .cells #[.int .i64 0, .int .i64 0] 28 (0, 0)) (by (with_reducible repeat (first | refine blk_drewN ?_ _ | refine blk_drew ?_ | refine blk_alloc ?_ _)); exact BK175.out)) : gb188 ≠ gb175))
                      have n12_ := Aside0.mk ((by rw [hg]; exact Nat.ne_of_lt (blk_lt (g := gb176) (o := .cells #[.int .i64 0, .int .i64 0] 28 (0, 0)) (by (with_reducible repeat (first | refine blk_drewN ?_ _ | refine blk_drew ?_ | refine blk_alloc ?_ _)); exact BK176.out)) : gb176 ≠ gb188))
                      have n13_ := Aside0.mk ((by rw [hg]; exact Nat.ne_of_gt (blk_lt (g := gb176) (o := .cells #[.int .i64 0, .int .i64 0] 28 (0, 0)) (by (with_reducible repeat (first | refine blk_drewN ?_ _ | refine blk_drew ?_ | refine blk_alloc ?_ _)); exact BK176.out)) : gb188 ≠ gb176))
                      clear HO179
                      clear BK174
                      clear BK175
                      clear BK176
                      clear HB
                      have HO179 := n0_
                      have BK174 := n1_
                      have BK175 := n2_
                      have BK176 := n3_
                      have HB := n4_
                      have BK188 := n5_
                      have GW188 := n6_
                      have GE188 := n7_
                      have NB174_188 := n8_
                      have NB188_174 := n9_
                      have NB175_188 := n10_
                      have NB188_175 := n11_
                      have NB176_188 := n12_
                      have NB188_176 := n13_
                      clear n0_ n1_ n2_ n3_ n4_ n5_ n6_ n7_ n8_ n9_ n10_ n11_ n12_ n13_
                      clear hb hbox hg
                      refine hK.out _ _ ⟨(blk_cell BK174.out 0).trans rfl, (blk_cell BK174.out 1).trans rfl⟩ (fun hHeld => ?_)
                      clear hK K
                      refine norm_ (a' := ?_) ?_ ?_
                      rotate_left
                      · show Act.put _ (some 8) _ = _
                        simp only [Act.put, List.setIfInBounds_toArray, List.set_cons_zero, List.set_cons_succ, i64_w, i32_w]
                        rfl
                      exact norm_ (by first | (simp only [putAll, Act.put, List.setIfInBounds_toArray, List.set_cons_zero, List.set_cons_succ]; done) | (simp only [putAll, Act.put, List.setIfInBounds_toArray, List.set_cons_zero, List.set_cons_succ]; rfl)) (hJ1_3_10 (_, gb188) _ ⟨hHeld, (by (with_reducible repeat (first | apply Kd.R_alloc | apply Kd.R_drewN | apply Kd.R_drew)); exact Kd.R_mono HO179.out (fun _ hk => hk.2)), (by (with_reducible repeat (first | refine blk_drewN ?_ _ | refine blk_drew ?_ | refine blk_alloc ?_ _)); exact BK174.out), (by (with_reducible repeat (first | refine blk_drewN ?_ _ | refine blk_drew ?_ | refine blk_alloc ?_ _)); exact BK175.out), (by (with_reducible repeat (first | refine blk_drewN ?_ _ | refine blk_drew ?_ | refine blk_alloc ?_ _)); exact BK176.out), (by (with_reducible repeat (first | refine blk_drewN ?_ _ | refine blk_drew ?_ | refine blk_alloc ?_ _)); exact BK188.out), GW188.out, GE188.out, NB174_188.out, NB188_174.out, NB175_188.out, NB188_175.out, NB176_188.out, NB188_176.out, (by repeat (first | (with_reducible first | exact HB.out | apply below_alloc | apply pw_below_drewN | apply below_drew1 | refine below_set ?_ GE174.out | refine below_set ?_ GE175.out | refine below_set ?_ GE176.out | refine below_set ?_ GE188.out) | exact HB.out))⟩)
                · skip
                  rintro ⟨v178, gb187, gb188⟩ w15 ⟨hS_, h0_, h1_, h2_, h3_, h4_, h5_, h6_, h7_, h8_, h9_, h10_, h11_, h12_, h13_, h14_, h15_, h16_, h17_, h18_, h19_, h20_, h21_, h22_, h23_, h24_⟩
                  have n0_ : Aside0 (Kd.R k61 61 w15 w.heap.size (fun k_ => k_ ≠ gb187 ∧ k_ ≠ gb188) v178 t177) := ⟨h0_⟩
                  have n1_ : Aside0 (w15.heap[gb174]? = some (.cells #[.int .i64 a1_0, .int .i64 a1_1] 28 (0, 0))) := ⟨h1_⟩
                  have n2_ : Aside0 (w15.heap[gb175]? = some (.cells #[.int .i64 0, .int .i64 0] 28 (0, 0))) := ⟨h2_⟩
                  have n3_ : Aside0 (w15.heap[gb176]? = some (.cells #[.int .i64 0, .int .i64 0] 28 (0, 0))) := ⟨h3_⟩
                  have n4_ : Aside0 (w15.heap[gb187]? = some (.cells #[.int .i64 0, .int .i64 0] 61 (0, 0))) := ⟨h4_⟩
                  have n5_ : Aside0 (w15.heap[gb188]? = some (.cells #[.int .i64 0, .int .i64 0] 61 (0, 0))) := ⟨h5_⟩
                  have n6_ : Aside0 (w.heap.size ≤ gb187) := ⟨h6_⟩
                  have n7_ : Aside0 (w.heap.size ≤ gb187) := ⟨h7_⟩
                  have n8_ : Aside0 (gb174 ≠ gb187) := ⟨h8_⟩
                  have n9_ : Aside0 (gb187 ≠ gb174) := ⟨h9_⟩
                  have n10_ : Aside0 (gb175 ≠ gb187) := ⟨h10_⟩
                  have n11_ : Aside0 (gb187 ≠ gb175) := ⟨h11_⟩
                  have n12_ : Aside0 (gb176 ≠ gb187) := ⟨h12_⟩
                  have n13_ : Aside0 (gb187 ≠ gb176) := ⟨h13_⟩
                  have n14_ : Aside0 (gb188 ≠ gb187) := ⟨h14_⟩
                  have n15_ : Aside0 (gb187 ≠ gb188) := ⟨h15_⟩
                  have n16_ : Aside0 (w.heap.size ≤ gb188) := ⟨h16_⟩
                  have n17_ : Aside0 (w.heap.size ≤ gb188) := ⟨h17_⟩
                  have n18_ : Aside0 (gb174 ≠ gb188) := ⟨h18_⟩
                  have n19_ : Aside0 (gb188 ≠ gb174) := ⟨h19_⟩
                  have n20_ : Aside0 (gb175 ≠ gb188) := ⟨h20_⟩
                  have n21_ : Aside0 (gb188 ≠ gb175) := ⟨h21_⟩
                  have n22_ : Aside0 (gb176 ≠ gb188) := ⟨h22_⟩
                  have n23_ : Aside0 (gb188 ≠ gb176) := ⟨h23_⟩
                  have n24_ : Aside0 (Below w.heap.size w w15) := ⟨h24_⟩
                  clear BK174
                  clear BK175
                  clear BK176
                  clear HB
                  clear h0_ h1_ h2_ h3_ h4_ h5_ h6_ h7_ h8_ h9_ h10_ h11_ h12_ h13_ h14_ h15_ h16_ h17_ h18_ h19_ h20_ h21_ h22_ h23_ h24_
                  have HO179 := n0_
                  have BK174 := n1_
                  have BK175 := n2_
                  have BK176 := n3_
                  have BK187 := n4_
                  have BK188 := n5_
                  have GW187 := n6_
                  have GE187 := n7_
                  have NB174_187 := n8_
                  have NB187_174 := n9_
                  have NB175_187 := n10_
                  have NB187_175 := n11_
                  have NB176_187 := n12_
                  have NB187_176 := n13_
                  have NB188_187 := n14_
                  have NB187_188 := n15_
                  have GW188 := n16_
                  have GE188 := n17_
                  have NB174_188 := n18_
                  have NB188_174 := n19_
                  have NB175_188 := n20_
                  have NB188_175 := n21_
                  have NB176_188 := n22_
                  have NB188_176 := n23_
                  have HB := n24_
                  clear n0_ n1_ n2_ n3_ n4_ n5_ n6_ n7_ n8_ n9_ n10_ n11_ n12_ n13_ n14_ n15_ n16_ n17_ n18_ n19_ n20_ n21_ n22_ n23_ n24_
                  have hHeld : w15.cell? ⟨gb174, 0, none⟩ = some (.int .i64 a1_0) ∧ w15.cell? ⟨gb174, 1, none⟩ = some (.int .i64 a1_1) := hS_
                  refine norm_ (a' := ?_) ?_ ?_
                  rotate_left
                  · simp only [putAll, Act.put, List.setIfInBounds_toArray, List.set_cons_zero, List.set_cons_succ]
                    rfl
                  refine one_ (i := 3) (N := some 13) #[true, true, true, true, false, false, false, false, false, true, true, false, false, false] rfl rfl (one_of HT_.out (by kernel_rfl)) (by decide) (fun K hK => ?_)
                  refine goes_ Try.func41 (by kernel_rfl) rfl #[.agg #[.int .i64 a1_0, .int .i64 a1_1]] (by rfl) rfl rfl (by (try simp only [List.map_toArray, List.map_cons, List.map_nil]); first | done | rfl | (simp only [List.length_drop, List.length_take]; rfl)) ?_
                  with_reducible refine (impl_given.calls a1_0 a1_1 t180 t181 _ A4.out).mono ?_
                  rintro e w16 ⟨rfl, hb⟩
                  refine ⟨_, rfl, ?_⟩
                  have n0_ := Aside0.mk (Kd.R_below (by (with_reducible repeat (first | apply Kd.R_alloc | apply Kd.R_drewN | apply Kd.R_drew)); exact HO179.out) hb)
                  have n1_ := Aside0.mk (blk_below (g := gb174) (o := .cells #[.int .i64 a1_0, .int .i64 a1_1] 28 (0, 0)) (by (with_reducible repeat (first | refine blk_drewN ?_ _ | refine blk_drew ?_ | refine blk_alloc ?_ _)); exact BK174.out) hb)
                  have n2_ := Aside0.mk (blk_below (g := gb175) (o := .cells #[.int .i64 0, .int .i64 0] 28 (0, 0)) (by (with_reducible repeat (first | refine blk_drewN ?_ _ | refine blk_drew ?_ | refine blk_alloc ?_ _)); exact BK175.out) hb)
                  have n3_ := Aside0.mk (blk_below (g := gb176) (o := .cells #[.int .i64 0, .int .i64 0] 28 (0, 0)) (by (with_reducible repeat (first | refine blk_drewN ?_ _ | refine blk_drew ?_ | refine blk_alloc ?_ _)); exact BK176.out) hb)
                  have n4_ := Aside0.mk (blk_below (g := gb187) (o := .cells #[.int .i64 0, .int .i64 0] 61 (0, 0)) (by (with_reducible repeat (first | refine blk_drewN ?_ _ | refine blk_drew ?_ | refine blk_alloc ?_ _)); exact BK187.out) hb)
                  have n5_ := Aside0.mk (blk_below (g := gb188) (o := .cells #[.int .i64 0, .int .i64 0] 61 (0, 0)) (by (with_reducible repeat (first | refine blk_drewN ?_ _ | refine blk_drew ?_ | refine blk_alloc ?_ _)); exact BK188.out) hb)
                  have n6_ := Aside0.mk (below_step (by repeat (first | (with_reducible first | exact HB.out | apply below_alloc | apply pw_below_drewN | apply below_drew1 | refine below_set ?_ GE174.out | refine below_set ?_ GE175.out | refine below_set ?_ GE176.out | refine below_set ?_ GE187.out | refine below_set ?_ GE188.out) | exact HB.out)) hb)
                  clear HO179
                  clear BK174
                  clear BK175
                  clear BK176
                  clear BK187
                  clear BK188
                  clear HB
                  have HO179 := n0_
                  have BK174 := n1_
                  have BK175 := n2_
                  have BK176 := n3_
                  have BK187 := n4_
                  have BK188 := n5_
                  have HB := n6_
                  clear n0_ n1_ n2_ n3_ n4_ n5_ n6_
                  (try clear hb)
                  (try clear hb2)
                  (try clear hk)
                  (try clear hi)
                  refine hK.out _ _ ⟨(blk_cell BK174.out 0).trans rfl, (blk_cell BK174.out 1).trans rfl⟩ (fun hHeld => ?_)
                  clear hK K
                  refine norm_ (a' := ?_) ?_ ?_
                  rotate_left
                  · show Act.put _ (some 13) _ = _
                    simp only [Act.put, List.setIfInBounds_toArray, List.set_cons_zero, List.set_cons_succ, i64_w, i32_w]
                    rfl
                  exact norm_ (by first | (simp only [putAll, Act.put, List.setIfInBounds_toArray, List.set_cons_zero, List.set_cons_succ]; done) | (simp only [putAll, Act.put, List.setIfInBounds_toArray, List.set_cons_zero, List.set_cons_succ]; rfl)) (hJ1_3_9_10 (_, gb187, gb188) _ ⟨hHeld, (by (with_reducible repeat (first | apply Kd.R_alloc | apply Kd.R_drewN | apply Kd.R_drew)); exact HO179.out), (by (with_reducible repeat (first | refine blk_drewN ?_ _ | refine blk_drew ?_ | refine blk_alloc ?_ _)); exact BK174.out), (by (with_reducible repeat (first | refine blk_drewN ?_ _ | refine blk_drew ?_ | refine blk_alloc ?_ _)); exact BK175.out), (by (with_reducible repeat (first | refine blk_drewN ?_ _ | refine blk_drew ?_ | refine blk_alloc ?_ _)); exact BK176.out), (by (with_reducible repeat (first | refine blk_drewN ?_ _ | refine blk_drew ?_ | refine blk_alloc ?_ _)); exact BK187.out), (by (with_reducible repeat (first | refine blk_drewN ?_ _ | refine blk_drew ?_ | refine blk_alloc ?_ _)); exact BK188.out), GW187.out, GE187.out, NB174_187.out, NB187_174.out, NB175_187.out, NB187_175.out, NB176_187.out, NB187_176.out, NB188_187.out, NB187_188.out, GW188.out, GE188.out, NB174_188.out, NB188_174.out, NB175_188.out, NB188_175.out, NB176_188.out, NB188_176.out, (by repeat (first | (with_reducible first | exact HB.out | apply below_alloc | apply pw_below_drewN | apply below_drew1 | refine below_set ?_ GE174.out | refine below_set ?_ GE175.out | refine below_set ?_ GE176.out | refine below_set ?_ GE187.out | refine below_set ?_ GE188.out) | exact HB.out))⟩)
              · skip
                rintro ⟨v178, gb188⟩ w15 ⟨hS_, h0_, h1_, h2_, h3_, h4_, h5_, h6_, h7_, h8_, h9_, h10_, h11_, h12_, h13_⟩
                have n0_ : Aside0 (Kd.R k61 61 w15 w.heap.size (fun k_ => k_ ≠ gb188) v178 t177) := ⟨h0_⟩
                have n1_ : Aside0 (w15.heap[gb174]? = some (.cells #[.int .i64 a1_0, .int .i64 a1_1] 28 (0, 0))) := ⟨h1_⟩
                have n2_ : Aside0 (w15.heap[gb175]? = some (.cells #[.int .i64 0, .int .i64 0] 28 (0, 0))) := ⟨h2_⟩
                have n3_ : Aside0 (w15.heap[gb176]? = some (.cells #[.int .i64 0, .int .i64 0] 28 (0, 0))) := ⟨h3_⟩
                have n4_ : Aside0 (w15.heap[gb188]? = some (.cells #[.int .i64 0, .int .i64 0] 61 (0, 0))) := ⟨h4_⟩
                have n5_ : Aside0 (w.heap.size ≤ gb188) := ⟨h5_⟩
                have n6_ : Aside0 (w.heap.size ≤ gb188) := ⟨h6_⟩
                have n7_ : Aside0 (gb174 ≠ gb188) := ⟨h7_⟩
                have n8_ : Aside0 (gb188 ≠ gb174) := ⟨h8_⟩
                have n9_ : Aside0 (gb175 ≠ gb188) := ⟨h9_⟩
                have n10_ : Aside0 (gb188 ≠ gb175) := ⟨h10_⟩
                have n11_ : Aside0 (gb176 ≠ gb188) := ⟨h11_⟩
                have n12_ : Aside0 (gb188 ≠ gb176) := ⟨h12_⟩
                have n13_ : Aside0 (Below w.heap.size w w15) := ⟨h13_⟩
                clear BK174
                clear BK175
                clear BK176
                clear HB
                clear h0_ h1_ h2_ h3_ h4_ h5_ h6_ h7_ h8_ h9_ h10_ h11_ h12_ h13_
                have HO179 := n0_
                have BK174 := n1_
                have BK175 := n2_
                have BK176 := n3_
                have BK188 := n4_
                have GW188 := n5_
                have GE188 := n6_
                have NB174_188 := n7_
                have NB188_174 := n8_
                have NB175_188 := n9_
                have NB188_175 := n10_
                have NB176_188 := n11_
                have NB188_176 := n12_
                have HB := n13_
                clear n0_ n1_ n2_ n3_ n4_ n5_ n6_ n7_ n8_ n9_ n10_ n11_ n12_ n13_
                have hHeld : w15.cell? ⟨gb174, 0, none⟩ = some (.int .i64 a1_0) ∧ w15.cell? ⟨gb174, 1, none⟩ = some (.int .i64 a1_1) := hS_
                obtain ⟨Ao16, co16, eo16⟩ := Kd.R_slice HO179.out
                (first | subst eo16 | (injection eo16 with f1_ f2_ f3_; have f4_ := f1_.symm; have f5_ := f3_.symm; clear f1_ f2_ f3_; subst f4_; subst f5_))
                refine norm_ (a' := ?_) ?_ ?_
                rotate_left
                · simp only [putAll, Act.put, List.setIfInBounds_toArray, List.set_cons_zero, List.set_cons_succ]
                  rfl
                refine two_ (i := 4) (j := 9) (Ni := some 14) (Nj := some 7) #[true, true, true, true, true, false, false, false, false, false, true, false, false, false] #[true, true, true, true, false, false, false, false, false, true, true, false, false, false] rfl rfl rfl rfl (two_of HT_.out (by kernel_rfl)) (by decide) (by decide) (fun K hK => ?_) (fun K hK => ?_)
                · skip
                  refine goes_ Try.func44 (by kernel_rfl) rfl #[.slice Ao16 t177.length co16, .agg #[.int .i64 t180, .int .i64 t181]] (by rfl) rfl rfl (by (try simp only [List.map_toArray, List.map_cons, List.map_nil]); first | done | rfl | (simp only [List.length_drop, List.length_take]; rfl)) ?_
                  with_reducible refine (ranges_Ranges_Find.calls _ _ t177 t180 t181 t182 t183 t184 t185 t186 _ ?side1 ?side2 A5.out).mono ?_
                  (case side1 => repeat (first | exact (Kd.R_reads' HO179.out).2.2 | (with_reducible refine Kd.C_alloc ?_ _) | (with_reducible refine Kd.C_drewN ?_ _) | (with_reducible refine Kd.C_drew ?_)))
                  (case side2 => exact (Kd.R_reads' HO179.out).2.1)
                  rintro e w17 ⟨rfl, hb⟩
                  refine ⟨_, rfl, ?_⟩
                  have n0_ := Aside0.mk (Kd.R_below (by (with_reducible repeat (first | apply Kd.R_alloc | apply Kd.R_drewN | apply Kd.R_drew)); exact HO179.out) hb)
                  have n1_ := Aside0.mk (blk_below (g := gb174) (o := .cells #[.int .i64 a1_0, .int .i64 a1_1] 28 (0, 0)) (by (with_reducible repeat (first | refine blk_drewN ?_ _ | refine blk_drew ?_ | refine blk_alloc ?_ _)); exact BK174.out) hb)
                  have n2_ := Aside0.mk (blk_below (g := gb175) (o := .cells #[.int .i64 0, .int .i64 0] 28 (0, 0)) (by (with_reducible repeat (first | refine blk_drewN ?_ _ | refine blk_drew ?_ | refine blk_alloc ?_ _)); exact BK175.out) hb)
                  have n3_ := Aside0.mk (blk_below (g := gb176) (o := .cells #[.int .i64 0, .int .i64 0] 28 (0, 0)) (by (with_reducible repeat (first | refine blk_drewN ?_ _ | refine blk_drew ?_ | refine blk_alloc ?_ _)); exact BK176.out) hb)
                  have n4_ := Aside0.mk (blk_below (g := gb188) (o := .cells #[.int .i64 0, .int .i64 0] 61 (0, 0)) (by (with_reducible repeat (first | refine blk_drewN ?_ _ | refine blk_drew ?_ | refine blk_alloc ?_ _)); exact BK188.out) hb)
                  have n5_ := Aside0.mk (below_step (by repeat (first | (with_reducible first | exact HB.out | apply below_alloc | apply pw_below_drewN | apply below_drew1 | refine below_set ?_ GE174.out | refine below_set ?_ GE175.out | refine below_set ?_ GE176.out | refine below_set ?_ GE188.out) | exact HB.out)) hb)
                  clear HO179
                  clear BK174
                  clear BK175
                  clear BK176
                  clear BK188
                  clear HB
                  have HO179 := n0_
                  have BK174 := n1_
                  have BK175 := n2_
                  have BK176 := n3_
                  have BK188 := n4_
                  have HB := n5_
                  clear n0_ n1_ n2_ n3_ n4_ n5_
                  (try clear hb)
                  (try clear hb2)
                  (try clear hk)
                  (try clear hi)
                  refine hK.out _ _ ⟨(blk_cell BK174.out 0).trans rfl, (blk_cell BK174.out 1).trans rfl⟩ (fun hHeld => ?_)
                  clear hK K
                  refine norm_ (a' := ?_) ?_ ?_
                  rotate_left
                  · show Act.put _ (some 14) _ = _
                    simp only [Act.put, List.setIfInBounds_toArray, List.set_cons_zero, List.set_cons_succ, i64_w, i32_w]
                    rfl
                  refine pure_ (i := 5) (N := some 9) (v := ?_) (a' := ?_) #[true, true, true, true, true, true, false, false, false, false, true, false, false, false] rfl rfl (any_of HT_.out (by kernel_rfl)) (fun _ _ _ h => h) (Or.inl ⟨by rfl, ?_⟩) ?_ ?_
                  rotate_left
                  · intro w'
                    go_simp
                    with_reducible rfl
                  rotate_left
                  · simp only [Act.put, List.setIfInBounds_toArray, List.set_cons_zero, List.set_cons_succ, i64_w, i32_w]
                    rfl
                  refine pure_ (i := 6) (N := some 15) (v := ?_) (a' := ?_) #[true, true, true, true, true, true, true, false, false, false, true, false, false, false] rfl rfl (any_of HT_.out (by kernel_rfl)) (fun _ _ _ h => h) (Or.inl ⟨by rfl, ?_⟩) ?_ ?_
                  rotate_left
                  · intro w'
                    go_simp
                    with_reducible rfl
                  rotate_left
                  · simp only [Act.put, List.setIfInBounds_toArray, List.set_cons_zero, List.set_cons_succ, i64_w, i32_w]
                    rfl
                  refine pure_ (i := 7) (N := some 16) (v := ?_) (a' := ?_) #[true, true, true, true, true, true, true, true, false, false, true, false, false, false] rfl rfl (any_of HT_.out (by kernel_rfl)) (fun _ _ _ h => h) (Or.inl ⟨by rfl, ?_⟩) ?_ ?_
                  rotate_left
                  · intro w'
                    go_simp
                    with_reducible rfl
                  rotate_left
                  · simp only [Act.put, List.setIfInBounds_toArray, List.set_cons_zero, List.set_cons_succ, i64_w, i32_w]
                    rfl
                  refine pure_ (i := 8) (N := some 17) (v := ?_) (a' := ?_) #[true, true, true, true, true, true, true, true, true, false, true, false, false, false] rfl rfl (any_of HT_.out (by kernel_rfl)) (fun _ _ _ h => h) (Or.inl ⟨by rfl, ?_⟩) ?_ ?_
                  rotate_left
                  · intro w'
                    go_simp
                    with_reducible rfl
                  rotate_left
                  · simp only [Act.put, List.setIfInBounds_toArray, List.set_cons_zero, List.set_cons_succ, i64_w, i32_w]
                    rfl
                  exact norm_ (by first | (simp only [putAll, Act.put, List.setIfInBounds_toArray, List.set_cons_zero, List.set_cons_succ]; done) | (simp only [putAll, Act.put, List.setIfInBounds_toArray, List.set_cons_zero, List.set_cons_succ]; rfl)) (hJ1_3_4_10 (.slice Ao16 t177.length co16, gb188) _ ⟨hHeld, (by (with_reducible repeat (first | apply Kd.R_alloc | apply Kd.R_drewN | apply Kd.R_drew)); exact HO179.out), (by (with_reducible repeat (first | refine blk_drewN ?_ _ | refine blk_drew ?_ | refine blk_alloc ?_ _)); exact BK174.out), (by (with_reducible repeat (first | refine blk_drewN ?_ _ | refine blk_drew ?_ | refine blk_alloc ?_ _)); exact BK175.out), (by (with_reducible repeat (first | refine blk_drewN ?_ _ | refine blk_drew ?_ | refine blk_alloc ?_ _)); exact BK176.out), (by (with_reducible repeat (first | refine blk_drewN ?_ _ | refine blk_drew ?_ | refine blk_alloc ?_ _)); exact BK188.out), GW188.out, GE188.out, NB174_188.out, NB188_174.out, NB175_188.out, NB188_175.out, NB176_188.out, NB188_176.out, (by repeat (first | (with_reducible first | exact HB.out | apply below_alloc | apply pw_below_drewN | apply below_drew1 | refine below_set ?_ GE174.out | refine below_set ?_ GE175.out | refine below_set ?_ GE176.out | refine below_set ?_ GE188.out) | exact HB.out))⟩)
                · skip
                  refine box_step ?hg (N := 7) ?hd (cs := #[.int .i64 0, .int .i64 0]) (t := 61) ?hr ?_; (case hd => rfl); (case hg => rfl); (case hr => first | (go_simp; done) | (go_simp; rfl))
                  intro gb187 hg w16 hbox hb
                  have n0_ := Aside0.mk (Kd.R_below (Kd.R_elderB (by (with_reducible repeat (first | apply Kd.R_alloc | apply Kd.R_drewN | apply Kd.R_drew)); exact HO179.out) gb187 (Nat.le_of_eq hg.symm)) hb)
                  have n1_ := Aside0.mk (blk_below (g := gb174) (o := .cells #[.int .i64 a1_0, .int .i64 a1_1] 28 (0, 0)) (by (with_reducible repeat (first | refine blk_drewN ?_ _ | refine blk_drew ?_ | refine blk_alloc ?_ _)); exact BK174.out) hb)
                  have n2_ := Aside0.mk (blk_below (g := gb175) (o := .cells #[.int .i64 0, .int .i64 0] 28 (0, 0)) (by (with_reducible repeat (first | refine blk_drewN ?_ _ | refine blk_drew ?_ | refine blk_alloc ?_ _)); exact BK175.out) hb)
                  have n3_ := Aside0.mk (blk_below (g := gb176) (o := .cells #[.int .i64 0, .int .i64 0] 28 (0, 0)) (by (with_reducible repeat (first | refine blk_drewN ?_ _ | refine blk_drew ?_ | refine blk_alloc ?_ _)); exact BK176.out) hb)
                  have n4_ := Aside0.mk (blk_below (g := gb188) (o := .cells #[.int .i64 0, .int .i64 0] 61 (0, 0)) (by (with_reducible repeat (first | refine blk_drewN ?_ _ | refine blk_drew ?_ | refine blk_alloc ?_ _)); exact BK188.out) hb)
                  have n5_ := Aside0.mk (below_step (by repeat (first | (with_reducible first | exact HB.out | apply below_alloc | apply pw_below_drewN | apply below_drew1 | refine below_set ?_ GE174.out | refine below_set ?_ GE175.out | refine below_set ?_ GE176.out | refine below_set ?_ GE188.out) | exact HB.out)) hb)
                  have n6_ := Aside0.mk (hbox)
                  have n7_ := Aside0.mk ((by rw [hg]; exact (below_size (by repeat (first | (with_reducible first | exact HB.out | apply below_alloc | apply pw_below_drewN | apply below_drew1 | refine below_set ?_ GE174.out | refine below_set ?_ GE175.out | refine below_set ?_ GE176.out | refine below_set ?_ GE188.out) | exact HB.out))) : w.heap.size ≤ gb187))
                  have n8_ := Aside0.mk ((by rw [hg]; exact (below_size (by repeat (first | (with_reducible first | exact HB.out | apply below_alloc | apply pw_below_drewN | apply below_drew1 | refine below_set ?_ GE174.out | refine below_set ?_ GE175.out | refine below_set ?_ GE176.out | refine below_set ?_ GE188.out) | exact HB.out))) : w.heap.size ≤ gb187))
                  have n9_ := Aside0.mk ((by rw [hg]; exact Nat.ne_of_lt (blk_lt (g := gb174) (o := .cells #[.int .i64 a1_0, .int .i64 a1_1] 28 (0, 0)) (by (with_reducible repeat (first | refine blk_drewN ?_ _ | refine blk_drew ?_ | refine blk_alloc ?_ _)); exact BK174.out)) : gb174 ≠ gb187))
                  have n10_ := Aside0.mk ((by rw [hg]; exact Nat.ne_of_gt (blk_lt (g := gb174) (o := .cells #[.int .i64 a1_0, .int .i64 a1_1] 28 (0, 0)) (by (with_reducible repeat (first | refine blk_drewN ?_ _ | refine blk_drew ?_ | refine blk_alloc ?_ _)); exact BK174.out)) : gb187 ≠ gb174))
                  have n11_ := Aside0.mk ((by rw [hg]; exact Nat.ne_of_lt (blk_lt (g := gb175) (o := .cells #[.int .i64 0, .int .i64 0] 28 (0, 0)) (by (with_reducible repeat (first | refine blk_drewN ?_ _ | refine blk_drew ?_ | refine blk_alloc ?_ _)); exact BK175.out)) : gb175 ≠ gb187))
                  have n12_ := Aside0.mk ((by rw [hg]; exact Nat.ne_of_gt (blk_lt (g := gb175) (o := .cells #[.int .i64 0, .int .i64 0] 28 (0, 0)) (by (with_reducible repeat (first | refine blk_drewN ?_ _ | refine blk_drew ?_ | refine blk_alloc ?_ _)); exact BK175.out)) : gb187 ≠ gb175))
                  have n13_ := Aside0.mk ((by rw [hg]; exact Nat.ne_of_lt (blk_lt (g := gb176) (o := .cells #[.int .i64 0, .int .i64 0] 28 (0, 0)) (by (with_reducible repeat (first | refine blk_drewN ?_ _ | refine blk_drew ?_ | refine blk_alloc ?_ _)); exact BK176.out)) : gb176 ≠ gb187))
                  have n14_ := Aside0.mk ((by rw [hg]; exact Nat.ne_of_gt (blk_lt (g := gb176) (o := .cells #[.int .i64 0, .int .i64 0] 28 (0, 0)) (by (with_reducible repeat (first | refine blk_drewN ?_ _ | refine blk_drew ?_ | refine blk_alloc ?_ _)); exact BK176.out)) : gb187 ≠ gb176))
                  have n15_ := Aside0.mk ((by rw [hg]; exact Nat.ne_of_lt (blk_lt (g := gb188) (o := .cells #[.int .i64 0, .int .i64 0] 61 (0, 0)) (by (with_reducible repeat (first | refine blk_drewN ?_ _ | refine blk_drew ?_ | refine blk_alloc ?_ _)); exact BK188.out)) : gb188 ≠ gb187))
                  have n16_ := Aside0.mk ((by rw [hg]; exact Nat.ne_of_gt (blk_lt (g := gb188) (o := .cells #[.int .i64 0, .int .i64 0] 61 (0, 0)) (by (with_reducible repeat (first | refine blk_drewN ?_ _ | refine blk_drew ?_ | refine blk_alloc ?_ _)); exact BK188.out)) : gb187 ≠ gb188))
                  clear HO179
                  clear BK174
                  clear BK175
                  clear BK176
                  clear BK188
                  clear HB
                  have HO179 := n0_
                  have BK174 := n1_
                  have BK175 := n2_
                  have BK176 := n3_
                  have BK188 := n4_
                  have HB := n5_
                  have BK187 := n6_
                  have GW187 := n7_
                  have GE187 := n8_
                  have NB174_187 := n9_
                  have NB187_174 := n10_
                  have NB175_187 := n11_
                  have NB187_175 := n12_
                  have NB176_187 := n13_
                  have NB187_176 := n14_
                  have NB188_187 := n15_
                  have NB187_188 := n16_
                  clear n0_ n1_ n2_ n3_ n4_ n5_ n6_ n7_ n8_ n9_ n10_ n11_ n12_ n13_ n14_ n15_ n16_
                  clear hb hbox hg
                  refine hK.out _ _ ⟨(blk_cell BK174.out 0).trans rfl, (blk_cell BK174.out 1).trans rfl⟩ (fun hHeld => ?_)
                  clear hK K
                  refine norm_ (a' := ?_) ?_ ?_
                  rotate_left
                  · show Act.put _ (some 7) _ = _
                    simp only [Act.put, List.setIfInBounds_toArray, List.set_cons_zero, List.set_cons_succ, i64_w, i32_w]
                    rfl
                  exact norm_ (by first | (simp only [putAll, Act.put, List.setIfInBounds_toArray, List.set_cons_zero, List.set_cons_succ]; done) | (simp only [putAll, Act.put, List.setIfInBounds_toArray, List.set_cons_zero, List.set_cons_succ]; rfl)) (hJ1_3_9_10 (_, gb187, gb188) _ ⟨hHeld, (by (with_reducible repeat (first | apply Kd.R_alloc | apply Kd.R_drewN | apply Kd.R_drew)); exact Kd.R_mono HO179.out (fun _ hk => ⟨hk.2, hk.1⟩)), (by (with_reducible repeat (first | refine blk_drewN ?_ _ | refine blk_drew ?_ | refine blk_alloc ?_ _)); exact BK174.out), (by (with_reducible repeat (first | refine blk_drewN ?_ _ | refine blk_drew ?_ | refine blk_alloc ?_ _)); exact BK175.out), (by (with_reducible repeat (first | refine blk_drewN ?_ _ | refine blk_drew ?_ | refine blk_alloc ?_ _)); exact BK176.out), (by (with_reducible repeat (first | refine blk_drewN ?_ _ | refine blk_drew ?_ | refine blk_alloc ?_ _)); exact BK187.out), (by (with_reducible repeat (first | refine blk_drewN ?_ _ | refine blk_drew ?_ | refine blk_alloc ?_ _)); exact BK188.out), GW187.out, GE187.out, NB174_187.out, NB187_174.out, NB175_187.out, NB187_175.out, NB176_187.out, NB187_176.out, NB188_187.out, NB187_188.out, GW188.out, GE188.out, NB174_188.out, NB188_174.out, NB175_188.out, NB188_175.out, NB176_188.out, NB188_176.out, (by repeat (first | (with_reducible first | exact HB.out | apply below_alloc | apply pw_below_drewN | apply below_drew1 | refine below_set ?_ GE174.out | refine below_set ?_ GE175.out | refine below_set ?_ GE176.out | refine below_set ?_ GE188.out | refine below_set ?_ GE187.out) | exact HB.out))⟩)
            · skip
              rintro ⟨v178, gb187⟩ w15 ⟨hS_, h0_, h1_, h2_, h3_, h4_, h5_, h6_, h7_, h8_, h9_, h10_, h11_, h12_, h13_⟩
              have n0_ : Aside0 (Kd.R k61 61 w15 w.heap.size (fun k_ => k_ ≠ gb187) v178 t177) := ⟨h0_⟩
              have n1_ : Aside0 (w15.heap[gb174]? = some (.cells #[.int .i64 a1_0, .int .i64 a1_1] 28 (0, 0))) := ⟨h1_⟩
              have n2_ : Aside0 (w15.heap[gb175]? = some (.cells #[.int .i64 0, .int .i64 0] 28 (0, 0))) := ⟨h2_⟩
              have n3_ : Aside0 (w15.heap[gb176]? = some (.cells #[.int .i64 0, .int .i64 0] 28 (0, 0))) := ⟨h3_⟩
              have n4_ : Aside0 (w15.heap[gb187]? = some (.cells #[.int .i64 0, .int .i64 0] 61 (0, 0))) := ⟨h4_⟩
              have n5_ : Aside0 (w.heap.size ≤ gb187) := ⟨h5_⟩
              have n6_ : Aside0 (w.heap.size ≤ gb187) := ⟨h6_⟩
              have n7_ : Aside0 (gb174 ≠ gb187) := ⟨h7_⟩
              have n8_ : Aside0 (gb187 ≠ gb174) := ⟨h8_⟩
              have n9_ : Aside0 (gb175 ≠ gb187) := ⟨h9_⟩
              have n10_ : Aside0 (gb187 ≠ gb175) := ⟨h10_⟩
              have n11_ : Aside0 (gb176 ≠ gb187) := ⟨h11_⟩
              have n12_ : Aside0 (gb187 ≠ gb176) := ⟨h12_⟩
              have n13_ : Aside0 (Below w.heap.size w w15) := ⟨h13_⟩
              clear BK174
              clear BK175
              clear BK176
              clear HB
              clear h0_ h1_ h2_ h3_ h4_ h5_ h6_ h7_ h8_ h9_ h10_ h11_ h12_ h13_
              have HO179 := n0_
              have BK174 := n1_
              have BK175 := n2_
              have BK176 := n3_
              have BK187 := n4_
              have GW187 := n5_
              have GE187 := n6_
              have NB174_187 := n7_
              have NB187_174 := n8_
              have NB175_187 := n9_
              have NB187_175 := n10_
              have NB176_187 := n11_
              have NB187_176 := n12_
              have HB := n13_
              clear n0_ n1_ n2_ n3_ n4_ n5_ n6_ n7_ n8_ n9_ n10_ n11_ n12_ n13_
              have hHeld : w15.cell? ⟨gb174, 0, none⟩ = some (.int .i64 a1_0) ∧ w15.cell? ⟨gb174, 1, none⟩ = some (.int .i64 a1_1) := hS_
              obtain ⟨Ao16, co16, eo16⟩ := Kd.R_slice HO179.out
              (first | subst eo16 | (injection eo16 with f1_ f2_ f3_; have f4_ := f1_.symm; have f5_ := f3_.symm; clear f1_ f2_ f3_; subst f4_; subst f5_))
              refine norm_ (a' := ?_) ?_ ?_
              rotate_left
              · simp only [putAll, Act.put, List.setIfInBounds_toArray, List.set_cons_zero, List.set_cons_succ]
                rfl
              refine two_ (i := 4) (j := 10) (Ni := some 14) (Nj := some 8) #[true, true, true, true, true, false, false, false, false, true, false, false, false, false] #[true, true, true, true, false, false, false, false, false, true, true, false, false, false] rfl rfl rfl rfl (two_of HT_.out (by kernel_rfl)) (by decide) (by decide) (fun K hK => ?_) (fun K hK => ?_)
              · skip
                refine goes_ Try.func44 (by kernel_rfl) rfl #[.slice Ao16 t177.length co16, .agg #[.int .i64 t180, .int .i64 t181]] (by rfl) rfl rfl (by (try simp only [List.map_toArray, List.map_cons, List.map_nil]); first | done | rfl | (simp only [List.length_drop, List.length_take]; rfl)) ?_
                with_reducible refine (ranges_Ranges_Find.calls _ _ t177 t180 t181 t182 t183 t184 t185 t186 _ ?side1 ?side2 A5.out).mono ?_
                (case side1 => repeat (first | exact (Kd.R_reads' HO179.out).2.2 | (with_reducible refine Kd.C_alloc ?_ _) | (with_reducible refine Kd.C_drewN ?_ _) | (with_reducible refine Kd.C_drew ?_)))
                (case side2 => exact (Kd.R_reads' HO179.out).2.1)
                rintro e w17 ⟨rfl, hb⟩
                refine ⟨_, rfl, ?_⟩
                have n0_ := Aside0.mk (Kd.R_below (by (with_reducible repeat (first | apply Kd.R_alloc | apply Kd.R_drewN | apply Kd.R_drew)); exact HO179.out) hb)
                have n1_ := Aside0.mk (blk_below (g := gb174) (o := .cells #[.int .i64 a1_0, .int .i64 a1_1] 28 (0, 0)) (by (with_reducible repeat (first | refine blk_drewN ?_ _ | refine blk_drew ?_ | refine blk_alloc ?_ _)); exact BK174.out) hb)
                have n2_ := Aside0.mk (blk_below (g := gb175) (o := .cells #[.int .i64 0, .int .i64 0] 28 (0, 0)) (by (with_reducible repeat (first | refine blk_drewN ?_ _ | refine blk_drew ?_ | refine blk_alloc ?_ _)); exact BK175.out) hb)
                have n3_ := Aside0.mk (blk_below (g := gb176) (o := .cells #[.int .i64 0, .int .i64 0] 28 (0, 0)) (by (with_reducible repeat (first | refine blk_drewN ?_ _ | refine blk_drew ?_ | refine blk_alloc ?_ _)); exact BK176.out) hb)
                have n4_ := Aside0.mk (blk_below (g := gb187) (o := .cells #[.int .i64 0, .int .i64 0] 61 (0, 0)) (by (with_reducible repeat (first | refine blk_drewN ?_ _ | refine blk_drew ?_ | refine blk_alloc ?_ _)); exact BK187.out) hb)
                have n5_ := Aside0.mk (below_step (by repeat (first | (with_reducible first | exact HB.out | apply below_alloc | apply pw_below_drewN | apply below_drew1 | refine below_set ?_ GE174.out | refine below_set ?_ GE175.out | refine below_set ?_ GE176.out | refine below_set ?_ GE187.out) | exact HB.out)) hb)
                clear HO179
                clear BK174
                clear BK175
                clear BK176
                clear BK187
                clear HB
                have HO179 := n0_
                have BK174 := n1_
                have BK175 := n2_
                have BK176 := n3_
                have BK187 := n4_
                have HB := n5_
                clear n0_ n1_ n2_ n3_ n4_ n5_
                (try clear hb)
                (try clear hb2)
                (try clear hk)
                (try clear hi)
                refine hK.out _ _ ⟨(blk_cell BK174.out 0).trans rfl, (blk_cell BK174.out 1).trans rfl⟩ (fun hHeld => ?_)
                clear hK K
                refine norm_ (a' := ?_) ?_ ?_
                rotate_left
                · show Act.put _ (some 14) _ = _
                  simp only [Act.put, List.setIfInBounds_toArray, List.set_cons_zero, List.set_cons_succ, i64_w, i32_w]
                  rfl
                refine pure_ (i := 5) (N := some 9) (v := ?_) (a' := ?_) #[true, true, true, true, true, true, false, false, false, true, false, false, false, false] rfl rfl (any_of HT_.out (by kernel_rfl)) (fun _ _ _ h => h) (Or.inl ⟨by rfl, ?_⟩) ?_ ?_
                rotate_left
                · intro w'
                  go_simp
                  with_reducible rfl
                rotate_left
                · simp only [Act.put, List.setIfInBounds_toArray, List.set_cons_zero, List.set_cons_succ, i64_w, i32_w]
                  rfl
                refine pure_ (i := 6) (N := some 15) (v := ?_) (a' := ?_) #[true, true, true, true, true, true, true, false, false, true, false, false, false, false] rfl rfl (any_of HT_.out (by kernel_rfl)) (fun _ _ _ h => h) (Or.inl ⟨by rfl, ?_⟩) ?_ ?_
                rotate_left
                · intro w'
                  go_simp
                  with_reducible rfl
                rotate_left
                · simp only [Act.put, List.setIfInBounds_toArray, List.set_cons_zero, List.set_cons_succ, i64_w, i32_w]
                  rfl
                refine pure_ (i := 7) (N := some 16) (v := ?_) (a' := ?_) #[true, true, true, true, true, true, true, true, false, true, false, false, false, false] rfl rfl (any_of HT_.out (by kernel_rfl)) (fun _ _ _ h => h) (Or.inl ⟨by rfl, ?_⟩) ?_ ?_
                rotate_left
                · intro w'
                  go_simp
                  with_reducible rfl
                rotate_left
                · simp only [Act.put, List.setIfInBounds_toArray, List.set_cons_zero, List.set_cons_succ, i64_w, i32_w]
                  rfl
                refine pure_ (i := 8) (N := some 17) (v := ?_) (a' := ?_) #[true, true, true, true, true, true, true, true, true, true, false, false, false, false] rfl rfl (any_of HT_.out (by kernel_rfl)) (fun _ _ _ h => h) (Or.inl ⟨by rfl, ?_⟩) ?_ ?_
                rotate_left
                · intro w'
                  go_simp
                  with_reducible rfl
                rotate_left
                · simp only [Act.put, List.setIfInBounds_toArray, List.set_cons_zero, List.set_cons_succ, i64_w, i32_w]
                  rfl
                exact norm_ (by first | (simp only [putAll, Act.put, List.setIfInBounds_toArray, List.set_cons_zero, List.set_cons_succ]; done) | (simp only [putAll, Act.put, List.setIfInBounds_toArray, List.set_cons_zero, List.set_cons_succ]; rfl)) (hJ1_3_4_9 (.slice Ao16 t177.length co16, gb187) _ ⟨hHeld, (by (with_reducible repeat (first | apply Kd.R_alloc | apply Kd.R_drewN | apply Kd.R_drew)); exact HO179.out), (by (with_reducible repeat (first | refine blk_drewN ?_ _ | refine blk_drew ?_ | refine blk_alloc ?_ _)); exact BK174.out), (by (with_reducible repeat (first | refine blk_drewN ?_ _ | refine blk_drew ?_ | refine blk_alloc ?_ _)); exact BK175.out), (by (with_reducible repeat (first | refine blk_drewN ?_ _ | refine blk_drew ?_ | refine blk_alloc ?_ _)); exact BK176.out), (by (with_reducible repeat (first | refine blk_drewN ?_ _ | refine blk_drew ?_ | refine blk_alloc ?_ _)); exact BK187.out), GW187.out, GE187.out, NB174_187.out, NB187_174.out, NB175_187.out, NB187_175.out, NB176_187.out, NB187_176.out, (by repeat (first | (with_reducible first | exact HB.out | apply below_alloc | apply pw_below_drewN | apply below_drew1 | refine below_set ?_ GE174.out | refine below_set ?_ GE175.out | refine below_set ?_ GE176.out | refine below_set ?_ GE187.out) | exact HB.out))⟩)
              · skip
                refine box_step ?hg (N := 8) ?hd (cs := #[.int .i64 0, .int .i64 0]) (t := 61) ?hr ?_; (case hd => rfl); (case hg => rfl); (case hr => first | (go_simp; done) | (go_simp; rfl))
                intro gb188 hg w16 hbox hb
                have n0_ := Aside0.mk (Kd.R_below (Kd.R_elderB (by (with_reducible repeat (first | apply Kd.R_alloc | apply Kd.R_drewN | apply Kd.R_drew)); exact HO179.out) gb188 (Nat.le_of_eq hg.symm)) hb)
                have n1_ := Aside0.mk (blk_below (g := gb174) (o := .cells #[.int .i64 a1_0, .int .i64 a1_1] 28 (0, 0)) (by (with_reducible repeat (first | refine blk_drewN ?_ _ | refine blk_drew ?_ | refine blk_alloc ?_ _)); exact BK174.out) hb)
                have n2_ := Aside0.mk (blk_below (g := gb175) (o := .cells #[.int .i64 0, .int .i64 0] 28 (0, 0)) (by (with_reducible repeat (first | refine blk_drewN ?_ _ | refine blk_drew ?_ | refine blk_alloc ?_ _)); exact BK175.out) hb)
                have n3_ := Aside0.mk (blk_below (g := gb176) (o := .cells #[.int .i64 0, .int .i64 0] 28 (0, 0)) (by (with_reducible repeat (first | refine blk_drewN ?_ _ | refine blk_drew ?_ | refine blk_alloc ?_ _)); exact BK176.out) hb)
                have n4_ := Aside0.mk (blk_below (g := gb187) (o := .cells #[.int .i64 0, .int .i64 0] 61 (0, 0)) (by (with_reducible repeat (first | refine blk_drewN ?_ _ | refine blk_drew ?_ | refine blk_alloc ?_ _)); exact BK187.out) hb)
                have n5_ := Aside0.mk (below_step (by repeat (first | (with_reducible first | exact HB.out | apply below_alloc | apply pw_below_drewN | apply below_drew1 | refine below_set ?_ GE174.out | refine below_set ?_ GE175.out | refine below_set ?_ GE176.out | refine below_set ?_ GE187.out) | exact HB.out)) hb)
                have n6_ := Aside0.mk (hbox)
                have n7_ := Aside0.mk ((by rw [hg]; exact (below_size (by repeat (first | (with_reducible first | exact HB.out | apply below_alloc | apply pw_below_drewN | apply below_drew1 | refine below_set ?_ GE174.out | refine below_set ?_ GE175.out | refine below_set ?_ GE176.out | refine below_set ?_ GE187.out) | exact HB.out))) : w.heap.size ≤ gb188))
                have n8_ := Aside0.mk ((by rw [hg]; exact (below_size (by repeat (first | (with_reducible first | exact HB.out | apply below_alloc | apply pw_below_drewN | apply below_drew1 | refine below_set ?_ GE174.out | refine below_set ?_ GE175.out | refine below_set ?_ GE176.out | refine below_set ?_ GE187.out) | exact HB.out))) : w.heap.size ≤ gb188))
                have n9_ := Aside0.mk ((by rw [hg]; exact Nat.ne_of_lt (blk_lt (g := gb174) (o := .cells #[.int .i64 a1_0, .int .i64 a1_1] 28 (0, 0)) (by (with_reducible repeat (first | refine blk_drewN ?_ _ | refine blk_drew ?_ | refine blk_alloc ?_ _)); exact BK174.out)) : gb174 ≠ gb188))
                have n10_ := Aside0.mk ((by rw [hg]; exact Nat.ne_of_gt (blk_lt (g := gb174) (o := .cells #[.int .i64 a1_0, .int .i64 a1_1] 28 (0, 0)) (by (with_reducible repeat (first | refine blk_drewN ?_ _ | refine blk_drew ?_ | refine blk_alloc ?_ _)); exact BK174.out)) : gb188 ≠ gb174))
                have n11_ := Aside0.mk ((by rw [hg]; exact Nat.ne_of_lt (blk_lt (g := gb175) (o := .cells #[.int .i64 0, .int .i64 0] 28 (0, 0)) (by (with_reducible repeat (first | refine blk_drewN ?_ _ | refine blk_drew ?_ | refine blk_alloc ?_ _)); exact BK175.out)) : gb175 ≠ gb188))
                have n12_ := Aside0.mk ((by rw [hg]; exact Nat.ne_of_gt (blk_lt (g := gb175) (o := .cells #[.int .i64 0, .int .i64 0] 28 (0, 0)) (by (with_reducible repeat (first | refine blk_drewN ?_ _ | refine blk_drew ?_ | refine blk_alloc ?_ _)); exact BK175.out)) : gb188 ≠ gb175))
                have n13_ := Aside0.mk ((by rw [hg]; exact Nat.ne_of_lt (blk_lt (g := gb176) (o := .cells #[.int .i64 0, .int .i64 0] 28 (0, 0)) (by (with_reducible repeat (first | refine blk_drewN ?_ _ | refine blk_drew ?_ | refine blk_alloc ?_ _)); exact BK176.out)) : gb176 ≠ gb188))
                have n14_ := Aside0.mk ((by rw [hg]; exact Nat.ne_of_gt (blk_lt (g := gb176) (o := .cells #[.int .i64 0, .int .i64 0] 28 (0, 0)) (by (with_reducible repeat (first | refine blk_drewN ?_ _ | refine blk_drew ?_ | refine blk_alloc ?_ _)); exact BK176.out)) : gb188 ≠ gb176))
                have n15_ := Aside0.mk ((by rw [hg]; exact Nat.ne_of_lt (blk_lt (g := gb187) (o := .cells #[.int .i64 0, .int .i64 0] 61 (0, 0)) (by (with_reducible repeat (first | refine blk_drewN ?_ _ | refine blk_drew ?_ | refine blk_alloc ?_ _)); exact BK187.out)) : gb187 ≠ gb188))
                have n16_ := Aside0.mk ((by rw [hg]; exact Nat.ne_of_gt (blk_lt (g := gb187) (o := .cells #[.int .i64 0, .int .i64 0] 61 (0, 0)) (by (with_reducible repeat (first | refine blk_drewN ?_ _ | refine blk_drew ?_ | refine blk_alloc ?_ _)); exact BK187.out)) : gb188 ≠ gb187))
                clear HO179
                clear BK174
                clear BK175
                clear BK176
                clear BK187
                clear HB
                have HO179 := n0_
                have BK174 := n1_
                have BK175 := n2_
                have BK176 := n3_
                have BK187 := n4_
                have HB := n5_
                have BK188 := n6_
                have GW188 := n7_
                have GE188 := n8_
                have NB174_188 := n9_
                have NB188_174 := n10_
                have NB175_188 := n11_
                have NB188_175 := n12_
                have NB176_188 := n13_
                have NB188_176 := n14_
                have NB187_188 := n15_
                have NB188_187 := n16_
                clear n0_ n1_ n2_ n3_ n4_ n5_ n6_ n7_ n8_ n9_ n10_ n11_ n12_ n13_ n14_ n15_ n16_
                clear hb hbox hg
                refine hK.out _ _ ⟨(blk_cell BK174.out 0).trans rfl, (blk_cell BK174.out 1).trans rfl⟩ (fun hHeld => ?_)
                clear hK K
                refine norm_ (a' := ?_) ?_ ?_
                rotate_left
                · show Act.put _ (some 8) _ = _
                  simp only [Act.put, List.setIfInBounds_toArray, List.set_cons_zero, List.set_cons_succ, i64_w, i32_w]
                  rfl
                exact norm_ (by first | (simp only [putAll, Act.put, List.setIfInBounds_toArray, List.set_cons_zero, List.set_cons_succ]; done) | (simp only [putAll, Act.put, List.setIfInBounds_toArray, List.set_cons_zero, List.set_cons_succ]; rfl)) (hJ1_3_9_10 (_, gb187, gb188) _ ⟨hHeld, (by (with_reducible repeat (first | apply Kd.R_alloc | apply Kd.R_drewN | apply Kd.R_drew)); exact HO179.out), (by (with_reducible repeat (first | refine blk_drewN ?_ _ | refine blk_drew ?_ | refine blk_alloc ?_ _)); exact BK174.out), (by (with_reducible repeat (first | refine blk_drewN ?_ _ | refine blk_drew ?_ | refine blk_alloc ?_ _)); exact BK175.out), (by (with_reducible repeat (first | refine blk_drewN ?_ _ | refine blk_drew ?_ | refine blk_alloc ?_ _)); exact BK176.out), (by (with_reducible repeat (first | refine blk_drewN ?_ _ | refine blk_drew ?_ | refine blk_alloc ?_ _)); exact BK187.out), (by (with_reducible repeat (first | refine blk_drewN ?_ _ | refine blk_drew ?_ | refine blk_alloc ?_ _)); exact BK188.out), GW187.out, GE187.out, NB174_187.out, NB187_174.out, NB175_187.out, NB187_175.out, NB176_187.out, NB187_176.out, NB188_187.out, NB187_188.out, GW188.out, GE188.out, NB174_188.out, NB188_174.out, NB175_188.out, NB188_175.out, NB176_188.out, NB188_176.out, (by repeat (first | (with_reducible first | exact HB.out | apply below_alloc | apply pw_below_drewN | apply below_drew1 | refine below_set ?_ GE174.out | refine below_set ?_ GE175.out | refine below_set ?_ GE176.out | refine below_set ?_ GE187.out | refine below_set ?_ GE188.out) | exact HB.out))⟩)
          · skip
            rintro v178 w16 ⟨hS_, h0_, h1_, h2_, h3_, h4_⟩
            have n0_ : Aside0 (Kd.R k61 61 w16 w.heap.size (fun _ => True) v178 t177) := ⟨h0_⟩
            have n1_ : Aside0 (w16.heap[gb174]? = some (.cells #[.int .i64 a1_0, .int .i64 a1_1] 28 (0, 0))) := ⟨h1_⟩
            have n2_ : Aside0 (w16.heap[gb175]? = some (.cells #[.int .i64 0, .int .i64 0] 28 (0, 0))) := ⟨h2_⟩
            have n3_ : Aside0 (w16.heap[gb176]? = some (.cells #[.int .i64 0, .int .i64 0] 28 (0, 0))) := ⟨h3_⟩
            have n4_ : Aside0 (Below w.heap.size w w16) := ⟨h4_⟩
            clear BK174
            clear BK175
            clear BK176
            clear HB
            clear h0_ h1_ h2_ h3_ h4_
            have HO179 := n0_
            have BK174 := n1_
            have BK175 := n2_
            have BK176 := n3_
            have HB := n4_
            clear n0_ n1_ n2_ n3_ n4_
            have hHeld : w16.cell? ⟨gb174, 0, none⟩ = some (.int .i64 a1_0) ∧ w16.cell? ⟨gb174, 1, none⟩ = some (.int .i64 a1_1) := hS_
            refine norm_ (a' := ?_) ?_ ?_
            rotate_left
            · simp only [putAll, Act.put, List.setIfInBounds_toArray, List.set_cons_zero, List.set_cons_succ]
              rfl
            refine two_ (i := 9) (j := 10) (Ni := some 7) (Nj := some 8) #[true, true, true, true, true, true, true, true, true, true, false, false, false, false] #[true, true, true, true, true, true, true, true, true, false, true, false, false, false] rfl rfl rfl rfl (two_of HT_.out (by kernel_rfl)) (by decide) (by decide) (fun K hK => ?_) (fun K hK => ?_)
            · skip
              refine box_step ?hg (N := 7) ?hd (cs := #[.int .i64 0, .int .i64 0]) (t := 61) ?hr ?_; (case hd => rfl); (case hg => rfl); (case hr => first | (go_simp; done) | (go_simp; rfl))
              intro gb187 hg w17 hbox hb
              have n0_ := Aside0.mk (Kd.R_below (Kd.R_elderB (by (with_reducible repeat (first | apply Kd.R_alloc | apply Kd.R_drewN | apply Kd.R_drew)); exact HO179.out) gb187 (Nat.le_of_eq hg.symm)) hb)
              have n1_ := Aside0.mk (blk_below (g := gb174) (o := .cells #[.int .i64 a1_0, .int .i64 a1_1] 28 (0, 0)) (by (with_reducible repeat (first | refine blk_drewN ?_ _ | refine blk_drew ?_ | refine blk_alloc ?_ _)); exact BK174.out) hb)
              have n2_ := Aside0.mk (blk_below (g := gb175) (o := .cells #[.int .i64 0, .int .i64 0] 28 (0, 0)) (by (with_reducible repeat (first | refine blk_drewN ?_ _ | refine blk_drew ?_ | refine blk_alloc ?_ _)); exact BK175.out) hb)
              have n3_ := Aside0.mk (blk_below (g := gb176) (o := .cells #[.int .i64 0, .int .i64 0] 28 (0, 0)) (by (with_reducible repeat (first | refine blk_drewN ?_ _ | refine blk_drew ?_ | refine blk_alloc ?_ _)); exact BK176.out) hb)
              have n4_ := Aside0.mk (below_step (by repeat (first | (with_reducible first | exact HB.out | apply below_alloc | apply pw_below_drewN | apply below_drew1 | refine below_set ?_ GE174.out | refine below_set ?_ GE175.out | refine below_set ?_ GE176.out) | exact HB.out)) hb)
              have n5_ := Aside0.mk (hbox)
              have n6_ := Aside0.mk ((by rw [hg]; exact (below_size (by repeat (first | (with_reducible first | exact HB.out | apply below_alloc | apply pw_below_drewN | apply below_drew1 | refine below_set ?_ GE174.out | refine below_set ?_ GE175.out | refine below_set ?_ GE176.out) | exact HB.out))) : w.heap.size ≤ gb187))
              have n7_ := Aside0.mk ((by rw [hg]; exact (below_size (by repeat (first | (with_reducible first | exact HB.out | apply below_alloc | apply pw_below_drewN | apply below_drew1 | refine below_set ?_ GE174.out | refine below_set ?_ GE175.out | refine below_set ?_ GE176.out) | exact HB.out))) : w.heap.size ≤ gb187))
              have n8_ := Aside0.mk ((by rw [hg]; exact Nat.ne_of_lt (blk_lt (g := gb174) (o := .cells #[.int .i64 a1_0, .int .i64 a1_1] 28 (0, 0)) (by (with_reducible repeat (first | refine blk_drewN ?_ _ | refine blk_drew ?_ | refine blk_alloc ?_ _)); exact BK174.out)) : gb174 ≠ gb187))
              have n9_ := Aside0.mk ((by rw [hg]; exact Nat.ne_of_gt (blk_lt (g := gb174) (o := .cells #[.int .i64 a1_0, .int .i64 a1_1] 28 (0, 0)) (by (with_reducible repeat (first | refine blk_drewN ?_ _ | refine blk_drew ?_ | refine blk_alloc ?_ _)); exact BK174.out)) : gb187 ≠ gb174))
              have n10_ := Aside0.mk ((by rw [hg]; exact Nat.ne_of_lt (blk_lt (g := gb175) (o := .cells #[.int .i64 0, .int .i64 0] 28 (0, 0)) (by (with_reducible repeat (first | refine blk_drewN ?_ _ | refine blk_drew ?_ | refine blk_alloc ?_ _)); exact BK175.out)) : gb175 ≠ gb187))
              have n11_ := Aside0.mk ((by rw [hg]; exact Nat.ne_of_gt (blk_lt (g := gb175) (o := .cells #[.int .i64 0, .int .i64 0] 28 (0, 0)) (by (with_reducible repeat (first | refine blk_drewN ?_ _ | refine blk_drew ?_ | refine blk_alloc ?_ _)); exact BK175.out)) : gb187 ≠ gb175))
              have n12_ := Aside0.mk ((by rw [hg]; exact Nat.ne_of_lt (blk_lt (g := gb176) (o := .cells #[.int .i64 0, .int .i64 0] 28 (0, 0)) (by (with_reducible repeat (first | refine blk_drewN ?_ _ | refine blk_drew ?_ | refine blk_alloc ?_ _)); exact BK176.out)) : gb176 ≠ gb187))
              have n13_ := Aside0.mk ((by rw [hg]; exact Nat.ne_of_gt (blk_lt (g := gb176) (o := .cells #[.int .i64 0, .int .i64 0] 28 (0, 0)) (by (with_reducible repeat (first | refine blk_drewN ?_ _ | refine blk_drew ?_ | refine blk_alloc ?_ _)); exact BK176.out)) : gb187 ≠ gb176))
              clear HO179
              clear BK174
              clear BK175
              clear BK176
              clear HB
              have HO179 := n0_
              have BK174 := n1_
              have BK175 := n2_
              have BK176 := n3_
              have HB := n4_
              have BK187 := n5_
              have GW187 := n6_
              have GE187 := n7_
              have NB174_187 := n8_
              have NB187_174 := n9_
              have NB175_187 := n10_
              have NB187_175 := n11_
              have NB176_187 := n12_
              have NB187_176 := n13_
              clear n0_ n1_ n2_ n3_ n4_ n5_ n6_ n7_ n8_ n9_ n10_ n11_ n12_ n13_
              clear hb hbox hg
              refine hK.out _ _ ⟨(blk_cell BK174.out 0).trans rfl, (blk_cell BK174.out 1).trans rfl⟩ (fun hHeld => ?_)
              clear hK K
              refine norm_ (a' := ?_) ?_ ?_
              rotate_left
              · show Act.put _ (some 7) _ = _
                simp only [Act.put, List.setIfInBounds_toArray, List.set_cons_zero, List.set_cons_succ, i64_w, i32_w]
                rfl
              exact norm_ (by first | (simp only [putAll, Act.put, List.setIfInBounds_toArray, List.set_cons_zero, List.set_cons_succ]; done) | (simp only [putAll, Act.put, List.setIfInBounds_toArray, List.set_cons_zero, List.set_cons_succ]; rfl)) (hJ1_3_4_9 (_, gb187) _ ⟨hHeld, (by (with_reducible repeat (first | apply Kd.R_alloc | apply Kd.R_drewN | apply Kd.R_drew)); exact Kd.R_mono HO179.out (fun _ hk => hk.2)), (by (with_reducible repeat (first | refine blk_drewN ?_ _ | refine blk_drew ?_ | refine blk_alloc ?_ _)); exact BK174.out), (by (with_reducible repeat (first | refine blk_drewN ?_ _ | refine blk_drew ?_ | refine blk_alloc ?_ _)); exact BK175.out), (by (with_reducible repeat (first | refine blk_drewN ?_ _ | refine blk_drew ?_ | refine blk_alloc ?_ _)); exact BK176.out), (by (with_reducible repeat (first | refine blk_drewN ?_ _ | refine blk_drew ?_ | refine blk_alloc ?_ _)); exact BK187.out), GW187.out, GE187.out, NB174_187.out, NB187_174.out, NB175_187.out, NB187_175.out, NB176_187.out, NB187_176.out, (by repeat (first | (with_reducible first | exact HB.out | apply below_alloc | apply pw_below_drewN | apply below_drew1 | refine below_set ?_ GE174.out | refine below_set ?_ GE175.out | refine below_set ?_ GE176.out | refine below_set ?_ GE187.out) | exact HB.out))⟩)
            · skip
              refine box_step ?hg (N := 8) ?hd (cs := #[.int .i64 0, .int .i64 0]) (t := 61) ?hr ?_; (case hd => rfl); (case hg => rfl); (case hr => first | (go_simp; done) | (go_simp; rfl))
              intro gb188 hg w17 hbox hb
              have n0_ := Aside0.mk (Kd.R_below (Kd.R_elderB (by (with_reducible repeat (first | apply Kd.R_alloc | apply Kd.R_drewN | apply Kd.R_drew)); exact HO179.out) gb188 (Nat.le_of_eq hg.symm)) hb)
              have n1_ := Aside0.mk (blk_below (g := gb174) (o := .cells #[.int .i64 a1_0, .int .i64 a1_1] 28 (0, 0)) (by (with_reducible repeat (first | refine blk_drewN ?_ _ | refine blk_drew ?_ | refine blk_alloc ?_ _)); exact BK174.out) hb)
              have n2_ := Aside0.mk (blk_below (g := gb175) (o := .cells #[.int .i64 0, .int .i64 0] 28 (0, 0)) (by (with_reducible repeat (first | refine blk_drewN ?_ _ | refine blk_drew ?_ | refine blk_alloc ?_ _)); exact BK175.out) hb)
              have n3_ := Aside0.mk (blk_below (g := gb176) (o := .cells #[.int .i64 0, .int .i64 0] 28 (0, 0)) (by (with_reducible repeat (first | refine blk_drewN ?_ _ | refine blk_drew ?_ | refine blk_alloc ?_ _)); exact BK176.out) hb)
              have n4_ := Aside0.mk (below_step (by repeat (first | (with_reducible first | exact HB.out | apply below_alloc | apply pw_below_drewN | apply below_drew1 | refine below_set ?_ GE174.out | refine below_set ?_ GE175.out | refine below_set ?_ GE176.out) | exact HB.out)) hb)
              have n5_ := Aside0.mk (hbox)
              have n6_ := Aside0.mk ((by rw [hg]; exact (below_size (by repeat (first | (with_reducible first | exact HB.out | apply below_alloc | apply pw_below_drewN | apply below_drew1 | refine below_set ?_ GE174.out | refine below_set ?_ GE175.out | refine below_set ?_ GE176.out) | exact HB.out))) : w.heap.size ≤ gb188))
              have n7_ := Aside0.mk ((by rw [hg]; exact (below_size (by repeat (first | (with_reducible first | exact HB.out | apply below_alloc | apply pw_below_drewN | apply below_drew1 | refine below_set ?_ GE174.out | refine below_set ?_ GE175.out | refine below_set ?_ GE176.out) | exact HB.out))) : w.heap.size ≤ gb188))
              have n8_ := Aside0.mk ((by rw [hg]; exact Nat.ne_of_lt (blk_lt (g := gb174) (o := .cells #[.int .i64 a1_0, .int .i64 a1_1] 28 (0, 0)) (by (with_reducible repeat (first | refine blk_drewN ?_ _ | refine blk_drew ?_ | refine blk_alloc ?_ _)); exact BK174.out)) : gb174 ≠ gb188))
              have n9_ := Aside0.mk ((by rw [hg]; exact Nat.ne_of_gt (blk_lt (g := gb174) (o := .cells #[.int .i64 a1_0, .int .i64 a1_1] 28 (0, 0)) (by (with_reducible repeat (first | refine blk_drewN ?_ _ | refine blk_drew ?_ | refine blk_alloc ?_ _)); exact BK174.out)) : gb188 ≠ gb174))
              have n10_ := Aside0.mk ((by rw [hg]; exact Nat.ne_of_lt (blk_lt (g := gb175) (o := .cells #[.int .i64 0, .int .i64 0] 28 (0, 0)) (by (with_reducible repeat (first | refine blk_drewN ?_ _ | refine blk_drew ?_ | refine blk_alloc ?_ _)); exact BK175.out)) : gb175 ≠ gb188))
              have n11_ := Aside0.mk ((by rw [hg]; exact Nat.ne_of_gt (blk_lt (g := gb175) (o := .cells #[.int .i64 0, .int .i64 0] 28 (0, 0)) (by (with_reducible repeat (first | refine blk_drewN ?_ _ | refine blk_drew ?_ | refine blk_alloc ?_ _)); exact BK175.out)) : gb188 ≠ gb175))
              have n12_ := Aside0.mk ((by rw [hg]; exact Nat.ne_of_lt (blk_lt (g := gb176) (o := .cells #[.int .i64 0, .int .i64 0] 28 (0, 0)) (by (with_reducible repeat (first | refine blk_drewN ?_ _ | refine blk_drew ?_ | refine blk_alloc ?_ _)); exact BK176.out)) : gb176 ≠ gb188))
              have n13_ := Aside0.mk ((by rw [hg]; exact Nat.ne_of_gt (blk_lt (g := gb176) (o := .cells #[.int .i64 0, .int .i64 0] 28 (0, 0)) (by (with_reducible repeat (first | refine blk_drewN ?_ _ | refine blk_drew ?_ | refine blk_alloc ?_ _)); exact BK176.out)) : gb188 ≠ gb176))
              clear HO179
              clear BK174
              clear BK175
              clear BK176
              clear HB
              have HO179 := n0_
              have BK174 := n1_
              have BK175 := n2_
              have BK176 := n3_
              have HB := n4_
              have BK188 := n5_
              have GW188 := n6_
              have GE188 := n7_
              have NB174_188 := n8_
              have NB188_174 := n9_
              have NB175_188 := n10_
              have NB188_175 := n11_
              have NB176_188 := n12_
              have NB188_176 := n13_
              clear n0_ n1_ n2_ n3_ n4_ n5_ n6_ n7_ n8_ n9_ n10_ n11_ n12_ n13_
              clear hb hbox hg
              refine hK.out _ _ ⟨(blk_cell BK174.out 0).trans rfl, (blk_cell BK174.out 1).trans rfl⟩ (fun hHeld => ?_)
              clear hK K
              refine norm_ (a' := ?_) ?_ ?_
              rotate_left
              · show Act.put _ (some 8) _ = _
                simp only [Act.put, List.setIfInBounds_toArray, List.set_cons_zero, List.set_cons_succ, i64_w, i32_w]
                rfl
              exact norm_ (by first | (simp only [putAll, Act.put, List.setIfInBounds_toArray, List.set_cons_zero, List.set_cons_succ]; done) | (simp only [putAll, Act.put, List.setIfInBounds_toArray, List.set_cons_zero, List.set_cons_succ]; rfl)) (hJ1_3_4_10 (_, gb188) _ ⟨hHeld, (by (with_reducible repeat (first | apply Kd.R_alloc | apply Kd.R_drewN | apply Kd.R_drew)); exact Kd.R_mono HO179.out (fun _ hk => hk.2)), (by (with_reducible repeat (first | refine blk_drewN ?_ _ | refine blk_drew ?_ | refine blk_alloc ?_ _)); exact BK174.out), (by (with_reducible repeat (first | refine blk_drewN ?_ _ | refine blk_drew ?_ | refine blk_alloc ?_ _)); exact BK175.out), (by (with_reducible repeat (first | refine blk_drewN ?_ _ | refine blk_drew ?_ | refine blk_alloc ?_ _)); exact BK176.out), (by (with_reducible repeat (first | refine blk_drewN ?_ _ | refine blk_drew ?_ | refine blk_alloc ?_ _)); exact BK188.out), GW188.out, GE188.out, NB174_188.out, NB188_174.out, NB175_188.out, NB188_175.out, NB176_188.out, NB188_176.out, (by repeat (first | (with_reducible first | exact HB.out | apply below_alloc | apply pw_below_drewN | apply below_drew1 | refine below_set ?_ GE174.out | refine below_set ?_ GE175.out | refine below_set ?_ GE176.out | refine below_set ?_ GE188.out) | exact HB.out))⟩)
        · skip
          rintro ⟨v178, gb187, gb188⟩ w16 ⟨hS_, h0_, h1_, h2_, h3_, h4_, h5_, h6_, h7_, h8_, h9_, h10_, h11_, h12_, h13_, h14_, h15_, h16_, h17_, h18_, h19_, h20_, h21_, h22_, h23_, h24_⟩
          have n0_ : Aside0 (Kd.R k61 61 w16 w.heap.size (fun k_ => k_ ≠ gb187 ∧ k_ ≠ gb188) v178 t177) := ⟨h0_⟩
          have n1_ : Aside0 (w16.heap[gb174]? = some (.cells #[.int .i64 a1_0, .int .i64 a1_1] 28 (0, 0))) := ⟨h1_⟩
          have n2_ : Aside0 (w16.heap[gb175]? = some (.cells #[.int .i64 0, .int .i64 0] 28 (0, 0))) := ⟨h2_⟩
          have n3_ : Aside0 (w16.heap[gb176]? = some (.cells #[.int .i64 0, .int .i64 0] 28 (0, 0))) := ⟨h3_⟩
          have n4_ : Aside0 (w16.heap[gb187]? = some (.cells #[.int .i64 0, .int .i64 0] 61 (0, 0))) := ⟨h4_⟩
          have n5_ : Aside0 (w16.heap[gb188]? = some (.cells #[.int .i64 0, .int .i64 0] 61 (0, 0))) := ⟨h5_⟩
          have n6_ : Aside0 (w.heap.size ≤ gb187) := ⟨h6_⟩
          have n7_ : Aside0 (w.heap.size ≤ gb187) := ⟨h7_⟩
          have n8_ : Aside0 (gb174 ≠ gb187) := ⟨h8_⟩
          have n9_ : Aside0 (gb187 ≠ gb174) := ⟨h9_⟩
          have n10_ : Aside0 (gb175 ≠ gb187) := ⟨h10_⟩
          have n11_ : Aside0 (gb187 ≠ gb175) := ⟨h11_⟩
          have n12_ : Aside0 (gb176 ≠ gb187) := ⟨h12_⟩
          have n13_ : Aside0 (gb187 ≠ gb176) := ⟨h13_⟩
          have n14_ : Aside0 (gb188 ≠ gb187) := ⟨h14_⟩
          have n15_ : Aside0 (gb187 ≠ gb188) := ⟨h15_⟩
          have n16_ : Aside0 (w.heap.size ≤ gb188) := ⟨h16_⟩
          have n17_ : Aside0 (w.heap.size ≤ gb188) := ⟨h17_⟩
          have n18_ : Aside0 (gb174 ≠ gb188) := ⟨h18_⟩
          have n19_ : Aside0 (gb188 ≠ gb174) := ⟨h19_⟩
          have n20_ : Aside0 (gb175 ≠ gb188) := ⟨h20_⟩
          have n21_ : Aside0 (gb188 ≠ gb175) := ⟨h21_⟩
          have n22_ : Aside0 (gb176 ≠ gb188) := ⟨h22_⟩
          have n23_ : Aside0 (gb188 ≠ gb176) := ⟨h23_⟩
          have n24_ : Aside0 (Below w.heap.size w w16) := ⟨h24_⟩
          clear BK174
          clear BK175
          clear BK176
          clear HB
          clear h0_ h1_ h2_ h3_ h4_ h5_ h6_ h7_ h8_ h9_ h10_ h11_ h12_ h13_ h14_ h15_ h16_ h17_ h18_ h19_ h20_ h21_ h22_ h23_ h24_
          have HO179 := n0_
          have BK174 := n1_
          have BK175 := n2_
          have BK176 := n3_
          have BK187 := n4_
          have BK188 := n5_
          have GW187 := n6_
          have GE187 := n7_
          have NB174_187 := n8_
          have NB187_174 := n9_
          have NB175_187 := n10_
          have NB187_175 := n11_
          have NB176_187 := n12_
          have NB187_176 := n13_
          have NB188_187 := n14_
          have NB187_188 := n15_
          have GW188 := n16_
          have GE188 := n17_
          have NB174_188 := n18_
          have NB188_174 := n19_
          have NB175_188 := n20_
          have NB188_175 := n21_
          have NB176_188 := n22_
          have NB188_176 := n23_
          have HB := n24_
          clear n0_ n1_ n2_ n3_ n4_ n5_ n6_ n7_ n8_ n9_ n10_ n11_ n12_ n13_ n14_ n15_ n16_ n17_ n18_ n19_ n20_ n21_ n22_ n23_ n24_
          have hHeld : w16.cell? ⟨gb174, 0, none⟩ = some (.int .i64 a1_0) ∧ w16.cell? ⟨gb174, 1, none⟩ = some (.int .i64 a1_1) := hS_
          obtain ⟨Ao17, co17, eo17⟩ := Kd.R_slice HO179.out
          (first | subst eo17 | (injection eo17 with f1_ f2_ f3_; have f4_ := f1_.symm; have f5_ := f3_.symm; clear f1_ f2_ f3_; subst f4_; subst f5_))
          refine norm_ (a' := ?_) ?_ ?_
          rotate_left
          · simp only [putAll, Act.put, List.setIfInBounds_toArray, List.set_cons_zero, List.set_cons_succ]
            rfl
          refine one_ (i := 4) (N := some 14) #[true, true, true, true, true, false, false, false, false, true, true, false, false, false] rfl rfl (one_of HT_.out (by kernel_rfl)) (by decide) (fun K hK => ?_)
          refine goes_ Try.func44 (by kernel_rfl) rfl #[.slice Ao17 t177.length co17, .agg #[.int .i64 t180, .int .i64 t181]] (by rfl) rfl rfl (by (try simp only [List.map_toArray, List.map_cons, List.map_nil]); first | done | rfl | (simp only [List.length_drop, List.length_take]; rfl)) ?_
          with_reducible refine (ranges_Ranges_Find.calls _ _ t177 t180 t181 t182 t183 t184 t185 t186 _ ?side1 ?side2 A5.out).mono ?_
          (case side1 => repeat (first | exact (Kd.R_reads' HO179.out).2.2 | (with_reducible refine Kd.C_alloc ?_ _) | (with_reducible refine Kd.C_drewN ?_ _) | (with_reducible refine Kd.C_drew ?_)))
          (case side2 => exact (Kd.R_reads' HO179.out).2.1)
          rintro e w18 ⟨rfl, hb⟩
          refine ⟨_, rfl, ?_⟩
          have n0_ := Aside0.mk (Kd.R_below (by (with_reducible repeat (first | apply Kd.R_alloc | apply Kd.R_drewN | apply Kd.R_drew)); exact HO179.out) hb)
          have n1_ := Aside0.mk (blk_below (g := gb174) (o := .cells #[.int .i64 a1_0, .int .i64 a1_1] 28 (0, 0)) (by (with_reducible repeat (first | refine blk_drewN ?_ _ | refine blk_drew ?_ | refine blk_alloc ?_ _)); exact BK174.out) hb)
          have n2_ := Aside0.mk (blk_below (g := gb175) (o := .cells #[.int .i64 0, .int .i64 0] 28 (0, 0)) (by (with_reducible repeat (first | refine blk_drewN ?_ _ | refine blk_drew ?_ | refine blk_alloc ?_ _)); exact BK175.out) hb)
          have n3_ := Aside0.mk (blk_below (g := gb176) (o := .cells #[.int .i64 0, .int .i64 0] 28 (0, 0)) (by (with_reducible repeat (first | refine blk_drewN ?_ _ | refine blk_drew ?_ | refine blk_alloc ?_ _)); exact BK176.out) hb)
          have n4_ := Aside0.mk (blk_below (g := gb187) (o := .cells #[.int .i64 0, .int .i64 0] 61 (0, 0)) (by (with_reducible repeat (first | refine blk_drewN ?_ _ | refine blk_drew ?_ | refine blk_alloc ?_ _)); exact BK187.out) hb)
          have n5_ := Aside0.mk (blk_below (g := gb188) (o := .cells #[.int .i64 0, .int .i64 0] 61 (0, 0)) (by (with_reducible repeat (first | refine blk_drewN ?_ _ | refine blk_drew ?_ | refine blk_alloc ?_ _)); exact BK188.out) hb)
          have n6_ := Aside0.mk (below_step (by repeat (first | (with_reducible first | exact HB.out | apply below_alloc | apply pw_below_drewN | apply below_drew1 | refine below_set ?_ GE174.out | refine below_set ?_ GE175.out | refine below_set ?_ GE176.out | refine below_set ?_ GE187.out | refine below_set ?_ GE188.out) | exact HB.out)) hb)
          clear HO179
          clear BK174
          clear BK175
          clear BK176
          clear BK187
          clear BK188
          clear HB
          have HO179 := n0_
          have BK174 := n1_
          have BK175 := n2_
          have BK176 := n3_
          have BK187 := n4_
          have BK188 := n5_
          have HB := n6_
          clear n0_ n1_ n2_ n3_ n4_ n5_ n6_
          (try clear hb)
          (try clear hb2)
          (try clear hk)
          (try clear hi)
          refine hK.out _ _ ⟨(blk_cell BK174.out 0).trans rfl, (blk_cell BK174.out 1).trans rfl⟩ (fun hHeld => ?_)
          clear hK K
          refine norm_ (a' := ?_) ?_ ?_
          rotate_left
          · show Act.put _ (some 14) _ = _
            simp only [Act.put, List.setIfInBounds_toArray, List.set_cons_zero, List.set_cons_succ, i64_w, i32_w]
            rfl
          refine pure_ (i := 5) (N := some 9) (v := ?_) (a' := ?_) #[true, true, true, true, true, true, false, false, false, true, true, false, false, false] rfl rfl (any_of HT_.out (by kernel_rfl)) (fun _ _ _ h => h) (Or.inl ⟨by rfl, ?_⟩) ?_ ?_
          rotate_left
          · intro w'
            go_simp
            with_reducible rfl
          rotate_left
          · simp only [Act.put, List.setIfInBounds_toArray, List.set_cons_zero, List.set_cons_succ, i64_w, i32_w]
            rfl
          refine pure_ (i := 6) (N := some 15) (v := ?_) (a' := ?_) #[true, true, true, true, true, true, true, false, false, true, true, false, false, false] rfl rfl (any_of HT_.out (by kernel_rfl)) (fun _ _ _ h => h) (Or.inl ⟨by rfl, ?_⟩) ?_ ?_
          rotate_left
          · intro w'
            go_simp
            with_reducible rfl
          rotate_left
          · simp only [Act.put, List.setIfInBounds_toArray, List.set_cons_zero, List.set_cons_succ, i64_w, i32_w]
            rfl
          refine pure_ (i := 7) (N := some 16) (v := ?_) (a' := ?_) #[true, true, true, true, true, true, true, true, false, true, true, false, false, false] rfl rfl (any_of HT_.out (by kernel_rfl)) (fun _ _ _ h => h) (Or.inl ⟨by rfl, ?_⟩) ?_ ?_
          rotate_left
          · intro w'
            go_simp
            with_reducible rfl
          rotate_left
          · simp only [Act.put, List.setIfInBounds_toArray, List.set_cons_zero, List.set_cons_succ, i64_w, i32_w]
            rfl
          refine pure_ (i := 8) (N := some 17) (v := ?_) (a' := ?_) #[true, true, true, true, true, true, true, true, true, true, true, false, false, false] rfl rfl (any_of HT_.out (by kernel_rfl)) (fun _ _ _ h => h) (Or.inl ⟨by rfl, ?_⟩) ?_ ?_
          rotate_left
          · intro w'
            go_simp
            with_reducible rfl
          rotate_left
          · simp only [Act.put, List.setIfInBounds_toArray, List.set_cons_zero, List.set_cons_succ, i64_w, i32_w]
            rfl
          exact norm_ (by first | (simp only [putAll, Act.put, List.setIfInBounds_toArray, List.set_cons_zero, List.set_cons_succ]; done) | (simp only [putAll, Act.put, List.setIfInBounds_toArray, List.set_cons_zero, List.set_cons_succ]; rfl)) (hJ1_3_4_9_10 (.slice Ao17 t177.length co17, gb187, gb188) _ ⟨hHeld, (by (with_reducible repeat (first | apply Kd.R_alloc | apply Kd.R_drewN | apply Kd.R_drew)); exact HO179.out), (by (with_reducible repeat (first | refine blk_drewN ?_ _ | refine blk_drew ?_ | refine blk_alloc ?_ _)); exact BK174.out), (by (with_reducible repeat (first | refine blk_drewN ?_ _ | refine blk_drew ?_ | refine blk_alloc ?_ _)); exact BK175.out), (by (with_reducible repeat (first | refine blk_drewN ?_ _ | refine blk_drew ?_ | refine blk_alloc ?_ _)); exact BK176.out), (by (with_reducible repeat (first | refine blk_drewN ?_ _ | refine blk_drew ?_ | refine blk_alloc ?_ _)); exact BK187.out), (by (with_reducible repeat (first | refine blk_drewN ?_ _ | refine blk_drew ?_ | refine blk_alloc ?_ _)); exact BK188.out), GW187.out, GE187.out, NB174_187.out, NB187_174.out, NB175_187.out, NB187_175.out, NB176_187.out, NB187_176.out, NB188_187.out, NB187_188.out, GW188.out, GE188.out, NB174_188.out, NB188_174.out, NB175_188.out, NB188_175.out, NB176_188.out, NB188_176.out, (by repeat (first | (with_reducible first | exact HB.out | apply below_alloc | apply pw_below_drewN | apply below_drew1 | refine below_set ?_ GE174.out | refine below_set ?_ GE175.out | refine below_set ?_ GE176.out | refine below_set ?_ GE187.out | refine below_set ?_ GE188.out) | exact HB.out))⟩)
      · skip
        rintro ⟨v178, gb188⟩ w17 ⟨hS_, h0_, h1_, h2_, h3_, h4_, h5_, h6_, h7_, h8_, h9_, h10_, h11_, h12_, h13_⟩
        have n0_ : Aside0 (Kd.R k61 61 w17 w.heap.size (fun k_ => k_ ≠ gb188) v178 t177) := ⟨h0_⟩
        have n1_ : Aside0 (w17.heap[gb174]? = some (.cells #[.int .i64 a1_0, .int .i64 a1_1] 28 (0, 0))) := ⟨h1_⟩
        have n2_ : Aside0 (w17.heap[gb175]? = some (.cells #[.int .i64 0, .int .i64 0] 28 (0, 0))) := ⟨h2_⟩
        have n3_ : Aside0 (w17.heap[gb176]? = some (.cells #[.int .i64 0, .int .i64 0] 28 (0, 0))) := ⟨h3_⟩
        have n4_ : Aside0 (w17.heap[gb188]? = some (.cells #[.int .i64 0, .int .i64 0] 61 (0, 0))) := ⟨h4_⟩
        have n5_ : Aside0 (w.heap.size ≤ gb188) := ⟨h5_⟩
        have n6_ : Aside0 (w.heap.size ≤ gb188) := ⟨h6_⟩
        have n7_ : Aside0 (gb174 ≠ gb188) := ⟨h7_⟩
        have n8_ : Aside0 (gb188 ≠ gb174) := ⟨h8_⟩
        have n9_ : Aside0 (gb175 ≠ gb188) := ⟨h9_⟩
        have n10_ : Aside0 (gb188 ≠ gb175) := ⟨h10_⟩
        have n11_ : Aside0 (gb176 ≠ gb188) := ⟨h11_⟩
        have n12_ : Aside0 (gb188 ≠ gb176) := ⟨h12_⟩
        have n13_ : Aside0 (Below w.heap.size w w17) := ⟨h13_⟩
        clear BK174
        clear BK175
        clear BK176
        clear HB
        clear h0_ h1_ h2_ h3_ h4_ h5_ h6_ h7_ h8_ h9_ h10_ h11_ h12_ h13_
        have HO179 := n0_
        have BK174 := n1_
        have BK175 := n2_
        have BK176 := n3_
        have BK188 := n4_
        have GW188 := n5_
        have GE188 := n6_
        have NB174_188 := n7_
        have NB188_174 := n8_
        have NB175_188 := n9_
        have NB188_175 := n10_
        have NB176_188 := n11_
        have NB188_176 := n12_
        have HB := n13_
        clear n0_ n1_ n2_ n3_ n4_ n5_ n6_ n7_ n8_ n9_ n10_ n11_ n12_ n13_
        have hHeld : w17.cell? ⟨gb174, 0, none⟩ = some (.int .i64 a1_0) ∧ w17.cell? ⟨gb174, 1, none⟩ = some (.int .i64 a1_1) := hS_
        refine norm_ (a' := ?_) ?_ ?_
        rotate_left
        · simp only [putAll, Act.put, List.setIfInBounds_toArray, List.set_cons_zero, List.set_cons_succ]
          rfl
        refine one_ (i := 9) (N := some 7) #[true, true, true, true, true, true, true, true, true, true, true, false, false, false] rfl rfl (one_of HT_.out (by kernel_rfl)) (by decide) (fun K hK => ?_)
        refine box_step ?hg (N := 7) ?hd (cs := #[.int .i64 0, .int .i64 0]) (t := 61) ?hr ?_; (case hd => rfl); (case hg => rfl); (case hr => first | (go_simp; done) | (go_simp; rfl))
        intro gb187 hg w18 hbox hb
        have n0_ := Aside0.mk (Kd.R_below (Kd.R_elderB (by (with_reducible repeat (first | apply Kd.R_alloc | apply Kd.R_drewN | apply Kd.R_drew)); exact HO179.out) gb187 (Nat.le_of_eq hg.symm)) hb)
        have n1_ := Aside0.mk (blk_below (g := gb174) (o := .cells #[.int .i64 a1_0, .int .i64 a1_1] 28 (0, 0)) (by (with_reducible repeat (first | refine blk_drewN ?_ _ | refine blk_drew ?_ | refine blk_alloc ?_ _)); exact BK174.out) hb)
        have n2_ := Aside0.mk (blk_below (g := gb175) (o := .cells #[.int .i64 0, .int .i64 0] 28 (0, 0)) (by (with_reducible repeat (first | refine blk_drewN ?_ _ | refine blk_drew ?_ | refine blk_alloc ?_ _)); exact BK175.out) hb)
        have n3_ := Aside0.mk (blk_below (g := gb176) (o := .cells #[.int .i64 0, .int .i64 0] 28 (0, 0)) (by (with_reducible repeat (first | refine blk_drewN ?_ _ | refine blk_drew ?_ | refine blk_alloc ?_ _)); exact BK176.out) hb)
        have n4_ := Aside0.mk (blk_below (g := gb188) (o := .cells #[.int .i64 0, .int .i64 0] 61 (0, 0)) (by (with_reducible repeat (first | refine blk_drewN ?_ _ | refine blk_drew ?_ | refine blk_alloc ?_ _)); exact BK188.out) hb)
        have n5_ := Aside0.mk (below_step (by repeat (first | (with_reducible first | exact HB.out | apply below_alloc | apply pw_below_drewN | apply below_drew1 | refine below_set ?_ GE174.out | refine below_set ?_ GE175.out | refine below_set ?_ GE176.out | refine below_set ?_ GE188.out) | exact HB.out)) hb)
        have n6_ := Aside0.mk (hbox)
        have n7_ := Aside0.mk ((by rw [hg]; exact (below_size (by repeat (first | (with_reducible first | exact HB.out | apply below_alloc | apply pw_below_drewN | apply below_drew1 | refine below_set ?_ GE174.out | refine below_set ?_ GE175.out | refine below_set ?_ GE176.out | refine below_set ?_ GE188.out) | exact HB.out))) : w.heap.size ≤ gb187))
        have n8_ := Aside0.mk ((by rw [hg]; exact (below_size (by repeat (first | (with_reducible first | exact HB.out | apply below_alloc | apply pw_below_drewN | apply below_drew1 | refine below_set ?_ GE174.out | refine below_set ?_ GE175.out | refine below_set ?_ GE176.out | refine below_set ?_ GE188.out) | exact HB.out))) : w.heap.size ≤ gb187))
        have n9_ := Aside0.mk ((by rw [hg]; exact Nat.ne_of_lt (blk_lt (g := gb174) (o := .cells #[.int .i64 a1_0, .int .i64 a1_1] 28 (0, 0)) (by (with_reducible repeat (first | refine blk_drewN ?_ _ | refine blk_drew ?_ | refine blk_alloc ?_ _)); exact BK174.out)) : gb174 ≠ gb187))
        have n10_ := Aside0.mk ((by rw [hg]; exact Nat.ne_of_gt (blk_lt (g := gb174) (o := .cells #[.int .i64 a1_0, .int .i64 a1_1] 28 (0, 0)) (by (with_reducible repeat (first | refine blk_drewN ?_ _ | refine blk_drew ?_ | refine blk_alloc ?_ _)); exact BK174.out)) : gb187 ≠ gb174))
        have n11_ := Aside0.mk ((by rw [hg]; exact Nat.ne_of_lt (blk_lt (g := gb175) (o := .cells #[.int .i64 0, .int .i64 0] 28 (0, 0)) (by (with_reducible repeat (first | refine blk_drewN ?_ _ | refine blk_drew ?_ | refine blk_alloc ?_ _)); exact BK175.out)) : gb175 ≠ gb187))
        have n12_ := Aside0.mk ((by rw [hg]; exact Nat.ne_of_gt (blk_lt (g := gb175) (o := .cells #[.int .i64 0, .int .i64 0] 28 (0, 0)) (by (with_reducible repeat (first | refine blk_drewN ?_ _ | refine blk_drew ?_ | refine blk_alloc ?_ _)); exact BK175.out)) : gb187 ≠ gb175))
        have n13_ := Aside0.mk ((by rw [hg]; exact Nat.ne_of_lt (blk_lt (g := gb176) (o := .cells #[.int .i64 0, .int .i64 0] 28 (0, 0)) (by (with_reducible repeat (first | refine blk_drewN ?_ _ | refine blk_drew ?_ | refine blk_alloc ?_ _)); exact BK176.out)) : gb176 ≠ gb187))
        have n14_ := Aside0.mk ((by rw [hg]; exact Nat.ne_of_gt (blk_lt (g := gb176) (o := .cells #[.int .i64 0, .int .i64 0] 28 (0, 0)) (by (with_reducible repeat (first | refine blk_drewN ?_ _ | refine blk_drew ?_ | refine blk_alloc ?_ _)); exact BK176.out)) : gb187 ≠ gb176))
        have n15_ := Aside0.mk ((by rw [hg]; exact Nat.ne_of_lt (blk_lt (g := gb188) (o := .cells #[.int .i64 0, .int .i64 0] 61 (0, 0)) (by (with_reducible repeat (first | refine blk_drewN ?_ _ | refine blk_drew ?_ | refine blk_alloc ?_ _)); exact BK188.out)) : gb188 ≠ gb187))
        have n16_ := Aside0.mk ((by rw [hg]; exact Nat.ne_of_gt (blk_lt (g := gb188) (o := .cells #[.int .i64 0, .int .i64 0] 61 (0, 0)) (by (with_reducible repeat (first | refine blk_drewN ?_ _ | refine blk_drew ?_ | refine blk_alloc ?_ _)); exact BK188.out)) : gb187 ≠ gb188))
        clear HO179
        clear BK174
        clear BK175
        clear BK176
        clear BK188
        clear HB
        have HO179 := n0_
        have BK174 := n1_
        have BK175 := n2_
        have BK176 := n3_
        have BK188 := n4_
        have HB := n5_
        have BK187 := n6_
        have GW187 := n7_
        have GE187 := n8_
        have NB174_187 := n9_
        have NB187_174 := n10_
        have NB175_187 := n11_
        have NB187_175 := n12_
        have NB176_187 := n13_
        have NB187_176 := n14_
        have NB188_187 := n15_
        have NB187_188 := n16_
        clear n0_ n1_ n2_ n3_ n4_ n5_ n6_ n7_ n8_ n9_ n10_ n11_ n12_ n13_ n14_ n15_ n16_
        clear hb hbox hg
        refine hK.out _ _ ⟨(blk_cell BK174.out 0).trans rfl, (blk_cell BK174.out 1).trans rfl⟩ (fun hHeld => ?_)
        clear hK K
        refine norm_ (a' := ?_) ?_ ?_
        rotate_left
        · show Act.put _ (some 7) _ = _
          simp only [Act.put, List.setIfInBounds_toArray, List.set_cons_zero, List.set_cons_succ, i64_w, i32_w]
          rfl
        exact norm_ (by first | (simp only [putAll, Act.put, List.setIfInBounds_toArray, List.set_cons_zero, List.set_cons_succ]; done) | (simp only [putAll, Act.put, List.setIfInBounds_toArray, List.set_cons_zero, List.set_cons_succ]; rfl)) (hJ1_3_4_9_10 (_, gb187, gb188) _ ⟨hHeld, (by (with_reducible repeat (first | apply Kd.R_alloc | apply Kd.R_drewN | apply Kd.R_drew)); exact Kd.R_mono HO179.out (fun _ hk => ⟨hk.2, hk.1⟩)), (by (with_reducible repeat (first | refine blk_drewN ?_ _ | refine blk_drew ?_ | refine blk_alloc ?_ _)); exact BK174.out), (by (with_reducible repeat (first | refine blk_drewN ?_ _ | refine blk_drew ?_ | refine blk_alloc ?_ _)); exact BK175.out), (by (with_reducible repeat (first | refine blk_drewN ?_ _ | refine blk_drew ?_ | refine blk_alloc ?_ _)); exact BK176.out), (by (with_reducible repeat (first | refine blk_drewN ?_ _ | refine blk_drew ?_ | refine blk_alloc ?_ _)); exact BK187.out), (by (with_reducible repeat (first | refine blk_drewN ?_ _ | refine blk_drew ?_ | refine blk_alloc ?_ _)); exact BK188.out), GW187.out, GE187.out, NB174_187.out, NB187_174.out, NB175_187.out, NB187_175.out, NB176_187.out, NB187_176.out, NB188_187.out, NB187_188.out, GW188.out, GE188.out, NB174_188.out, NB188_174.out, NB175_188.out, NB188_175.out, NB176_188.out, NB188_176.out, (by repeat (first | (with_reducible first | exact HB.out | apply below_alloc | apply pw_below_drewN | apply below_drew1 | refine below_set ?_ GE174.out | refine below_set ?_ GE175.out | refine below_set ?_ GE176.out | refine below_set ?_ GE188.out | refine below_set ?_ GE187.out) | exact HB.out))⟩)
    · skip
      rintro ⟨v178, gb187⟩ w17 ⟨hS_, h0_, h1_, h2_, h3_, h4_, h5_, h6_, h7_, h8_, h9_, h10_, h11_, h12_, h13_⟩
      have n0_ : Aside0 (Kd.R k61 61 w17 w.heap.size (fun k_ => k_ ≠ gb187) v178 t177) := ⟨h0_⟩
      have n1_ : Aside0 (w17.heap[gb174]? = some (.cells #[.int .i64 a1_0, .int .i64 a1_1] 28 (0, 0))) := ⟨h1_⟩
      have n2_ : Aside0 (w17.heap[gb175]? = some (.cells #[.int .i64 0, .int .i64 0] 28 (0, 0))) := ⟨h2_⟩
      have n3_ : Aside0 (w17.heap[gb176]? = some (.cells #[.int .i64 0, .int .i64 0] 28 (0, 0))) := ⟨h3_⟩
      have n4_ : Aside0 (w17.heap[gb187]? = some (.cells #[.int .i64 0, .int .i64 0] 61 (0, 0))) := ⟨h4_⟩
      have n5_ : Aside0 (w.heap.size ≤ gb187) := ⟨h5_⟩
      have n6_ : Aside0 (w.heap.size ≤ gb187) := ⟨h6_⟩
      have n7_ : Aside0 (gb174 ≠ gb187) := ⟨h7_⟩
      have n8_ : Aside0 (gb187 ≠ gb174) := ⟨h8_⟩
      have n9_ : Aside0 (gb175 ≠ gb187) := ⟨h9_⟩
      have n10_ : Aside0 (gb187 ≠ gb175) := ⟨h10_⟩
      have n11_ : Aside0 (gb176 ≠ gb187) := ⟨h11_⟩
      have n12_ : Aside0 (gb187 ≠ gb176) := ⟨h12_⟩
      have n13_ : Aside0 (Below w.heap.size w w17) := ⟨h13_⟩
      clear BK174
      clear BK175
      clear BK176
      clear HB
      clear h0_ h1_ h2_ h3_ h4_ h5_ h6_ h7_ h8_ h9_ h10_ h11_ h12_ h13_
      have HO179 := n0_
      have BK174 := n1_
      have BK175 := n2_
      have BK176 := n3_
      have BK187 := n4_
      have GW187 := n5_
      have GE187 := n6_
      have NB174_187 := n7_
      have NB187_174 := n8_
      have NB175_187 := n9_
      have NB187_175 := n10_
      have NB176_187 := n11_
      have NB187_176 := n12_
      have HB := n13_
      clear n0_ n1_ n2_ n3_ n4_ n5_ n6_ n7_ n8_ n9_ n10_ n11_ n12_ n13_
      have hHeld : w17.cell? ⟨gb174, 0, none⟩ = some (.int .i64 a1_0) ∧ w17.cell? ⟨gb174, 1, none⟩ = some (.int .i64 a1_1) := hS_
      refine norm_ (a' := ?_) ?_ ?_
      rotate_left
      · simp only [putAll, Act.put, List.setIfInBounds_toArray, List.set_cons_zero, List.set_cons_succ]
        rfl
      refine one_ (i := 10) (N := some 8) #[true, true, true, true, true, true, true, true, true, true, true, false, false, false] rfl rfl (one_of HT_.out (by kernel_rfl)) (by decide) (fun K hK => ?_)
      refine box_step ?hg (N := 8) ?hd (cs := #[.int .i64 0, .int .i64 0]) (t := 61) ?hr ?_; (case hd => rfl); (case hg => rfl); (case hr => first | (go_simp; done) | (go_simp; rfl))
      intro gb188 hg w18 hbox hb
      have n0_ := Aside0.mk (Kd.R_below (Kd.R_elderB (by (with_reducible repeat (first | apply Kd.R_alloc | apply Kd.R_drewN | apply Kd.R_drew)); exact HO179.out) gb188 (Nat.le_of_eq hg.symm)) hb)
      have n1_ := Aside0.mk (blk_below (g := gb174) (o := .cells #[.int .i64 a1_0, .int .i64 a1_1] 28 (0, 0)) (by (with_reducible repeat (first | refine blk_drewN ?_ _ | refine blk_drew ?_ | refine blk_alloc ?_ _)); exact BK174.out) hb)
      have n2_ := Aside0.mk (blk_below (g := gb175) (o := .cells #[.int .i64 0, .int .i64 0] 28 (0, 0)) (by (with_reducible repeat (first | refine blk_drewN ?_ _ | refine blk_drew ?_ | refine blk_alloc ?_ _)); exact BK175.out) hb)
      have n3_ := Aside0.mk (blk_below (g := gb176) (o := .cells #[.int .i64 0, .int .i64 0] 28 (0, 0)) (by (with_reducible repeat (first | refine blk_drewN ?_ _ | refine blk_drew ?_ | refine blk_alloc ?_ _)); exact BK176.out) hb)
      have n4_ := Aside0.mk (blk_below (g := gb187) (o := .cells #[.int .i64 0, .int .i64 0] 61 (0, 0)) (by (with_reducible repeat (first | refine blk_drewN ?_ _ | refine blk_drew ?_ | refine blk_alloc ?_ _)); exact BK187.out) hb)
      have n5_ := Aside0.mk (below_step (by repeat (first | (with_reducible first | exact HB.out | apply below_alloc | apply pw_below_drewN | apply below_drew1 | refine below_set ?_ GE174.out | refine below_set ?_ GE175.out | refine below_set ?_ GE176.out | refine below_set ?_ GE187.out) | exact HB.out)) hb)
      have n6_ := Aside0.mk (hbox)
      have n7_ := Aside0.mk ((by rw [hg]; exact (below_size (by repeat (first | (with_reducible first | exact HB.out | apply below_alloc | apply pw_below_drewN | apply below_drew1 | refine below_set ?_ GE174.out | refine below_set ?_ GE175.out | refine below_set ?_ GE176.out | refine below_set ?_ GE187.out) | exact HB.out))) : w.heap.size ≤ gb188))
      have n8_ := Aside0.mk ((by rw [hg]; exact (below_size (by repeat (first | (with_reducible first | exact HB.out | apply below_alloc | apply pw_below_drewN | apply below_drew1 | refine below_set ?_ GE174.out | refine below_set ?_ GE175.out | refine below_set ?_ GE176.out | refine below_set ?_ GE187.out) | exact HB.out))) : w.heap.size ≤ gb188))
      have n9_ := Aside0.mk ((by rw [hg]; exact Nat.ne_of_lt (blk_lt (g := gb174) (o := .cells #[.int .i64 a1_0, .int .i64 a1_1] 28 (0, 0)) (by (with_reducible repeat (first | refine blk_drewN ?_ _ | refine blk_drew ?_ | refine blk_alloc ?_ _)); exact BK174.out)) : gb174 ≠ gb188))
      have n10_ := Aside0.mk ((by rw [hg]; exact Nat.ne_of_gt (blk_lt (g := gb174) (o := .cells #[.int .i64 a1_0, .int .i64 a1_1] 28 (0, 0)) (by (with_reducible repeat (first | refine blk_drewN ?_ _ | refine blk_drew ?_ | refine blk_alloc ?_ _)); exact BK174.out)) : gb188 ≠ gb174))
      have n11_ := Aside0.mk ((by rw [hg]; exact Nat.ne_of_lt (blk_lt (g := gb175) (o := .cells #[.int .i64 0, .int .i64 0] 28 (0, 0)) (by (with_reducible repeat (first | refine blk_drewN ?_ _ | refine blk_drew ?_ | refine blk_alloc ?_ _)); exact BK175.out)) : gb175 ≠ gb188))
      have n12_ := Aside0.mk ((by rw [hg]; exact Nat.ne_of_gt (blk_lt (g := gb175) (o := .cells #[.int .i64 0, .int .i64 0] 28 (0, 0)) (by (with_reducible repeat (first | refine blk_drewN ?_ _ | refine blk_drew ?_ | refine blk_alloc ?_ _)); exact BK175.out)) : gb188 ≠ gb175))
      have n13_ := Aside0.mk ((by rw [hg]; exact Nat.ne_of_lt (blk_lt (g := gb176) (o := .cells #[.int .i64 0, .int .i64 0] 28 (0, 0)) (by (with_reducible repeat (first | refine blk_drewN ?_ _ | refine blk_drew ?_ | refine blk_alloc ?_ _)); exact BK176.out)) : gb176 ≠ gb188))
      have n14_ := Aside0.mk ((by rw [hg]; exact Nat.ne_of_gt (blk_lt (g := gb176) (o := .cells #[.int .i64 0, .int .i64 0] 28 (0, 0)) (by (with_reducible repeat (first | refine blk_drewN ?_ _ | refine blk_drew ?_ | refine blk_alloc ?_ _)); exact BK176.out)) : gb188 ≠ gb176))
      have n15_ := Aside0.mk ((by rw [hg]; exact Nat.ne_of_lt (blk_lt (g := gb187) (o := .cells #[.int .i64 0, .int .i64 0] 61 (0, 0)) (by (with_reducible repeat (first | refine blk_drewN ?_ _ | refine blk_drew ?_ | refine blk_alloc ?_ _)); exact BK187.out)) : gb187 ≠ gb188))
      have n16_ := Aside0.mk ((by rw [hg]; exact Nat.ne_of_gt (blk_lt (g := gb187) (o := .cells #[.int .i64 0, .int .i64 0] 61 (0, 0)) (by (with_reducible repeat (first | refine blk_drewN ?_ _ | refine blk_drew ?_ | refine blk_alloc ?_ _)); exact BK187.out)) : gb188 ≠ gb187))
      clear HO179
      clear BK174
      clear BK175
      clear BK176
      clear BK187
      clear HB
      have HO179 := n0_
      have BK174 := n1_
      have BK175 := n2_
      have BK176 := n3_
      have BK187 := n4_
      have HB := n5_
      have BK188 := n6_
      have GW188 := n7_
      have GE188 := n8_
      have NB174_188 := n9_
      have NB188_174 := n10_
      have NB175_188 := n11_
      have NB188_175 := n12_
      have NB176_188 := n13_
      have NB188_176 := n14_
      have NB187_188 := n15_
      have NB188_187 := n16_
      clear n0_ n1_ n2_ n3_ n4_ n5_ n6_ n7_ n8_ n9_ n10_ n11_ n12_ n13_ n14_ n15_ n16_
      clear hb hbox hg
      refine hK.out _ _ ⟨(blk_cell BK174.out 0).trans rfl, (blk_cell BK174.out 1).trans rfl⟩ (fun hHeld => ?_)
      clear hK K
      refine norm_ (a' := ?_) ?_ ?_
      rotate_left
      · show Act.put _ (some 8) _ = _
        simp only [Act.put, List.setIfInBounds_toArray, List.set_cons_zero, List.set_cons_succ, i64_w, i32_w]
        rfl
      exact norm_ (by first | (simp only [putAll, Act.put, List.setIfInBounds_toArray, List.set_cons_zero, List.set_cons_succ]; done) | (simp only [putAll, Act.put, List.setIfInBounds_toArray, List.set_cons_zero, List.set_cons_succ]; rfl)) (hJ1_3_4_9_10 (_, gb187, gb188) _ ⟨hHeld, (by (with_reducible repeat (first | apply Kd.R_alloc | apply Kd.R_drewN | apply Kd.R_drew)); exact HO179.out), (by (with_reducible repeat (first | refine blk_drewN ?_ _ | refine blk_drew ?_ | refine blk_alloc ?_ _)); exact BK174.out), (by (with_reducible repeat (first | refine blk_drewN ?_ _ | refine blk_drew ?_ | refine blk_alloc ?_ _)); exact BK175.out), (by (with_reducible repeat (first | refine blk_drewN ?_ _ | refine blk_drew ?_ | refine blk_alloc ?_ _)); exact BK176.out), (by (with_reducible repeat (first | refine blk_drewN ?_ _ | refine blk_drew ?_ | refine blk_alloc ?_ _)); exact BK187.out), (by (with_reducible repeat (first | refine blk_drewN ?_ _ | refine blk_drew ?_ | refine blk_alloc ?_ _)); exact BK188.out), GW187.out, GE187.out, NB174_187.out, NB187_174.out, NB175_187.out, NB187_175.out, NB176_187.out, NB187_176.out, NB188_187.out, NB187_188.out, GW188.out, GE188.out, NB174_188.out, NB188_174.out, NB175_188.out, NB188_175.out, NB176_188.out, NB188_176.out, (by repeat (first | (with_reducible first | exact HB.out | apply below_alloc | apply pw_below_drewN | apply below_drew1 | refine below_set ?_ GE174.out | refine below_set ?_ GE175.out | refine below_set ?_ GE176.out | refine below_set ?_ GE187.out | refine below_set ?_ GE188.out) | exact HB.out))⟩)
  rintro ⟨v178, gb187, gb188⟩ w18 ⟨hS_, h0_, h1_, h2_, h3_, h4_, h5_, h6_, h7_, h8_, h9_, h10_, h11_, h12_, h13_, h14_, h15_, h16_, h17_, h18_, h19_, h20_, h21_, h22_, h23_, h24_⟩
  have n0_ : Aside0 (Kd.R k61 61 w18 w.heap.size (fun k_ => k_ ≠ gb187 ∧ k_ ≠ gb188) v178 t177) := ⟨h0_⟩
  have n1_ : Aside0 (w18.heap[gb174]? = some (.cells #[.int .i64 a1_0, .int .i64 a1_1] 28 (0, 0))) := ⟨h1_⟩
  have n2_ : Aside0 (w18.heap[gb175]? = some (.cells #[.int .i64 0, .int .i64 0] 28 (0, 0))) := ⟨h2_⟩
  have n3_ : Aside0 (w18.heap[gb176]? = some (.cells #[.int .i64 0, .int .i64 0] 28 (0, 0))) := ⟨h3_⟩
  have n4_ : Aside0 (w18.heap[gb187]? = some (.cells #[.int .i64 0, .int .i64 0] 61 (0, 0))) := ⟨h4_⟩
  have n5_ : Aside0 (w18.heap[gb188]? = some (.cells #[.int .i64 0, .int .i64 0] 61 (0, 0))) := ⟨h5_⟩
  have n6_ : Aside0 (w.heap.size ≤ gb187) := ⟨h6_⟩
  have n7_ : Aside0 (w.heap.size ≤ gb187) := ⟨h7_⟩
  have n8_ : Aside0 (gb174 ≠ gb187) := ⟨h8_⟩
  have n9_ : Aside0 (gb187 ≠ gb174) := ⟨h9_⟩
  have n10_ : Aside0 (gb175 ≠ gb187) := ⟨h10_⟩
  have n11_ : Aside0 (gb187 ≠ gb175) := ⟨h11_⟩
  have n12_ : Aside0 (gb176 ≠ gb187) := ⟨h12_⟩
  have n13_ : Aside0 (gb187 ≠ gb176) := ⟨h13_⟩
  have n14_ : Aside0 (gb188 ≠ gb187) := ⟨h14_⟩
  have n15_ : Aside0 (gb187 ≠ gb188) := ⟨h15_⟩
  have n16_ : Aside0 (w.heap.size ≤ gb188) := ⟨h16_⟩
  have n17_ : Aside0 (w.heap.size ≤ gb188) := ⟨h17_⟩
  have n18_ : Aside0 (gb174 ≠ gb188) := ⟨h18_⟩
  have n19_ : Aside0 (gb188 ≠ gb174) := ⟨h19_⟩
  have n20_ : Aside0 (gb175 ≠ gb188) := ⟨h20_⟩
  have n21_ : Aside0 (gb188 ≠ gb175) := ⟨h21_⟩
  have n22_ : Aside0 (gb176 ≠ gb188) := ⟨h22_⟩
  have n23_ : Aside0 (gb188 ≠ gb176) := ⟨h23_⟩
  have n24_ : Aside0 (Below w.heap.size w w18) := ⟨h24_⟩
  clear BK174
  clear BK175
  clear BK176
  clear HB
  clear h0_ h1_ h2_ h3_ h4_ h5_ h6_ h7_ h8_ h9_ h10_ h11_ h12_ h13_ h14_ h15_ h16_ h17_ h18_ h19_ h20_ h21_ h22_ h23_ h24_
  have HO179 := n0_
  have BK174 := n1_
  have BK175 := n2_
  have BK176 := n3_
  have BK187 := n4_
  have BK188 := n5_
  have GW187 := n6_
  have GE187 := n7_
  have NB174_187 := n8_
  have NB187_174 := n9_
  have NB175_187 := n10_
  have NB187_175 := n11_
  have NB176_187 := n12_
  have NB187_176 := n13_
  have NB188_187 := n14_
  have NB187_188 := n15_
  have GW188 := n16_
  have GE188 := n17_
  have NB174_188 := n18_
  have NB188_174 := n19_
  have NB175_188 := n20_
  have NB188_175 := n21_
  have NB176_188 := n22_
  have NB188_176 := n23_
  have HB := n24_
  clear n0_ n1_ n2_ n3_ n4_ n5_ n6_ n7_ n8_ n9_ n10_ n11_ n12_ n13_ n14_ n15_ n16_ n17_ n18_ n19_ n20_ n21_ n22_ n23_ n24_
  have hHeld : w18.cell? ⟨gb174, 0, none⟩ = some (.int .i64 a1_0) ∧ w18.cell? ⟨gb174, 1, none⟩ = some (.int .i64 a1_1) := hS_
  refine norm_ (a' := ?_) ?_ ?_
  rotate_left
  · simp only [putAll, Act.put, List.setIfInBounds_toArray, List.set_cons_zero, List.set_cons_succ]
    rfl
  refine one_ (i := 11) (N := none) #[true, true, true, true, true, true, true, true, true, true, true, true, false, false] rfl rfl (one_of HT_.out (by kernel_rfl)) (by decide) (fun K hK => ?_)
  have hs19 : w18.cell? ⟨gb187, 0, none⟩ = some (.int .i64 0) := (blk_cell BK187.out 0).trans rfl
  have hfs19 := blk_frozen BK187.out 0
  have hns19_0 := NB174_187.out
  have hns19_1 := NB175_187.out
  have hns19_2 := NB176_187.out
  have hns19_4 := NB188_187.out
  have hms19_0 := NB187_174.out
  have hms19_1 := NB187_175.out
  have hms19_2 := NB187_176.out
  have hms19_4 := NB187_188.out
  have hs20 : w18.cell? ⟨gb187, 1, none⟩ = some (.int .i64 0) := (blk_cell BK187.out 1).trans rfl
  have hfs20 := blk_frozen BK187.out 1
  have hns20_0 := NB174_187.out
  have hns20_1 := NB175_187.out
  have hns20_2 := NB176_187.out
  have hns20_4 := NB188_187.out
  have hms20_0 := NB187_174.out
  have hms20_1 := NB187_175.out
  have hms20_2 := NB187_176.out
  have hms20_4 := NB187_188.out
  refine skip_ (w1 := ?_) (by rfl) rfl ?_ ?_
  rotate_left
  · go_simp
    rfl
  refine hK.out _ _ ⟨((cell_far (p := ⟨gb187, _, none⟩) NB174_187.out _).trans (((cell_far (p := ⟨gb187, _, none⟩) NB174_187.out _).trans (hHeld.1)))), ((cell_far (p := ⟨gb187, _, none⟩) NB174_187.out _).trans (((cell_far (p := ⟨gb187, _, none⟩) NB174_187.out _).trans (hHeld.2))))⟩ (fun hHeld => ?_)
  clear hK K
  refine one_ (i := 12) (N := none) #[true, true, true, true, true, true, true, true, true, true, true, true, true, false] rfl rfl (one_of HT_.out (by kernel_rfl)) (by decide) (fun K hK => ?_)
  have hs21 : w18.cell? ⟨gb188, 0, none⟩ = some (.int .i64 0) := (blk_cell BK188.out 0).trans rfl
  have hfs21 := blk_frozen BK188.out 0
  have hns21_0 := NB174_188.out
  have hns21_1 := NB175_188.out
  have hns21_2 := NB176_188.out
  have hns21_3 := NB187_188.out
  have hms21_0 := NB188_174.out
  have hms21_1 := NB188_175.out
  have hms21_2 := NB188_176.out
  have hms21_3 := NB188_187.out
  have hs22 : w18.cell? ⟨gb188, 1, none⟩ = some (.int .i64 0) := (blk_cell BK188.out 1).trans rfl
  have hfs22 := blk_frozen BK188.out 1
  have hns22_0 := NB174_188.out
  have hns22_1 := NB175_188.out
  have hns22_2 := NB176_188.out
  have hns22_3 := NB187_188.out
  have hms22_0 := NB188_174.out
  have hms22_1 := NB188_175.out
  have hms22_2 := NB188_176.out
  have hms22_3 := NB188_187.out
  refine skip_ (w1 := ?_) (by rfl) rfl ?_ ?_
  rotate_left
  · go_simp
    rfl
  refine hK.out _ _ ⟨((cell_far (p := ⟨gb188, _, none⟩) NB174_188.out _).trans (((cell_far (p := ⟨gb188, _, none⟩) NB174_188.out _).trans (hHeld.1)))), ((cell_far (p := ⟨gb188, _, none⟩) NB174_188.out _).trans (((cell_far (p := ⟨gb188, _, none⟩) NB174_188.out _).trans (hHeld.2))))⟩ (fun hHeld => ?_)
  clear hK K
  refine pure_ (i := 13) (N := some 6) (v := ?_) (a' := ?_) #[true, true, true, true, true, true, true, true, true, true, true, true, true, true] rfl rfl (any_of HT_.out (by kernel_rfl)) (fun _ _ _ h => h) (Or.inl ⟨by rfl, ?_⟩) ?_ ?_
  rotate_left
  · intro w'
    go_simp
    with_reducible rfl
  rotate_left
  · simp only [Act.put, List.setIfInBounds_toArray, List.set_cons_zero, List.set_cons_succ, i64_w, i32_w]
    rfl
  refine done_ (done_of HT_.out (by kernel_rfl)) ?_
  try go_wp2
  have n0_ : Aside0 (Kd.R k61 61 ((((w18.setCell ⟨gb187, 0, none⟩ (.int .i64 t182)).setCell ⟨gb187, 1, none⟩ (.int .i64 t183)).setCell ⟨gb188, 0, none⟩ (.int .i64 t184)).setCell ⟨gb188, 1, none⟩ (.int .i64 t185)) w.heap.size (fun k_ => k_ ≠ gb187 ∧ k_ ≠ gb188) v178 t177) := ⟨by (with_reducible repeat (first | apply Kd.R_alloc | apply Kd.R_drewN | apply Kd.R_drew)); exact Kd.R_mono (Kd.R_far (p := ⟨gb188, 1, none⟩) (Kd.R_far (p := ⟨gb188, 0, none⟩) (Kd.R_far (p := ⟨gb187, 1, none⟩) (Kd.R_far (p := ⟨gb187, 0, none⟩) (Kd.R_mono (Kd.R_mono HO179.out (fun k_ hk => (⟨hk, hk.1⟩ : _ ∧ k_ ≠ gb187))) (fun k_ hk => (⟨hk, hk.1.2⟩ : _ ∧ k_ ≠ gb188))) (fun _ hk => hk.1.2) (.int .i64 t182)) (fun _ hk => hk.1.2) (.int .i64 t183)) (fun _ hk => hk.2) (.int .i64 t184)) (fun _ hk => hk.2) (.int .i64 t185)) (fun _ hk => ⟨hk.1.1.1, hk.1.1.2⟩)⟩
  have n1_ : Aside0 (((((w18.setCell ⟨gb187, 0, none⟩ (.int .i64 t182)).setCell ⟨gb187, 1, none⟩ (.int .i64 t183)).setCell ⟨gb188, 0, none⟩ (.int .i64 t184)).setCell ⟨gb188, 1, none⟩ (.int .i64 t185)).heap[gb174]? = some (.cells #[.int .i64 a1_0, .int .i64 a1_1] 28 (0, 0))) := ⟨by (with_reducible repeat (first | refine blk_drewN ?_ _ | refine blk_drew ?_ | refine blk_alloc ?_ _)); refine blk_far ?_ NB174_188.out _; (with_reducible repeat (first | refine blk_drewN ?_ _ | refine blk_drew ?_ | refine blk_alloc ?_ _)); refine blk_far ?_ NB174_188.out _; (with_reducible repeat (first | refine blk_drewN ?_ _ | refine blk_drew ?_ | refine blk_alloc ?_ _)); refine blk_far ?_ NB174_187.out _; (with_reducible repeat (first | refine blk_drewN ?_ _ | refine blk_drew ?_ | refine blk_alloc ?_ _)); refine blk_far ?_ NB174_187.out _; (with_reducible repeat (first | refine blk_drewN ?_ _ | refine blk_drew ?_ | refine blk_alloc ?_ _)); exact BK174.out⟩
  have n2_ : Aside0 (((((w18.setCell ⟨gb187, 0, none⟩ (.int .i64 t182)).setCell ⟨gb187, 1, none⟩ (.int .i64 t183)).setCell ⟨gb188, 0, none⟩ (.int .i64 t184)).setCell ⟨gb188, 1, none⟩ (.int .i64 t185)).heap[gb175]? = some (.cells #[.int .i64 0, .int .i64 0] 28 (0, 0))) := ⟨by (with_reducible repeat (first | refine blk_drewN ?_ _ | refine blk_drew ?_ | refine blk_alloc ?_ _)); refine blk_far ?_ NB175_188.out _; (with_reducible repeat (first | refine blk_drewN ?_ _ | refine blk_drew ?_ | refine blk_alloc ?_ _)); refine blk_far ?_ NB175_188.out _; (with_reducible repeat (first | refine blk_drewN ?_ _ | refine blk_drew ?_ | refine blk_alloc ?_ _)); refine blk_far ?_ NB175_187.out _; (with_reducible repeat (first | refine blk_drewN ?_ _ | refine blk_drew ?_ | refine blk_alloc ?_ _)); refine blk_far ?_ NB175_187.out _; (with_reducible repeat (first | refine blk_drewN ?_ _ | refine blk_drew ?_ | refine blk_alloc ?_ _)); exact BK175.out⟩
  have n3_ : Aside0 (((((w18.setCell ⟨gb187, 0, none⟩ (.int .i64 t182)).setCell ⟨gb187, 1, none⟩ (.int .i64 t183)).setCell ⟨gb188, 0, none⟩ (.int .i64 t184)).setCell ⟨gb188, 1, none⟩ (.int .i64 t185)).heap[gb176]? = some (.cells #[.int .i64 0, .int .i64 0] 28 (0, 0))) := ⟨by (with_reducible repeat (first | refine blk_drewN ?_ _ | refine blk_drew ?_ | refine blk_alloc ?_ _)); refine blk_far ?_ NB176_188.out _; (with_reducible repeat (first | refine blk_drewN ?_ _ | refine blk_drew ?_ | refine blk_alloc ?_ _)); refine blk_far ?_ NB176_188.out _; (with_reducible repeat (first | refine blk_drewN ?_ _ | refine blk_drew ?_ | refine blk_alloc ?_ _)); refine blk_far ?_ NB176_187.out _; (with_reducible repeat (first | refine blk_drewN ?_ _ | refine blk_drew ?_ | refine blk_alloc ?_ _)); refine blk_far ?_ NB176_187.out _; (with_reducible repeat (first | refine blk_drewN ?_ _ | refine blk_drew ?_ | refine blk_alloc ?_ _)); exact BK176.out⟩
  have n4_ : Aside0 (((((w18.setCell ⟨gb187, 0, none⟩ (.int .i64 t182)).setCell ⟨gb187, 1, none⟩ (.int .i64 t183)).setCell ⟨gb188, 0, none⟩ (.int .i64 t184)).setCell ⟨gb188, 1, none⟩ (.int .i64 t185)).heap[gb187]? = some (.cells #[.int .i64 t182, .int .i64 t183] 61 (0, 0))) := ⟨by (with_reducible repeat (first | refine blk_drewN ?_ _ | refine blk_drew ?_ | refine blk_alloc ?_ _)); refine blk_far ?_ NB187_188.out _; (with_reducible repeat (first | refine blk_drewN ?_ _ | refine blk_drew ?_ | refine blk_alloc ?_ _)); refine blk_far ?_ NB187_188.out _; (with_reducible repeat (first | refine blk_drewN ?_ _ | refine blk_drew ?_ | refine blk_alloc ?_ _)); refine blk_put (cs := #[.int .i64 t182, .int .i64 0]) ?_ 1 _ rfl; (with_reducible repeat (first | refine blk_drewN ?_ _ | refine blk_drew ?_ | refine blk_alloc ?_ _)); refine blk_put (cs := #[.int .i64 0, .int .i64 0]) ?_ 0 _ rfl; (with_reducible repeat (first | refine blk_drewN ?_ _ | refine blk_drew ?_ | refine blk_alloc ?_ _)); exact BK187.out⟩
  have n5_ : Aside0 (((((w18.setCell ⟨gb187, 0, none⟩ (.int .i64 t182)).setCell ⟨gb187, 1, none⟩ (.int .i64 t183)).setCell ⟨gb188, 0, none⟩ (.int .i64 t184)).setCell ⟨gb188, 1, none⟩ (.int .i64 t185)).heap[gb188]? = some (.cells #[.int .i64 t184, .int .i64 t185] 61 (0, 0))) := ⟨by (with_reducible repeat (first | refine blk_drewN ?_ _ | refine blk_drew ?_ | refine blk_alloc ?_ _)); refine blk_put (cs := #[.int .i64 t184, .int .i64 0]) ?_ 1 _ rfl; (with_reducible repeat (first | refine blk_drewN ?_ _ | refine blk_drew ?_ | refine blk_alloc ?_ _)); refine blk_put (cs := #[.int .i64 0, .int .i64 0]) ?_ 0 _ rfl; (with_reducible repeat (first | refine blk_drewN ?_ _ | refine blk_drew ?_ | refine blk_alloc ?_ _)); refine blk_far ?_ NB188_187.out _; (with_reducible repeat (first | refine blk_drewN ?_ _ | refine blk_drew ?_ | refine blk_alloc ?_ _)); refine blk_far ?_ NB188_187.out _; (with_reducible repeat (first | refine blk_drewN ?_ _ | refine blk_drew ?_ | refine blk_alloc ?_ _)); exact BK188.out⟩
  have n6_ : Aside0 (Below w.heap.size w ((((w18.setCell ⟨gb187, 0, none⟩ (.int .i64 t182)).setCell ⟨gb187, 1, none⟩ (.int .i64 t183)).setCell ⟨gb188, 0, none⟩ (.int .i64 t184)).setCell ⟨gb188, 1, none⟩ (.int .i64 t185))) := ⟨by repeat (first | (with_reducible first | exact HB.out | apply below_alloc | apply pw_below_drewN | apply below_drew1 | refine below_set ?_ GE174.out | refine below_set ?_ GE175.out | refine below_set ?_ GE176.out | refine below_set ?_ GE187.out | refine below_set ?_ GE188.out) | exact HB.out)⟩
  (try clear HO179)
  (try clear BK174)
  (try clear BK175)
  (try clear BK176)
  (try clear BK187)
  (try clear BK188)
  (try clear HB)
  generalize ((((w18.setCell ⟨gb187, 0, none⟩ (.int .i64 t182)).setCell ⟨gb187, 1, none⟩ (.int .i64 t183)).setCell ⟨gb188, 0, none⟩ (.int .i64 t184)).setCell ⟨gb188, 1, none⟩ (.int .i64 t185)) = w23 at n0_ n1_ n2_ n3_ n4_ n5_ n6_ ⊢
  have HO179 := n0_
  have BK174 := n1_
  have BK175 := n2_
  have BK176 := n3_
  have BK187 := n4_
  have BK188 := n5_
  have HB := n6_
  clear n0_ n1_ n2_ n3_ n4_ n5_ n6_
  have n0_ := Aside0.mk (Kd.R_drew HO179.out)
  have n1_ := Aside0.mk (blk_drew BK174.out)
  have n2_ := Aside0.mk (blk_drew BK175.out)
  have n3_ := Aside0.mk (blk_drew BK176.out)
  have n4_ := Aside0.mk (blk_drew BK187.out)
  have n5_ := Aside0.mk (blk_drew BK188.out)
  have n6_ := Aside0.mk (below_drew1 HB.out)
  clear HO179
  clear BK174
  clear BK175
  clear BK176
  clear BK187
  clear BK188
  clear HB
  have HO179 := n0_
  have BK174 := n1_
  have BK175 := n2_
  have BK176 := n3_
  have BK187 := n4_
  have BK188 := n5_
  have HB := n6_
  clear n0_ n1_ n2_ n3_ n4_ n5_ n6_
  refine start_ (n := 8) (S := fun w' => w'.cell? ⟨gb187, 0, none⟩ = some (.int .i64 t182) ∧ w'.cell? ⟨gb187, 1, none⟩ = some (.int .i64 t183) ∧ w'.cell? ⟨gb188, 0, none⟩ = some (.int .i64 t184) ∧ w'.cell? ⟨gb188, 1, none⟩ = some (.int .i64 t185)) (ds := []) #[false, false, false, false, false, false, false, false] (by kernel_rfl) rfl rfl ⟨(blk_cell BK187.out 0).trans rfl, (blk_cell BK187.out 1).trans rfl, (blk_cell BK188.out 0).trans rfl, (blk_cell BK188.out 1).trans rfl⟩ (fun hHeld => ?_); refine with_tabW impl_RangesFind.tab2 impl_RangesFind.bits2 (fun HT_ HW_ => ?_)
  generalize w23.drew = w24 at HO179 BK174 BK175 BK176 BK187 BK188 HB hHeld ⊢
  refine pure_ (i := 4) (N := some 22) (v := ?_) (a' := ?_) #[false, false, false, false, true, false, false, false] rfl rfl (any_of HT_.out (by kernel_rfl)) (fun _ _ _ h => h) (Or.inl ⟨by rfl, ?_⟩) ?_ ?_
  rotate_left
  · intro w'
    go_simp
    with_reducible rfl
  rotate_left
  · simp only [Act.put, List.setIfInBounds_toArray, List.set_cons_zero, List.set_cons_succ, i64_w, i32_w]
    rfl
  refine take_ (i := 0) (N := some 18) (v := ?_) (a' := ?_) #[true, false, false, false, true, false, false, false] rfl rfl (take_ofW HT_.out HW_.out (by kernel_rfl)) (fun _ _ _ h => h) (Or.inl ⟨by rfl, ?_⟩) hHeld ?_ ?_
  rotate_left
  · rintro w' ⟨s0, s1, s2, s3⟩
    go_simp
    with_reducible rfl
  rotate_left
  · simp only [Act.put, List.setIfInBounds_toArray, List.set_cons_zero, List.set_cons_succ, i64_w, i32_w]
    rfl
  refine take_ (i := 2) (N := some 20) (v := ?_) (a' := ?_) #[true, false, true, false, true, false, false, false] rfl rfl (take_ofW HT_.out HW_.out (by kernel_rfl)) (fun _ _ _ h => h) (Or.inl ⟨by rfl, ?_⟩) hHeld ?_ ?_
  rotate_left
  · rintro w' ⟨s0, s1, s2, s3⟩
    go_simp
    with_reducible rfl
  rotate_left
  · simp only [Act.put, List.setIfInBounds_toArray, List.set_cons_zero, List.set_cons_succ, i64_w, i32_w]
    rfl
  refine one_ (i := 1) (N := some 19) #[true, true, true, false, true, false, false, false] rfl rfl (one_of HT_.out (by kernel_rfl)) (by decide) (fun K hK => ?_)
  refine goes_ Try.func45 (by kernel_rfl) rfl #[.agg #[.int .i64 t182, .int .i64 t183]] (by rfl) rfl rfl (by (try simp only [List.map_toArray, List.map_cons, List.map_nil]); first | done | rfl | (simp only [List.length_drop, List.length_take]; rfl)) ?_
  with_reducible refine (impl_told.calls t182 t183 t189 t190 _ A6.out).mono ?_
  rintro e w25 ⟨rfl, hb⟩
  refine ⟨_, rfl, ?_⟩
  have n0_ := Aside0.mk (Kd.R_below (by (with_reducible repeat (first | apply Kd.R_alloc | apply Kd.R_drewN | apply Kd.R_drew)); exact HO179.out) hb)
  have n1_ := Aside0.mk (blk_below (g := gb174) (o := .cells #[.int .i64 a1_0, .int .i64 a1_1] 28 (0, 0)) (by (with_reducible repeat (first | refine blk_drewN ?_ _ | refine blk_drew ?_ | refine blk_alloc ?_ _)); exact BK174.out) hb)
  have n2_ := Aside0.mk (blk_below (g := gb175) (o := .cells #[.int .i64 0, .int .i64 0] 28 (0, 0)) (by (with_reducible repeat (first | refine blk_drewN ?_ _ | refine blk_drew ?_ | refine blk_alloc ?_ _)); exact BK175.out) hb)
  have n3_ := Aside0.mk (blk_below (g := gb176) (o := .cells #[.int .i64 0, .int .i64 0] 28 (0, 0)) (by (with_reducible repeat (first | refine blk_drewN ?_ _ | refine blk_drew ?_ | refine blk_alloc ?_ _)); exact BK176.out) hb)
  have n4_ := Aside0.mk (blk_below (g := gb187) (o := .cells #[.int .i64 t182, .int .i64 t183] 61 (0, 0)) (by (with_reducible repeat (first | refine blk_drewN ?_ _ | refine blk_drew ?_ | refine blk_alloc ?_ _)); exact BK187.out) hb)
  have n5_ := Aside0.mk (blk_below (g := gb188) (o := .cells #[.int .i64 t184, .int .i64 t185] 61 (0, 0)) (by (with_reducible repeat (first | refine blk_drewN ?_ _ | refine blk_drew ?_ | refine blk_alloc ?_ _)); exact BK188.out) hb)
  have n6_ := Aside0.mk (below_step (by repeat (first | (with_reducible first | exact HB.out | apply below_alloc | apply pw_below_drewN | apply below_drew1 | refine below_set ?_ GE174.out | refine below_set ?_ GE175.out | refine below_set ?_ GE176.out | refine below_set ?_ GE187.out | refine below_set ?_ GE188.out) | exact HB.out)) hb)
  clear HO179
  clear BK174
  clear BK175
  clear BK176
  clear BK187
  clear BK188
  clear HB
  have HO179 := n0_
  have BK174 := n1_
  have BK175 := n2_
  have BK176 := n3_
  have BK187 := n4_
  have BK188 := n5_
  have HB := n6_
  clear n0_ n1_ n2_ n3_ n4_ n5_ n6_
  (try clear hb)
  (try clear hb2)
  (try clear hk)
  (try clear hi)
  refine hK.out _ _ ⟨(blk_cell BK187.out 0).trans rfl, (blk_cell BK187.out 1).trans rfl, (blk_cell BK188.out 0).trans rfl, (blk_cell BK188.out 1).trans rfl⟩ (fun hHeld => ?_)
  clear hK K
  refine norm_ (a' := ?_) ?_ ?_
  rotate_left
  · show Act.put _ (some 19) _ = _
    simp only [Act.put, List.setIfInBounds_toArray, List.set_cons_zero, List.set_cons_succ, i64_w, i32_w]
    rfl
  refine one_ (i := 3) (N := some 21) #[true, true, true, true, true, false, false, false] rfl rfl (one_of HT_.out (by kernel_rfl)) (by decide) (fun K hK => ?_)
  refine goes_ Try.func45 (by kernel_rfl) rfl #[.agg #[.int .i64 t184, .int .i64 t185]] (by rfl) rfl rfl (by (try simp only [List.map_toArray, List.map_cons, List.map_nil]); first | done | rfl | (simp only [List.length_drop, List.length_take]; rfl)) ?_
  with_reducible refine (impl_told.calls t184 t185 t191 t192 _ A7.out).mono ?_
  rintro e w26 ⟨rfl, hb⟩
  refine ⟨_, rfl, ?_⟩
  have n0_ := Aside0.mk (Kd.R_below (by (with_reducible repeat (first | apply Kd.R_alloc | apply Kd.R_drewN | apply Kd.R_drew)); exact HO179.out) hb)
  have n1_ := Aside0.mk (blk_below (g := gb174) (o := .cells #[.int .i64 a1_0, .int .i64 a1_1] 28 (0, 0)) (by (with_reducible repeat (first | refine blk_drewN ?_ _ | refine blk_drew ?_ | refine blk_alloc ?_ _)); exact BK174.out) hb)
  have n2_ := Aside0.mk (blk_below (g := gb175) (o := .cells #[.int .i64 0, .int .i64 0] 28 (0, 0)) (by (with_reducible repeat (first | refine blk_drewN ?_ _ | refine blk_drew ?_ | refine blk_alloc ?_ _)); exact BK175.out) hb)
  have n3_ := Aside0.mk (blk_below (g := gb176) (o := .cells #[.int .i64 0, .int .i64 0] 28 (0, 0)) (by (with_reducible repeat (first | refine blk_drewN ?_ _ | refine blk_drew ?_ | refine blk_alloc ?_ _)); exact BK176.out) hb)
  have n4_ := Aside0.mk (blk_below (g := gb187) (o := .cells #[.int .i64 t182, .int .i64 t183] 61 (0, 0)) (by (with_reducible repeat (first | refine blk_drewN ?_ _ | refine blk_drew ?_ | refine blk_alloc ?_ _)); exact BK187.out) hb)
  have n5_ := Aside0.mk (blk_below (g := gb188) (o := .cells #[.int .i64 t184, .int .i64 t185] 61 (0, 0)) (by (with_reducible repeat (first | refine blk_drewN ?_ _ | refine blk_drew ?_ | refine blk_alloc ?_ _)); exact BK188.out) hb)
  have n6_ := Aside0.mk (below_step (by repeat (first | (with_reducible first | exact HB.out | apply below_alloc | apply pw_below_drewN | apply below_drew1 | refine below_set ?_ GE174.out | refine below_set ?_ GE175.out | refine below_set ?_ GE176.out | refine below_set ?_ GE187.out | refine below_set ?_ GE188.out) | exact HB.out)) hb)
  clear HO179
  clear BK174
  clear BK175
  clear BK176
  clear BK187
  clear BK188
  clear HB
  have HO179 := n0_
  have BK174 := n1_
  have BK175 := n2_
  have BK176 := n3_
  have BK187 := n4_
  have BK188 := n5_
  have HB := n6_
  clear n0_ n1_ n2_ n3_ n4_ n5_ n6_
  (try clear hb)
  (try clear hb2)
  (try clear hk)
  (try clear hi)
  refine hK.out _ _ ⟨(blk_cell BK187.out 0).trans rfl, (blk_cell BK187.out 1).trans rfl, (blk_cell BK188.out 0).trans rfl, (blk_cell BK188.out 1).trans rfl⟩ (fun hHeld => ?_)
  clear hK K
  refine norm_ (a' := ?_) ?_ ?_
  rotate_left
  · show Act.put _ (some 21) _ = _
    simp only [Act.put, List.setIfInBounds_toArray, List.set_cons_zero, List.set_cons_succ, i64_w, i32_w]
    rfl
  refine one_ (i := 5) (N := none) #[true, true, true, true, true, true, false, false] rfl rfl (one_of HT_.out (by kernel_rfl)) (by decide) (fun K hK => ?_)
  have hs27 : w26.cell? ⟨gb175, 0, none⟩ = some (.int .i64 0) := (blk_cell BK175.out 0).trans rfl
  have hfs27 := blk_frozen BK175.out 0
  have hns27_0 := NB174_175.out
  have hns27_2 := NB176_175.out
  have hns27_3 := NB187_175.out
  have hns27_4 := NB188_175.out
  have hms27_0 := NB175_174.out
  have hms27_2 := NB175_176.out
  have hms27_3 := NB175_187.out
  have hms27_4 := NB175_188.out
  have hs28 : w26.cell? ⟨gb175, 1, none⟩ = some (.int .i64 0) := (blk_cell BK175.out 1).trans rfl
  have hfs28 := blk_frozen BK175.out 1
  have hns28_0 := NB174_175.out
  have hns28_2 := NB176_175.out
  have hns28_3 := NB187_175.out
  have hns28_4 := NB188_175.out
  have hms28_0 := NB175_174.out
  have hms28_2 := NB175_176.out
  have hms28_3 := NB175_187.out
  have hms28_4 := NB175_188.out
  refine skip_ (w1 := ?_) (by rfl) rfl ?_ ?_
  rotate_left
  · go_simp
    rfl
  refine hK.out _ _ ⟨((cell_far (p := ⟨gb175, _, none⟩) NB187_175.out _).trans (((cell_far (p := ⟨gb175, _, none⟩) NB187_175.out _).trans (hHeld.1)))), ((cell_far (p := ⟨gb175, _, none⟩) NB187_175.out _).trans (((cell_far (p := ⟨gb175, _, none⟩) NB187_175.out _).trans (hHeld.2.1)))), ((cell_far (p := ⟨gb175, _, none⟩) NB188_175.out _).trans (((cell_far (p := ⟨gb175, _, none⟩) NB188_175.out _).trans (hHeld.2.2.1)))), ((cell_far (p := ⟨gb175, _, none⟩) NB188_175.out _).trans (((cell_far (p := ⟨gb175, _, none⟩) NB188_175.out _).trans (hHeld.2.2.2))))⟩ (fun hHeld => ?_)
  clear hK K
  refine one_ (i := 6) (N := none) #[true, true, true, true, true, true, true, false] rfl rfl (one_of HT_.out (by kernel_rfl)) (by decide) (fun K hK => ?_)
  have hs29 : w26.cell? ⟨gb176, 0, none⟩ = some (.int .i64 0) := (blk_cell BK176.out 0).trans rfl
  have hfs29 := blk_frozen BK176.out 0
  have hns29_0 := NB174_176.out
  have hns29_1 := NB175_176.out
  have hns29_3 := NB187_176.out
  have hns29_4 := NB188_176.out
  have hms29_0 := NB176_174.out
  have hms29_1 := NB176_175.out
  have hms29_3 := NB176_187.out
  have hms29_4 := NB176_188.out
  have hs30 : w26.cell? ⟨gb176, 1, none⟩ = some (.int .i64 0) := (blk_cell BK176.out 1).trans rfl
  have hfs30 := blk_frozen BK176.out 1
  have hns30_0 := NB174_176.out
  have hns30_1 := NB175_176.out
  have hns30_3 := NB187_176.out
  have hns30_4 := NB188_176.out
  have hms30_0 := NB176_174.out
  have hms30_1 := NB176_175.out
  have hms30_3 := NB176_187.out
  have hms30_4 := NB176_188.out
  refine skip_ (w1 := ?_) (by rfl) rfl ?_ ?_
  rotate_left
  · go_simp
    rfl
  refine hK.out _ _ ⟨((cell_far (p := ⟨gb176, _, none⟩) NB187_176.out _).trans (((cell_far (p := ⟨gb176, _, none⟩) NB187_176.out _).trans (hHeld.1)))), ((cell_far (p := ⟨gb176, _, none⟩) NB187_176.out _).trans (((cell_far (p := ⟨gb176, _, none⟩) NB187_176.out _).trans (hHeld.2.1)))), ((cell_far (p := ⟨gb176, _, none⟩) NB188_176.out _).trans (((cell_far (p := ⟨gb176, _, none⟩) NB188_176.out _).trans (hHeld.2.2.1)))), ((cell_far (p := ⟨gb176, _, none⟩) NB188_176.out _).trans (((cell_far (p := ⟨gb176, _, none⟩) NB188_176.out _).trans (hHeld.2.2.2))))⟩ (fun hHeld => ?_)
  clear hK K
  refine pure_ (i := 7) (N := some 6) (v := ?_) (a' := ?_) #[true, true, true, true, true, true, true, true] rfl rfl (any_of HT_.out (by kernel_rfl)) (fun _ _ _ h => h) (Or.inl ⟨by rfl, ?_⟩) ?_ ?_
  rotate_left
  · intro w'
    go_simp
    with_reducible rfl
  rotate_left
  · simp only [Act.put, List.setIfInBounds_toArray, List.set_cons_zero, List.set_cons_succ, i64_w, i32_w]
    rfl
  refine done_ (done_of HT_.out (by kernel_rfl)) ?_
  try go_wp2
  refine bodyPost_ret (results_list (rs := [.cell 4 28, .cell 5 28, .tmp 6]) rfl (by simp) (.cell gb175 28 #[.int .i64 t189, .int .i64 t190] (0, 0) _ rfl (by (with_reducible repeat (first | refine blk_drewN ?_ _ | refine blk_drew ?_ | refine blk_alloc ?_ _)); refine blk_far ?_ NB175_176.out _; (with_reducible repeat (first | refine blk_drewN ?_ _ | refine blk_drew ?_ | refine blk_alloc ?_ _)); refine blk_far ?_ NB175_176.out _; (with_reducible repeat (first | refine blk_drewN ?_ _ | refine blk_drew ?_ | refine blk_alloc ?_ _)); refine blk_put (cs := #[.int .i64 t189, .int .i64 0]) ?_ 1 _ rfl; (with_reducible repeat (first | refine blk_drewN ?_ _ | refine blk_drew ?_ | refine blk_alloc ?_ _)); refine blk_put (cs := #[.int .i64 0, .int .i64 0]) ?_ 0 _ rfl; (with_reducible repeat (first | refine blk_drewN ?_ _ | refine blk_drew ?_ | refine blk_alloc ?_ _)); exact BK175.out) Try.underlying28 rfl (by kernel_rfl) (.cell gb176 28 #[.int .i64 t191, .int .i64 t192] (0, 0) _ rfl (by (with_reducible repeat (first | refine blk_drewN ?_ _ | refine blk_drew ?_ | refine blk_alloc ?_ _)); refine blk_put (cs := #[.int .i64 t191, .int .i64 0]) ?_ 1 _ rfl; (with_reducible repeat (first | refine blk_drewN ?_ _ | refine blk_drew ?_ | refine blk_alloc ?_ _)); refine blk_put (cs := #[.int .i64 0, .int .i64 0]) ?_ 0 _ rfl; (with_reducible repeat (first | refine blk_drewN ?_ _ | refine blk_drew ?_ | refine blk_alloc ?_ _)); refine blk_far ?_ NB176_175.out _; (with_reducible repeat (first | refine blk_drewN ?_ _ | refine blk_drew ?_ | refine blk_alloc ?_ _)); refine blk_far ?_ NB176_175.out _; (with_reducible repeat (first | refine blk_drewN ?_ _ | refine blk_drew ?_ | refine blk_alloc ?_ _)); exact BK176.out) Try.underlying28 rfl (by kernel_rfl) (.tmp .nil)))) rfl ?_
  exact ⟨by first | rfl | (simp [errW_none, errW_some] <;> rfl) | (simp [*, errW_none, errW_some] <;> rfl), by repeat (first | (with_reducible first | exact HB.out | apply below_alloc | apply pw_below_drewN | apply below_drew1 | refine below_set ?_ GE174.out | refine below_set ?_ GE175.out | refine below_set ?_ GE176.out | refine below_set ?_ GE187.out | refine below_set ?_ GE188.out) | exact HB.out)⟩

end Go.Proofs.Ytfegihmnpcjdgaa.PFnRangesFill

-- Written by a program of this session's (over the kit's print), with contracts proved by hand among what it calls.
import Derived.Test.YtfegihmnpcjdgaaPFnRangeClipx0
import Derived.Test.YtfegihmnpcjdgaaPFnRangeClipx1
import Derived.Test.YtfegihmnpcjdgaaPFnRangeClipx2
import Derived.Test.YtfegihmnpcjdgaaPFnRangeClipx3
namespace Go.Proofs.Ytfegihmnpcjdgaa.PFnRangeClip
open Go.RowKit Go.Proofs.YtfegihmnpcjdgaaW.PrintWords Go.Proofs.YtfegihmnpcjdgaaW.PrintLast Go.Proofs.YtfegihmnpcjdgaaW.PrintMore
attribute [local go_sem] max2_int min2_int max_two min_two max_three min_three max_four min_four   -- for this text's walks alone
set_option linter.unusedVariables false
set_option linter.unusedSimpArgs false

attribute [local go_sem high] eqA28 eqA37
/-! ### impl_RangesFindAll: function 18 -/
def impl_RangesFindAll.f (k : Nat) (l0 : List (S28)) (a1_0 : Int) (a1_1 : Int) : Option ((List (S37))) := (impl_inserted.f l0).bind fun t140 => ((impl_given.f a1_0 a1_1).bind fun bt143 => ((ranges_Ranges_FindAll.f k t140 bt143.1 bt143.2).bind fun t145 => ((impl_tellFound.f k t145).bind fun t148 => (some t148))))
theorem impl_RangesFindAll.mono : ∀ a0 a1 a2 k, LeO (impl_RangesFindAll.f k a0 a1 a2) (impl_RangesFindAll.f (k + 1) a0 a1 a2) := by
  intro a0 a1 a2 k
  unfold impl_RangesFindAll.f
  repeat' first
      | (with_reducible exact impl_tellFound.mono _ _)
      | (with_reducible exact ranges_Ranges_FindAll.mono _ _ _ _)
      | (with_reducible exact LeO.refl _)
      | (with_reducible exact LeO.none _)
      | (with_reducible refine LeO.ite ?_ ?_)
      | (with_reducible refine LeO.bind ?_ (fun _ => ?_))
      | exact impl_tellFound.mono _ _
      | exact ranges_Ranges_FindAll.mono _ _ _ _
      | exact LeO.none _
      | refine LeO.ite ?_ ?_
      | refine LeO.bind ?_ (fun _ => ?_)
set_option maxHeartbeats 8000000 in
set_option maxRecDepth 100000 in
theorem impl_RangesFindAll.calls (k : Nat) (A0 : Option Addr) (c0 : Nat) (l0 : List (S28)) (a1_0 : Int) (a1_1 : Int) (r : List (S37)) (w : World) (hr0 : Kd.C k28 w A0 l0.length l0) (hc0 : l0.length ≤ c0) (h : impl_RangesFindAll.f k l0 a1_0 a1_1 = some r) :
    Calls Try.prog 18 #[.slice A0 l0.length c0, .agg #[.int .i64 a1_0, .int .i64 a1_1]] w fun e w' => ∃ v0_ : Value, e = .returned (v0_) ∧ Kd.R k37 37 w' w.heap.size (fun _ => True) v0_ r ∧ Below w.heap.size w w' := by
  have hu28 := Try.underlying28
  have HR0 := Aside0.mk hr0
  have HC0 := Aside0.mk hc0
  clear hr0 hc0
  have HB := Aside0.mk (Below.refl w.heap.size w)
  have H : ((impl_inserted.f l0).bind fun t140 => ((impl_given.f a1_0 a1_1).bind fun bt143 => ((ranges_Ranges_FindAll.f k t140 bt143.1 bt143.2).bind fun t145 => ((impl_tellFound.f k t145).bind fun t148 => (some t148))))) = some r := h
  clear h
  replace H := Option.bind_eq_some_iff.mp H
  obtain ⟨t140, A30, H⟩ := H
  replace H : ((impl_given.f a1_0 a1_1).bind fun bt143 => ((ranges_Ranges_FindAll.f k t140 bt143.1 bt143.2).bind fun t145 => ((impl_tellFound.f k t145).bind fun t148 => (some t148)))) = some r := H
  have A3 := Aside0.mk A30
  clear A30
  replace H := Option.bind_eq_some_iff.mp H
  obtain ⟨⟨t143, t144⟩, A40, H⟩ := H
  replace H : ((ranges_Ranges_FindAll.f k t140 t143 t144).bind fun t145 => ((impl_tellFound.f k t145).bind fun t148 => (some t148))) = some r := H
  have A4 := Aside0.mk A40
  clear A40
  replace H := Option.bind_eq_some_iff.mp H
  obtain ⟨t145, A50, H⟩ := H
  replace H : ((impl_tellFound.f k t145).bind fun t148 => (some t148)) = some r := H
  have A5 := Aside0.mk A50
  clear A50
  replace H := Option.bind_eq_some_iff.mp H
  obtain ⟨t148, A60, H⟩ := H
  replace H : (some t148) = some r := H
  have A6 := Aside0.mk A60
  clear A60
  obtain rfl := Option.some.inj H
  go_enter Try.func18, Try.ntmps18
  try go_wp2_with (first | ((with_reducible refine gate_dst (N := 3) rfl ?_); refine box_event ?hg (N := 3) ?hd (cs := #[.int .i64 a1_0, .int .i64 a1_1]) (t := 28) ?hr ?_; (case hd => rfl); (case hg => rfl); (case hr => first | (go_simp; done) | (go_simp; rfl)); intro gb139 hg w7 hbox hb; have n0_ := Aside0.mk (below_step (by repeat (first | (with_reducible first | exact HB.out | apply below_alloc | apply pw_below_drewN | apply below_drew1) | exact HB.out)) hb); have n1_ := Aside0.mk (hbox); have n2_ := Aside0.mk ((by rw [hg]; exact (below_size (by repeat (first | (with_reducible first | exact HB.out | apply below_alloc | apply pw_below_drewN | apply below_drew1) | exact HB.out))) : w.heap.size ≤ gb139)); have n3_ := Aside0.mk ((by rw [hg]; exact (below_size (by repeat (first | (with_reducible first | exact HB.out | apply below_alloc | apply pw_below_drewN | apply below_drew1) | exact HB.out))) : w.heap.size ≤ gb139)); clear HB; have HB := n0_; have BK139 := n1_; have GW139 := n2_; have GE139 := n3_; clear n0_ n1_ n2_ n3_; clear hb hbox hg))
  have n0_ := Aside0.mk (blk_drew BK139.out)
  have n1_ := Aside0.mk (below_drew1 HB.out)
  clear BK139
  clear HB
  have BK139 := n0_
  have HB := n1_
  clear n0_ n1_
  refine start_ (n := 7) (S := fun w' => w'.cell? ⟨gb139, 0, none⟩ = some (.int .i64 a1_0) ∧ w'.cell? ⟨gb139, 1, none⟩ = some (.int .i64 a1_1)) (ds := []) #[false, false, false, false, false, false, false] (by kernel_rfl) rfl rfl ⟨(blk_cell BK139.out 0).trans rfl, (blk_cell BK139.out 1).trans rfl⟩ (fun hHeld => ?_)
  generalize w7.drew = w8 at BK139 HB hHeld ⊢
  refine pure_ (i := 0) (N := some 5) (v := ?_) (a' := ?_) #[true, false, false, false, false, false, false] rfl rfl (by kernel_rfl) (fun _ _ _ h => h) (Or.inl ⟨by rfl, ?_⟩) ?_ ?_
  rotate_left
  · intro w'
    go_simp
    with_reducible rfl
  rotate_left
  · simp only [Act.put, List.setIfInBounds_toArray, List.set_cons_zero, List.set_cons_succ, i64_w, i32_w]
    rfl
  refine take_ (i := 2) (N := some 7) (v := ?_) (a' := ?_) #[true, false, true, false, false, false, false] rfl rfl (by kernel_rfl) (fun _ _ _ h => h) (Or.inl ⟨by rfl, ?_⟩) hHeld ?_ ?_
  rotate_left
  · rintro w' ⟨s0, s1⟩
    go_simp
    with_reducible rfl
  rotate_left
  · simp only [Act.put, List.setIfInBounds_toArray, List.set_cons_zero, List.set_cons_succ, i64_w, i32_w]
    rfl
  refine one_ (i := 1) (N := some 6) #[true, true, true, false, false, false, false] rfl rfl (by kernel_rfl) (by decide) (fun K hK => ?_)
  refine goes_ Try.func38 (by kernel_rfl) rfl #[.slice A0 l0.length c0] (by rfl) rfl rfl (by (try simp only [List.map_toArray, List.map_cons, List.map_nil]); first | done | rfl | (simp only [List.length_drop, List.length_take]; rfl)) ?_
  with_reducible refine (impl_inserted.calls _ _ l0 t140 _ ?side1 ?side2 A3.out).mono ?_
  (case side1 => repeat (first | exact (Kd.C_below HR0.out HB.out) | (with_reducible refine Kd.C_alloc ?_ _) | (with_reducible refine Kd.C_drewN ?_ _) | (with_reducible refine Kd.C_drew ?_)))
  (case side2 => exact HC0.out)
  rintro e w9 ⟨v141, rfl, ho0, hb⟩
  refine ⟨_, rfl, ?_⟩
  have n0_ := Aside0.mk (Kd.R_lower ho0 (below_size (by repeat (first | (with_reducible first | exact HB.out | apply below_alloc | apply pw_below_drewN | apply below_drew1 | refine below_set ?_ GE139.out) | exact HB.out))))
  have n1_ := Aside0.mk (blk_below (g := gb139) (o := .cells #[.int .i64 a1_0, .int .i64 a1_1] 28 (0, 0)) (by (with_reducible repeat (first | refine blk_drewN ?_ _ | refine blk_drew ?_ | refine blk_alloc ?_ _)); exact BK139.out) hb)
  have n2_ := Aside0.mk (below_step (by repeat (first | (with_reducible first | exact HB.out | apply below_alloc | apply pw_below_drewN | apply below_drew1 | refine below_set ?_ GE139.out) | exact HB.out)) hb)
  clear BK139
  clear HB
  have HO142 := n0_
  have BK139 := n1_
  have HB := n2_
  clear n0_ n1_ n2_
  (try clear hb)
  (try clear hb2)
  (try clear hk)
  (try clear hi)
  (try clear ho0)
  refine hK.out _ _ ⟨(blk_cell BK139.out 0).trans rfl, (blk_cell BK139.out 1).trans rfl⟩ (fun hHeld => ?_)
  clear hK K
  refine norm_ (a' := ?_) ?_ ?_
  rotate_left
  · show Act.put _ (some 6) _ = _
    simp only [Act.put, List.setIfInBounds_toArray, List.set_cons_zero, List.set_cons_succ, i64_w, i32_w]
    rfl
  refine one_ (i := 3) (N := some 8) #[true, true, true, true, false, false, false] rfl rfl (by kernel_rfl) (by decide) (fun K hK => ?_)
  refine goes_ Try.func41 (by kernel_rfl) rfl #[.agg #[.int .i64 a1_0, .int .i64 a1_1]] (by rfl) rfl rfl (by (try simp only [List.map_toArray, List.map_cons, List.map_nil]); first | done | rfl | (simp only [List.length_drop, List.length_take]; rfl)) ?_
  with_reducible refine (impl_given.calls a1_0 a1_1 t143 t144 _ A4.out).mono ?_
  rintro e w10 ⟨rfl, hb⟩
  refine ⟨_, rfl, ?_⟩
  have n0_ := Aside0.mk (Kd.R_below (by (with_reducible repeat (first | apply Kd.R_alloc | apply Kd.R_drewN | apply Kd.R_drew)); exact HO142.out) hb)
  have n1_ := Aside0.mk (blk_below (g := gb139) (o := .cells #[.int .i64 a1_0, .int .i64 a1_1] 28 (0, 0)) (by (with_reducible repeat (first | refine blk_drewN ?_ _ | refine blk_drew ?_ | refine blk_alloc ?_ _)); exact BK139.out) hb)
  have n2_ := Aside0.mk (below_step (by repeat (first | (with_reducible first | exact HB.out | apply below_alloc | apply pw_below_drewN | apply below_drew1 | refine below_set ?_ GE139.out) | exact HB.out)) hb)
  clear HO142
  clear BK139
  clear HB
  have HO142 := n0_
  have BK139 := n1_
  have HB := n2_
  clear n0_ n1_ n2_
  (try clear hb)
  (try clear hb2)
  (try clear hk)
  (try clear hi)
  obtain ⟨Ao11, co11, eo11⟩ := Kd.R_slice HO142.out
  (first | subst eo11 | (injection eo11 with f1_ f2_ f3_; have f4_ := f1_.symm; have f5_ := f3_.symm; clear f1_ f2_ f3_; subst f4_; subst f5_))
  refine hK.out _ _ ⟨(blk_cell BK139.out 0).trans rfl, (blk_cell BK139.out 1).trans rfl⟩ (fun hHeld => ?_)
  clear hK K
  refine norm_ (a' := ?_) ?_ ?_
  rotate_left
  · show Act.put _ (some 8) _ = _
    simp only [Act.put, List.setIfInBounds_toArray, List.set_cons_zero, List.set_cons_succ, i64_w, i32_w]
    rfl
  refine one_ (i := 4) (N := some 9) #[true, true, true, true, true, false, false] rfl rfl (by kernel_rfl) (by decide) (fun K hK => ?_)
  refine goes_ Try.func40 (by kernel_rfl) rfl #[.slice Ao11 t140.length co11, .agg #[.int .i64 t143, .int .i64 t144]] (by rfl) rfl rfl (by (try simp only [List.map_toArray, List.map_cons, List.map_nil]); first | done | rfl | (simp only [List.length_drop, List.length_take]; rfl)) ?_
  with_reducible refine (ranges_Ranges_FindAll.calls k _ _ t140 t143 t144 t145 _ ?side1 ?side2 A5.out).mono ?_
  (case side1 => repeat (first | exact (Kd.R_reads' HO142.out).2.2 | (with_reducible refine Kd.C_alloc ?_ _) | (with_reducible refine Kd.C_drewN ?_ _) | (with_reducible refine Kd.C_drew ?_)))
  (case side2 => exact (Kd.R_reads' HO142.out).2.1)
  rintro e w12 ⟨v146, rfl, ho0, hb⟩
  refine ⟨_, rfl, ?_⟩
  have n0_ := Aside0.mk (Kd.R_below (by (with_reducible repeat (first | apply Kd.R_alloc | apply Kd.R_drewN | apply Kd.R_drew)); exact HO142.out) hb)
  have n1_ := Aside0.mk (Kd.R_lower ho0 (below_size (by repeat (first | (with_reducible first | exact HB.out | apply below_alloc | apply pw_below_drewN | apply below_drew1 | refine below_set ?_ GE139.out) | exact HB.out))))
  have n2_ := Aside0.mk (blk_below (g := gb139) (o := .cells #[.int .i64 a1_0, .int .i64 a1_1] 28 (0, 0)) (by (with_reducible repeat (first | refine blk_drewN ?_ _ | refine blk_drew ?_ | refine blk_alloc ?_ _)); exact BK139.out) hb)
  have n3_ := Aside0.mk (below_step (by repeat (first | (with_reducible first | exact HB.out | apply below_alloc | apply pw_below_drewN | apply below_drew1 | refine below_set ?_ GE139.out) | exact HB.out)) hb)
  clear HO142
  clear BK139
  clear HB
  have HO142 := n0_
  have HO147 := n1_
  have BK139 := n2_
  have HB := n3_
  clear n0_ n1_ n2_ n3_
  (try clear hb)
  (try clear hb2)
  (try clear hk)
  (try clear hi)
  (try clear ho0)
  obtain ⟨Ao13, co13, eo13⟩ := Kd.R_slice HO147.out
  (first | subst eo13 | (injection eo13 with f1_ f2_ f3_; have f4_ := f1_.symm; have f5_ := f3_.symm; clear f1_ f2_ f3_; subst f4_; subst f5_))
  refine hK.out _ _ ⟨(blk_cell BK139.out 0).trans rfl, (blk_cell BK139.out 1).trans rfl⟩ (fun hHeld => ?_)
  clear hK K
  refine norm_ (a' := ?_) ?_ ?_
  rotate_left
  · show Act.put _ (some 9) _ = _
    simp only [Act.put, List.setIfInBounds_toArray, List.set_cons_zero, List.set_cons_succ, i64_w, i32_w]
    rfl
  refine one_ (i := 5) (N := some 10) #[true, true, true, true, true, true, false] rfl rfl (by kernel_rfl) (by decide) (fun K hK => ?_)
  refine goes_ Try.func39 (by kernel_rfl) rfl #[.slice Ao13 t145.length co13] (by rfl) rfl rfl (by (try simp only [List.map_toArray, List.map_cons, List.map_nil]); first | done | rfl | (simp only [List.length_drop, List.length_take]; rfl)) ?_
  with_reducible refine (impl_tellFound.calls k _ _ t145 t148 _ ?side1 ?side2 A6.out).mono ?_
  (case side1 => repeat (first | exact (Kd.R_reads' HO147.out).2.2 | (with_reducible refine Kd.C_alloc ?_ _) | (with_reducible refine Kd.C_drewN ?_ _) | (with_reducible refine Kd.C_drew ?_)))
  (case side2 => exact (Kd.R_reads' HO147.out).2.1)
  rintro e w14 ⟨v149, rfl, ho0, hb⟩
  refine ⟨_, rfl, ?_⟩
  have n0_ := Aside0.mk (Kd.R_below (by (with_reducible repeat (first | apply Kd.R_alloc | apply Kd.R_drewN | apply Kd.R_drew)); exact HO142.out) hb)
  have n1_ := Aside0.mk (Kd.R_below (by (with_reducible repeat (first | apply Kd.R_alloc | apply Kd.R_drewN | apply Kd.R_drew)); exact HO147.out) hb)
  have n2_ := Aside0.mk (Kd.R_lower ho0 (below_size (by repeat (first | (with_reducible first | exact HB.out | apply below_alloc | apply pw_below_drewN | apply below_drew1 | refine below_set ?_ GE139.out) | exact HB.out))))
  have n3_ := Aside0.mk (blk_below (g := gb139) (o := .cells #[.int .i64 a1_0, .int .i64 a1_1] 28 (0, 0)) (by (with_reducible repeat (first | refine blk_drewN ?_ _ | refine blk_drew ?_ | refine blk_alloc ?_ _)); exact BK139.out) hb)
  have n4_ := Aside0.mk (below_step (by repeat (first | (with_reducible first | exact HB.out | apply below_alloc | apply pw_below_drewN | apply below_drew1 | refine below_set ?_ GE139.out) | exact HB.out)) hb)
  clear HO142
  clear HO147
  clear BK139
  clear HB
  have HO142 := n0_
  have HO147 := n1_
  have HO150 := n2_
  have BK139 := n3_
  have HB := n4_
  clear n0_ n1_ n2_ n3_ n4_
  (try clear hb)
  (try clear hb2)
  (try clear hk)
  (try clear hi)
  (try clear ho0)
  refine hK.out _ _ ⟨(blk_cell BK139.out 0).trans rfl, (blk_cell BK139.out 1).trans rfl⟩ (fun hHeld => ?_)
  clear hK K
  refine norm_ (a' := ?_) ?_ ?_
  rotate_left
  · show Act.put _ (some 10) _ = _
    simp only [Act.put, List.setIfInBounds_toArray, List.set_cons_zero, List.set_cons_succ, i64_w, i32_w]
    rfl
  refine pure_ (i := 6) (N := some 4) (v := ?_) (a' := ?_) #[true, true, true, true, true, true, true] rfl rfl (by kernel_rfl) (fun _ _ _ h => h) (Or.inl ⟨by rfl, ?_⟩) ?_ ?_
  rotate_left
  · intro w'
    go_simp
    with_reducible rfl
  rotate_left
  · simp only [Act.put, List.setIfInBounds_toArray, List.set_cons_zero, List.set_cons_succ, i64_w, i32_w]
    rfl
  refine done_ (by kernel_rfl) ?_
  try go_wp2
  go_ret
  exact ⟨_, by first | rfl | (simp [errW_none, errW_some] <;> rfl) | (simp [*, errW_none, errW_some] <;> rfl), by (with_reducible repeat (first | apply Kd.R_alloc | apply Kd.R_drewN | apply Kd.R_drew)); exact HO150.out, by repeat (first | (with_reducible first | exact HB.out | apply below_alloc | apply pw_below_drewN | apply below_drew1 | refine below_set ?_ GE139.out) | exact HB.out)⟩

/-! ### laws_rangeAwake: function 13 -/
def laws_rangeAwake.f (k : Nat)  : Option (Bool) := (impl_RangesOf.f k (([(⟨5, 5⟩ : S28), (⟨0, 5⟩ : S28)] : List (S28)))).bind fun t154 => ((impl_RangesFindAll.f k (([(⟨0, 2⟩ : S28), (⟨4, 2⟩ : S28)] : List (S28))) 1 4).bind fun t160 => ((spec_RangesSame.f k t154 (([(⟨0, 10⟩ : S28)] : List (S28)))).bind fun t166 => (if t166 = true then (if (t160.length : Int) = 3 then (if 1 < (t160.length : Int) then (some ((((rd_T37 t160 1).f0.f0) == 2 && (((rd_T37 t160 1).f0.f1) == 2)) && (!((rd_T37 t160 1).f1)))) else (none)) else (some false)) else (some false))))
theorem laws_rangeAwake.mono : ∀ k, LeO (laws_rangeAwake.f k ) (laws_rangeAwake.f (k + 1) ) := by
  intro  k
  unfold laws_rangeAwake.f
  repeat' first
      | (with_reducible exact impl_RangesFindAll.mono _ _ _ _)
      | (with_reducible exact impl_RangesOf.mono _ _)
      | (with_reducible exact spec_RangesSame.mono _ _ _)
      | (with_reducible exact LeO.refl _)
      | (with_reducible exact LeO.none _)
      | (with_reducible refine LeO.ite ?_ ?_)
      | (with_reducible refine LeO.bind ?_ (fun _ => ?_))
      | exact impl_RangesFindAll.mono _ _ _ _
      | exact impl_RangesOf.mono _ _
      | exact spec_RangesSame.mono _ _ _
      | exact LeO.none _
      | refine LeO.ite ?_ ?_
      | refine LeO.bind ?_ (fun _ => ?_)
set_option maxHeartbeats 8000000 in
set_option maxRecDepth 100000 in
theorem laws_rangeAwake.calls (k : Nat)  (r : Bool) (w : World) (h : laws_rangeAwake.f k  = some r) :
    Calls Try.prog 13 #[] w fun e w' => e = .returned (.bool r) ∧ Below w.heap.size w w' := by
  have hu28 := Try.underlying28
  have hu37 := Try.underlying37
  have HB := Aside0.mk (Below.refl w.heap.size w)
  have H : ((impl_RangesOf.f k (([(⟨5, 5⟩ : S28), (⟨0, 5⟩ : S28)] : List (S28)))).bind fun t154 => ((impl_RangesFindAll.f k (([(⟨0, 2⟩ : S28), (⟨4, 2⟩ : S28)] : List (S28))) 1 4).bind fun t160 => ((spec_RangesSame.f k t154 (([(⟨0, 10⟩ : S28)] : List (S28)))).bind fun t166 => (if t166 = true then (if (t160.length : Int) = 3 then (if 1 < (t160.length : Int) then (some ((((rd_T37 t160 1).f0.f0) == 2 && (((rd_T37 t160 1).f0.f1) == 2)) && (!((rd_T37 t160 1).f1)))) else (none)) else (some false)) else (some false))))) = some r := h
  clear h
  obtain ⟨y151, hy151⟩ : ∃ y_ : List (S28), y_ = (([(⟨5, 5⟩ : S28), (⟨0, 5⟩ : S28)] : List (S28))) := ⟨_, rfl⟩
  replace H : ((impl_RangesOf.f k y151).bind fun t154 => ((impl_RangesFindAll.f k (([(⟨0, 2⟩ : S28), (⟨4, 2⟩ : S28)] : List (S28))) 1 4).bind fun t160 => ((spec_RangesSame.f k t154 (([(⟨0, 10⟩ : S28)] : List (S28)))).bind fun t166 => (if t166 = true then (if (t160.length : Int) = 3 then (if 1 < (t160.length : Int) then (some ((((rd_T37 t160 1).f0.f0) == 2 && (((rd_T37 t160 1).f0.f1) == 2)) && (!((rd_T37 t160 1).f1)))) else (none)) else (some false)) else (some false))))) = some r := by first | (rw [hy151]; with_reducible exact H) | (have H2_ := (Option.bind_some _ _).symm.trans H; rw [hy151]; with_reducible exact H2_) | (have H2_ := (Option.bind_some _ _).symm.trans H; with_reducible exact H2_) | with_reducible exact H | (rw [hy151]; exact H) | exact H
  have Ny151 := Aside0.mk hy151
  clear hy151
  replace H := Option.bind_eq_some_iff.mp H
  obtain ⟨t154, A10, H⟩ := H
  replace H : ((impl_RangesFindAll.f k (([(⟨0, 2⟩ : S28), (⟨4, 2⟩ : S28)] : List (S28))) 1 4).bind fun t160 => ((spec_RangesSame.f k t154 (([(⟨0, 10⟩ : S28)] : List (S28)))).bind fun t166 => (if t166 = true then (if (t160.length : Int) = 3 then (if 1 < (t160.length : Int) then (some ((((rd_T37 t160 1).f0.f0) == 2 && (((rd_T37 t160 1).f0.f1) == 2)) && (!((rd_T37 t160 1).f1)))) else (none)) else (some false)) else (some false)))) = some r := H
  have A1 := Aside0.mk A10
  clear A10
  obtain ⟨y157, hy157⟩ : ∃ y_ : List (S28), y_ = (([(⟨0, 2⟩ : S28), (⟨4, 2⟩ : S28)] : List (S28))) := ⟨_, rfl⟩
  replace H : ((impl_RangesFindAll.f k y157 1 4).bind fun t160 => ((spec_RangesSame.f k t154 (([(⟨0, 10⟩ : S28)] : List (S28)))).bind fun t166 => (if t166 = true then (if (t160.length : Int) = 3 then (if 1 < (t160.length : Int) then (some ((((rd_T37 t160 1).f0.f0) == 2 && (((rd_T37 t160 1).f0.f1) == 2)) && (!((rd_T37 t160 1).f1)))) else (none)) else (some false)) else (some false)))) = some r := by first | (rw [hy157]; with_reducible exact H) | (have H2_ := (Option.bind_some _ _).symm.trans H; rw [hy157]; with_reducible exact H2_) | (have H2_ := (Option.bind_some _ _).symm.trans H; with_reducible exact H2_) | with_reducible exact H | (rw [hy157]; exact H) | exact H
  have Ny157 := Aside0.mk hy157
  clear hy157
  replace H := Option.bind_eq_some_iff.mp H
  obtain ⟨t160, A20, H⟩ := H
  replace H : ((spec_RangesSame.f k t154 (([(⟨0, 10⟩ : S28)] : List (S28)))).bind fun t166 => (if t166 = true then (if (t160.length : Int) = 3 then (if 1 < (t160.length : Int) then (some ((((rd_T37 t160 1).f0.f0) == 2 && (((rd_T37 t160 1).f0.f1) == 2)) && (!((rd_T37 t160 1).f1)))) else (none)) else (some false)) else (some false))) = some r := H
  have A2 := Aside0.mk A20
  clear A20
  obtain ⟨y163, hy163⟩ : ∃ y_ : List (S28), y_ = (([(⟨0, 10⟩ : S28)] : List (S28))) := ⟨_, rfl⟩
  replace H : ((spec_RangesSame.f k t154 y163).bind fun t166 => (if t166 = true then (if (t160.length : Int) = 3 then (if 1 < (t160.length : Int) then (some ((((rd_T37 t160 1).f0.f0) == 2 && (((rd_T37 t160 1).f0.f1) == 2)) && (!((rd_T37 t160 1).f1)))) else (none)) else (some false)) else (some false))) = some r := by first | (rw [hy163]; with_reducible exact H) | (have H2_ := (Option.bind_some _ _).symm.trans H; rw [hy163]; with_reducible exact H2_) | (have H2_ := (Option.bind_some _ _).symm.trans H; with_reducible exact H2_) | with_reducible exact H | (rw [hy163]; exact H) | exact H
  have Ny163 := Aside0.mk hy163
  clear hy163
  replace H := Option.bind_eq_some_iff.mp H
  obtain ⟨t166, A30, H⟩ := H
  replace H : (if t166 = true then (if (t160.length : Int) = 3 then (if 1 < (t160.length : Int) then (some ((((rd_T37 t160 1).f0.f0) == 2 && (((rd_T37 t160 1).f0.f1) == 2)) && (!((rd_T37 t160 1).f1)))) else (none)) else (some false)) else (some false)) = some r := H
  have A3 := Aside0.mk A30
  clear A30
  by_cases c4 : t166 = true
  · subst c4
    have H1 : (if (t160.length : Int) = 3 then (if 1 < (t160.length : Int) then (some ((((rd_T37 t160 1).f0.f0) == 2 && (((rd_T37 t160 1).f0.f1) == 2)) && (!((rd_T37 t160 1).f1)))) else (none)) else (some false)) = some r := by rw [if_pos rfl] at H; exact H
    clear H
    have H := H1
    clear H1
    by_cases c5 : (t160.length : Int) = 3
    · rw [if_pos c5] at H
      have c5b0 : ((t160.length : Int) == 3) = true := beq_iff_eq.mpr c5
      have c5b1 : ((t160.length : Int) != 3) = false := bne_eq_false_iff_eq.mpr c5
      clear c5
      by_cases c6 : 1 < (t160.length : Int)
      · rw [if_pos c6] at H
        have c6b0 : decide (1 < (t160.length : Int)) = true := decide_eq_true c6
        have c6b1 : decide (1 < t160.length) = true := decide_eq_true (by omega)
        clear c6
        obtain rfl := Option.some.inj H
        go_enter Try.func13, Try.ntmps13
        go_wp2_with (first | ((with_reducible refine gate_dst (N := 5) rfl ?_); (try (refine gate_guard (by rfl) ?_; dsimp only)); refine Kd.R_lit k28 _ 28 ?hg (N := 5) ?hd (xs := ([(⟨5, 5⟩ : S28), (⟨0, 5⟩ : S28)] : List (S28))) (inner := [.int .i64 5, .int .i64 5, .int .i64 0, .int .i64 5]) (ok := fun _ => True) (okp := fun _ => True) ?hr ?hp (fun _ hk => hk) trivial (Below.refl _ _) (Nat.le_refl _) (by simp) ?_; (case hd => rfl); (case hg => rfl); (case hr => first | (go_simp; done) | (go_simp; rfl)); (case hp => exact (Reps.c2 (show Kd.M k28 _ _ _ (⟨5, 5⟩ : S28) [.int .i64 5, .int .i64 5] from (k28_mkM _ _ _ (⟨5, 5⟩ : S28) )) (Reps.c2 (show Kd.M k28 _ _ _ (⟨0, 5⟩ : S28) [.int .i64 0, .int .i64 5] from (k28_mkM _ _ _ (⟨0, 5⟩ : S28) )) (Reps.none _ _)))); intro v152 w7 ho8 hb hg_ hnew_; clear hg_ hnew_; (first | rw [← Ny151.out] at ho8 | (simp only [Int.reduceToNat] at ho8; rw [← Ny151.out] at ho8)); have n0_ := Aside0.mk (Kd.R_lower ho8 (below_size (by repeat (first | (with_reducible first | exact HB.out | apply below_alloc | apply pw_below_drewN | apply below_drew1) | exact HB.out)))); have n1_ := Aside0.mk (below_step (by repeat (first | (with_reducible first | exact HB.out | apply below_alloc | apply pw_below_drewN | apply below_drew1) | exact HB.out)) hb); clear HB; have HO153 := n0_; have HB := n1_; clear n0_ n1_; clear hb ho8; obtain ⟨Ao9, co9, eo9⟩ := Kd.R_slice HO153.out; subst eo9) | ((with_reducible refine gate_callee (f := 14) rfl ?_); refine goesL_ (some 6) rfl rfl Try.func14 (by kernel_rfl) rfl #[.slice Ao9 y151.length co9] rfl (by (try simp only [List.map_toArray, List.map_cons, List.map_nil]); first | done | rfl | (simp only [List.length_drop, List.length_take]; rfl)) ?_; (with_reducible refine (impl_RangesOf.calls k _ _ y151 t154 _ ?side1 ?side2 A1.out).mono ?_); (case side1 => repeat (first | exact (Kd.R_reads' HO153.out).2.2 | (with_reducible refine Kd.C_alloc ?_ _) | (with_reducible refine Kd.C_drewN ?_ _) | (with_reducible refine Kd.C_drew ?_))); (case side2 => exact (Kd.R_reads' HO153.out).2.1); rintro e w10 ⟨v155, rfl, ho0, hb⟩; refine ⟨_, rfl, ?_⟩; have n0_ := Aside0.mk (Kd.R_elder' (by (with_reducible repeat (first | apply Kd.R_alloc | apply Kd.R_drewN | apply Kd.R_drew)); exact HO153.out) (Kd.R_base ho0) hb); have n1_ := Aside0.mk (Kd.R_lower (Kd.R_new' ho0 (Kd.R_lt (by (with_reducible repeat (first | apply Kd.R_alloc | apply Kd.R_drewN | apply Kd.R_drew)); exact HO153.out))) (below_size (by repeat (first | (with_reducible first | exact HB.out | apply below_alloc | apply pw_below_drewN | apply below_drew1) | exact HB.out)))); have n2_ := Aside0.mk (below_step (by repeat (first | (with_reducible first | exact HB.out | apply below_alloc | apply pw_below_drewN | apply below_drew1) | exact HB.out)) hb); clear HO153; clear HB; have HO153 := n0_; have HO156 := n1_; have HB := n2_; clear n0_ n1_ n2_; (try clear hb); (try clear hb2); (try clear hk); (try clear hi); (try clear ho0)) | ((with_reducible refine gate_dst (N := 9) rfl ?_); (try (refine gate_guard (by rfl) ?_; dsimp only)); refine Kd.R_lit k28 _ 28 ?hg (N := 9) ?hd (xs := ([(⟨0, 2⟩ : S28), (⟨4, 2⟩ : S28)] : List (S28))) (inner := [.int .i64 0, .int .i64 2, .int .i64 4, .int .i64 2]) (ok := fun _ => True) (okp := fun _ => True) ?hr ?hp (fun _ hk => hk) trivial (Below.refl _ _) (Nat.le_refl _) (by simp) ?_; (case hd => rfl); (case hg => rfl); (case hr => first | (go_simp; done) | (go_simp; rfl)); (case hp => exact (Reps.c2 (show Kd.M k28 _ _ _ (⟨0, 2⟩ : S28) [.int .i64 0, .int .i64 2] from (k28_mkM _ _ _ (⟨0, 2⟩ : S28) )) (Reps.c2 (show Kd.M k28 _ _ _ (⟨4, 2⟩ : S28) [.int .i64 4, .int .i64 2] from (k28_mkM _ _ _ (⟨4, 2⟩ : S28) )) (Reps.none _ _)))); intro v158 w11 ho12 hb hg_ hnew_; clear hg_ hnew_; (first | rw [← Ny157.out] at ho12 | (simp only [Int.reduceToNat] at ho12; rw [← Ny157.out] at ho12)); have n0_ := Aside0.mk (Kd.R_elder' (by (with_reducible repeat (first | apply Kd.R_alloc | apply Kd.R_drewN | apply Kd.R_drew)); exact HO153.out) (Kd.R_base ho12) hb); have n1_ := Aside0.mk (Kd.R_elder' (by (with_reducible repeat (first | apply Kd.R_alloc | apply Kd.R_drewN | apply Kd.R_drew)); exact HO156.out) (Kd.R_base ho12) hb); have n2_ := Aside0.mk (Kd.R_lower (Kd.R_new' (Kd.R_new' ho12 (Kd.R_lt (by (with_reducible repeat (first | apply Kd.R_alloc | apply Kd.R_drewN | apply Kd.R_drew)); exact HO153.out))) (Kd.R_lt (by (with_reducible repeat (first | apply Kd.R_alloc | apply Kd.R_drewN | apply Kd.R_drew)); exact HO156.out))) (below_size (by repeat (first | (with_reducible first | exact HB.out | apply below_alloc | apply pw_below_drewN | apply below_drew1) | exact HB.out)))); have n3_ := Aside0.mk (below_step (by repeat (first | (with_reducible first | exact HB.out | apply below_alloc | apply pw_below_drewN | apply below_drew1) | exact HB.out)) hb); clear HO153; clear HO156; clear HB; have HO153 := n0_; have HO156 := n1_; have HO159 := n2_; have HB := n3_; clear n0_ n1_ n2_ n3_; clear hb ho12; obtain ⟨Ao13, co13, eo13⟩ := Kd.R_slice HO159.out; subst eo13) | ((with_reducible refine gate_callee (f := 18) rfl ?_); refine goesL_ (some 11) rfl rfl Try.func18 (by kernel_rfl) rfl #[.slice Ao13 y157.length co13, .agg #[.int .i64 1, .int .i64 4]] rfl (by (try simp only [List.map_toArray, List.map_cons, List.map_nil]); first | done | rfl | (simp only [List.length_drop, List.length_take]; rfl)) ?_; (with_reducible refine (impl_RangesFindAll.calls k _ _ y157 1 4 t160 _ ?side1 ?side2 A2.out).mono ?_); (case side1 => repeat (first | exact (Kd.R_reads' HO159.out).2.2 | (with_reducible refine Kd.C_alloc ?_ _) | (with_reducible refine Kd.C_drewN ?_ _) | (with_reducible refine Kd.C_drew ?_))); (case side2 => exact (Kd.R_reads' HO159.out).2.1); rintro e w14 ⟨v161, rfl, ho0, hb⟩; refine ⟨_, rfl, ?_⟩; have n0_ := Aside0.mk (Kd.R_below (by (with_reducible repeat (first | apply Kd.R_alloc | apply Kd.R_drewN | apply Kd.R_drew)); exact HO153.out) hb); have n1_ := Aside0.mk (Kd.R_below (by (with_reducible repeat (first | apply Kd.R_alloc | apply Kd.R_drewN | apply Kd.R_drew)); exact HO156.out) hb); have n2_ := Aside0.mk (Kd.R_below (by (with_reducible repeat (first | apply Kd.R_alloc | apply Kd.R_drewN | apply Kd.R_drew)); exact HO159.out) hb); have n3_ := Aside0.mk (Kd.R_lower ho0 (below_size (by repeat (first | (with_reducible first | exact HB.out | apply below_alloc | apply pw_below_drewN | apply below_drew1) | exact HB.out)))); have n4_ := Aside0.mk (below_step (by repeat (first | (with_reducible first | exact HB.out | apply below_alloc | apply pw_below_drewN | apply below_drew1) | exact HB.out)) hb); clear HO153; clear HO156; clear HO159; clear HB; have HO153 := n0_; have HO156 := n1_; have HO159 := n2_; have HO162 := n3_; have HB := n4_; clear n0_ n1_ n2_ n3_ n4_; (try clear hb); (try clear hb2); (try clear hk); (try clear hi); (try clear ho0)) | ((with_reducible refine gate_dst (N := 14) rfl ?_); (try (refine gate_guard (by rfl) ?_; dsimp only)); refine Kd.R_lit k28 _ 28 ?hg (N := 14) ?hd (xs := ([(⟨0, 10⟩ : S28)] : List (S28))) (inner := [.int .i64 0, .int .i64 10]) (ok := fun _ => True) (okp := fun _ => True) ?hr ?hp (fun _ hk => hk) trivial (Below.refl _ _) (Nat.le_refl _) (by simp) ?_; (case hd => rfl); (case hg => rfl); (case hr => first | (go_simp; done) | (go_simp; rfl)); (case hp => exact (Reps.c2 (show Kd.M k28 _ _ _ (⟨0, 10⟩ : S28) [.int .i64 0, .int .i64 10] from (k28_mkM _ _ _ (⟨0, 10⟩ : S28) )) (Reps.none _ _))); intro v164 w15 ho16 hb hg_ hnew_; clear hg_ hnew_; (first | rw [← Ny163.out] at ho16 | (simp only [Int.reduceToNat] at ho16; rw [← Ny163.out] at ho16)); have n0_ := Aside0.mk (Kd.R_elder' (by (with_reducible repeat (first | apply Kd.R_alloc | apply Kd.R_drewN | apply Kd.R_drew)); exact HO153.out) (Kd.R_base ho16) hb); have n1_ := Aside0.mk (Kd.R_elder' (by (with_reducible repeat (first | apply Kd.R_alloc | apply Kd.R_drewN | apply Kd.R_drew)); exact HO156.out) (Kd.R_base ho16) hb); have n2_ := Aside0.mk (Kd.R_elder' (by (with_reducible repeat (first | apply Kd.R_alloc | apply Kd.R_drewN | apply Kd.R_drew)); exact HO159.out) (Kd.R_base ho16) hb); have n3_ := Aside0.mk (Kd.R_below (by (with_reducible repeat (first | apply Kd.R_alloc | apply Kd.R_drewN | apply Kd.R_drew)); exact HO162.out) hb); have n4_ := Aside0.mk (Kd.R_lower (Kd.R_new' (Kd.R_new' (Kd.R_new' ho16 (Kd.R_lt (by (with_reducible repeat (first | apply Kd.R_alloc | apply Kd.R_drewN | apply Kd.R_drew)); exact HO153.out))) (Kd.R_lt (by (with_reducible repeat (first | apply Kd.R_alloc | apply Kd.R_drewN | apply Kd.R_drew)); exact HO156.out))) (Kd.R_lt (by (with_reducible repeat (first | apply Kd.R_alloc | apply Kd.R_drewN | apply Kd.R_drew)); exact HO159.out))) (below_size (by repeat (first | (with_reducible first | exact HB.out | apply below_alloc | apply pw_below_drewN | apply below_drew1) | exact HB.out)))); have n5_ := Aside0.mk (below_step (by repeat (first | (with_reducible first | exact HB.out | apply below_alloc | apply pw_below_drewN | apply below_drew1) | exact HB.out)) hb); clear HO153; clear HO156; clear HO159; clear HO162; clear HB; have HO153 := n0_; have HO156 := n1_; have HO159 := n2_; have HO162 := n3_; have HO165 := n4_; have HB := n5_; clear n0_ n1_ n2_ n3_ n4_ n5_; clear hb ho16; obtain ⟨Ao17, co17, eo17⟩ := Kd.R_slice HO156.out; subst eo17; obtain ⟨Ao18, co18, eo18⟩ := Kd.R_slice HO165.out; subst eo18) | ((with_reducible refine gate_callee (f := 15) rfl ?_); refine goesL_ (some 15) rfl rfl Try.func15 (by kernel_rfl) rfl #[.slice Ao17 t154.length co17, .slice Ao18 y163.length co18] rfl (by (try simp only [List.map_toArray, List.map_cons, List.map_nil]); first | done | rfl | (simp only [List.length_drop, List.length_take]; rfl)) ?_; (with_reducible refine (spec_RangesSame.calls k _ _ t154 _ _ y163 true _ ?side1 ?side2 ?side3 ?side4 A3.out).mono ?_); (case side1 => repeat (first | exact (Kd.R_reads' HO156.out).2.2 | (with_reducible refine Kd.C_alloc ?_ _) | (with_reducible refine Kd.C_drewN ?_ _) | (with_reducible refine Kd.C_drew ?_))); (case side2 => exact (Kd.R_reads' HO156.out).2.1); (case side3 => repeat (first | exact (Kd.R_reads' HO165.out).2.2 | (with_reducible refine Kd.C_alloc ?_ _) | (with_reducible refine Kd.C_drewN ?_ _) | (with_reducible refine Kd.C_drew ?_))); (case side4 => exact (Kd.R_reads' HO165.out).2.1); rintro e w' ⟨rfl, ⟨nd, rfl⟩⟩; refine ⟨_, rfl, ?_⟩; obtain ⟨Ao19, co19, eo19⟩ := Kd.R_slice HO162.out; subst eo19; have p167 : 0 ≤ (1 : Int) := (by omega); have q167 : 1 < (t160.length : Int) := of_decide_eq_true (by first | (with_reducible assumption) | assumption); obtain ⟨ad167, e167, hx167_0, hx167_1, hx167_2⟩ := at_T37 (Kd.R_reads' HO162.out).2.2 1 p167 q167; cases e167; (try simp only [show (1 : Int).toNat = 1 from rfl, Nat.reduceMul, Nat.reduceEqDiff, Go.Addr.add, ↓reduceIte] at hx167_0); (try simp only [show (1 : Int).toNat = 1 from rfl, Nat.reduceMul, Nat.reduceEqDiff, Go.Addr.add, ↓reduceIte] at hx167_1); (try simp only [show (1 : Int).toNat = 1 from rfl, Nat.reduceMul, Nat.reduceEqDiff, Go.Addr.add, ↓reduceIte] at hx167_2); have qi167 : (1 < t160.length) = True := eq_true (by omega); (try rw [show ((1 : Int)).toNat = 1 from rfl] at hx167_0); (try rw [show 1 * 3 = 3 from rfl] at hx167_0); (try rw [show ((1 : Int)).toNat = 1 from rfl] at hx167_1); (try rw [show 1 * 3 = 3 from rfl] at hx167_1); (try rw [show ((1 : Int)).toNat = 1 from rfl] at hx167_2); (try rw [show 1 * 3 = 3 from rfl] at hx167_2); replace p167 := eq_true p167; replace q167 := eq_true q167))
        go_ret
        exact ⟨by first | rfl | (simp [errW_none, errW_some] <;> rfl) | (simp [*, errW_none, errW_some] <;> rfl), by repeat (first | (with_reducible first | exact HB.out | apply below_alloc | apply pw_below_drewN | apply below_drew1) | exact HB.out)⟩
      · rw [if_neg c6] at H
        exact absurd H (by simp)
    · rw [if_neg c5] at H
      have c5b0 : ((t160.length : Int) == 3) = false := beq_eq_false_iff_ne.mpr c5
      have c5b1 : ((t160.length : Int) != 3) = true := bne_iff_ne.mpr c5
      obtain rfl := Option.some.inj H
      go_enter Try.func13, Try.ntmps13
      go_wp2_with (first | ((with_reducible refine gate_dst (N := 5) rfl ?_); (try (refine gate_guard (by rfl) ?_; dsimp only)); refine Kd.R_lit k28 _ 28 ?hg (N := 5) ?hd (xs := ([(⟨5, 5⟩ : S28), (⟨0, 5⟩ : S28)] : List (S28))) (inner := [.int .i64 5, .int .i64 5, .int .i64 0, .int .i64 5]) (ok := fun _ => True) (okp := fun _ => True) ?hr ?hp (fun _ hk => hk) trivial (Below.refl _ _) (Nat.le_refl _) (by simp) ?_; (case hd => rfl); (case hg => rfl); (case hr => first | (go_simp; done) | (go_simp; rfl)); (case hp => exact (Reps.c2 (show Kd.M k28 _ _ _ (⟨5, 5⟩ : S28) [.int .i64 5, .int .i64 5] from (k28_mkM _ _ _ (⟨5, 5⟩ : S28) )) (Reps.c2 (show Kd.M k28 _ _ _ (⟨0, 5⟩ : S28) [.int .i64 0, .int .i64 5] from (k28_mkM _ _ _ (⟨0, 5⟩ : S28) )) (Reps.none _ _)))); intro v152 w20 ho21 hb hg_ hnew_; clear hg_ hnew_; (first | rw [← Ny151.out] at ho21 | (simp only [Int.reduceToNat] at ho21; rw [← Ny151.out] at ho21)); have n0_ := Aside0.mk (Kd.R_lower ho21 (below_size (by repeat (first | (with_reducible first | exact HB.out | apply below_alloc | apply pw_below_drewN | apply below_drew1) | exact HB.out)))); have n1_ := Aside0.mk (below_step (by repeat (first | (with_reducible first | exact HB.out | apply below_alloc | apply pw_below_drewN | apply below_drew1) | exact HB.out)) hb); clear HB; have HO153 := n0_; have HB := n1_; clear n0_ n1_; clear hb ho21; obtain ⟨Ao22, co22, eo22⟩ := Kd.R_slice HO153.out; subst eo22) | ((with_reducible refine gate_callee (f := 14) rfl ?_); refine goesL_ (some 6) rfl rfl Try.func14 (by kernel_rfl) rfl #[.slice Ao22 y151.length co22] rfl (by (try simp only [List.map_toArray, List.map_cons, List.map_nil]); first | done | rfl | (simp only [List.length_drop, List.length_take]; rfl)) ?_; (with_reducible refine (impl_RangesOf.calls k _ _ y151 t154 _ ?side1 ?side2 A1.out).mono ?_); (case side1 => repeat (first | exact (Kd.R_reads' HO153.out).2.2 | (with_reducible refine Kd.C_alloc ?_ _) | (with_reducible refine Kd.C_drewN ?_ _) | (with_reducible refine Kd.C_drew ?_))); (case side2 => exact (Kd.R_reads' HO153.out).2.1); rintro e w23 ⟨v155, rfl, ho0, hb⟩; refine ⟨_, rfl, ?_⟩; have n0_ := Aside0.mk (Kd.R_elder' (by (with_reducible repeat (first | apply Kd.R_alloc | apply Kd.R_drewN | apply Kd.R_drew)); exact HO153.out) (Kd.R_base ho0) hb); have n1_ := Aside0.mk (Kd.R_lower (Kd.R_new' ho0 (Kd.R_lt (by (with_reducible repeat (first | apply Kd.R_alloc | apply Kd.R_drewN | apply Kd.R_drew)); exact HO153.out))) (below_size (by repeat (first | (with_reducible first | exact HB.out | apply below_alloc | apply pw_below_drewN | apply below_drew1) | exact HB.out)))); have n2_ := Aside0.mk (below_step (by repeat (first | (with_reducible first | exact HB.out | apply below_alloc | apply pw_below_drewN | apply below_drew1) | exact HB.out)) hb); clear HO153; clear HB; have HO153 := n0_; have HO156 := n1_; have HB := n2_; clear n0_ n1_ n2_; (try clear hb); (try clear hb2); (try clear hk); (try clear hi); (try clear ho0)) | ((with_reducible refine gate_dst (N := 9) rfl ?_); (try (refine gate_guard (by rfl) ?_; dsimp only)); refine Kd.R_lit k28 _ 28 ?hg (N := 9) ?hd (xs := ([(⟨0, 2⟩ : S28), (⟨4, 2⟩ : S28)] : List (S28))) (inner := [.int .i64 0, .int .i64 2, .int .i64 4, .int .i64 2]) (ok := fun _ => True) (okp := fun _ => True) ?hr ?hp (fun _ hk => hk) trivial (Below.refl _ _) (Nat.le_refl _) (by simp) ?_; (case hd => rfl); (case hg => rfl); (case hr => first | (go_simp; done) | (go_simp; rfl)); (case hp => exact (Reps.c2 (show Kd.M k28 _ _ _ (⟨0, 2⟩ : S28) [.int .i64 0, .int .i64 2] from (k28_mkM _ _ _ (⟨0, 2⟩ : S28) )) (Reps.c2 (show Kd.M k28 _ _ _ (⟨4, 2⟩ : S28) [.int .i64 4, .int .i64 2] from (k28_mkM _ _ _ (⟨4, 2⟩ : S28) )) (Reps.none _ _)))); intro v158 w24 ho25 hb hg_ hnew_; clear hg_ hnew_; (first | rw [← Ny157.out] at ho25 | (simp only [Int.reduceToNat] at ho25; rw [← Ny157.out] at ho25)); have n0_ := Aside0.mk (Kd.R_elder' (by (with_reducible repeat (first | apply Kd.R_alloc | apply Kd.R_drewN | apply Kd.R_drew)); exact HO153.out) (Kd.R_base ho25) hb); have n1_ := Aside0.mk (Kd.R_elder' (by (with_reducible repeat (first | apply Kd.R_alloc | apply Kd.R_drewN | apply Kd.R_drew)); exact HO156.out) (Kd.R_base ho25) hb); have n2_ := Aside0.mk (Kd.R_lower (Kd.R_new' (Kd.R_new' ho25 (Kd.R_lt (by (with_reducible repeat (first | apply Kd.R_alloc | apply Kd.R_drewN | apply Kd.R_drew)); exact HO153.out))) (Kd.R_lt (by (with_reducible repeat (first | apply Kd.R_alloc | apply Kd.R_drewN | apply Kd.R_drew)); exact HO156.out))) (below_size (by repeat (first | (with_reducible first | exact HB.out | apply below_alloc | apply pw_below_drewN | apply below_drew1) | exact HB.out)))); have n3_ := Aside0.mk (below_step (by repeat (first | (with_reducible first | exact HB.out | apply below_alloc | apply pw_below_drewN | apply below_drew1) | exact HB.out)) hb); clear HO153; clear HO156; clear HB; have HO153 := n0_; have HO156 := n1_; have HO159 := n2_; have HB := n3_; clear n0_ n1_ n2_ n3_; clear hb ho25; obtain ⟨Ao26, co26, eo26⟩ := Kd.R_slice HO159.out; subst eo26) | ((with_reducible refine gate_callee (f := 18) rfl ?_); refine goesL_ (some 11) rfl rfl Try.func18 (by kernel_rfl) rfl #[.slice Ao26 y157.length co26, .agg #[.int .i64 1, .int .i64 4]] rfl (by (try simp only [List.map_toArray, List.map_cons, List.map_nil]); first | done | rfl | (simp only [List.length_drop, List.length_take]; rfl)) ?_; (with_reducible refine (impl_RangesFindAll.calls k _ _ y157 1 4 t160 _ ?side1 ?side2 A2.out).mono ?_); (case side1 => repeat (first | exact (Kd.R_reads' HO159.out).2.2 | (with_reducible refine Kd.C_alloc ?_ _) | (with_reducible refine Kd.C_drewN ?_ _) | (with_reducible refine Kd.C_drew ?_))); (case side2 => exact (Kd.R_reads' HO159.out).2.1); rintro e w27 ⟨v161, rfl, ho0, hb⟩; refine ⟨_, rfl, ?_⟩; have n0_ := Aside0.mk (Kd.R_below (by (with_reducible repeat (first | apply Kd.R_alloc | apply Kd.R_drewN | apply Kd.R_drew)); exact HO153.out) hb); have n1_ := Aside0.mk (Kd.R_below (by (with_reducible repeat (first | apply Kd.R_alloc | apply Kd.R_drewN | apply Kd.R_drew)); exact HO156.out) hb); have n2_ := Aside0.mk (Kd.R_below (by (with_reducible repeat (first | apply Kd.R_alloc | apply Kd.R_drewN | apply Kd.R_drew)); exact HO159.out) hb); have n3_ := Aside0.mk (Kd.R_lower ho0 (below_size (by repeat (first | (with_reducible first | exact HB.out | apply below_alloc | apply pw_below_drewN | apply below_drew1) | exact HB.out)))); have n4_ := Aside0.mk (below_step (by repeat (first | (with_reducible first | exact HB.out | apply below_alloc | apply pw_below_drewN | apply below_drew1) | exact HB.out)) hb); clear HO153; clear HO156; clear HO159; clear HB; have HO153 := n0_; have HO156 := n1_; have HO159 := n2_; have HO162 := n3_; have HB := n4_; clear n0_ n1_ n2_ n3_ n4_; (try clear hb); (try clear hb2); (try clear hk); (try clear hi); (try clear ho0)) | ((with_reducible refine gate_dst (N := 14) rfl ?_); (try (refine gate_guard (by rfl) ?_; dsimp only)); refine Kd.R_lit k28 _ 28 ?hg (N := 14) ?hd (xs := ([(⟨0, 10⟩ : S28)] : List (S28))) (inner := [.int .i64 0, .int .i64 10]) (ok := fun _ => True) (okp := fun _ => True) ?hr ?hp (fun _ hk => hk) trivial (Below.refl _ _) (Nat.le_refl _) (by simp) ?_; (case hd => rfl); (case hg => rfl); (case hr => first | (go_simp; done) | (go_simp; rfl)); (case hp => exact (Reps.c2 (show Kd.M k28 _ _ _ (⟨0, 10⟩ : S28) [.int .i64 0, .int .i64 10] from (k28_mkM _ _ _ (⟨0, 10⟩ : S28) )) (Reps.none _ _))); intro v164 w28 ho29 hb hg_ hnew_; clear hg_ hnew_; (first | rw [← Ny163.out] at ho29 | (simp only [Int.reduceToNat] at ho29; rw [← Ny163.out] at ho29)); have n0_ := Aside0.mk (Kd.R_elder' (by (with_reducible repeat (first | apply Kd.R_alloc | apply Kd.R_drewN | apply Kd.R_drew)); exact HO153.out) (Kd.R_base ho29) hb); have n1_ := Aside0.mk (Kd.R_elder' (by (with_reducible repeat (first | apply Kd.R_alloc | apply Kd.R_drewN | apply Kd.R_drew)); exact HO156.out) (Kd.R_base ho29) hb); have n2_ := Aside0.mk (Kd.R_elder' (by (with_reducible repeat (first | apply Kd.R_alloc | apply Kd.R_drewN | apply Kd.R_drew)); exact HO159.out) (Kd.R_base ho29) hb); have n3_ := Aside0.mk (Kd.R_below (by (with_reducible repeat (first | apply Kd.R_alloc | apply Kd.R_drewN | apply Kd.R_drew)); exact HO162.out) hb); have n4_ := Aside0.mk (Kd.R_lower (Kd.R_new' (Kd.R_new' (Kd.R_new' ho29 (Kd.R_lt (by (with_reducible repeat (first | apply Kd.R_alloc | apply Kd.R_drewN | apply Kd.R_drew)); exact HO153.out))) (Kd.R_lt (by (with_reducible repeat (first | apply Kd.R_alloc | apply Kd.R_drewN | apply Kd.R_drew)); exact HO156.out))) (Kd.R_lt (by (with_reducible repeat (first | apply Kd.R_alloc | apply Kd.R_drewN | apply Kd.R_drew)); exact HO159.out))) (below_size (by repeat (first | (with_reducible first | exact HB.out | apply below_alloc | apply pw_below_drewN | apply below_drew1) | exact HB.out)))); have n5_ := Aside0.mk (below_step (by repeat (first | (with_reducible first | exact HB.out | apply below_alloc | apply pw_below_drewN | apply below_drew1) | exact HB.out)) hb); clear HO153; clear HO156; clear HO159; clear HO162; clear HB; have HO153 := n0_; have HO156 := n1_; have HO159 := n2_; have HO162 := n3_; have HO165 := n4_; have HB := n5_; clear n0_ n1_ n2_ n3_ n4_ n5_; clear hb ho29; obtain ⟨Ao30, co30, eo30⟩ := Kd.R_slice HO156.out; subst eo30; obtain ⟨Ao31, co31, eo31⟩ := Kd.R_slice HO165.out; subst eo31) | ((with_reducible refine gate_callee (f := 15) rfl ?_); refine goesL_ (some 15) rfl rfl Try.func15 (by kernel_rfl) rfl #[.slice Ao30 t154.length co30, .slice Ao31 y163.length co31] rfl (by (try simp only [List.map_toArray, List.map_cons, List.map_nil]); first | done | rfl | (simp only [List.length_drop, List.length_take]; rfl)) ?_; (with_reducible refine (spec_RangesSame.calls k _ _ t154 _ _ y163 true _ ?side1 ?side2 ?side3 ?side4 A3.out).mono ?_); (case side1 => repeat (first | exact (Kd.R_reads' HO156.out).2.2 | (with_reducible refine Kd.C_alloc ?_ _) | (with_reducible refine Kd.C_drewN ?_ _) | (with_reducible refine Kd.C_drew ?_))); (case side2 => exact (Kd.R_reads' HO156.out).2.1); (case side3 => repeat (first | exact (Kd.R_reads' HO165.out).2.2 | (with_reducible refine Kd.C_alloc ?_ _) | (with_reducible refine Kd.C_drewN ?_ _) | (with_reducible refine Kd.C_drew ?_))); (case side4 => exact (Kd.R_reads' HO165.out).2.1); rintro e w' ⟨rfl, ⟨nd, rfl⟩⟩; refine ⟨_, rfl, ?_⟩; obtain ⟨Ao32, co32, eo32⟩ := Kd.R_slice HO162.out; subst eo32))
      go_ret
      exact ⟨by first | rfl | (simp [errW_none, errW_some] <;> rfl) | (simp [*, errW_none, errW_some] <;> rfl), by repeat (first | (with_reducible first | exact HB.out | apply below_alloc | apply pw_below_drewN | apply below_drew1) | exact HB.out)⟩
  · replace c4 := Bool.eq_false_iff.mpr c4
    subst c4
    have H1 : (some false) = some r := by rw [if_neg (show ¬ (false = true) by decide)] at H; exact H
    clear H
    have H := H1
    clear H1
    obtain rfl := Option.some.inj H
    go_enter Try.func13, Try.ntmps13
    go_wp2_with (first | ((with_reducible refine gate_dst (N := 5) rfl ?_); (try (refine gate_guard (by rfl) ?_; dsimp only)); refine Kd.R_lit k28 _ 28 ?hg (N := 5) ?hd (xs := ([(⟨5, 5⟩ : S28), (⟨0, 5⟩ : S28)] : List (S28))) (inner := [.int .i64 5, .int .i64 5, .int .i64 0, .int .i64 5]) (ok := fun _ => True) (okp := fun _ => True) ?hr ?hp (fun _ hk => hk) trivial (Below.refl _ _) (Nat.le_refl _) (by simp) ?_; (case hd => rfl); (case hg => rfl); (case hr => first | (go_simp; done) | (go_simp; rfl)); (case hp => exact (Reps.c2 (show Kd.M k28 _ _ _ (⟨5, 5⟩ : S28) [.int .i64 5, .int .i64 5] from (k28_mkM _ _ _ (⟨5, 5⟩ : S28) )) (Reps.c2 (show Kd.M k28 _ _ _ (⟨0, 5⟩ : S28) [.int .i64 0, .int .i64 5] from (k28_mkM _ _ _ (⟨0, 5⟩ : S28) )) (Reps.none _ _)))); intro v152 w33 ho34 hb hg_ hnew_; clear hg_ hnew_; (first | rw [← Ny151.out] at ho34 | (simp only [Int.reduceToNat] at ho34; rw [← Ny151.out] at ho34)); have n0_ := Aside0.mk (Kd.R_lower ho34 (below_size (by repeat (first | (with_reducible first | exact HB.out | apply below_alloc | apply pw_below_drewN | apply below_drew1) | exact HB.out)))); have n1_ := Aside0.mk (below_step (by repeat (first | (with_reducible first | exact HB.out | apply below_alloc | apply pw_below_drewN | apply below_drew1) | exact HB.out)) hb); clear HB; have HO153 := n0_; have HB := n1_; clear n0_ n1_; clear hb ho34; obtain ⟨Ao35, co35, eo35⟩ := Kd.R_slice HO153.out; subst eo35) | ((with_reducible refine gate_callee (f := 14) rfl ?_); refine goesL_ (some 6) rfl rfl Try.func14 (by kernel_rfl) rfl #[.slice Ao35 y151.length co35] rfl (by (try simp only [List.map_toArray, List.map_cons, List.map_nil]); first | done | rfl | (simp only [List.length_drop, List.length_take]; rfl)) ?_; (with_reducible refine (impl_RangesOf.calls k _ _ y151 t154 _ ?side1 ?side2 A1.out).mono ?_); (case side1 => repeat (first | exact (Kd.R_reads' HO153.out).2.2 | (with_reducible refine Kd.C_alloc ?_ _) | (with_reducible refine Kd.C_drewN ?_ _) | (with_reducible refine Kd.C_drew ?_))); (case side2 => exact (Kd.R_reads' HO153.out).2.1); rintro e w36 ⟨v155, rfl, ho0, hb⟩; refine ⟨_, rfl, ?_⟩; have n0_ := Aside0.mk (Kd.R_elder' (by (with_reducible repeat (first | apply Kd.R_alloc | apply Kd.R_drewN | apply Kd.R_drew)); exact HO153.out) (Kd.R_base ho0) hb); have n1_ := Aside0.mk (Kd.R_lower (Kd.R_new' ho0 (Kd.R_lt (by (with_reducible repeat (first | apply Kd.R_alloc | apply Kd.R_drewN | apply Kd.R_drew)); exact HO153.out))) (below_size (by repeat (first | (with_reducible first | exact HB.out | apply below_alloc | apply pw_below_drewN | apply below_drew1) | exact HB.out)))); have n2_ := Aside0.mk (below_step (by repeat (first | (with_reducible first | exact HB.out | apply below_alloc | apply pw_below_drewN | apply below_drew1) | exact HB.out)) hb); clear HO153; clear HB; have HO153 := n0_; have HO156 := n1_; have HB := n2_; clear n0_ n1_ n2_; (try clear hb); (try clear hb2); (try clear hk); (try clear hi); (try clear ho0)) | ((with_reducible refine gate_dst (N := 9) rfl ?_); (try (refine gate_guard (by rfl) ?_; dsimp only)); refine Kd.R_lit k28 _ 28 ?hg (N := 9) ?hd (xs := ([(⟨0, 2⟩ : S28), (⟨4, 2⟩ : S28)] : List (S28))) (inner := [.int .i64 0, .int .i64 2, .int .i64 4, .int .i64 2]) (ok := fun _ => True) (okp := fun _ => True) ?hr ?hp (fun _ hk => hk) trivial (Below.refl _ _) (Nat.le_refl _) (by simp) ?_; (case hd => rfl); (case hg => rfl); (case hr => first | (go_simp; done) | (go_simp; rfl)); (case hp => exact (Reps.c2 (show Kd.M k28 _ _ _ (⟨0, 2⟩ : S28) [.int .i64 0, .int .i64 2] from (k28_mkM _ _ _ (⟨0, 2⟩ : S28) )) (Reps.c2 (show Kd.M k28 _ _ _ (⟨4, 2⟩ : S28) [.int .i64 4, .int .i64 2] from (k28_mkM _ _ _ (⟨4, 2⟩ : S28) )) (Reps.none _ _)))); intro v158 w37 ho38 hb hg_ hnew_; clear hg_ hnew_; (first | rw [← Ny157.out] at ho38 | (simp only [Int.reduceToNat] at ho38; rw [← Ny157.out] at ho38)); have n0_ := Aside0.mk (Kd.R_elder' (by (with_reducible repeat (first | apply Kd.R_alloc | apply Kd.R_drewN | apply Kd.R_drew)); exact HO153.out) (Kd.R_base ho38) hb); have n1_ := Aside0.mk (Kd.R_elder' (by (with_reducible repeat (first | apply Kd.R_alloc | apply Kd.R_drewN | apply Kd.R_drew)); exact HO156.out) (Kd.R_base ho38) hb); have n2_ := Aside0.mk (Kd.R_lower (Kd.R_new' (Kd.R_new' ho38 (Kd.R_lt (by (with_reducible repeat (first | apply Kd.R_alloc | apply Kd.R_drewN | apply Kd.R_drew)); exact HO153.out))) (Kd.R_lt (by (with_reducible repeat (first | apply Kd.R_alloc | apply Kd.R_drewN | apply Kd.R_drew)); exact HO156.out))) (below_size (by repeat (first | (with_reducible first | exact HB.out | apply below_alloc | apply pw_below_drewN | apply below_drew1) | exact HB.out)))); have n3_ := Aside0.mk (below_step (by repeat (first | (with_reducible first | exact HB.out | apply below_alloc | apply pw_below_drewN | apply below_drew1) | exact HB.out)) hb); clear HO153; clear HO156; clear HB; have HO153 := n0_; have HO156 := n1_; have HO159 := n2_; have HB := n3_; clear n0_ n1_ n2_ n3_; clear hb ho38; obtain ⟨Ao39, co39, eo39⟩ := Kd.R_slice HO159.out; subst eo39) | ((with_reducible refine gate_callee (f := 18) rfl ?_); refine goesL_ (some 11) rfl rfl Try.func18 (by kernel_rfl) rfl #[.slice Ao39 y157.length co39, .agg #[.int .i64 1, .int .i64 4]] rfl (by (try simp only [List.map_toArray, List.map_cons, List.map_nil]); first | done | rfl | (simp only [List.length_drop, List.length_take]; rfl)) ?_; (with_reducible refine (impl_RangesFindAll.calls k _ _ y157 1 4 t160 _ ?side1 ?side2 A2.out).mono ?_); (case side1 => repeat (first | exact (Kd.R_reads' HO159.out).2.2 | (with_reducible refine Kd.C_alloc ?_ _) | (with_reducible refine Kd.C_drewN ?_ _) | (with_reducible refine Kd.C_drew ?_))); (case side2 => exact (Kd.R_reads' HO159.out).2.1); rintro e w40 ⟨v161, rfl, ho0, hb⟩; refine ⟨_, rfl, ?_⟩; have n0_ := Aside0.mk (Kd.R_below (by (with_reducible repeat (first | apply Kd.R_alloc | apply Kd.R_drewN | apply Kd.R_drew)); exact HO153.out) hb); have n1_ := Aside0.mk (Kd.R_below (by (with_reducible repeat (first | apply Kd.R_alloc | apply Kd.R_drewN | apply Kd.R_drew)); exact HO156.out) hb); have n2_ := Aside0.mk (Kd.R_below (by (with_reducible repeat (first | apply Kd.R_alloc | apply Kd.R_drewN | apply Kd.R_drew)); exact HO159.out) hb); have n3_ := Aside0.mk (Kd.R_lower ho0 (below_size (by repeat (first | (with_reducible first | exact HB.out | apply below_alloc | apply pw_below_drewN | apply below_drew1) | exact HB.out)))); have n4_ := Aside0.mk (below_step (by repeat (first | (with_reducible first | exact HB.out | apply below_alloc | apply pw_below_drewN | apply below_drew1) | exact HB.out)) hb); clear HO153; clear HO156; clear HO159; clear HB; have HO153 := n0_; have HO156 := n1_; have HO159 := n2_; have HO162 := n3_; have HB := n4_; clear n0_ n1_ n2_ n3_ n4_; (try clear hb); (try clear hb2); (try clear hk); (try clear hi); (try clear ho0)) | ((with_reducible refine gate_dst (N := 14) rfl ?_); (try (refine gate_guard (by rfl) ?_; dsimp only)); refine Kd.R_lit k28 _ 28 ?hg (N := 14) ?hd (xs := ([(⟨0, 10⟩ : S28)] : List (S28))) (inner := [.int .i64 0, .int .i64 10]) (ok := fun _ => True) (okp := fun _ => True) ?hr ?hp (fun _ hk => hk) trivial (Below.refl _ _) (Nat.le_refl _) (by simp) ?_; (case hd => rfl); (case hg => rfl); (case hr => first | (go_simp; done) | (go_simp; rfl)); (case hp => exact (Reps.c2 (show Kd.M k28 _ _ _ (⟨0, 10⟩ : S28) [.int .i64 0, .int .i64 10] from (k28_mkM _ _ _ (⟨0, 10⟩ : S28) )) (Reps.none _ _))); intro v164 w41 ho42 hb hg_ hnew_; clear hg_ hnew_; (first | rw [← Ny163.out] at ho42 | (simp only [Int.reduceToNat] at ho42; rw [← Ny163.out] at ho42)); have n0_ := Aside0.mk (Kd.R_elder' (by (with_reducible repeat (first | apply Kd.R_alloc | apply Kd.R_drewN | apply Kd.R_drew)); exact HO153.out) (Kd.R_base ho42) hb); have n1_ := Aside0.mk (Kd.R_elder' (by (with_reducible repeat (first | apply Kd.R_alloc | apply Kd.R_drewN | apply Kd.R_drew)); exact HO156.out) (Kd.R_base ho42) hb); have n2_ := Aside0.mk (Kd.R_elder' (by (with_reducible repeat (first | apply Kd.R_alloc | apply Kd.R_drewN | apply Kd.R_drew)); exact HO159.out) (Kd.R_base ho42) hb); have n3_ := Aside0.mk (Kd.R_below (by (with_reducible repeat (first | apply Kd.R_alloc | apply Kd.R_drewN | apply Kd.R_drew)); exact HO162.out) hb); have n4_ := Aside0.mk (Kd.R_lower (Kd.R_new' (Kd.R_new' (Kd.R_new' ho42 (Kd.R_lt (by (with_reducible repeat (first | apply Kd.R_alloc | apply Kd.R_drewN | apply Kd.R_drew)); exact HO153.out))) (Kd.R_lt (by (with_reducible repeat (first | apply Kd.R_alloc | apply Kd.R_drewN | apply Kd.R_drew)); exact HO156.out))) (Kd.R_lt (by (with_reducible repeat (first | apply Kd.R_alloc | apply Kd.R_drewN | apply Kd.R_drew)); exact HO159.out))) (below_size (by repeat (first | (with_reducible first | exact HB.out | apply below_alloc | apply pw_below_drewN | apply below_drew1) | exact HB.out)))); have n5_ := Aside0.mk (below_step (by repeat (first | (with_reducible first | exact HB.out | apply below_alloc | apply pw_below_drewN | apply below_drew1) | exact HB.out)) hb); clear HO153; clear HO156; clear HO159; clear HO162; clear HB; have HO153 := n0_; have HO156 := n1_; have HO159 := n2_; have HO162 := n3_; have HO165 := n4_; have HB := n5_; clear n0_ n1_ n2_ n3_ n4_ n5_; clear hb ho42; obtain ⟨Ao43, co43, eo43⟩ := Kd.R_slice HO156.out; subst eo43; obtain ⟨Ao44, co44, eo44⟩ := Kd.R_slice HO165.out; subst eo44) | ((with_reducible refine gate_callee (f := 15) rfl ?_); refine goesL_ (some 15) rfl rfl Try.func15 (by kernel_rfl) rfl #[.slice Ao43 t154.length co43, .slice Ao44 y163.length co44] rfl (by (try simp only [List.map_toArray, List.map_cons, List.map_nil]); first | done | rfl | (simp only [List.length_drop, List.length_take]; rfl)) ?_; (with_reducible refine (spec_RangesSame.calls k _ _ t154 _ _ y163 false _ ?side1 ?side2 ?side3 ?side4 A3.out).mono ?_); (case side1 => repeat (first | exact (Kd.R_reads' HO156.out).2.2 | (with_reducible refine Kd.C_alloc ?_ _) | (with_reducible refine Kd.C_drewN ?_ _) | (with_reducible refine Kd.C_drew ?_))); (case side2 => exact (Kd.R_reads' HO156.out).2.1); (case side3 => repeat (first | exact (Kd.R_reads' HO165.out).2.2 | (with_reducible refine Kd.C_alloc ?_ _) | (with_reducible refine Kd.C_drewN ?_ _) | (with_reducible refine Kd.C_drew ?_))); (case side4 => exact (Kd.R_reads' HO165.out).2.1); rintro e w' ⟨rfl, ⟨nd, rfl⟩⟩; refine ⟨_, rfl, ?_⟩))
    go_ret
    exact ⟨by first | rfl | (simp [errW_none, errW_some] <;> rfl) | (simp [*, errW_none, errW_some] <;> rfl), by repeat (first | (with_reducible first | exact HB.out | apply below_alloc | apply pw_below_drewN | apply below_drew1) | exact HB.out)⟩

/-! ### spec_RangeIn: function 33 -/
def spec_RangeIn.f (a0_0 : Int) (a0_1 : Int) : Option (Bool) := if a0_1 ≥ (-1099511627776) then (if a0_1 ≤ 1099511627776 then (if a0_0 ≥ (-1099511627776) then (some (decide (a0_0 ≤ 1099511627776))) else (some false)) else (some false)) else (some false)
set_option maxHeartbeats 8000000 in
set_option maxRecDepth 100000 in
theorem spec_RangeIn.calls (a0_0 : Int) (a0_1 : Int) (r : Bool) (w : World) (h : spec_RangeIn.f a0_0 a0_1 = some r) :
    Calls Try.prog 33 #[.agg #[.int .i64 a0_0, .int .i64 a0_1]] w fun e w' => e = .returned (.bool r) ∧ Below w.heap.size w w' := by
  have hu28 := Try.underlying28
  have HB := Aside0.mk (Below.refl w.heap.size w)
  have H : (if a0_1 ≥ (-1099511627776) then (if a0_1 ≤ 1099511627776 then (if a0_0 ≥ (-1099511627776) then (some (decide (a0_0 ≤ 1099511627776))) else (some false)) else (some false)) else (some false)) = some r := h
  clear h
  by_cases c2 : a0_1 ≥ (-1099511627776)
  · rw [if_pos c2] at H
    have c2b0 : decide ((-1099511627776) ≤ a0_1) = true := decide_eq_true c2
    clear c2
    by_cases c3 : a0_1 ≤ 1099511627776
    · rw [if_pos c3] at H
      have c3b0 : decide (a0_1 ≤ 1099511627776) = true := decide_eq_true c3
      clear c3
      by_cases c4 : a0_0 ≥ (-1099511627776)
      · rw [if_pos c4] at H
        have c4b0 : decide ((-1099511627776) ≤ a0_0) = true := decide_eq_true c4
        clear c4
        obtain rfl := Option.some.inj H
        go_enter Try.func33, Try.ntmps33
        go_wp2_with (first | ((with_reducible refine gate_dst (N := 1) rfl ?_); refine box_event ?hg (N := 1) ?hd (cs := #[.int .i64 a0_0, .int .i64 a0_1]) (t := 28) ?hr ?_; (case hd => rfl); (case hg => rfl); (case hr => first | (go_simp; done) | (go_simp; rfl)); intro gb168 hg w5 hbox hb; have n0_ := Aside0.mk (below_step (by repeat (first | (with_reducible first | exact HB.out | apply below_alloc | apply pw_below_drewN | apply below_drew1) | exact HB.out)) hb); have n1_ := Aside0.mk (hbox); have n2_ := Aside0.mk ((by rw [hg]; exact (below_size (by repeat (first | (with_reducible first | exact HB.out | apply below_alloc | apply pw_below_drewN | apply below_drew1) | exact HB.out))) : w.heap.size ≤ gb168)); have n3_ := Aside0.mk ((by rw [hg]; exact (below_size (by repeat (first | (with_reducible first | exact HB.out | apply below_alloc | apply pw_below_drewN | apply below_drew1) | exact HB.out))) : w.heap.size ≤ gb168)); clear HB; have HB := n0_; have BK168 := n1_; have GW168 := n2_; have GE168 := n3_; clear n0_ n1_ n2_ n3_; clear hb hbox hg; have hcz6_0 : w5.cell? ⟨gb168, 0, none⟩ = some (.int .i64 a0_0) := (blk_cell BK168.out 0).trans rfl; have hcz6_1 : w5.cell? ⟨gb168, 1, none⟩ = some (.int .i64 a0_1) := (blk_cell BK168.out 1).trans rfl; have hfz6_0 := blk_frozen BK168.out 0; have hfz6_1 := blk_frozen BK168.out 1))
        go_ret
        exact ⟨by first | rfl | (simp [errW_none, errW_some] <;> rfl) | (simp [*, errW_none, errW_some] <;> rfl), by repeat (first | (with_reducible first | exact HB.out | apply below_alloc | apply pw_below_drewN | apply below_drew1 | refine below_set ?_ GE168.out) | exact HB.out)⟩
      · rw [if_neg c4] at H
        have c4b0 : decide ((-1099511627776) ≤ a0_0) = false := decide_eq_false c4
        clear c4
        obtain rfl := Option.some.inj H
        go_enter Try.func33, Try.ntmps33
        go_wp2_with (first | ((with_reducible refine gate_dst (N := 1) rfl ?_); refine box_event ?hg (N := 1) ?hd (cs := #[.int .i64 a0_0, .int .i64 a0_1]) (t := 28) ?hr ?_; (case hd => rfl); (case hg => rfl); (case hr => first | (go_simp; done) | (go_simp; rfl)); intro gb168 hg w7 hbox hb; have n0_ := Aside0.mk (below_step (by repeat (first | (with_reducible first | exact HB.out | apply below_alloc | apply pw_below_drewN | apply below_drew1) | exact HB.out)) hb); have n1_ := Aside0.mk (hbox); have n2_ := Aside0.mk ((by rw [hg]; exact (below_size (by repeat (first | (with_reducible first | exact HB.out | apply below_alloc | apply pw_below_drewN | apply below_drew1) | exact HB.out))) : w.heap.size ≤ gb168)); have n3_ := Aside0.mk ((by rw [hg]; exact (below_size (by repeat (first | (with_reducible first | exact HB.out | apply below_alloc | apply pw_below_drewN | apply below_drew1) | exact HB.out))) : w.heap.size ≤ gb168)); clear HB; have HB := n0_; have BK168 := n1_; have GW168 := n2_; have GE168 := n3_; clear n0_ n1_ n2_ n3_; clear hb hbox hg; have hcz8_0 : w7.cell? ⟨gb168, 0, none⟩ = some (.int .i64 a0_0) := (blk_cell BK168.out 0).trans rfl; have hcz8_1 : w7.cell? ⟨gb168, 1, none⟩ = some (.int .i64 a0_1) := (blk_cell BK168.out 1).trans rfl; have hfz8_0 := blk_frozen BK168.out 0; have hfz8_1 := blk_frozen BK168.out 1))
        go_ret
        exact ⟨by first | rfl | (simp [errW_none, errW_some] <;> rfl) | (simp [*, errW_none, errW_some] <;> rfl), by repeat (first | (with_reducible first | exact HB.out | apply below_alloc | apply pw_below_drewN | apply below_drew1 | refine below_set ?_ GE168.out) | exact HB.out)⟩
    · rw [if_neg c3] at H
      have c3b0 : decide (a0_1 ≤ 1099511627776) = false := decide_eq_false c3
      clear c3
      obtain rfl := Option.some.inj H
      go_enter Try.func33, Try.ntmps33
      go_wp2_with (first | ((with_reducible refine gate_dst (N := 1) rfl ?_); refine box_event ?hg (N := 1) ?hd (cs := #[.int .i64 a0_0, .int .i64 a0_1]) (t := 28) ?hr ?_; (case hd => rfl); (case hg => rfl); (case hr => first | (go_simp; done) | (go_simp; rfl)); intro gb168 hg w9 hbox hb; have n0_ := Aside0.mk (below_step (by repeat (first | (with_reducible first | exact HB.out | apply below_alloc | apply pw_below_drewN | apply below_drew1) | exact HB.out)) hb); have n1_ := Aside0.mk (hbox); have n2_ := Aside0.mk ((by rw [hg]; exact (below_size (by repeat (first | (with_reducible first | exact HB.out | apply below_alloc | apply pw_below_drewN | apply below_drew1) | exact HB.out))) : w.heap.size ≤ gb168)); have n3_ := Aside0.mk ((by rw [hg]; exact (below_size (by repeat (first | (with_reducible first | exact HB.out | apply below_alloc | apply pw_below_drewN | apply below_drew1) | exact HB.out))) : w.heap.size ≤ gb168)); clear HB; have HB := n0_; have BK168 := n1_; have GW168 := n2_; have GE168 := n3_; clear n0_ n1_ n2_ n3_; clear hb hbox hg; have hcz10_0 : w9.cell? ⟨gb168, 0, none⟩ = some (.int .i64 a0_0) := (blk_cell BK168.out 0).trans rfl; have hcz10_1 : w9.cell? ⟨gb168, 1, none⟩ = some (.int .i64 a0_1) := (blk_cell BK168.out 1).trans rfl; have hfz10_0 := blk_frozen BK168.out 0; have hfz10_1 := blk_frozen BK168.out 1))
      go_ret
      exact ⟨by first | rfl | (simp [errW_none, errW_some] <;> rfl) | (simp [*, errW_none, errW_some] <;> rfl), by repeat (first | (with_reducible first | exact HB.out | apply below_alloc | apply pw_below_drewN | apply below_drew1 | refine below_set ?_ GE168.out) | exact HB.out)⟩
  · rw [if_neg c2] at H
    have c2b0 : decide ((-1099511627776) ≤ a0_1) = false := decide_eq_false c2
    clear c2
    obtain rfl := Option.some.inj H
    go_enter Try.func33, Try.ntmps33
    go_wp2_with (first | ((with_reducible refine gate_dst (N := 1) rfl ?_); refine box_event ?hg (N := 1) ?hd (cs := #[.int .i64 a0_0, .int .i64 a0_1]) (t := 28) ?hr ?_; (case hd => rfl); (case hg => rfl); (case hr => first | (go_simp; done) | (go_simp; rfl)); intro gb168 hg w11 hbox hb; have n0_ := Aside0.mk (below_step (by repeat (first | (with_reducible first | exact HB.out | apply below_alloc | apply pw_below_drewN | apply below_drew1) | exact HB.out)) hb); have n1_ := Aside0.mk (hbox); have n2_ := Aside0.mk ((by rw [hg]; exact (below_size (by repeat (first | (with_reducible first | exact HB.out | apply below_alloc | apply pw_below_drewN | apply below_drew1) | exact HB.out))) : w.heap.size ≤ gb168)); have n3_ := Aside0.mk ((by rw [hg]; exact (below_size (by repeat (first | (with_reducible first | exact HB.out | apply below_alloc | apply pw_below_drewN | apply below_drew1) | exact HB.out))) : w.heap.size ≤ gb168)); clear HB; have HB := n0_; have BK168 := n1_; have GW168 := n2_; have GE168 := n3_; clear n0_ n1_ n2_ n3_; clear hb hbox hg; have hcz12_0 : w11.cell? ⟨gb168, 0, none⟩ = some (.int .i64 a0_0) := (blk_cell BK168.out 0).trans rfl; have hcz12_1 : w11.cell? ⟨gb168, 1, none⟩ = some (.int .i64 a0_1) := (blk_cell BK168.out 1).trans rfl; have hfz12_0 := blk_frozen BK168.out 0; have hfz12_1 := blk_frozen BK168.out 1))
    go_ret
    exact ⟨by first | rfl | (simp [errW_none, errW_some] <;> rfl) | (simp [*, errW_none, errW_some] <;> rfl), by repeat (first | (with_reducible first | exact HB.out | apply below_alloc | apply pw_below_drewN | apply below_drew1 | refine below_set ?_ GE168.out) | exact HB.out)⟩

/-! ### spec_RangeAsk: function 16 -/
def spec_RangeAsk.f (a0_0 : Int) (a0_1 : Int) : Option (Bool) := (spec_RangeIn.f a0_0 a0_1).bind fun t170 => (if t170 = true then (some (decide (a0_1 ≥ 0))) else (some false))
set_option maxHeartbeats 8000000 in
set_option maxRecDepth 100000 in
theorem spec_RangeAsk.calls (a0_0 : Int) (a0_1 : Int) (r : Bool) (w : World) (h : spec_RangeAsk.f a0_0 a0_1 = some r) :
    Calls Try.prog 16 #[.agg #[.int .i64 a0_0, .int .i64 a0_1]] w fun e w' => e = .returned (.bool r) ∧ Below w.heap.size w w' := by
  have hu28 := Try.underlying28
  have HB := Aside0.mk (Below.refl w.heap.size w)
  have H : ((spec_RangeIn.f a0_0 a0_1).bind fun t170 => (if t170 = true then (some (decide (a0_1 ≥ 0))) else (some false))) = some r := h
  clear h
  replace H := Option.bind_eq_some_iff.mp H
  obtain ⟨t170, A20, H⟩ := H
  replace H : (if t170 = true then (some (decide (a0_1 ≥ 0))) else (some false)) = some r := H
  have A2 := Aside0.mk A20
  clear A20
  by_cases c3 : t170 = true
  · subst c3
    have H1 : (some (decide (a0_1 ≥ 0))) = some r := by rw [if_pos rfl] at H; exact H
    clear H
    have H := H1
    clear H1
    obtain rfl := Option.some.inj H
    go_enter Try.func16, Try.ntmps16
    go_wp2_with (first | ((with_reducible refine gate_dst (N := 1) rfl ?_); refine box_event ?hg (N := 1) ?hd (cs := #[.int .i64 a0_0, .int .i64 a0_1]) (t := 28) ?hr ?_; (case hd => rfl); (case hg => rfl); (case hr => first | (go_simp; done) | (go_simp; rfl)); intro gb169 hg w4 hbox hb; have n0_ := Aside0.mk (below_step (by repeat (first | (with_reducible first | exact HB.out | apply below_alloc | apply pw_below_drewN | apply below_drew1) | exact HB.out)) hb); have n1_ := Aside0.mk (hbox); have n2_ := Aside0.mk ((by rw [hg]; exact (below_size (by repeat (first | (with_reducible first | exact HB.out | apply below_alloc | apply pw_below_drewN | apply below_drew1) | exact HB.out))) : w.heap.size ≤ gb169)); have n3_ := Aside0.mk ((by rw [hg]; exact (below_size (by repeat (first | (with_reducible first | exact HB.out | apply below_alloc | apply pw_below_drewN | apply below_drew1) | exact HB.out))) : w.heap.size ≤ gb169)); clear HB; have HB := n0_; have BK169 := n1_; have GW169 := n2_; have GE169 := n3_; clear n0_ n1_ n2_ n3_; clear hb hbox hg; have hcz5_0 : w4.cell? ⟨gb169, 0, none⟩ = some (.int .i64 a0_0) := (blk_cell BK169.out 0).trans rfl; have hcz5_1 : w4.cell? ⟨gb169, 1, none⟩ = some (.int .i64 a0_1) := (blk_cell BK169.out 1).trans rfl; have hfz5_0 := blk_frozen BK169.out 0; have hfz5_1 := blk_frozen BK169.out 1) | ((with_reducible refine gate_callee (f := 33) rfl ?_); refine goesL_ (some 4) rfl rfl Try.func33 (by kernel_rfl) rfl #[.agg #[.int .i64 a0_0, .int .i64 a0_1]] rfl (by (try simp only [List.map_toArray, List.map_cons, List.map_nil]); first | done | rfl | (simp only [List.length_drop, List.length_take]; rfl)) ?_; (with_reducible refine (spec_RangeIn.calls a0_0 a0_1 true _ A2.out).mono ?_); rintro e w6 ⟨rfl, hb⟩; refine ⟨_, rfl, ?_⟩; have n0_ := Aside0.mk (blk_below (g := gb169) (o := .cells #[.int .i64 a0_0, .int .i64 a0_1] 28 (0, 0)) (by (with_reducible repeat (first | refine blk_drewN ?_ _ | refine blk_drew ?_ | refine blk_alloc ?_ _)); exact BK169.out) hb); have n1_ := Aside0.mk (below_step (by repeat (first | (with_reducible first | exact HB.out | apply below_alloc | apply pw_below_drewN | apply below_drew1 | refine below_set ?_ GE169.out) | exact HB.out)) hb); clear BK169; clear HB; have BK169 := n0_; have HB := n1_; clear n0_ n1_; (try clear hb); (try clear hb2); (try clear hk); (try clear hi); have hcz7_0 : w6.cell? ⟨gb169, 0, none⟩ = some (.int .i64 a0_0) := (blk_cell BK169.out 0).trans rfl; have hcz7_1 : w6.cell? ⟨gb169, 1, none⟩ = some (.int .i64 a0_1) := (blk_cell BK169.out 1).trans rfl; have hfz7_0 := blk_frozen BK169.out 0; have hfz7_1 := blk_frozen BK169.out 1))
    go_ret
    exact ⟨by first | rfl | (simp [errW_none, errW_some] <;> rfl) | (simp [*, errW_none, errW_some] <;> rfl), by repeat (first | (with_reducible first | exact HB.out | apply below_alloc | apply pw_below_drewN | apply below_drew1 | refine below_set ?_ GE169.out) | exact HB.out)⟩
  · replace c3 := Bool.eq_false_iff.mpr c3
    subst c3
    have H1 : (some false) = some r := by rw [if_neg (show ¬ (false = true) by decide)] at H; exact H
    clear H
    have H := H1
    clear H1
    obtain rfl := Option.some.inj H
    go_enter Try.func16, Try.ntmps16
    go_wp2_with (first | ((with_reducible refine gate_dst (N := 1) rfl ?_); refine box_event ?hg (N := 1) ?hd (cs := #[.int .i64 a0_0, .int .i64 a0_1]) (t := 28) ?hr ?_; (case hd => rfl); (case hg => rfl); (case hr => first | (go_simp; done) | (go_simp; rfl)); intro gb169 hg w8 hbox hb; have n0_ := Aside0.mk (below_step (by repeat (first | (with_reducible first | exact HB.out | apply below_alloc | apply pw_below_drewN | apply below_drew1) | exact HB.out)) hb); have n1_ := Aside0.mk (hbox); have n2_ := Aside0.mk ((by rw [hg]; exact (below_size (by repeat (first | (with_reducible first | exact HB.out | apply below_alloc | apply pw_below_drewN | apply below_drew1) | exact HB.out))) : w.heap.size ≤ gb169)); have n3_ := Aside0.mk ((by rw [hg]; exact (below_size (by repeat (first | (with_reducible first | exact HB.out | apply below_alloc | apply pw_below_drewN | apply below_drew1) | exact HB.out))) : w.heap.size ≤ gb169)); clear HB; have HB := n0_; have BK169 := n1_; have GW169 := n2_; have GE169 := n3_; clear n0_ n1_ n2_ n3_; clear hb hbox hg; have hcz9_0 : w8.cell? ⟨gb169, 0, none⟩ = some (.int .i64 a0_0) := (blk_cell BK169.out 0).trans rfl; have hcz9_1 : w8.cell? ⟨gb169, 1, none⟩ = some (.int .i64 a0_1) := (blk_cell BK169.out 1).trans rfl; have hfz9_0 := blk_frozen BK169.out 0; have hfz9_1 := blk_frozen BK169.out 1) | ((with_reducible refine gate_callee (f := 33) rfl ?_); refine goesL_ (some 4) rfl rfl Try.func33 (by kernel_rfl) rfl #[.agg #[.int .i64 a0_0, .int .i64 a0_1]] rfl (by (try simp only [List.map_toArray, List.map_cons, List.map_nil]); first | done | rfl | (simp only [List.length_drop, List.length_take]; rfl)) ?_; (with_reducible refine (spec_RangeIn.calls a0_0 a0_1 false _ A2.out).mono ?_); rintro e w10 ⟨rfl, hb⟩; refine ⟨_, rfl, ?_⟩; have n0_ := Aside0.mk (blk_below (g := gb169) (o := .cells #[.int .i64 a0_0, .int .i64 a0_1] 28 (0, 0)) (by (with_reducible repeat (first | refine blk_drewN ?_ _ | refine blk_drew ?_ | refine blk_alloc ?_ _)); exact BK169.out) hb); have n1_ := Aside0.mk (below_step (by repeat (first | (with_reducible first | exact HB.out | apply below_alloc | apply pw_below_drewN | apply below_drew1 | refine below_set ?_ GE169.out) | exact HB.out)) hb); clear BK169; clear HB; have BK169 := n0_; have HB := n1_; clear n0_ n1_; (try clear hb); (try clear hb2); (try clear hk); (try clear hi)))
    go_ret
    exact ⟨by first | rfl | (simp [errW_none, errW_some] <;> rfl) | (simp [*, errW_none, errW_some] <;> rfl), by repeat (first | (with_reducible first | exact HB.out | apply below_alloc | apply pw_below_drewN | apply below_drew1 | refine below_set ?_ GE169.out) | exact HB.out)⟩

/-! ### impl_RangeClip: function 25 -/
/-- A range clipped at a place. -/
def impl_RangeClip.f (a0_0 a0_1 a1 : Int) : Option (Int × Int) := some ((Rang.clip (a0_0, a0_1) a1).1, (Rang.clip (a0_0, a0_1) a1).2)
theorem impl_RangeClip.calls (a0_0 a0_1 a1 : Int) (r1 r2 : Int) (w : World) (h : impl_RangeClip.f a0_0 a0_1 a1 = some (r1, r2)) :
    Calls Try.prog 25 #[.agg #[.int .i64 a0_0, .int .i64 a0_1], .int .i64 a1] w fun e w' => e = .returned (.agg #[.int .i64 r1, .int .i64 r2]) ∧ Below w.heap.size w w' := by
  simp only [impl_RangeClip.f, Option.some.injEq, Prod.mk.injEq] at h
  obtain ⟨rfl, rfl⟩ := h
  exact Rang.rangeClip_is a0_0 a0_1 a1 w

/-! ### impl_RangeEmpty: function 26 -/
def impl_RangeEmpty.f (a0_0 : Int) (a0_1 : Int) : Option (Bool) := (impl_given.f a0_0 a0_1).bind fun bt172 => ((ranges_Range_IsEmpty.f bt172.1 bt172.2).bind fun t174 => (some t174))
set_option maxHeartbeats 8000000 in
set_option maxRecDepth 100000 in
theorem impl_RangeEmpty.calls (a0_0 : Int) (a0_1 : Int) (r : Bool) (w : World) (h : impl_RangeEmpty.f a0_0 a0_1 = some r) :
    Calls Try.prog 26 #[.agg #[.int .i64 a0_0, .int .i64 a0_1]] w fun e w' => e = .returned (.bool r) ∧ Below w.heap.size w w' := by
  have hu28 := Try.underlying28
  have HB := Aside0.mk (Below.refl w.heap.size w)
  have H : ((impl_given.f a0_0 a0_1).bind fun bt172 => ((ranges_Range_IsEmpty.f bt172.1 bt172.2).bind fun t174 => (some t174))) = some r := h
  clear h
  replace H := Option.bind_eq_some_iff.mp H
  obtain ⟨⟨t172, t173⟩, A20, H⟩ := H
  replace H : ((ranges_Range_IsEmpty.f t172 t173).bind fun t174 => (some t174)) = some r := H
  have A2 := Aside0.mk A20
  clear A20
  replace H := Option.bind_eq_some_iff.mp H
  obtain ⟨t174, A30, H⟩ := H
  replace H : (some t174) = some r := H
  have A3 := Aside0.mk A30
  clear A30
  obtain rfl := Option.some.inj H
  go_enter Try.func26, Try.ntmps26
  go_wp2_with (first | ((with_reducible refine gate_dst (N := 1) rfl ?_); refine box_event ?hg (N := 1) ?hd (cs := #[.int .i64 a0_0, .int .i64 a0_1]) (t := 28) ?hr ?_; (case hd => rfl); (case hg => rfl); (case hr => first | (go_simp; done) | (go_simp; rfl)); intro gb171 hg w4 hbox hb; have n0_ := Aside0.mk (below_step (by repeat (first | (with_reducible first | exact HB.out | apply below_alloc | apply pw_below_drewN | apply below_drew1) | exact HB.out)) hb); have n1_ := Aside0.mk (hbox); have n2_ := Aside0.mk ((by rw [hg]; exact (below_size (by repeat (first | (with_reducible first | exact HB.out | apply below_alloc | apply pw_below_drewN | apply below_drew1) | exact HB.out))) : w.heap.size ≤ gb171)); have n3_ := Aside0.mk ((by rw [hg]; exact (below_size (by repeat (first | (with_reducible first | exact HB.out | apply below_alloc | apply pw_below_drewN | apply below_drew1) | exact HB.out))) : w.heap.size ≤ gb171)); clear HB; have HB := n0_; have BK171 := n1_; have GW171 := n2_; have GE171 := n3_; clear n0_ n1_ n2_ n3_; clear hb hbox hg; have hcz5_0 : w4.cell? ⟨gb171, 0, none⟩ = some (.int .i64 a0_0) := (blk_cell BK171.out 0).trans rfl; have hcz5_1 : w4.cell? ⟨gb171, 1, none⟩ = some (.int .i64 a0_1) := (blk_cell BK171.out 1).trans rfl; have hfz5_0 := blk_frozen BK171.out 0; have hfz5_1 := blk_frozen BK171.out 1) | ((with_reducible refine gate_callee (f := 41) rfl ?_); refine goesL_ (some 4) rfl rfl Try.func41 (by kernel_rfl) rfl #[.agg #[.int .i64 a0_0, .int .i64 a0_1]] rfl (by (try simp only [List.map_toArray, List.map_cons, List.map_nil]); first | done | rfl | (simp only [List.length_drop, List.length_take]; rfl)) ?_; (with_reducible refine (impl_given.calls a0_0 a0_1 t172 t173 _ A2.out).mono ?_); rintro e w6 ⟨rfl, hb⟩; refine ⟨_, rfl, ?_⟩; have n0_ := Aside0.mk (blk_below (g := gb171) (o := .cells #[.int .i64 a0_0, .int .i64 a0_1] 28 (0, 0)) (by (with_reducible repeat (first | refine blk_drewN ?_ _ | refine blk_drew ?_ | refine blk_alloc ?_ _)); exact BK171.out) hb); have n1_ := Aside0.mk (below_step (by repeat (first | (with_reducible first | exact HB.out | apply below_alloc | apply pw_below_drewN | apply below_drew1 | refine below_set ?_ GE171.out) | exact HB.out)) hb); clear BK171; clear HB; have BK171 := n0_; have HB := n1_; clear n0_ n1_; (try clear hb); (try clear hb2); (try clear hk); (try clear hi)) | ((with_reducible refine gate_callee (f := 48) rfl ?_); refine goesL_ (some 5) rfl rfl Try.func48 (by kernel_rfl) rfl #[.agg #[.int .i64 t172, .int .i64 t173]] rfl (by (try simp only [List.map_toArray, List.map_cons, List.map_nil]); first | done | rfl | (simp only [List.length_drop, List.length_take]; rfl)) ?_; (with_reducible refine (ranges_Range_IsEmpty.calls t172 t173 t174 _ A3.out).mono ?_); rintro e w7 ⟨rfl, hb⟩; refine ⟨_, rfl, ?_⟩; have n0_ := Aside0.mk (blk_below (g := gb171) (o := .cells #[.int .i64 a0_0, .int .i64 a0_1] 28 (0, 0)) (by (with_reducible repeat (first | refine blk_drewN ?_ _ | refine blk_drew ?_ | refine blk_alloc ?_ _)); exact BK171.out) hb); have n1_ := Aside0.mk (below_step (by repeat (first | (with_reducible first | exact HB.out | apply below_alloc | apply pw_below_drewN | apply below_drew1 | refine below_set ?_ GE171.out) | exact HB.out)) hb); clear BK171; clear HB; have BK171 := n0_; have HB := n1_; clear n0_ n1_; (try clear hb); (try clear hb2); (try clear hk); (try clear hi)))
  go_ret
  exact ⟨by first | rfl | (simp [errW_none, errW_some] <;> rfl) | (simp [*, errW_none, errW_some] <;> rfl), by repeat (first | (with_reducible first | exact HB.out | apply below_alloc | apply pw_below_drewN | apply below_drew1 | refine below_set ?_ GE171.out) | exact HB.out)⟩

/-! ### ranges_Range_End: function 49 -/
def ranges_Range_End.f (a0_0 : Int) (a0_1 : Int) : Option (Int) := some (wrap64 (a0_0 + a0_1))
set_option maxHeartbeats 8000000 in
set_option maxRecDepth 100000 in
theorem ranges_Range_End.calls (a0_0 : Int) (a0_1 : Int) (r : Int) (w : World) (h : ranges_Range_End.f a0_0 a0_1 = some r) :
    Calls Try.prog 49 #[.agg #[.int .i64 a0_0, .int .i64 a0_1]] w fun e w' => e = .returned (.int .i64 r) ∧ Below w.heap.size w w' := by
  have hu61 := Try.underlying61
  have HB := Aside0.mk (Below.refl w.heap.size w)
  have H : (some (wrap64 (a0_0 + a0_1))) = some r := h
  clear h
  obtain rfl := Option.some.inj H
  go_enter Try.func49, Try.ntmps49
  go_wp2_with (first | ((with_reducible refine gate_dst (N := 1) rfl ?_); refine box_event ?hg (N := 1) ?hd (cs := #[.int .i64 a0_0, .int .i64 a0_1]) (t := 61) ?hr ?_; (case hd => rfl); (case hg => rfl); (case hr => first | (go_simp; done) | (go_simp; rfl)); intro gb175 hg w2 hbox hb; have n0_ := Aside0.mk (below_step (by repeat (first | (with_reducible first | exact HB.out | apply below_alloc | apply pw_below_drewN | apply below_drew1) | exact HB.out)) hb); have n1_ := Aside0.mk (hbox); have n2_ := Aside0.mk ((by rw [hg]; exact (below_size (by repeat (first | (with_reducible first | exact HB.out | apply below_alloc | apply pw_below_drewN | apply below_drew1) | exact HB.out))) : w.heap.size ≤ gb175)); have n3_ := Aside0.mk ((by rw [hg]; exact (below_size (by repeat (first | (with_reducible first | exact HB.out | apply below_alloc | apply pw_below_drewN | apply below_drew1) | exact HB.out))) : w.heap.size ≤ gb175)); clear HB; have HB := n0_; have BK175 := n1_; have GW175 := n2_; have GE175 := n3_; clear n0_ n1_ n2_ n3_; clear hb hbox hg; have hcz3_0 : w2.cell? ⟨gb175, 0, none⟩ = some (.int .i64 a0_0) := (blk_cell BK175.out 0).trans rfl; have hcz3_1 : w2.cell? ⟨gb175, 1, none⟩ = some (.int .i64 a0_1) := (blk_cell BK175.out 1).trans rfl; have hfz3_0 := blk_frozen BK175.out 0; have hfz3_1 := blk_frozen BK175.out 1))
  go_ret
  exact ⟨by first | rfl | (simp [errW_none, errW_some] <;> rfl) | (simp [*, errW_none, errW_some] <;> rfl), by repeat (first | (with_reducible first | exact HB.out | apply below_alloc | apply pw_below_drewN | apply below_drew1 | refine below_set ?_ GE175.out) | exact HB.out)⟩

/-! ### impl_RangeEnd: function 27 -/
def impl_RangeEnd.f (a0_0 : Int) (a0_1 : Int) : Option (Int) := (impl_given.f a0_0 a0_1).bind fun bt177 => ((ranges_Range_End.f bt177.1 bt177.2).bind fun t179 => (some t179))
set_option maxHeartbeats 8000000 in
set_option maxRecDepth 100000 in
theorem impl_RangeEnd.calls (a0_0 : Int) (a0_1 : Int) (r : Int) (w : World) (h : impl_RangeEnd.f a0_0 a0_1 = some r) :
    Calls Try.prog 27 #[.agg #[.int .i64 a0_0, .int .i64 a0_1]] w fun e w' => e = .returned (.int .i64 r) ∧ Below w.heap.size w w' := by
  have hu28 := Try.underlying28
  have HB := Aside0.mk (Below.refl w.heap.size w)
  have H : ((impl_given.f a0_0 a0_1).bind fun bt177 => ((ranges_Range_End.f bt177.1 bt177.2).bind fun t179 => (some t179))) = some r := h
  clear h
  replace H := Option.bind_eq_some_iff.mp H
  obtain ⟨⟨t177, t178⟩, A20, H⟩ := H
  replace H : ((ranges_Range_End.f t177 t178).bind fun t179 => (some t179)) = some r := H
  have A2 := Aside0.mk A20
  clear A20
  replace H := Option.bind_eq_some_iff.mp H
  obtain ⟨t179, A30, H⟩ := H
  replace H : (some t179) = some r := H
  have A3 := Aside0.mk A30
  clear A30
  obtain rfl := Option.some.inj H
  go_enter Try.func27, Try.ntmps27
  go_wp2_with (first | ((with_reducible refine gate_dst (N := 1) rfl ?_); refine box_event ?hg (N := 1) ?hd (cs := #[.int .i64 a0_0, .int .i64 a0_1]) (t := 28) ?hr ?_; (case hd => rfl); (case hg => rfl); (case hr => first | (go_simp; done) | (go_simp; rfl)); intro gb176 hg w4 hbox hb; have n0_ := Aside0.mk (below_step (by repeat (first | (with_reducible first | exact HB.out | apply below_alloc | apply pw_below_drewN | apply below_drew1) | exact HB.out)) hb); have n1_ := Aside0.mk (hbox); have n2_ := Aside0.mk ((by rw [hg]; exact (below_size (by repeat (first | (with_reducible first | exact HB.out | apply below_alloc | apply pw_below_drewN | apply below_drew1) | exact HB.out))) : w.heap.size ≤ gb176)); have n3_ := Aside0.mk ((by rw [hg]; exact (below_size (by repeat (first | (with_reducible first | exact HB.out | apply below_alloc | apply pw_below_drewN | apply below_drew1) | exact HB.out))) : w.heap.size ≤ gb176)); clear HB; have HB := n0_; have BK176 := n1_; have GW176 := n2_; have GE176 := n3_; clear n0_ n1_ n2_ n3_; clear hb hbox hg; have hcz5_0 : w4.cell? ⟨gb176, 0, none⟩ = some (.int .i64 a0_0) := (blk_cell BK176.out 0).trans rfl; have hcz5_1 : w4.cell? ⟨gb176, 1, none⟩ = some (.int .i64 a0_1) := (blk_cell BK176.out 1).trans rfl; have hfz5_0 := blk_frozen BK176.out 0; have hfz5_1 := blk_frozen BK176.out 1) | ((with_reducible refine gate_callee (f := 41) rfl ?_); refine goesL_ (some 4) rfl rfl Try.func41 (by kernel_rfl) rfl #[.agg #[.int .i64 a0_0, .int .i64 a0_1]] rfl (by (try simp only [List.map_toArray, List.map_cons, List.map_nil]); first | done | rfl | (simp only [List.length_drop, List.length_take]; rfl)) ?_; (with_reducible refine (impl_given.calls a0_0 a0_1 t177 t178 _ A2.out).mono ?_); rintro e w6 ⟨rfl, hb⟩; refine ⟨_, rfl, ?_⟩; have n0_ := Aside0.mk (blk_below (g := gb176) (o := .cells #[.int .i64 a0_0, .int .i64 a0_1] 28 (0, 0)) (by (with_reducible repeat (first | refine blk_drewN ?_ _ | refine blk_drew ?_ | refine blk_alloc ?_ _)); exact BK176.out) hb); have n1_ := Aside0.mk (below_step (by repeat (first | (with_reducible first | exact HB.out | apply below_alloc | apply pw_below_drewN | apply below_drew1 | refine below_set ?_ GE176.out) | exact HB.out)) hb); clear BK176; clear HB; have BK176 := n0_; have HB := n1_; clear n0_ n1_; (try clear hb); (try clear hb2); (try clear hk); (try clear hi)) | ((with_reducible refine gate_callee (f := 49) rfl ?_); refine goesL_ (some 5) rfl rfl Try.func49 (by kernel_rfl) rfl #[.agg #[.int .i64 t177, .int .i64 t178]] rfl (by (try simp only [List.map_toArray, List.map_cons, List.map_nil]); first | done | rfl | (simp only [List.length_drop, List.length_take]; rfl)) ?_; (with_reducible refine (ranges_Range_End.calls t177 t178 t179 _ A3.out).mono ?_); rintro e w7 ⟨rfl, hb⟩; refine ⟨_, rfl, ?_⟩; have n0_ := Aside0.mk (blk_below (g := gb176) (o := .cells #[.int .i64 a0_0, .int .i64 a0_1] 28 (0, 0)) (by (with_reducible repeat (first | refine blk_drewN ?_ _ | refine blk_drew ?_ | refine blk_alloc ?_ _)); exact BK176.out) hb); have n1_ := Aside0.mk (below_step (by repeat (first | (with_reducible first | exact HB.out | apply below_alloc | apply pw_below_drewN | apply below_drew1 | refine below_set ?_ GE176.out) | exact HB.out)) hb); clear BK176; clear HB; have BK176 := n0_; have HB := n1_; clear n0_ n1_; (try clear hb); (try clear hb2); (try clear hk); (try clear hi)))
  go_ret
  exact ⟨by first | rfl | (simp [errW_none, errW_some] <;> rfl) | (simp [*, errW_none, errW_some] <;> rfl), by repeat (first | (with_reducible first | exact HB.out | apply below_alloc | apply pw_below_drewN | apply below_drew1 | refine below_set ?_ GE176.out) | exact HB.out)⟩

/-! ### laws_FnRangeClip: function 8 -/
def laws_FnRangeClip.j0 : Nat → Int → Bool → Int → Int → Option (Bool)
  | 0, _, _, _, _ => none
  | k + 1, x1, x16, x181000, x181001 => if x16 = true then (some true) else ((impl_RangeClip.f x181000 x181001 x1).bind fun bt182 => ((laws_rangeAwake.f k).bind fun t185 => (if t185 = true then (if (wrap64 (x181000 + x181001)) ≤ x1 then (some (bt182.1 == x181000 && (bt182.2 == x181001))) else (if x1 < x181000 then (if (bt182.1 == 0 && (bt182.2 == 0)) = true then ((impl_RangeEmpty.f bt182.1 bt182.2).bind fun t186 => (some t186)) else (some false)) else (if (bt182.1 == x181000 && (bt182.2 == (wrap64 (x1 - x181000)))) = true then ((impl_RangeEnd.f bt182.1 bt182.2).bind fun t187 => (some (t187 == x1))) else (some false)))) else (some false))))
def laws_FnRangeClip.f (k : Nat) (a0_0 : Int) (a0_1 : Int) (a1 : Int) : Option (Bool) := (spec_RangeAsk.f a0_0 a0_1).bind fun t181 => (if t181 = true then (if a1 < (-2199023255552) then (laws_FnRangeClip.j0 k a1 true a0_0 a0_1) else (laws_FnRangeClip.j0 k a1 (decide (a1 > 4398046511104)) a0_0 a0_1)) else (laws_FnRangeClip.j0 k a1 true a0_0 a0_1))
theorem laws_FnRangeClip.mono_l : ∀ k, (∀ y0 y1 y2 y3, LeO (laws_FnRangeClip.j0 k y0 y1 y2 y3) (laws_FnRangeClip.j0 (k + 1) y0 y1 y2 y3))
  | 0 => fun _ _ _ _ r h => by simp [laws_FnRangeClip.j0] at h
  | k + 1 => by
    have ih0 := laws_FnRangeClip.mono_l k
    · intro y0 y1 y2 y3
      unfold laws_FnRangeClip.j0
      repeat' first
      | (with_reducible exact ih0 _ _ _ _)
      | (with_reducible exact laws_rangeAwake.mono _)
      | (with_reducible exact LeO.refl _)
      | (with_reducible exact LeO.none _)
      | (with_reducible refine LeO.ite ?_ ?_)
      | (with_reducible refine LeO.bind ?_ (fun _ => ?_))
      | exact ih0 _ _ _ _
      | exact laws_rangeAwake.mono _
      | exact LeO.none _
      | refine LeO.ite ?_ ?_
      | refine LeO.bind ?_ (fun _ => ?_)
theorem laws_FnRangeClip.mono : ∀ a0 a1 a2 k, LeO (laws_FnRangeClip.f k a0 a1 a2) (laws_FnRangeClip.f (k + 1) a0 a1 a2) := by
  intro a0 a1 a2 k
  have ih0 := laws_FnRangeClip.mono_l k
  unfold laws_FnRangeClip.f
  repeat' first
      | (with_reducible exact ih0 _ _ _ _)
      | (with_reducible exact laws_rangeAwake.mono _)
      | (with_reducible exact LeO.refl _)
      | (with_reducible exact LeO.none _)
      | (with_reducible refine LeO.ite ?_ ?_)
      | (with_reducible refine LeO.bind ?_ (fun _ => ?_))
      | exact ih0 _ _ _ _
      | exact laws_rangeAwake.mono _
      | exact LeO.none _
      | refine LeO.ite ?_ ?_
      | refine LeO.bind ?_ (fun _ => ?_)
set_option maxHeartbeats 8000000 in
set_option maxRecDepth 100000 in
theorem laws_FnRangeClip.calls (k : Nat) (a0_0 : Int) (a0_1 : Int) (a1 : Int) (r : Bool) (w : World) (h : laws_FnRangeClip.f k a0_0 a0_1 a1 = some r) :
    Calls Try.prog 8 #[.agg #[.int .i64 a0_0, .int .i64 a0_1], .int .i64 a1] w fun e w' => e = .returned (.bool r) ∧ Below w.heap.size w w' := by
  have hu28 := Try.underlying28
  have HB := Aside0.mk (Below.refl w.heap.size w)
  have H : ((spec_RangeAsk.f a0_0 a0_1).bind fun t181 => (if t181 = true then (if a1 < (-2199023255552) then (laws_FnRangeClip.j0 k a1 true a0_0 a0_1) else (laws_FnRangeClip.j0 k a1 (decide (a1 > 4398046511104)) a0_0 a0_1)) else (laws_FnRangeClip.j0 k a1 true a0_0 a0_1))) = some r := h
  clear h
  have HC3 := Aside0.mk H
  clear H
  go_enter Try.func8, Try.ntmps8
  go_upto_region 1 with (first | ((with_reducible refine gate_dst (N := 2) rfl ?_); refine box_event ?hg (N := 2) ?hd (cs := #[.int .i64 a0_0, .int .i64 a0_1]) (t := 28) ?hr ?_; (case hd => rfl); (case hg => rfl); (case hr => first | (go_simp; done) | (go_simp; rfl)); intro gb180 hg w4 hbox hb; have n0_ := Aside0.mk (below_step (by repeat (first | (with_reducible first | exact HB.out | apply below_alloc | apply pw_below_drewN | apply below_drew1) | exact HB.out)) hb); have n1_ := Aside0.mk (hbox); have n2_ := Aside0.mk ((by rw [hg]; exact (below_size (by repeat (first | (with_reducible first | exact HB.out | apply below_alloc | apply pw_below_drewN | apply below_drew1) | exact HB.out))) : w.heap.size ≤ gb180)); have n3_ := Aside0.mk ((by rw [hg]; exact (below_size (by repeat (first | (with_reducible first | exact HB.out | apply below_alloc | apply pw_below_drewN | apply below_drew1) | exact HB.out))) : w.heap.size ≤ gb180)); clear HB; have HB := n0_; have BK180 := n1_; have GW180 := n2_; have GE180 := n3_; clear n0_ n1_ n2_ n3_; clear hb hbox hg))
  (try simp only [Act.put, List.setIfInBounds_toArray, List.set_cons_zero, List.set_cons_succ])
  go_cut [16] (fun v16 wc => ∃ (kq : Nat) (x16_2 : Bool), v16 = .bool x16_2 ∧ Aside0 (laws_FnRangeClip.j0 kq a1 x16_2 a0_0 a0_1 = some r) ∧ Aside0 (kq ≤ k) ∧ Aside0 (wc.heap[gb180]? = some (.cells #[.int .i64 a0_0, .int .i64 a0_1] 28 (0, 0))) ∧ Aside0 (Below w.heap.size w wc))
  case first =>
    have H := HC3.out
    clear HC3
    replace H := Option.bind_eq_some_iff.mp H
    obtain ⟨t181, A50, H⟩ := H
    replace H : (if t181 = true then (if a1 < (-2199023255552) then (laws_FnRangeClip.j0 k a1 true a0_0 a0_1) else (laws_FnRangeClip.j0 k a1 (decide (a1 > 4398046511104)) a0_0 a0_1)) else (laws_FnRangeClip.j0 k a1 true a0_0 a0_1)) = some r := H
    have A5 := Aside0.mk A50
    clear A50
    by_cases c6 : t181 = true
    · subst c6
      have H1 : (if a1 < (-2199023255552) then (laws_FnRangeClip.j0 k a1 true a0_0 a0_1) else (laws_FnRangeClip.j0 k a1 (decide (a1 > 4398046511104)) a0_0 a0_1)) = some r := by rw [if_pos rfl] at H; exact H
      clear H
      have H := H1
      clear H1
      by_cases c7 : a1 < (-2199023255552)
      · rw [if_pos c7] at H
        have c7b0 : decide (a1 < (-2199023255552)) = true := decide_eq_true c7
        clear c7
        (first | rw [c7b0] | (simp only [i64_w, i32_w]; rw [c7b0]) | skip)
        have H' := Aside0.mk H
        clear H
        have hcz8_0 : w4.cell? ⟨gb180, 0, none⟩ = some (.int .i64 a0_0) := (blk_cell BK180.out 0).trans rfl
        have hcz8_1 : w4.cell? ⟨gb180, 1, none⟩ = some (.int .i64 a0_1) := (blk_cell BK180.out 1).trans rfl
        have hfz8_0 := blk_frozen BK180.out 0
        have hfz8_1 := blk_frozen BK180.out 1
        go_wp2_with (first | ((with_reducible refine gate_callee (f := 16) rfl ?_); refine goesL_ (some 7) rfl rfl Try.func16 (by kernel_rfl) rfl #[.agg #[.int .i64 a0_0, .int .i64 a0_1]] rfl (by (try simp only [List.map_toArray, List.map_cons, List.map_nil]); first | done | rfl | (simp only [List.length_drop, List.length_take]; rfl)) ?_; (with_reducible refine (spec_RangeAsk.calls a0_0 a0_1 true _ A5.out).mono ?_); rintro e w9 ⟨rfl, hb⟩; refine ⟨_, rfl, ?_⟩; have n0_ := Aside0.mk (blk_below (g := gb180) (o := .cells #[.int .i64 a0_0, .int .i64 a0_1] 28 (0, 0)) (by (with_reducible repeat (first | refine blk_drewN ?_ _ | refine blk_drew ?_ | refine blk_alloc ?_ _)); exact BK180.out) hb); have n1_ := Aside0.mk (below_step (by repeat (first | (with_reducible first | exact HB.out | apply below_alloc | apply pw_below_drewN | apply below_drew1 | refine below_set ?_ GE180.out) | exact HB.out)) hb); clear BK180; clear HB; have BK180 := n0_; have HB := n1_; clear n0_ n1_; (try clear hb); (try clear hb2); (try clear hk); (try clear hi)))
        go_meet
        case rel => exact ⟨_, (true), (by first | rfl | (simp; done) | (simp [*]; done) | (simp [xt_ne_nil]; done)), H', ⟨by first | omega | exact Nat.le_refl _⟩, ⟨by (with_reducible repeat (first | refine blk_drewN ?_ _ | refine blk_drew ?_ | refine blk_alloc ?_ _)); exact BK180.out⟩, ⟨by repeat (first | (with_reducible first | exact HB.out | apply below_alloc | apply pw_below_drewN | apply below_drew1 | refine below_set ?_ GE180.out) | exact HB.out)⟩⟩
      · rw [if_neg c7] at H
        have c7b0 : decide (a1 < (-2199023255552)) = false := decide_eq_false c7
        clear c7
        (first | rw [c7b0] | (simp only [i64_w, i32_w]; rw [c7b0]) | skip)
        have H' := Aside0.mk H
        clear H
        have hcz10_0 : w4.cell? ⟨gb180, 0, none⟩ = some (.int .i64 a0_0) := (blk_cell BK180.out 0).trans rfl
        have hcz10_1 : w4.cell? ⟨gb180, 1, none⟩ = some (.int .i64 a0_1) := (blk_cell BK180.out 1).trans rfl
        have hfz10_0 := blk_frozen BK180.out 0
        have hfz10_1 := blk_frozen BK180.out 1
        go_wp2_with (first | ((with_reducible refine gate_callee (f := 16) rfl ?_); refine goesL_ (some 7) rfl rfl Try.func16 (by kernel_rfl) rfl #[.agg #[.int .i64 a0_0, .int .i64 a0_1]] rfl (by (try simp only [List.map_toArray, List.map_cons, List.map_nil]); first | done | rfl | (simp only [List.length_drop, List.length_take]; rfl)) ?_; (with_reducible refine (spec_RangeAsk.calls a0_0 a0_1 true _ A5.out).mono ?_); rintro e w11 ⟨rfl, hb⟩; refine ⟨_, rfl, ?_⟩; have n0_ := Aside0.mk (blk_below (g := gb180) (o := .cells #[.int .i64 a0_0, .int .i64 a0_1] 28 (0, 0)) (by (with_reducible repeat (first | refine blk_drewN ?_ _ | refine blk_drew ?_ | refine blk_alloc ?_ _)); exact BK180.out) hb); have n1_ := Aside0.mk (below_step (by repeat (first | (with_reducible first | exact HB.out | apply below_alloc | apply pw_below_drewN | apply below_drew1 | refine below_set ?_ GE180.out) | exact HB.out)) hb); clear BK180; clear HB; have BK180 := n0_; have HB := n1_; clear n0_ n1_; (try clear hb); (try clear hb2); (try clear hk); (try clear hi)))
        go_meet
        case rel => exact ⟨_, (decide (a1 > 4398046511104)), (by first | rfl | (simp; done) | (simp [*]; done) | (simp [xt_ne_nil]; done)), H', ⟨by first | omega | exact Nat.le_refl _⟩, ⟨by (with_reducible repeat (first | refine blk_drewN ?_ _ | refine blk_drew ?_ | refine blk_alloc ?_ _)); exact BK180.out⟩, ⟨by repeat (first | (with_reducible first | exact HB.out | apply below_alloc | apply pw_below_drewN | apply below_drew1 | refine below_set ?_ GE180.out) | exact HB.out)⟩⟩
    · replace c6 := Bool.eq_false_iff.mpr c6
      subst c6
      have H1 : (laws_FnRangeClip.j0 k a1 true a0_0 a0_1) = some r := by rw [if_neg (show ¬ (false = true) by decide)] at H; exact H
      clear H
      have H := H1
      clear H1
      have H' := Aside0.mk H
      clear H
      have hcz12_0 : w4.cell? ⟨gb180, 0, none⟩ = some (.int .i64 a0_0) := (blk_cell BK180.out 0).trans rfl
      have hcz12_1 : w4.cell? ⟨gb180, 1, none⟩ = some (.int .i64 a0_1) := (blk_cell BK180.out 1).trans rfl
      have hfz12_0 := blk_frozen BK180.out 0
      have hfz12_1 := blk_frozen BK180.out 1
      go_wp2_with (first | ((with_reducible refine gate_callee (f := 16) rfl ?_); refine goesL_ (some 7) rfl rfl Try.func16 (by kernel_rfl) rfl #[.agg #[.int .i64 a0_0, .int .i64 a0_1]] rfl (by (try simp only [List.map_toArray, List.map_cons, List.map_nil]); first | done | rfl | (simp only [List.length_drop, List.length_take]; rfl)) ?_; (with_reducible refine (spec_RangeAsk.calls a0_0 a0_1 false _ A5.out).mono ?_); rintro e w13 ⟨rfl, hb⟩; refine ⟨_, rfl, ?_⟩; have n0_ := Aside0.mk (blk_below (g := gb180) (o := .cells #[.int .i64 a0_0, .int .i64 a0_1] 28 (0, 0)) (by (with_reducible repeat (first | refine blk_drewN ?_ _ | refine blk_drew ?_ | refine blk_alloc ?_ _)); exact BK180.out) hb); have n1_ := Aside0.mk (below_step (by repeat (first | (with_reducible first | exact HB.out | apply below_alloc | apply pw_below_drewN | apply below_drew1 | refine below_set ?_ GE180.out) | exact HB.out)) hb); clear BK180; clear HB; have BK180 := n0_; have HB := n1_; clear n0_ n1_; (try clear hb); (try clear hb2); (try clear hk); (try clear hi)))
      go_meet
      case rel => exact ⟨_, (true), (by first | rfl | (simp; done) | (simp [*]; done) | (simp [xt_ne_nil]; done)), H', ⟨by first | omega | exact Nat.le_refl _⟩, ⟨by (with_reducible repeat (first | refine blk_drewN ?_ _ | refine blk_drew ?_ | refine blk_alloc ?_ _)); exact BK180.out⟩, ⟨by repeat (first | (with_reducible first | exact HB.out | apply below_alloc | apply pw_below_drewN | apply below_drew1 | refine below_set ?_ GE180.out) | exact HB.out)⟩⟩
  case rest =>
    clear HC3
    try clear c1
    try clear p2
    try clear c6
    try clear c7
    try clear c7b0
    try clear c8
    try clear hcz10_0
    try clear hcz10_1
    try clear hcz12_0
    try clear hcz12_1
    try clear hcz8_0
    try clear hcz8_1
    try clear hfz10_0
    try clear hfz10_1
    try clear hfz12_0
    try clear hfz12_1
    try clear hfz8_0
    try clear hfz8_1
    obtain ⟨kq, x16_2, rfl, HA, HJ2, BK180, HB⟩ := hcut
    cases kq with
    | zero => exact absurd HA.out (by simp [laws_FnRangeClip.j0])
    | succ kj2 =>
      have H := HA.out
      clear HA
      simp only [laws_FnRangeClip.j0] at H
      by_cases c14 : x16_2 = true
      · subst c14
        have H1 : (some true) = some r := by rw [if_pos rfl] at H; exact H
        clear H
        have H := H1
        clear H1
        obtain rfl := Option.some.inj H
        go_wp2
        go_ret
        exact ⟨by first | rfl | (simp [errW_none, errW_some] <;> rfl) | (simp [*, errW_none, errW_some] <;> rfl), by repeat (first | (with_reducible first | exact HB.out | apply below_alloc | apply pw_below_drewN | apply below_drew1 | refine below_set ?_ GE180.out) | exact HB.out)⟩
      · replace c14 := Bool.eq_false_iff.mpr c14
        subst c14
        have H1 : ((impl_RangeClip.f a0_0 a0_1 a1).bind fun bt182 => ((laws_rangeAwake.f kj2).bind fun t185 => (if t185 = true then (if (wrap64 (a0_0 + a0_1)) ≤ a1 then (some (bt182.1 == a0_0 && (bt182.2 == a0_1))) else (if a1 < a0_0 then (if (bt182.1 == 0 && (bt182.2 == 0)) = true then ((impl_RangeEmpty.f bt182.1 bt182.2).bind fun t186 => (some t186)) else (some false)) else (if (bt182.1 == a0_0 && (bt182.2 == (wrap64 (a1 - a0_0)))) = true then ((impl_RangeEnd.f bt182.1 bt182.2).bind fun t187 => (some (t187 == a1))) else (some false)))) else (some false)))) = some r := by rw [if_neg (show ¬ (false = true) by decide)] at H; exact H
        clear H
        have H := H1
        clear H1
        replace H := Option.bind_eq_some_iff.mp H
        obtain ⟨⟨t182, t183⟩, A150, H⟩ := H
        replace H : ((laws_rangeAwake.f kj2).bind fun t185 => (if t185 = true then (if (wrap64 (a0_0 + a0_1)) ≤ a1 then (some (t182 == a0_0 && (t183 == a0_1))) else (if a1 < a0_0 then (if (t182 == 0 && (t183 == 0)) = true then ((impl_RangeEmpty.f t182 t183).bind fun t186 => (some t186)) else (some false)) else (if (t182 == a0_0 && (t183 == (wrap64 (a1 - a0_0)))) = true then ((impl_RangeEnd.f t182 t183).bind fun t187 => (some (t187 == a1))) else (some false)))) else (some false))) = some r := H
        have A15 := Aside0.mk A150
        clear A150
        replace H := Option.bind_eq_some_iff.mp H
        obtain ⟨t185, A160, H⟩ := H
        replace H : (if t185 = true then (if (wrap64 (a0_0 + a0_1)) ≤ a1 then (some (t182 == a0_0 && (t183 == a0_1))) else (if a1 < a0_0 then (if (t182 == 0 && (t183 == 0)) = true then ((impl_RangeEmpty.f t182 t183).bind fun t186 => (some t186)) else (some false)) else (if (t182 == a0_0 && (t183 == (wrap64 (a1 - a0_0)))) = true then ((impl_RangeEnd.f t182 t183).bind fun t187 => (some (t187 == a1))) else (some false)))) else (some false)) = some r := H
        have A16 := Aside0.mk A160
        clear A160
        by_cases c17 : t185 = true
        · subst c17
          have H1 : (if (wrap64 (a0_0 + a0_1)) ≤ a1 then (some (t182 == a0_0 && (t183 == a0_1))) else (if a1 < a0_0 then (if (t182 == 0 && (t183 == 0)) = true then ((impl_RangeEmpty.f t182 t183).bind fun t186 => (some t186)) else (some false)) else (if (t182 == a0_0 && (t183 == (wrap64 (a1 - a0_0)))) = true then ((impl_RangeEnd.f t182 t183).bind fun t187 => (some (t187 == a1))) else (some false)))) = some r := by rw [if_pos rfl] at H; exact H
          clear H
          have H := H1
          clear H1
          by_cases c18 : (wrap64 (a0_0 + a0_1)) ≤ a1
          · rw [if_pos c18] at H
            have c18b0 : decide ((wrap64 (a0_0 + a0_1)) ≤ a1) = true := decide_eq_true c18
            clear c18
            obtain rfl := Option.some.inj H
            have hcz19_0 : wc.cell? ⟨gb180, 0, none⟩ = some (.int .i64 a0_0) := (blk_cell BK180.out 0).trans rfl
            have hcz19_1 : wc.cell? ⟨gb180, 1, none⟩ = some (.int .i64 a0_1) := (blk_cell BK180.out 1).trans rfl
            have hfz19_0 := blk_frozen BK180.out 0
            have hfz19_1 := blk_frozen BK180.out 1
            go_wp2_with (first | ((with_reducible refine gate_callee (f := 25) rfl ?_); refine goesL_ (some 19) rfl rfl Try.func25 (by kernel_rfl) rfl #[.agg #[.int .i64 a0_0, .int .i64 a0_1], .int .i64 a1] rfl (by (try simp only [List.map_toArray, List.map_cons, List.map_nil]); first | done | rfl | (simp only [List.length_drop, List.length_take]; rfl)) ?_; (with_reducible refine (impl_RangeClip.calls a0_0 a0_1 a1 t182 t183 _ A15.out).mono ?_); rintro e w20 ⟨rfl, hb⟩; refine ⟨_, rfl, ?_⟩; have n0_ := Aside0.mk (blk_below (g := gb180) (o := .cells #[.int .i64 a0_0, .int .i64 a0_1] 28 (0, 0)) (by (with_reducible repeat (first | refine blk_drewN ?_ _ | refine blk_drew ?_ | refine blk_alloc ?_ _)); exact BK180.out) hb); have n1_ := Aside0.mk (below_step (by repeat (first | (with_reducible first | exact HB.out | apply below_alloc | apply pw_below_drewN | apply below_drew1 | refine below_set ?_ GE180.out) | exact HB.out)) hb); clear BK180; clear HB; have BK180 := n0_; have HB := n1_; clear n0_ n1_; (try clear hb); (try clear hb2); (try clear hk); (try clear hi)) | ((with_reducible refine gate_dst (N := 5) rfl ?_); refine box_event ?hg (N := 5) ?hd (cs := #[.int .i64 0, .int .i64 0]) (t := 28) ?hr ?_; (case hd => rfl); (case hg => rfl); (case hr => first | (go_simp; done) | (go_simp; rfl)); intro gb184 hg w21 hbox hb; have n0_ := Aside0.mk (blk_below (g := gb180) (o := .cells #[.int .i64 a0_0, .int .i64 a0_1] 28 (0, 0)) (by (with_reducible repeat (first | refine blk_drewN ?_ _ | refine blk_drew ?_ | refine blk_alloc ?_ _)); exact BK180.out) hb); have n1_ := Aside0.mk (below_step (by repeat (first | (with_reducible first | exact HB.out | apply below_alloc | apply pw_below_drewN | apply below_drew1 | refine below_set ?_ GE180.out) | exact HB.out)) hb); have n2_ := Aside0.mk (hbox); have n3_ := Aside0.mk ((by rw [hg]; exact (below_size (by repeat (first | (with_reducible first | exact HB.out | apply below_alloc | apply pw_below_drewN | apply below_drew1 | refine below_set ?_ GE180.out) | exact HB.out))) : w.heap.size ≤ gb184)); have n4_ := Aside0.mk ((by rw [hg]; exact (below_size (by repeat (first | (with_reducible first | exact HB.out | apply below_alloc | apply pw_below_drewN | apply below_drew1 | refine below_set ?_ GE180.out) | exact HB.out))) : w.heap.size ≤ gb184)); have n5_ := Aside0.mk ((by rw [hg]; exact Nat.ne_of_lt (blk_lt (g := gb180) (o := .cells #[.int .i64 a0_0, .int .i64 a0_1] 28 (0, 0)) (by (with_reducible repeat (first | refine blk_drewN ?_ _ | refine blk_drew ?_ | refine blk_alloc ?_ _)); exact BK180.out)) : gb180 ≠ gb184)); have n6_ := Aside0.mk ((by rw [hg]; exact Nat.ne_of_gt (blk_lt (g := gb180) (o := .cells #[.int .i64 a0_0, .int .i64 a0_1] 28 (0, 0)) (by (with_reducible repeat (first | refine blk_drewN ?_ _ | refine blk_drew ?_ | refine blk_alloc ?_ _)); exact BK180.out)) : gb184 ≠ gb180)); clear BK180; clear HB; have BK180 := n0_; have HB := n1_; have BK184 := n2_; have GW184 := n3_; have GE184 := n4_; have NB180_184 := n5_; have NB184_180 := n6_; clear n0_ n1_ n2_ n3_ n4_ n5_ n6_; clear hb hbox hg; have hnb22 := NB184_180.out; have hnc22 := NB180_184.out; have hcz23_0 : w21.cell? ⟨gb184, 0, none⟩ = some (.int .i64 0) := (blk_cell BK184.out 0).trans rfl; have hcz23_1 : w21.cell? ⟨gb184, 1, none⟩ = some (.int .i64 0) := (blk_cell BK184.out 1).trans rfl; have hfz23_0 := blk_frozen BK184.out 0; have hfz23_1 := blk_frozen BK184.out 1) | ((with_reducible refine gate_callee (f := 13) rfl ?_); refine goesL_ (some 20) rfl rfl Try.func13 (by kernel_rfl) rfl #[] rfl (by (try simp only [List.map_toArray, List.map_cons, List.map_nil]); first | done | rfl | (simp only [List.length_drop, List.length_take]; rfl)) ?_; (with_reducible refine (laws_rangeAwake.calls kj2  true _ A16.out).mono ?_); rintro e w24 ⟨rfl, hb⟩; refine ⟨_, rfl, ?_⟩; have n0_ := Aside0.mk (blk_below (g := gb180) (o := .cells #[.int .i64 a0_0, .int .i64 a0_1] 28 (0, 0)) (by (with_reducible repeat (first | refine blk_drewN ?_ _ | refine blk_drew ?_ | refine blk_alloc ?_ _)); refine blk_far ?_ NB180_184.out _; (with_reducible repeat (first | refine blk_drewN ?_ _ | refine blk_drew ?_ | refine blk_alloc ?_ _)); refine blk_far ?_ NB180_184.out _; (with_reducible repeat (first | refine blk_drewN ?_ _ | refine blk_drew ?_ | refine blk_alloc ?_ _)); exact BK180.out) hb); have n1_ := Aside0.mk (blk_below (g := gb184) (o := .cells #[.int .i64 t182, .int .i64 t183] 28 (0, 0)) (by (with_reducible repeat (first | refine blk_drewN ?_ _ | refine blk_drew ?_ | refine blk_alloc ?_ _)); refine blk_put (cs := #[.int .i64 t182, .int .i64 0]) ?_ 1 _ rfl; (with_reducible repeat (first | refine blk_drewN ?_ _ | refine blk_drew ?_ | refine blk_alloc ?_ _)); refine blk_put (cs := #[.int .i64 0, .int .i64 0]) ?_ 0 _ rfl; (with_reducible repeat (first | refine blk_drewN ?_ _ | refine blk_drew ?_ | refine blk_alloc ?_ _)); exact BK184.out) hb); have n2_ := Aside0.mk (below_step (by repeat (first | (with_reducible first | exact HB.out | apply below_alloc | apply pw_below_drewN | apply below_drew1 | refine below_set ?_ GE180.out | refine below_set ?_ GE184.out) | exact HB.out)) hb); clear BK180; clear BK184; clear HB; have BK180 := n0_; have BK184 := n1_; have HB := n2_; clear n0_ n1_ n2_; (try clear hb); (try clear hb2); (try clear hk); (try clear hi); have hcz25_0 : w24.cell? ⟨gb180, 0, none⟩ = some (.int .i64 a0_0) := (blk_cell BK180.out 0).trans rfl; have hcz25_1 : w24.cell? ⟨gb180, 1, none⟩ = some (.int .i64 a0_1) := (blk_cell BK180.out 1).trans rfl; have hfz25_0 := blk_frozen BK180.out 0; have hfz25_1 := blk_frozen BK180.out 1; have hcz26_0 : w24.cell? ⟨gb184, 0, none⟩ = some (.int .i64 t182) := (blk_cell BK184.out 0).trans rfl; have hcz26_1 : w24.cell? ⟨gb184, 1, none⟩ = some (.int .i64 t183) := (blk_cell BK184.out 1).trans rfl; have hfz26_0 := blk_frozen BK184.out 0; have hfz26_1 := blk_frozen BK184.out 1))
            go_ret
            exact ⟨by first | rfl | (simp [errW_none, errW_some] <;> rfl) | (simp [*, errW_none, errW_some] <;> rfl), by repeat (first | (with_reducible first | exact HB.out | apply below_alloc | apply pw_below_drewN | apply below_drew1 | refine below_set ?_ GE180.out | refine below_set ?_ GE184.out) | exact HB.out)⟩
          · rw [if_neg c18] at H
            have c18b0 : decide ((wrap64 (a0_0 + a0_1)) ≤ a1) = false := decide_eq_false c18
            clear c18
            by_cases c27 : a1 < a0_0
            · rw [if_pos c27] at H
              have c27b0 : decide (a1 < a0_0) = true := decide_eq_true c27
              clear c27
              by_cases c28 : (t182 == 0 && (t183 == 0)) = true
              · rw [if_pos c28] at H
                have c28b0 : (t182 == 0 && (t183 == 0)) = true := c28
                (try (have c28b1 : decide (t182 = 0 && (t183 == 0)) = true := by simpa using c28))
                (try (have c28b2 : (t182 == 0 && (t183 == 0)) = true := by simpa using c28))
                clear c28
                replace H := Option.bind_eq_some_iff.mp H
                obtain ⟨t186, A290, H⟩ := H
                replace H : (some t186) = some r := H
                have A29 := Aside0.mk A290
                clear A290
                obtain rfl := Option.some.inj H
                have hcz30_0 : wc.cell? ⟨gb180, 0, none⟩ = some (.int .i64 a0_0) := (blk_cell BK180.out 0).trans rfl
                have hcz30_1 : wc.cell? ⟨gb180, 1, none⟩ = some (.int .i64 a0_1) := (blk_cell BK180.out 1).trans rfl
                have hfz30_0 := blk_frozen BK180.out 0
                have hfz30_1 := blk_frozen BK180.out 1
                go_wp2_with (first | ((with_reducible refine gate_callee (f := 25) rfl ?_); refine goesL_ (some 19) rfl rfl Try.func25 (by kernel_rfl) rfl #[.agg #[.int .i64 a0_0, .int .i64 a0_1], .int .i64 a1] rfl (by (try simp only [List.map_toArray, List.map_cons, List.map_nil]); first | done | rfl | (simp only [List.length_drop, List.length_take]; rfl)) ?_; (with_reducible refine (impl_RangeClip.calls a0_0 a0_1 a1 t182 t183 _ A15.out).mono ?_); rintro e w31 ⟨rfl, hb⟩; refine ⟨_, rfl, ?_⟩; have n0_ := Aside0.mk (blk_below (g := gb180) (o := .cells #[.int .i64 a0_0, .int .i64 a0_1] 28 (0, 0)) (by (with_reducible repeat (first | refine blk_drewN ?_ _ | refine blk_drew ?_ | refine blk_alloc ?_ _)); exact BK180.out) hb); have n1_ := Aside0.mk (below_step (by repeat (first | (with_reducible first | exact HB.out | apply below_alloc | apply pw_below_drewN | apply below_drew1 | refine below_set ?_ GE180.out) | exact HB.out)) hb); clear BK180; clear HB; have BK180 := n0_; have HB := n1_; clear n0_ n1_; (try clear hb); (try clear hb2); (try clear hk); (try clear hi)) | ((with_reducible refine gate_dst (N := 5) rfl ?_); refine box_event ?hg (N := 5) ?hd (cs := #[.int .i64 0, .int .i64 0]) (t := 28) ?hr ?_; (case hd => rfl); (case hg => rfl); (case hr => first | (go_simp; done) | (go_simp; rfl)); intro gb184 hg w32 hbox hb; have n0_ := Aside0.mk (blk_below (g := gb180) (o := .cells #[.int .i64 a0_0, .int .i64 a0_1] 28 (0, 0)) (by (with_reducible repeat (first | refine blk_drewN ?_ _ | refine blk_drew ?_ | refine blk_alloc ?_ _)); exact BK180.out) hb); have n1_ := Aside0.mk (below_step (by repeat (first | (with_reducible first | exact HB.out | apply below_alloc | apply pw_below_drewN | apply below_drew1 | refine below_set ?_ GE180.out) | exact HB.out)) hb); have n2_ := Aside0.mk (hbox); have n3_ := Aside0.mk ((by rw [hg]; exact (below_size (by repeat (first | (with_reducible first | exact HB.out | apply below_alloc | apply pw_below_drewN | apply below_drew1 | refine below_set ?_ GE180.out) | exact HB.out))) : w.heap.size ≤ gb184)); have n4_ := Aside0.mk ((by rw [hg]; exact (below_size (by repeat (first | (with_reducible first | exact HB.out | apply below_alloc | apply pw_below_drewN | apply below_drew1 | refine below_set ?_ GE180.out) | exact HB.out))) : w.heap.size ≤ gb184)); have n5_ := Aside0.mk ((by rw [hg]; exact Nat.ne_of_lt (blk_lt (g := gb180) (o := .cells #[.int .i64 a0_0, .int .i64 a0_1] 28 (0, 0)) (by (with_reducible repeat (first | refine blk_drewN ?_ _ | refine blk_drew ?_ | refine blk_alloc ?_ _)); exact BK180.out)) : gb180 ≠ gb184)); have n6_ := Aside0.mk ((by rw [hg]; exact Nat.ne_of_gt (blk_lt (g := gb180) (o := .cells #[.int .i64 a0_0, .int .i64 a0_1] 28 (0, 0)) (by (with_reducible repeat (first | refine blk_drewN ?_ _ | refine blk_drew ?_ | refine blk_alloc ?_ _)); exact BK180.out)) : gb184 ≠ gb180)); clear BK180; clear HB; have BK180 := n0_; have HB := n1_; have BK184 := n2_; have GW184 := n3_; have GE184 := n4_; have NB180_184 := n5_; have NB184_180 := n6_; clear n0_ n1_ n2_ n3_ n4_ n5_ n6_; clear hb hbox hg; have hnb33 := NB184_180.out; have hnc33 := NB180_184.out; have hcz34_0 : w32.cell? ⟨gb184, 0, none⟩ = some (.int .i64 0) := (blk_cell BK184.out 0).trans rfl; have hcz34_1 : w32.cell? ⟨gb184, 1, none⟩ = some (.int .i64 0) := (blk_cell BK184.out 1).trans rfl; have hfz34_0 := blk_frozen BK184.out 0; have hfz34_1 := blk_frozen BK184.out 1) | ((with_reducible refine gate_callee (f := 13) rfl ?_); refine goesL_ (some 20) rfl rfl Try.func13 (by kernel_rfl) rfl #[] rfl (by (try simp only [List.map_toArray, List.map_cons, List.map_nil]); first | done | rfl | (simp only [List.length_drop, List.length_take]; rfl)) ?_; (with_reducible refine (laws_rangeAwake.calls kj2  true _ A16.out).mono ?_); rintro e w35 ⟨rfl, hb⟩; refine ⟨_, rfl, ?_⟩; have n0_ := Aside0.mk (blk_below (g := gb180) (o := .cells #[.int .i64 a0_0, .int .i64 a0_1] 28 (0, 0)) (by (with_reducible repeat (first | refine blk_drewN ?_ _ | refine blk_drew ?_ | refine blk_alloc ?_ _)); refine blk_far ?_ NB180_184.out _; (with_reducible repeat (first | refine blk_drewN ?_ _ | refine blk_drew ?_ | refine blk_alloc ?_ _)); refine blk_far ?_ NB180_184.out _; (with_reducible repeat (first | refine blk_drewN ?_ _ | refine blk_drew ?_ | refine blk_alloc ?_ _)); exact BK180.out) hb); have n1_ := Aside0.mk (blk_below (g := gb184) (o := .cells #[.int .i64 t182, .int .i64 t183] 28 (0, 0)) (by (with_reducible repeat (first | refine blk_drewN ?_ _ | refine blk_drew ?_ | refine blk_alloc ?_ _)); refine blk_put (cs := #[.int .i64 t182, .int .i64 0]) ?_ 1 _ rfl; (with_reducible repeat (first | refine blk_drewN ?_ _ | refine blk_drew ?_ | refine blk_alloc ?_ _)); refine blk_put (cs := #[.int .i64 0, .int .i64 0]) ?_ 0 _ rfl; (with_reducible repeat (first | refine blk_drewN ?_ _ | refine blk_drew ?_ | refine blk_alloc ?_ _)); exact BK184.out) hb); have n2_ := Aside0.mk (below_step (by repeat (first | (with_reducible first | exact HB.out | apply below_alloc | apply pw_below_drewN | apply below_drew1 | refine below_set ?_ GE180.out | refine below_set ?_ GE184.out) | exact HB.out)) hb); clear BK180; clear BK184; clear HB; have BK180 := n0_; have BK184 := n1_; have HB := n2_; clear n0_ n1_ n2_; (try clear hb); (try clear hb2); (try clear hk); (try clear hi); have hcz36_0 : w35.cell? ⟨gb180, 0, none⟩ = some (.int .i64 a0_0) := (blk_cell BK180.out 0).trans rfl; have hcz36_1 : w35.cell? ⟨gb180, 1, none⟩ = some (.int .i64 a0_1) := (blk_cell BK180.out 1).trans rfl; have hfz36_0 := blk_frozen BK180.out 0; have hfz36_1 := blk_frozen BK180.out 1; have hcz37_0 : w35.cell? ⟨gb184, 0, none⟩ = some (.int .i64 t182) := (blk_cell BK184.out 0).trans rfl; have hcz37_1 : w35.cell? ⟨gb184, 1, none⟩ = some (.int .i64 t183) := (blk_cell BK184.out 1).trans rfl; have hfz37_0 := blk_frozen BK184.out 0; have hfz37_1 := blk_frozen BK184.out 1) | (go_at_call 26; (with_reducible refine (impl_RangeEmpty.calls t182 t183 t186 _ A29.out).mono ?_); rintro e w38 ⟨rfl, hb⟩; have n0_ := Aside0.mk (blk_below (g := gb180) (o := .cells #[.int .i64 a0_0, .int .i64 a0_1] 28 (0, 0)) (by (with_reducible repeat (first | refine blk_drewN ?_ _ | refine blk_drew ?_ | refine blk_alloc ?_ _)); exact BK180.out) hb); have n1_ := Aside0.mk (blk_below (g := gb184) (o := .cells #[.int .i64 t182, .int .i64 t183] 28 (0, 0)) (by (with_reducible repeat (first | refine blk_drewN ?_ _ | refine blk_drew ?_ | refine blk_alloc ?_ _)); exact BK184.out) hb); have n2_ := Aside0.mk (below_step (by repeat (first | (with_reducible first | exact HB.out | apply below_alloc | apply pw_below_drewN | apply below_drew1 | refine below_set ?_ GE180.out | refine below_set ?_ GE184.out) | exact HB.out)) hb); clear BK180; clear BK184; clear HB; have BK180 := n0_; have BK184 := n1_; have HB := n2_; clear n0_ n1_ n2_; (try clear hb); (try clear hb2); (try clear hk); (try clear hi)))
                go_ret
                exact ⟨by first | rfl | (simp [errW_none, errW_some] <;> rfl) | (simp [*, errW_none, errW_some] <;> rfl), by repeat (first | (with_reducible first | exact HB.out | apply below_alloc | apply pw_below_drewN | apply below_drew1 | refine below_set ?_ GE180.out | refine below_set ?_ GE184.out) | exact HB.out)⟩
              · rw [if_neg c28] at H
                have c28b0 : (t182 == 0 && (t183 == 0)) = false := by simpa using c28
                (try (have c28b1 : decide (t182 = 0 && (t183 == 0)) = false := by simpa using c28))
                (try (have c28b2 : (t182 == 0 && (t183 == 0)) = false := by simpa using c28))
                (try (have c28b3 : ¬ (t182 = 0 && (t183 == 0)) := by simpa using c28))
                clear c28
                obtain rfl := Option.some.inj H
                have hcz39_0 : wc.cell? ⟨gb180, 0, none⟩ = some (.int .i64 a0_0) := (blk_cell BK180.out 0).trans rfl
                have hcz39_1 : wc.cell? ⟨gb180, 1, none⟩ = some (.int .i64 a0_1) := (blk_cell BK180.out 1).trans rfl
                have hfz39_0 := blk_frozen BK180.out 0
                have hfz39_1 := blk_frozen BK180.out 1
                go_wp2_with (first | ((with_reducible refine gate_callee (f := 25) rfl ?_); refine goesL_ (some 19) rfl rfl Try.func25 (by kernel_rfl) rfl #[.agg #[.int .i64 a0_0, .int .i64 a0_1], .int .i64 a1] rfl (by (try simp only [List.map_toArray, List.map_cons, List.map_nil]); first | done | rfl | (simp only [List.length_drop, List.length_take]; rfl)) ?_; (with_reducible refine (impl_RangeClip.calls a0_0 a0_1 a1 t182 t183 _ A15.out).mono ?_); rintro e w40 ⟨rfl, hb⟩; refine ⟨_, rfl, ?_⟩; have n0_ := Aside0.mk (blk_below (g := gb180) (o := .cells #[.int .i64 a0_0, .int .i64 a0_1] 28 (0, 0)) (by (with_reducible repeat (first | refine blk_drewN ?_ _ | refine blk_drew ?_ | refine blk_alloc ?_ _)); exact BK180.out) hb); have n1_ := Aside0.mk (below_step (by repeat (first | (with_reducible first | exact HB.out | apply below_alloc | apply pw_below_drewN | apply below_drew1 | refine below_set ?_ GE180.out) | exact HB.out)) hb); clear BK180; clear HB; have BK180 := n0_; have HB := n1_; clear n0_ n1_; (try clear hb); (try clear hb2); (try clear hk); (try clear hi)) | ((with_reducible refine gate_dst (N := 5) rfl ?_); refine box_event ?hg (N := 5) ?hd (cs := #[.int .i64 0, .int .i64 0]) (t := 28) ?hr ?_; (case hd => rfl); (case hg => rfl); (case hr => first | (go_simp; done) | (go_simp; rfl)); intro gb184 hg w41 hbox hb; have n0_ := Aside0.mk (blk_below (g := gb180) (o := .cells #[.int .i64 a0_0, .int .i64 a0_1] 28 (0, 0)) (by (with_reducible repeat (first | refine blk_drewN ?_ _ | refine blk_drew ?_ | refine blk_alloc ?_ _)); exact BK180.out) hb); have n1_ := Aside0.mk (below_step (by repeat (first | (with_reducible first | exact HB.out | apply below_alloc | apply pw_below_drewN | apply below_drew1 | refine below_set ?_ GE180.out) | exact HB.out)) hb); have n2_ := Aside0.mk (hbox); have n3_ := Aside0.mk ((by rw [hg]; exact (below_size (by repeat (first | (with_reducible first | exact HB.out | apply below_alloc | apply pw_below_drewN | apply below_drew1 | refine below_set ?_ GE180.out) | exact HB.out))) : w.heap.size ≤ gb184)); have n4_ := Aside0.mk ((by rw [hg]; exact (below_size (by repeat (first | (with_reducible first | exact HB.out | apply below_alloc | apply pw_below_drewN | apply below_drew1 | refine below_set ?_ GE180.out) | exact HB.out))) : w.heap.size ≤ gb184)); have n5_ := Aside0.mk ((by rw [hg]; exact Nat.ne_of_lt (blk_lt (g := gb180) (o := .cells #[.int .i64 a0_0, .int .i64 a0_1] 28 (0, 0)) (by (with_reducible repeat (first | refine blk_drewN ?_ _ | refine blk_drew ?_ | refine blk_alloc ?_ _)); exact BK180.out)) : gb180 ≠ gb184)); have n6_ := Aside0.mk ((by rw [hg]; exact Nat.ne_of_gt (blk_lt (g := gb180) (o := .cells #[.int .i64 a0_0, .int .i64 a0_1] 28 (0, 0)) (by (with_reducible repeat (first | refine blk_drewN ?_ _ | refine blk_drew ?_ | refine blk_alloc ?_ _)); exact BK180.out)) : gb184 ≠ gb180)); clear BK180; clear HB; have BK180 := n0_; have HB := n1_; have BK184 := n2_; have GW184 := n3_; have GE184 := n4_; have NB180_184 := n5_; have NB184_180 := n6_; clear n0_ n1_ n2_ n3_ n4_ n5_ n6_; clear hb hbox hg; have hnb42 := NB184_180.out; have hnc42 := NB180_184.out; have hcz43_0 : w41.cell? ⟨gb184, 0, none⟩ = some (.int .i64 0) := (blk_cell BK184.out 0).trans rfl; have hcz43_1 : w41.cell? ⟨gb184, 1, none⟩ = some (.int .i64 0) := (blk_cell BK184.out 1).trans rfl; have hfz43_0 := blk_frozen BK184.out 0; have hfz43_1 := blk_frozen BK184.out 1) | ((with_reducible refine gate_callee (f := 13) rfl ?_); refine goesL_ (some 20) rfl rfl Try.func13 (by kernel_rfl) rfl #[] rfl (by (try simp only [List.map_toArray, List.map_cons, List.map_nil]); first | done | rfl | (simp only [List.length_drop, List.length_take]; rfl)) ?_; (with_reducible refine (laws_rangeAwake.calls kj2  true _ A16.out).mono ?_); rintro e w44 ⟨rfl, hb⟩; refine ⟨_, rfl, ?_⟩; have n0_ := Aside0.mk (blk_below (g := gb180) (o := .cells #[.int .i64 a0_0, .int .i64 a0_1] 28 (0, 0)) (by (with_reducible repeat (first | refine blk_drewN ?_ _ | refine blk_drew ?_ | refine blk_alloc ?_ _)); refine blk_far ?_ NB180_184.out _; (with_reducible repeat (first | refine blk_drewN ?_ _ | refine blk_drew ?_ | refine blk_alloc ?_ _)); refine blk_far ?_ NB180_184.out _; (with_reducible repeat (first | refine blk_drewN ?_ _ | refine blk_drew ?_ | refine blk_alloc ?_ _)); exact BK180.out) hb); have n1_ := Aside0.mk (blk_below (g := gb184) (o := .cells #[.int .i64 t182, .int .i64 t183] 28 (0, 0)) (by (with_reducible repeat (first | refine blk_drewN ?_ _ | refine blk_drew ?_ | refine blk_alloc ?_ _)); refine blk_put (cs := #[.int .i64 t182, .int .i64 0]) ?_ 1 _ rfl; (with_reducible repeat (first | refine blk_drewN ?_ _ | refine blk_drew ?_ | refine blk_alloc ?_ _)); refine blk_put (cs := #[.int .i64 0, .int .i64 0]) ?_ 0 _ rfl; (with_reducible repeat (first | refine blk_drewN ?_ _ | refine blk_drew ?_ | refine blk_alloc ?_ _)); exact BK184.out) hb); have n2_ := Aside0.mk (below_step (by repeat (first | (with_reducible first | exact HB.out | apply below_alloc | apply pw_below_drewN | apply below_drew1 | refine below_set ?_ GE180.out | refine below_set ?_ GE184.out) | exact HB.out)) hb); clear BK180; clear BK184; clear HB; have BK180 := n0_; have BK184 := n1_; have HB := n2_; clear n0_ n1_ n2_; (try clear hb); (try clear hb2); (try clear hk); (try clear hi); have hcz45_0 : w44.cell? ⟨gb180, 0, none⟩ = some (.int .i64 a0_0) := (blk_cell BK180.out 0).trans rfl; have hcz45_1 : w44.cell? ⟨gb180, 1, none⟩ = some (.int .i64 a0_1) := (blk_cell BK180.out 1).trans rfl; have hfz45_0 := blk_frozen BK180.out 0; have hfz45_1 := blk_frozen BK180.out 1; have hcz46_0 : w44.cell? ⟨gb184, 0, none⟩ = some (.int .i64 t182) := (blk_cell BK184.out 0).trans rfl; have hcz46_1 : w44.cell? ⟨gb184, 1, none⟩ = some (.int .i64 t183) := (blk_cell BK184.out 1).trans rfl; have hfz46_0 := blk_frozen BK184.out 0; have hfz46_1 := blk_frozen BK184.out 1))
                go_ret
                exact ⟨by first | rfl | (simp [errW_none, errW_some] <;> rfl) | (simp [*, errW_none, errW_some] <;> rfl), by repeat (first | (with_reducible first | exact HB.out | apply below_alloc | apply pw_below_drewN | apply below_drew1 | refine below_set ?_ GE180.out | refine below_set ?_ GE184.out) | exact HB.out)⟩
            · rw [if_neg c27] at H
              have c27b0 : decide (a1 < a0_0) = false := decide_eq_false c27
              clear c27
              by_cases c47 : (t182 == a0_0 && (t183 == (wrap64 (a1 - a0_0)))) = true
              · rw [if_pos c47] at H
                have c47b0 : (t182 == a0_0 && (t183 == (wrap64 (a1 - a0_0)))) = true := c47
                (try (have c47b1 : decide (t182 = a0_0 && (t183 == (wrap64 (a1 - a0_0)))) = true := by simpa using c47))
                (try (have c47b2 : (t182 == a0_0 && (t183 == (wrap64 (a1 - a0_0)))) = true := by simpa using c47))
                clear c47
                replace H := Option.bind_eq_some_iff.mp H
                obtain ⟨t187, A480, H⟩ := H
                replace H : (some (t187 == a1)) = some r := H
                have A48 := Aside0.mk A480
                clear A480
                obtain rfl := Option.some.inj H
                have hcz49_0 : wc.cell? ⟨gb180, 0, none⟩ = some (.int .i64 a0_0) := (blk_cell BK180.out 0).trans rfl
                have hcz49_1 : wc.cell? ⟨gb180, 1, none⟩ = some (.int .i64 a0_1) := (blk_cell BK180.out 1).trans rfl
                have hfz49_0 := blk_frozen BK180.out 0
                have hfz49_1 := blk_frozen BK180.out 1
                go_wp2_with (first | ((with_reducible refine gate_callee (f := 25) rfl ?_); refine goesL_ (some 19) rfl rfl Try.func25 (by kernel_rfl) rfl #[.agg #[.int .i64 a0_0, .int .i64 a0_1], .int .i64 a1] rfl (by (try simp only [List.map_toArray, List.map_cons, List.map_nil]); first | done | rfl | (simp only [List.length_drop, List.length_take]; rfl)) ?_; (with_reducible refine (impl_RangeClip.calls a0_0 a0_1 a1 t182 t183 _ A15.out).mono ?_); rintro e w50 ⟨rfl, hb⟩; refine ⟨_, rfl, ?_⟩; have n0_ := Aside0.mk (blk_below (g := gb180) (o := .cells #[.int .i64 a0_0, .int .i64 a0_1] 28 (0, 0)) (by (with_reducible repeat (first | refine blk_drewN ?_ _ | refine blk_drew ?_ | refine blk_alloc ?_ _)); exact BK180.out) hb); have n1_ := Aside0.mk (below_step (by repeat (first | (with_reducible first | exact HB.out | apply below_alloc | apply pw_below_drewN | apply below_drew1 | refine below_set ?_ GE180.out) | exact HB.out)) hb); clear BK180; clear HB; have BK180 := n0_; have HB := n1_; clear n0_ n1_; (try clear hb); (try clear hb2); (try clear hk); (try clear hi)) | ((with_reducible refine gate_dst (N := 5) rfl ?_); refine box_event ?hg (N := 5) ?hd (cs := #[.int .i64 0, .int .i64 0]) (t := 28) ?hr ?_; (case hd => rfl); (case hg => rfl); (case hr => first | (go_simp; done) | (go_simp; rfl)); intro gb184 hg w51 hbox hb; have n0_ := Aside0.mk (blk_below (g := gb180) (o := .cells #[.int .i64 a0_0, .int .i64 a0_1] 28 (0, 0)) (by (with_reducible repeat (first | refine blk_drewN ?_ _ | refine blk_drew ?_ | refine blk_alloc ?_ _)); exact BK180.out) hb); have n1_ := Aside0.mk (below_step (by repeat (first | (with_reducible first | exact HB.out | apply below_alloc | apply pw_below_drewN | apply below_drew1 | refine below_set ?_ GE180.out) | exact HB.out)) hb); have n2_ := Aside0.mk (hbox); have n3_ := Aside0.mk ((by rw [hg]; exact (below_size (by repeat (first | (with_reducible first | exact HB.out | apply below_alloc | apply pw_below_drewN | apply below_drew1 | refine below_set ?_ GE180.out) | exact HB.out))) : w.heap.size ≤ gb184)); have n4_ := Aside0.mk ((by rw [hg]; exact (below_size (by repeat (first | (with_reducible first | exact HB.out | apply below_alloc | apply pw_below_drewN | apply below_drew1 | refine below_set ?_ GE180.out) | exact HB.out))) : w.heap.size ≤ gb184)); have n5_ := Aside0.mk ((by rw [hg]; exact Nat.ne_of_lt (blk_lt (g := gb180) (o := .cells #[.int .i64 a0_0, .int .i64 a0_1] 28 (0, 0)) (by (with_reducible repeat (first | refine blk_drewN ?_ _ | refine blk_drew ?_ | refine blk_alloc ?_ _)); exact BK180.out)) : gb180 ≠ gb184)); have n6_ := Aside0.mk ((by rw [hg]; exact Nat.ne_of_gt (blk_lt (g := gb180) (o := .cells #[.int .i64 a0_0, .int .i64 a0_1] 28 (0, 0)) (by (with_reducible repeat (first | refine blk_drewN ?_ _ | refine blk_drew ?_ | refine blk_alloc ?_ _)); exact BK180.out)) : gb184 ≠ gb180)); clear BK180; clear HB; have BK180 := n0_; have HB := n1_; have BK184 := n2_; have GW184 := n3_; have GE184 := n4_; have NB180_184 := n5_; have NB184_180 := n6_; clear n0_ n1_ n2_ n3_ n4_ n5_ n6_; clear hb hbox hg; have hnb52 := NB184_180.out; have hnc52 := NB180_184.out; have hcz53_0 : w51.cell? ⟨gb184, 0, none⟩ = some (.int .i64 0) := (blk_cell BK184.out 0).trans rfl; have hcz53_1 : w51.cell? ⟨gb184, 1, none⟩ = some (.int .i64 0) := (blk_cell BK184.out 1).trans rfl; have hfz53_0 := blk_frozen BK184.out 0; have hfz53_1 := blk_frozen BK184.out 1) | ((with_reducible refine gate_callee (f := 13) rfl ?_); refine goesL_ (some 20) rfl rfl Try.func13 (by kernel_rfl) rfl #[] rfl (by (try simp only [List.map_toArray, List.map_cons, List.map_nil]); first | done | rfl | (simp only [List.length_drop, List.length_take]; rfl)) ?_; (with_reducible refine (laws_rangeAwake.calls kj2  true _ A16.out).mono ?_); rintro e w54 ⟨rfl, hb⟩; refine ⟨_, rfl, ?_⟩; have n0_ := Aside0.mk (blk_below (g := gb180) (o := .cells #[.int .i64 a0_0, .int .i64 a0_1] 28 (0, 0)) (by (with_reducible repeat (first | refine blk_drewN ?_ _ | refine blk_drew ?_ | refine blk_alloc ?_ _)); refine blk_far ?_ NB180_184.out _; (with_reducible repeat (first | refine blk_drewN ?_ _ | refine blk_drew ?_ | refine blk_alloc ?_ _)); refine blk_far ?_ NB180_184.out _; (with_reducible repeat (first | refine blk_drewN ?_ _ | refine blk_drew ?_ | refine blk_alloc ?_ _)); exact BK180.out) hb); have n1_ := Aside0.mk (blk_below (g := gb184) (o := .cells #[.int .i64 t182, .int .i64 t183] 28 (0, 0)) (by (with_reducible repeat (first | refine blk_drewN ?_ _ | refine blk_drew ?_ | refine blk_alloc ?_ _)); refine blk_put (cs := #[.int .i64 t182, .int .i64 0]) ?_ 1 _ rfl; (with_reducible repeat (first | refine blk_drewN ?_ _ | refine blk_drew ?_ | refine blk_alloc ?_ _)); refine blk_put (cs := #[.int .i64 0, .int .i64 0]) ?_ 0 _ rfl; (with_reducible repeat (first | refine blk_drewN ?_ _ | refine blk_drew ?_ | refine blk_alloc ?_ _)); exact BK184.out) hb); have n2_ := Aside0.mk (below_step (by repeat (first | (with_reducible first | exact HB.out | apply below_alloc | apply pw_below_drewN | apply below_drew1 | refine below_set ?_ GE180.out | refine below_set ?_ GE184.out) | exact HB.out)) hb); clear BK180; clear BK184; clear HB; have BK180 := n0_; have BK184 := n1_; have HB := n2_; clear n0_ n1_ n2_; (try clear hb); (try clear hb2); (try clear hk); (try clear hi); have hcz55_0 : w54.cell? ⟨gb180, 0, none⟩ = some (.int .i64 a0_0) := (blk_cell BK180.out 0).trans rfl; have hcz55_1 : w54.cell? ⟨gb180, 1, none⟩ = some (.int .i64 a0_1) := (blk_cell BK180.out 1).trans rfl; have hfz55_0 := blk_frozen BK180.out 0; have hfz55_1 := blk_frozen BK180.out 1; have hcz56_0 : w54.cell? ⟨gb184, 0, none⟩ = some (.int .i64 t182) := (blk_cell BK184.out 0).trans rfl; have hcz56_1 : w54.cell? ⟨gb184, 1, none⟩ = some (.int .i64 t183) := (blk_cell BK184.out 1).trans rfl; have hfz56_0 := blk_frozen BK184.out 0; have hfz56_1 := blk_frozen BK184.out 1) | (go_at_call 27; (with_reducible refine (impl_RangeEnd.calls t182 t183 t187 _ A48.out).mono ?_); rintro e w57 ⟨rfl, hb⟩; have n0_ := Aside0.mk (blk_below (g := gb180) (o := .cells #[.int .i64 a0_0, .int .i64 a0_1] 28 (0, 0)) (by (with_reducible repeat (first | refine blk_drewN ?_ _ | refine blk_drew ?_ | refine blk_alloc ?_ _)); exact BK180.out) hb); have n1_ := Aside0.mk (blk_below (g := gb184) (o := .cells #[.int .i64 t182, .int .i64 t183] 28 (0, 0)) (by (with_reducible repeat (first | refine blk_drewN ?_ _ | refine blk_drew ?_ | refine blk_alloc ?_ _)); exact BK184.out) hb); have n2_ := Aside0.mk (below_step (by repeat (first | (with_reducible first | exact HB.out | apply below_alloc | apply pw_below_drewN | apply below_drew1 | refine below_set ?_ GE180.out | refine below_set ?_ GE184.out) | exact HB.out)) hb); clear BK180; clear BK184; clear HB; have BK180 := n0_; have BK184 := n1_; have HB := n2_; clear n0_ n1_ n2_; (try clear hb); (try clear hb2); (try clear hk); (try clear hi)))
                go_ret
                exact ⟨by first | rfl | (simp [errW_none, errW_some] <;> rfl) | (simp [*, errW_none, errW_some] <;> rfl), by repeat (first | (with_reducible first | exact HB.out | apply below_alloc | apply pw_below_drewN | apply below_drew1 | refine below_set ?_ GE180.out | refine below_set ?_ GE184.out) | exact HB.out)⟩
              · rw [if_neg c47] at H
                have c47b0 : (t182 == a0_0 && (t183 == (wrap64 (a1 - a0_0)))) = false := by simpa using c47
                (try (have c47b1 : decide (t182 = a0_0 && (t183 == (wrap64 (a1 - a0_0)))) = false := by simpa using c47))
                (try (have c47b2 : (t182 == a0_0 && (t183 == (wrap64 (a1 - a0_0)))) = false := by simpa using c47))
                (try (have c47b3 : ¬ (t182 = a0_0 && (t183 == (wrap64 (a1 - a0_0)))) := by simpa using c47))
                clear c47
                obtain rfl := Option.some.inj H
                have hcz58_0 : wc.cell? ⟨gb180, 0, none⟩ = some (.int .i64 a0_0) := (blk_cell BK180.out 0).trans rfl
                have hcz58_1 : wc.cell? ⟨gb180, 1, none⟩ = some (.int .i64 a0_1) := (blk_cell BK180.out 1).trans rfl
                have hfz58_0 := blk_frozen BK180.out 0
                have hfz58_1 := blk_frozen BK180.out 1
                go_wp2_with (first | ((with_reducible refine gate_callee (f := 25) rfl ?_); refine goesL_ (some 19) rfl rfl Try.func25 (by kernel_rfl) rfl #[.agg #[.int .i64 a0_0, .int .i64 a0_1], .int .i64 a1] rfl (by (try simp only [List.map_toArray, List.map_cons, List.map_nil]); first | done | rfl | (simp only [List.length_drop, List.length_take]; rfl)) ?_; (with_reducible refine (impl_RangeClip.calls a0_0 a0_1 a1 t182 t183 _ A15.out).mono ?_); rintro e w59 ⟨rfl, hb⟩; refine ⟨_, rfl, ?_⟩; have n0_ := Aside0.mk (blk_below (g := gb180) (o := .cells #[.int .i64 a0_0, .int .i64 a0_1] 28 (0, 0)) (by (with_reducible repeat (first | refine blk_drewN ?_ _ | refine blk_drew ?_ | refine blk_alloc ?_ _)); exact BK180.out) hb); have n1_ := Aside0.mk (below_step (by repeat (first | (with_reducible first | exact HB.out | apply below_alloc | apply pw_below_drewN | apply below_drew1 | refine below_set ?_ GE180.out) | exact HB.out)) hb); clear BK180; clear HB; have BK180 := n0_; have HB := n1_; clear n0_ n1_; (try clear hb); (try clear hb2); (try clear hk); (try clear hi)) | ((with_reducible refine gate_dst (N := 5) rfl ?_); refine box_event ?hg (N := 5) ?hd (cs := #[.int .i64 0, .int .i64 0]) (t := 28) ?hr ?_; (case hd => rfl); (case hg => rfl); (case hr => first | (go_simp; done) | (go_simp; rfl)); intro gb184 hg w60 hbox hb; have n0_ := Aside0.mk (blk_below (g := gb180) (o := .cells #[.int .i64 a0_0, .int .i64 a0_1] 28 (0, 0)) (by (with_reducible repeat (first | refine blk_drewN ?_ _ | refine blk_drew ?_ | refine blk_alloc ?_ _)); exact BK180.out) hb); have n1_ := Aside0.mk (below_step (by repeat (first | (with_reducible first | exact HB.out | apply below_alloc | apply pw_below_drewN | apply below_drew1 | refine below_set ?_ GE180.out) | exact HB.out)) hb); have n2_ := Aside0.mk (hbox); have n3_ := Aside0.mk ((by rw [hg]; exact (below_size (by repeat (first | (with_reducible first | exact HB.out | apply below_alloc | apply pw_below_drewN | apply below_drew1 | refine below_set ?_ GE180.out) | exact HB.out))) : w.heap.size ≤ gb184)); have n4_ := Aside0.mk ((by rw [hg]; exact (below_size (by repeat (first | (with_reducible first | exact HB.out | apply below_alloc | apply pw_below_drewN | apply below_drew1 | refine below_set ?_ GE180.out) | exact HB.out))) : w.heap.size ≤ gb184)); have n5_ := Aside0.mk ((by rw [hg]; exact Nat.ne_of_lt (blk_lt (g := gb180) (o := .cells #[.int .i64 a0_0, .int .i64 a0_1] 28 (0, 0)) (by (with_reducible repeat (first | refine blk_drewN ?_ _ | refine blk_drew ?_ | refine blk_alloc ?_ _)); exact BK180.out)) : gb180 ≠ gb184)); have n6_ := Aside0.mk ((by rw [hg]; exact Nat.ne_of_gt (blk_lt (g := gb180) (o := .cells #[.int .i64 a0_0, .int .i64 a0_1] 28 (0, 0)) (by (with_reducible repeat (first | refine blk_drewN ?_ _ | refine blk_drew ?_ | refine blk_alloc ?_ _)); exact BK180.out)) : gb184 ≠ gb180)); clear BK180; clear HB; have BK180 := n0_; have HB := n1_; have BK184 := n2_; have GW184 := n3_; have GE184 := n4_; have NB180_184 := n5_; have NB184_180 := n6_; clear n0_ n1_ n2_ n3_ n4_ n5_ n6_; clear hb hbox hg; have hnb61 := NB184_180.out; have hnc61 := NB180_184.out; have hcz62_0 : w60.cell? ⟨gb184, 0, none⟩ = some (.int .i64 0) := (blk_cell BK184.out 0).trans rfl; have hcz62_1 : w60.cell? ⟨gb184, 1, none⟩ = some (.int .i64 0) := (blk_cell BK184.out 1).trans rfl; have hfz62_0 := blk_frozen BK184.out 0; have hfz62_1 := blk_frozen BK184.out 1) | ((with_reducible refine gate_callee (f := 13) rfl ?_); refine goesL_ (some 20) rfl rfl Try.func13 (by kernel_rfl) rfl #[] rfl (by (try simp only [List.map_toArray, List.map_cons, List.map_nil]); first | done | rfl | (simp only [List.length_drop, List.length_take]; rfl)) ?_; (with_reducible refine (laws_rangeAwake.calls kj2  true _ A16.out).mono ?_); rintro e w63 ⟨rfl, hb⟩; refine ⟨_, rfl, ?_⟩; have n0_ := Aside0.mk (blk_below (g := gb180) (o := .cells #[.int .i64 a0_0, .int .i64 a0_1] 28 (0, 0)) (by (with_reducible repeat (first | refine blk_drewN ?_ _ | refine blk_drew ?_ | refine blk_alloc ?_ _)); refine blk_far ?_ NB180_184.out _; (with_reducible repeat (first | refine blk_drewN ?_ _ | refine blk_drew ?_ | refine blk_alloc ?_ _)); refine blk_far ?_ NB180_184.out _; (with_reducible repeat (first | refine blk_drewN ?_ _ | refine blk_drew ?_ | refine blk_alloc ?_ _)); exact BK180.out) hb); have n1_ := Aside0.mk (blk_below (g := gb184) (o := .cells #[.int .i64 t182, .int .i64 t183] 28 (0, 0)) (by (with_reducible repeat (first | refine blk_drewN ?_ _ | refine blk_drew ?_ | refine blk_alloc ?_ _)); refine blk_put (cs := #[.int .i64 t182, .int .i64 0]) ?_ 1 _ rfl; (with_reducible repeat (first | refine blk_drewN ?_ _ | refine blk_drew ?_ | refine blk_alloc ?_ _)); refine blk_put (cs := #[.int .i64 0, .int .i64 0]) ?_ 0 _ rfl; (with_reducible repeat (first | refine blk_drewN ?_ _ | refine blk_drew ?_ | refine blk_alloc ?_ _)); exact BK184.out) hb); have n2_ := Aside0.mk (below_step (by repeat (first | (with_reducible first | exact HB.out | apply below_alloc | apply pw_below_drewN | apply below_drew1 | refine below_set ?_ GE180.out | refine below_set ?_ GE184.out) | exact HB.out)) hb); clear BK180; clear BK184; clear HB; have BK180 := n0_; have BK184 := n1_; have HB := n2_; clear n0_ n1_ n2_; (try clear hb); (try clear hb2); (try clear hk); (try clear hi); have hcz64_0 : w63.cell? ⟨gb180, 0, none⟩ = some (.int .i64 a0_0) := (blk_cell BK180.out 0).trans rfl; have hcz64_1 : w63.cell? ⟨gb180, 1, none⟩ = some (.int .i64 a0_1) := (blk_cell BK180.out 1).trans rfl; have hfz64_0 := blk_frozen BK180.out 0; have hfz64_1 := blk_frozen BK180.out 1; have hcz65_0 : w63.cell? ⟨gb184, 0, none⟩ = some (.int .i64 t182) := (blk_cell BK184.out 0).trans rfl; have hcz65_1 : w63.cell? ⟨gb184, 1, none⟩ = some (.int .i64 t183) := (blk_cell BK184.out 1).trans rfl; have hfz65_0 := blk_frozen BK184.out 0; have hfz65_1 := blk_frozen BK184.out 1))
                go_ret
                exact ⟨by first | rfl | (simp [errW_none, errW_some] <;> rfl) | (simp [*, errW_none, errW_some] <;> rfl), by repeat (first | (with_reducible first | exact HB.out | apply below_alloc | apply pw_below_drewN | apply below_drew1 | refine below_set ?_ GE180.out | refine below_set ?_ GE184.out) | exact HB.out)⟩
        · replace c17 := Bool.eq_false_iff.mpr c17
          subst c17
          have H1 : (some false) = some r := by rw [if_neg (show ¬ (false = true) by decide)] at H; exact H
          clear H
          have H := H1
          clear H1
          obtain rfl := Option.some.inj H
          have hcz66_0 : wc.cell? ⟨gb180, 0, none⟩ = some (.int .i64 a0_0) := (blk_cell BK180.out 0).trans rfl
          have hcz66_1 : wc.cell? ⟨gb180, 1, none⟩ = some (.int .i64 a0_1) := (blk_cell BK180.out 1).trans rfl
          have hfz66_0 := blk_frozen BK180.out 0
          have hfz66_1 := blk_frozen BK180.out 1
          go_wp2_with (first | ((with_reducible refine gate_callee (f := 25) rfl ?_); refine goesL_ (some 19) rfl rfl Try.func25 (by kernel_rfl) rfl #[.agg #[.int .i64 a0_0, .int .i64 a0_1], .int .i64 a1] rfl (by (try simp only [List.map_toArray, List.map_cons, List.map_nil]); first | done | rfl | (simp only [List.length_drop, List.length_take]; rfl)) ?_; (with_reducible refine (impl_RangeClip.calls a0_0 a0_1 a1 t182 t183 _ A15.out).mono ?_); rintro e w67 ⟨rfl, hb⟩; refine ⟨_, rfl, ?_⟩; have n0_ := Aside0.mk (blk_below (g := gb180) (o := .cells #[.int .i64 a0_0, .int .i64 a0_1] 28 (0, 0)) (by (with_reducible repeat (first | refine blk_drewN ?_ _ | refine blk_drew ?_ | refine blk_alloc ?_ _)); exact BK180.out) hb); have n1_ := Aside0.mk (below_step (by repeat (first | (with_reducible first | exact HB.out | apply below_alloc | apply pw_below_drewN | apply below_drew1 | refine below_set ?_ GE180.out) | exact HB.out)) hb); clear BK180; clear HB; have BK180 := n0_; have HB := n1_; clear n0_ n1_; (try clear hb); (try clear hb2); (try clear hk); (try clear hi)) | ((with_reducible refine gate_dst (N := 5) rfl ?_); refine box_event ?hg (N := 5) ?hd (cs := #[.int .i64 0, .int .i64 0]) (t := 28) ?hr ?_; (case hd => rfl); (case hg => rfl); (case hr => first | (go_simp; done) | (go_simp; rfl)); intro gb184 hg w68 hbox hb; have n0_ := Aside0.mk (blk_below (g := gb180) (o := .cells #[.int .i64 a0_0, .int .i64 a0_1] 28 (0, 0)) (by (with_reducible repeat (first | refine blk_drewN ?_ _ | refine blk_drew ?_ | refine blk_alloc ?_ _)); exact BK180.out) hb); have n1_ := Aside0.mk (below_step (by repeat (first | (with_reducible first | exact HB.out | apply below_alloc | apply pw_below_drewN | apply below_drew1 | refine below_set ?_ GE180.out) | exact HB.out)) hb); have n2_ := Aside0.mk (hbox); have n3_ := Aside0.mk ((by rw [hg]; exact (below_size (by repeat (first | (with_reducible first | exact HB.out | apply below_alloc | apply pw_below_drewN | apply below_drew1 | refine below_set ?_ GE180.out) | exact HB.out))) : w.heap.size ≤ gb184)); have n4_ := Aside0.mk ((by rw [hg]; exact (below_size (by repeat (first | (with_reducible first | exact HB.out | apply below_alloc | apply pw_below_drewN | apply below_drew1 | refine below_set ?_ GE180.out) | exact HB.out))) : w.heap.size ≤ gb184)); have n5_ := Aside0.mk ((by rw [hg]; exact Nat.ne_of_lt (blk_lt (g := gb180) (o := .cells #[.int .i64 a0_0, .int .i64 a0_1] 28 (0, 0)) (by (with_reducible repeat (first | refine blk_drewN ?_ _ | refine blk_drew ?_ | refine blk_alloc ?_ _)); exact BK180.out)) : gb180 ≠ gb184)); have n6_ := Aside0.mk ((by rw [hg]; exact Nat.ne_of_gt (blk_lt (g := gb180) (o := .cells #[.int .i64 a0_0, .int .i64 a0_1] 28 (0, 0)) (by (with_reducible repeat (first | refine blk_drewN ?_ _ | refine blk_drew ?_ | refine blk_alloc ?_ _)); exact BK180.out)) : gb184 ≠ gb180)); clear BK180; clear HB; have BK180 := n0_; have HB := n1_; have BK184 := n2_; have GW184 := n3_; have GE184 := n4_; have NB180_184 := n5_; have NB184_180 := n6_; clear n0_ n1_ n2_ n3_ n4_ n5_ n6_; clear hb hbox hg; have hnb69 := NB184_180.out; have hnc69 := NB180_184.out; have hcz70_0 : w68.cell? ⟨gb184, 0, none⟩ = some (.int .i64 0) := (blk_cell BK184.out 0).trans rfl; have hcz70_1 : w68.cell? ⟨gb184, 1, none⟩ = some (.int .i64 0) := (blk_cell BK184.out 1).trans rfl; have hfz70_0 := blk_frozen BK184.out 0; have hfz70_1 := blk_frozen BK184.out 1) | ((with_reducible refine gate_callee (f := 13) rfl ?_); refine goesL_ (some 20) rfl rfl Try.func13 (by kernel_rfl) rfl #[] rfl (by (try simp only [List.map_toArray, List.map_cons, List.map_nil]); first | done | rfl | (simp only [List.length_drop, List.length_take]; rfl)) ?_; (with_reducible refine (laws_rangeAwake.calls kj2  false _ A16.out).mono ?_); rintro e w71 ⟨rfl, hb⟩; refine ⟨_, rfl, ?_⟩; have n0_ := Aside0.mk (blk_below (g := gb180) (o := .cells #[.int .i64 a0_0, .int .i64 a0_1] 28 (0, 0)) (by (with_reducible repeat (first | refine blk_drewN ?_ _ | refine blk_drew ?_ | refine blk_alloc ?_ _)); refine blk_far ?_ NB180_184.out _; (with_reducible repeat (first | refine blk_drewN ?_ _ | refine blk_drew ?_ | refine blk_alloc ?_ _)); refine blk_far ?_ NB180_184.out _; (with_reducible repeat (first | refine blk_drewN ?_ _ | refine blk_drew ?_ | refine blk_alloc ?_ _)); exact BK180.out) hb); have n1_ := Aside0.mk (blk_below (g := gb184) (o := .cells #[.int .i64 t182, .int .i64 t183] 28 (0, 0)) (by (with_reducible repeat (first | refine blk_drewN ?_ _ | refine blk_drew ?_ | refine blk_alloc ?_ _)); refine blk_put (cs := #[.int .i64 t182, .int .i64 0]) ?_ 1 _ rfl; (with_reducible repeat (first | refine blk_drewN ?_ _ | refine blk_drew ?_ | refine blk_alloc ?_ _)); refine blk_put (cs := #[.int .i64 0, .int .i64 0]) ?_ 0 _ rfl; (with_reducible repeat (first | refine blk_drewN ?_ _ | refine blk_drew ?_ | refine blk_alloc ?_ _)); exact BK184.out) hb); have n2_ := Aside0.mk (below_step (by repeat (first | (with_reducible first | exact HB.out | apply below_alloc | apply pw_below_drewN | apply below_drew1 | refine below_set ?_ GE180.out | refine below_set ?_ GE184.out) | exact HB.out)) hb); clear BK180; clear BK184; clear HB; have BK180 := n0_; have BK184 := n1_; have HB := n2_; clear n0_ n1_ n2_; (try clear hb); (try clear hb2); (try clear hk); (try clear hi)))
          go_ret
          exact ⟨by first | rfl | (simp [errW_none, errW_some] <;> rfl) | (simp [*, errW_none, errW_some] <;> rfl), by repeat (first | (with_reducible first | exact HB.out | apply below_alloc | apply pw_below_drewN | apply below_drew1 | refine below_set ?_ GE180.out | refine below_set ?_ GE184.out) | exact HB.out)⟩

end Go.Proofs.Ytfegihmnpcjdgaa.PFnRangeClip

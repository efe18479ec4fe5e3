-- Written by a program of this session's (over the kit's print), with contracts proved by hand among what it calls.
import Derived.Test.YtfegihmnpcjdgaaPFnRangesFillx0
import Derived.Test.YtfegihmnpcjdgaaPFnRangesFillx2
import Derived.Test.YtfegihmnpcjdgaaPFnRangesFillx3
namespace Go.Proofs.Ytfegihmnpcjdgaa.PFnRangesFill
open Go.RowKit Go.Proofs.YtfegihmnpcjdgaaW.PrintWords Go.Proofs.YtfegihmnpcjdgaaW.PrintLast Go.Proofs.YtfegihmnpcjdgaaW.PrintMore
attribute [local go_sem] max2_int min2_int max_two min_two max_three min_three max_four min_four   -- for this text's walks alone
set_option linter.unusedVariables false
set_option linter.unusedSimpArgs false

attribute [local go_sem high] eqA37
/-! ### ranges_Ranges_FindAll: function 40 -/
def ranges_Ranges_FindAll.l0 : Nat → List (S61) → List (S77) → Int → Int → Option ((List (S77)))
  | 0, _, _, _, _ => none
  | k + 1, x0, x4, x131000, x131001 => (ranges_Range_IsEmpty.f x131000 x131001).bind fun t131 => (if t131 = true then (some x4) else ((ranges_Ranges_Find.f x0 x131000 x131001).bind fun bt133 => (if x4.length < 5864062014805 then (ranges_Ranges_FindAll.l0 k x0 (x4 ++ [(⟨(⟨bt133.1, bt133.2.1⟩ : S61), bt133.2.2.2.2⟩ : S77)]) bt133.2.2.1 bt133.2.2.2.1) else (none))))
def ranges_Ranges_FindAll.f (k : Nat) (l0 : List (S61)) (a1_0 : Int) (a1_1 : Int) : Option ((List (S77))) := ranges_Ranges_FindAll.l0 k l0 ([] : List (S77)) a1_0 a1_1
theorem ranges_Ranges_FindAll.mono_l : ∀ k, (∀ y0 y1 y2 y3, LeO (ranges_Ranges_FindAll.l0 k y0 y1 y2 y3) (ranges_Ranges_FindAll.l0 (k + 1) y0 y1 y2 y3))
  | 0 => fun _ _ _ _ r h => by simp [ranges_Ranges_FindAll.l0] at h
  | k + 1 => by
    have ih0 := ranges_Ranges_FindAll.mono_l k
    · intro y0 y1 y2 y3
      unfold ranges_Ranges_FindAll.l0
      repeat' first
      | (with_reducible exact ih0 _ _ _ _)
      | (with_reducible exact LeO.refl _)
      | (with_reducible exact LeO.none _)
      | (with_reducible refine LeO.ite ?_ ?_)
      | (with_reducible refine LeO.bind ?_ (fun _ => ?_))
      | exact ih0 _ _ _ _
      | exact LeO.none _
      | refine LeO.ite ?_ ?_
      | refine LeO.bind ?_ (fun _ => ?_)
theorem ranges_Ranges_FindAll.mono : ∀ a0 a1 a2 k, LeO (ranges_Ranges_FindAll.f k a0 a1 a2) (ranges_Ranges_FindAll.f (k + 1) a0 a1 a2) := by
  intro a0 a1 a2 k
  have ih0 := ranges_Ranges_FindAll.mono_l k
  unfold ranges_Ranges_FindAll.f
  repeat' first
      | (with_reducible exact ih0 _ _ _ _)
      | (with_reducible exact LeO.refl _)
      | (with_reducible exact LeO.none _)
      | (with_reducible refine LeO.ite ?_ ?_)
      | (with_reducible refine LeO.bind ?_ (fun _ => ?_))
      | exact ih0 _ _ _ _
      | exact LeO.none _
      | refine LeO.ite ?_ ?_
      | refine LeO.bind ?_ (fun _ => ?_)
set_option maxHeartbeats 8000000 in
set_option maxRecDepth 100000 in
theorem ranges_Ranges_FindAll.calls (k : Nat) (A0 : Option Addr) (c0 : Nat) (l0 : List (S61)) (a1_0 : Int) (a1_1 : Int) (r : List (S77)) (w : World) (hr0 : Kd.C k61 w A0 l0.length l0) (hc0 : l0.length ≤ c0) (h : ranges_Ranges_FindAll.f k l0 a1_0 a1_1 = some r) :
    Calls Try.prog 40 #[.slice A0 l0.length c0, .agg #[.int .i64 a1_0, .int .i64 a1_1]] w fun e w' => ∃ v0_ : Value, e = .returned (v0_) ∧ Kd.R k77 77 w' w.heap.size (fun _ => True) v0_ r ∧ Below w.heap.size w w' := by
  have hu61 := Try.underlying61
  have hu77 := Try.underlying77
  have HR0 := Aside0.mk hr0
  have HC0 := Aside0.mk hc0
  clear hr0 hc0
  have HB := Aside0.mk (Below.refl w.heap.size w)
  have H : (ranges_Ranges_FindAll.l0 k l0 ([] : List (S77)) a1_0 a1_1) = some r := h
  clear h
  have H' := Aside0.mk H
  clear H
  go_enter Try.func40, Try.ntmps40
  go_wp2_with (first | ((with_reducible refine gate_dst (N := 3) rfl ?_); refine box_event ?hg (N := 3) ?hd (cs := #[.int .i64 a1_0, .int .i64 a1_1]) (t := 61) ?hr ?_; (case hd => rfl); (case hg => rfl); (case hr => first | (go_simp; done) | (go_simp; rfl)); intro gb130 hg w3 hbox hb; have n0_ := Aside0.mk (below_step (by repeat (first | (with_reducible first | exact HB.out | apply below_alloc | apply pw_below_drewN | apply below_drew1) | exact HB.out)) hb); have n1_ := Aside0.mk (hbox); have n2_ := Aside0.mk ((by rw [hg]; exact (below_size (by repeat (first | (with_reducible first | exact HB.out | apply below_alloc | apply pw_below_drewN | apply below_drew1) | exact HB.out))) : w.heap.size ≤ gb130)); have n3_ := Aside0.mk ((by rw [hg]; exact (below_size (by repeat (first | (with_reducible first | exact HB.out | apply below_alloc | apply pw_below_drewN | apply below_drew1) | exact HB.out))) : w.heap.size ≤ gb130)); clear HB; have HB := n0_; have BK130 := n1_; have GW130 := n2_; have GE130 := n3_; clear n0_ n1_ n2_ n3_; clear hb hbox hg))
  go_loopg [4] k (fun kq v4 w' => ∃ (x4_1 : List (S77)) (x131000_1 : Int) (x131001_1 : Int), Aside0 (ranges_Ranges_FindAll.l0 kq l0 x4_1 x131000_1 x131001_1 = some r) ∧ Aside0 (kq ≤ k) ∧ Aside0 (Kd.R k77 77 w' w.heap.size (fun _ => True) v4 x4_1) ∧ Aside0 (w'.heap[gb130]? = some (.cells #[.int .i64 x131000_1, .int .i64 x131001_1] 61 (0, 0))) ∧ Aside0 (Below w.heap.size w w'))
  case atStart => exact ⟨(([] : List (S77))), (a1_0), (a1_1), H', ⟨Nat.le_refl _⟩, ⟨by first | exact Kd.R_nil _ _ _ _ _ | exact Kd.N_nil _ _ _ _ _ | exact Kd.V_nil _ _ _ _ _ | exact Kd.Q_nil _ _ _ _ _ | exact Kd.S_nil _ _ _ _ _⟩, ⟨by (with_reducible repeat (first | refine blk_drewN ?_ _ | refine blk_drew ?_ | refine blk_alloc ?_ _)); exact BK130.out⟩, ⟨by repeat (first | (with_reducible first | exact HB.out | apply below_alloc | apply pw_below_drewN | apply below_drew1 | refine below_set ?_ GE130.out) | exact HB.out)⟩⟩
  case round =>
    clear H'
    try clear p2
    obtain ⟨x4_1, x131000_1, x131001_1, HA, HK1, HO_4, BK130, HB⟩ := hrel
    cases gk with
    | zero => exact absurd HA.out (by simp [ranges_Ranges_FindAll.l0])
    | succ k1 =>
      have H := HA.out
      clear HA
      simp only [ranges_Ranges_FindAll.l0] at H
      replace H := Option.bind_eq_some_iff.mp H
      obtain ⟨t131, A40, H⟩ := H
      replace H : (if t131 = true then (some x4_1) else ((ranges_Ranges_Find.f l0 x131000_1 x131001_1).bind fun bt133 => (if x4_1.length < 5864062014805 then (ranges_Ranges_FindAll.l0 k1 l0 (x4_1 ++ [(⟨(⟨bt133.1, bt133.2.1⟩ : S61), bt133.2.2.2.2⟩ : S77)]) bt133.2.2.1 bt133.2.2.2.1) else (none)))) = some r := H
      have A4 := Aside0.mk A40
      clear A40
      by_cases c5 : t131 = true
      · subst c5
        have H1 : (some x4_1) = some r := by rw [if_pos rfl] at H; exact H
        clear H
        have H := H1
        clear H1
        obtain rfl := Option.some.inj H
        have hcz6_0 : wr.cell? ⟨gb130, 0, none⟩ = some (.int .i64 x131000_1) := (blk_cell BK130.out 0).trans rfl
        have hcz6_1 : wr.cell? ⟨gb130, 1, none⟩ = some (.int .i64 x131001_1) := (blk_cell BK130.out 1).trans rfl
        have hfz6_0 := blk_frozen BK130.out 0
        have hfz6_1 := blk_frozen BK130.out 1
        go_wp2_with (first | ((with_reducible refine gate_callee (f := 48) rfl ?_); refine goesL_ (some 7) rfl rfl Try.func48 (by kernel_rfl) rfl #[.agg #[.int .i64 x131000_1, .int .i64 x131001_1]] rfl (by (try simp only [List.map_toArray, List.map_cons, List.map_nil]); first | done | rfl | (simp only [List.length_drop, List.length_take]; rfl)) ?_; (with_reducible refine (ranges_Range_IsEmpty.calls x131000_1 x131001_1 true _ A4.out).mono ?_); rintro e w7 ⟨rfl, hb⟩; refine ⟨_, rfl, ?_⟩; have n0_ := Aside0.mk (Kd.R_below (by (with_reducible repeat (first | apply Kd.R_alloc | apply Kd.R_drewN | apply Kd.R_drew)); exact HO_4.out) hb); have n1_ := Aside0.mk (blk_below (g := gb130) (o := .cells #[.int .i64 x131000_1, .int .i64 x131001_1] 61 (0, 0)) (by (with_reducible repeat (first | refine blk_drewN ?_ _ | refine blk_drew ?_ | refine blk_alloc ?_ _)); exact BK130.out) hb); have n2_ := Aside0.mk (below_step (by repeat (first | (with_reducible first | exact HB.out | apply below_alloc | apply pw_below_drewN | apply below_drew1 | refine below_set ?_ GE130.out) | exact HB.out)) hb); clear HO_4; clear BK130; clear HB; have HO_4 := n0_; have BK130 := n1_; have HB := n2_; clear n0_ n1_ n2_; (try clear hb); (try clear hb2); (try clear hk); (try clear hi)))
        go_ret
        exact ⟨_, by first | rfl | (simp [errW_none, errW_some] <;> rfl) | (simp [*, errW_none, errW_some] <;> rfl), by (with_reducible repeat (first | apply Kd.R_alloc | apply Kd.R_drewN | apply Kd.R_drew)); exact HO_4.out, by repeat (first | (with_reducible first | exact HB.out | apply below_alloc | apply pw_below_drewN | apply below_drew1 | refine below_set ?_ GE130.out) | exact HB.out)⟩
      · replace c5 := Bool.eq_false_iff.mpr c5
        subst c5
        have H1 : ((ranges_Ranges_Find.f l0 x131000_1 x131001_1).bind fun bt133 => (if x4_1.length < 5864062014805 then (ranges_Ranges_FindAll.l0 k1 l0 (x4_1 ++ [(⟨(⟨bt133.1, bt133.2.1⟩ : S61), bt133.2.2.2.2⟩ : S77)]) bt133.2.2.1 bt133.2.2.2.1) else (none))) = some r := by rw [if_neg (show ¬ (false = true) by decide)] at H; exact H
        clear H
        have H := H1
        clear H1
        replace H := Option.bind_eq_some_iff.mp H
        obtain ⟨⟨t133, t134, t135, t136, t137⟩, A80, H⟩ := H
        replace H : (if x4_1.length < 5864062014805 then (ranges_Ranges_FindAll.l0 k1 l0 (x4_1 ++ [(⟨(⟨t133, t134⟩ : S61), t137⟩ : S77)]) t135 t136) else (none)) = some r := H
        have A8 := Aside0.mk A80
        clear A80
        by_cases c9 : x4_1.length < 5864062014805
        · rw [if_pos c9] at H
          have LMc9 := Aside0.mk c9
          clear c9
          obtain ⟨y138, hy138⟩ : ∃ y_ : List (S77), y_ = (x4_1 ++ [(⟨(⟨t133, t134⟩ : S61), t137⟩ : S77)]) := ⟨_, rfl⟩
          replace H : (ranges_Ranges_FindAll.l0 k1 l0 y138 t135 t136) = some r := by first | (rw [hy138]; with_reducible exact H) | (have H2_ := (Option.bind_some _ _).symm.trans H; rw [hy138]; with_reducible exact H2_) | (have H2_ := (Option.bind_some _ _).symm.trans H; with_reducible exact H2_) | with_reducible exact H | (rw [hy138]; exact H) | exact H
          have Ny138 := Aside0.mk hy138
          clear hy138
          have H' := Aside0.mk H
          clear H
          have hcz10_0 : wr.cell? ⟨gb130, 0, none⟩ = some (.int .i64 x131000_1) := (blk_cell BK130.out 0).trans rfl
          have hcz10_1 : wr.cell? ⟨gb130, 1, none⟩ = some (.int .i64 x131001_1) := (blk_cell BK130.out 1).trans rfl
          have hfz10_0 := blk_frozen BK130.out 0
          have hfz10_1 := blk_frozen BK130.out 1
          go_wp2_with (first | ((with_reducible refine gate_callee (f := 48) rfl ?_); refine goesL_ (some 7) rfl rfl Try.func48 (by kernel_rfl) rfl #[.agg #[.int .i64 x131000_1, .int .i64 x131001_1]] rfl (by (try simp only [List.map_toArray, List.map_cons, List.map_nil]); first | done | rfl | (simp only [List.length_drop, List.length_take]; rfl)) ?_; (with_reducible refine (ranges_Range_IsEmpty.calls x131000_1 x131001_1 false _ A4.out).mono ?_); rintro e w11 ⟨rfl, hb⟩; refine ⟨_, rfl, ?_⟩; have n0_ := Aside0.mk (Kd.R_below (by (with_reducible repeat (first | apply Kd.R_alloc | apply Kd.R_drewN | apply Kd.R_drew)); exact HO_4.out) hb); have n1_ := Aside0.mk (blk_below (g := gb130) (o := .cells #[.int .i64 x131000_1, .int .i64 x131001_1] 61 (0, 0)) (by (with_reducible repeat (first | refine blk_drewN ?_ _ | refine blk_drew ?_ | refine blk_alloc ?_ _)); exact BK130.out) hb); have n2_ := Aside0.mk (below_step (by repeat (first | (with_reducible first | exact HB.out | apply below_alloc | apply pw_below_drewN | apply below_drew1 | refine below_set ?_ GE130.out) | exact HB.out)) hb); clear HO_4; clear BK130; clear HB; have HO_4 := n0_; have BK130 := n1_; have HB := n2_; clear n0_ n1_ n2_; (try clear hb); (try clear hb2); (try clear hk); (try clear hi)) | ((with_reducible refine gate_dst (N := 5) rfl ?_); refine box_event ?hg (N := 5) ?hd (cs := #[.int .i64 0, .int .i64 0, .bool false]) (t := 77) ?hr ?_; (case hd => rfl); (case hg => rfl); (case hr => first | (go_simp; done) | (go_simp; rfl)); intro gb132 hg w12 hbox hb; have n0_ := Aside0.mk (Kd.R_below (Kd.R_elderB (by (with_reducible repeat (first | apply Kd.R_alloc | apply Kd.R_drewN | apply Kd.R_drew)); exact HO_4.out) gb132 (Nat.le_of_eq hg.symm)) hb); have n1_ := Aside0.mk (blk_below (g := gb130) (o := .cells #[.int .i64 x131000_1, .int .i64 x131001_1] 61 (0, 0)) (by (with_reducible repeat (first | refine blk_drewN ?_ _ | refine blk_drew ?_ | refine blk_alloc ?_ _)); exact BK130.out) hb); have n2_ := Aside0.mk (below_step (by repeat (first | (with_reducible first | exact HB.out | apply below_alloc | apply pw_below_drewN | apply below_drew1 | refine below_set ?_ GE130.out) | exact HB.out)) hb); have n3_ := Aside0.mk (hbox); have n4_ := Aside0.mk ((by rw [hg]; exact (below_size (by repeat (first | (with_reducible first | exact HB.out | apply below_alloc | apply pw_below_drewN | apply below_drew1 | refine below_set ?_ GE130.out) | exact HB.out))) : w.heap.size ≤ gb132)); have n5_ := Aside0.mk ((by rw [hg]; exact (below_size (by repeat (first | (with_reducible first | exact HB.out | apply below_alloc | apply pw_below_drewN | apply below_drew1 | refine below_set ?_ GE130.out) | exact HB.out))) : w.heap.size ≤ gb132)); have n6_ := Aside0.mk ((by rw [hg]; exact Nat.ne_of_lt (blk_lt (g := gb130) (o := .cells #[.int .i64 x131000_1, .int .i64 x131001_1] 61 (0, 0)) (by (with_reducible repeat (first | refine blk_drewN ?_ _ | refine blk_drew ?_ | refine blk_alloc ?_ _)); exact BK130.out)) : gb130 ≠ gb132)); have n7_ := Aside0.mk ((by rw [hg]; exact Nat.ne_of_gt (blk_lt (g := gb130) (o := .cells #[.int .i64 x131000_1, .int .i64 x131001_1] 61 (0, 0)) (by (with_reducible repeat (first | refine blk_drewN ?_ _ | refine blk_drew ?_ | refine blk_alloc ?_ _)); exact BK130.out)) : gb132 ≠ gb130)); clear HO_4; clear BK130; clear HB; have HO_4 := n0_; have BK130 := n1_; have HB := n2_; have BK132 := n3_; have GW132 := n4_; have GE132 := n5_; have NB130_132 := n6_; have NB132_130 := n7_; clear n0_ n1_ n2_ n3_ n4_ n5_ n6_ n7_; clear hb hbox hg; have hnb13 := NB130_132.out; have hnc13 := NB132_130.out; have hcz14_0 : w12.cell? ⟨gb130, 0, none⟩ = some (.int .i64 x131000_1) := (blk_cell BK130.out 0).trans rfl; have hcz14_1 : w12.cell? ⟨gb130, 1, none⟩ = some (.int .i64 x131001_1) := (blk_cell BK130.out 1).trans rfl; have hfz14_0 := blk_frozen BK130.out 0; have hfz14_1 := blk_frozen BK130.out 1) | ((with_reducible refine gate_callee (f := 44) rfl ?_); refine goesL_ (some 12) rfl rfl Try.func44 (by kernel_rfl) rfl #[.slice A0 l0.length c0, .agg #[.int .i64 x131000_1, .int .i64 x131001_1]] rfl (by (try simp only [List.map_toArray, List.map_cons, List.map_nil]); first | done | rfl | (simp only [List.length_drop, List.length_take]; rfl)) ?_; (with_reducible refine (ranges_Ranges_Find.calls _ _ l0 x131000_1 x131001_1 t133 t134 t135 t136 t137 _ ?side1 ?side2 A8.out).mono ?_); (case side1 => repeat (first | exact (Kd.C_below HR0.out HB.out) | (with_reducible refine Kd.C_alloc ?_ _) | (with_reducible refine Kd.C_drewN ?_ _) | (with_reducible refine Kd.C_drew ?_))); (case side2 => exact HC0.out); rintro e w15 ⟨rfl, hb⟩; refine ⟨_, rfl, ?_⟩; have n0_ := Aside0.mk (Kd.R_below (by (with_reducible repeat (first | apply Kd.R_alloc | apply Kd.R_drewN | apply Kd.R_drew)); exact HO_4.out) hb); have n1_ := Aside0.mk (blk_below (g := gb130) (o := .cells #[.int .i64 x131000_1, .int .i64 x131001_1] 61 (0, 0)) (by (with_reducible repeat (first | refine blk_drewN ?_ _ | refine blk_drew ?_ | refine blk_alloc ?_ _)); exact BK130.out) hb); have n2_ := Aside0.mk (blk_below (g := gb132) (o := .cells #[.int .i64 0, .int .i64 0, .bool false] 77 (0, 0)) (by (with_reducible repeat (first | refine blk_drewN ?_ _ | refine blk_drew ?_ | refine blk_alloc ?_ _)); exact BK132.out) hb); have n3_ := Aside0.mk (below_step (by repeat (first | (with_reducible first | exact HB.out | apply below_alloc | apply pw_below_drewN | apply below_drew1 | refine below_set ?_ GE130.out | refine below_set ?_ GE132.out) | exact HB.out)) hb); clear HO_4; clear BK130; clear BK132; clear HB; have HO_4 := n0_; have BK130 := n1_; have BK132 := n2_; have HB := n3_; clear n0_ n1_ n2_ n3_; (try clear hb); (try clear hb2); (try clear hk); (try clear hi); have hcz16_0 : w15.cell? ⟨gb132, 0, none⟩ = some (.int .i64 0) := (blk_cell BK132.out 0).trans rfl; have hcz16_1 : w15.cell? ⟨gb132, 1, none⟩ = some (.int .i64 0) := (blk_cell BK132.out 1).trans rfl; have hcz16_2 : w15.cell? ⟨gb132, 2, none⟩ = some (.bool false) := (blk_cell BK132.out 2).trans rfl; have hfz16_0 := blk_frozen BK132.out 0; have hfz16_1 := blk_frozen BK132.out 1; have hfz16_2 := blk_frozen BK132.out 2; have hcz17_0 : w15.cell? ⟨gb130, 0, none⟩ = some (.int .i64 x131000_1) := (blk_cell BK130.out 0).trans rfl; have hcz17_1 : w15.cell? ⟨gb130, 1, none⟩ = some (.int .i64 x131001_1) := (blk_cell BK130.out 1).trans rfl; have hfz17_0 := blk_frozen BK130.out 0; have hfz17_1 := blk_frozen BK130.out 1) | ((with_reducible refine gate_builtin (b := .append) (xs := #[.tmp 18, .tmp 20]) rfl ?_); at_builtin; refine Kd.R_append k77 (w0 := w) w.heap.size rfl (.tmp 18) (.tmp 20) 58 77 (.agg #[(.int .i64 0), (.int .i64 0), (.bool false)]) 24 rfl Try.underlying58 info77 rfl (by decide) (by omega) u4 x4_1 (⟨(⟨t133, t134⟩ : S61), t137⟩ : S77) [.int .i64 t133, .int .i64 t134, .bool t137] (fun k_ => k_ ≠ gb132) (fun _ => False) rfl (by first | (go_simp; done) | (go_simp; rfl)) ?aP (fun _ hk => hk.elim) ?aF ?aO ?aB ?aS ?aL ?_; (case aP => exact k77_mkM _ _ _ (⟨(⟨t133, t134⟩ : S61), t137⟩ : S77)); (case aB => exact (by repeat (first | (with_reducible first | exact HB.out | apply below_alloc | apply pw_below_drewN | apply below_drew1 | refine below_set ?_ GE130.out | refine below_set ?_ GE132.out) | exact HB.out))); (case aF => exact (fun k_ hk => Kd.freshB (g := gb132) (o := .cells #[.int .i64 t133, .int .i64 t134, .bool t137] 77 (0, 0)) (by (with_reducible repeat (first | refine blk_drewN ?_ _ | refine blk_drew ?_ | refine blk_alloc ?_ _)); refine blk_put (cs := #[.int .i64 t133, .int .i64 t134, .bool false]) ?_ 2 _ rfl; (with_reducible repeat (first | refine blk_drewN ?_ _ | refine blk_drew ?_ | refine blk_alloc ?_ _)); refine blk_far ?_ NB132_130.out _; (with_reducible repeat (first | refine blk_drewN ?_ _ | refine blk_drew ?_ | refine blk_alloc ?_ _)); refine blk_far ?_ NB132_130.out _; (with_reducible repeat (first | refine blk_drewN ?_ _ | refine blk_drew ?_ | refine blk_alloc ?_ _)); refine blk_put (cs := #[.int .i64 t133, .int .i64 0, .bool false]) ?_ 1 _ rfl; (with_reducible repeat (first | refine blk_drewN ?_ _ | refine blk_drew ?_ | refine blk_alloc ?_ _)); refine blk_put (cs := #[.int .i64 0, .int .i64 0, .bool false]) ?_ 0 _ rfl; (with_reducible repeat (first | refine blk_drewN ?_ _ | refine blk_drew ?_ | refine blk_alloc ?_ _)); exact BK132.out) k_ hk)); (case aO => exact (by (with_reducible repeat (first | apply Kd.R_alloc | apply Kd.R_drewN | apply Kd.R_drew)); exact Kd.R_mono (Kd.R_far (p := ⟨gb132, 2, none⟩) (Kd.R_far (p := ⟨gb130, 1, none⟩) (Kd.R_far (p := ⟨gb130, 0, none⟩) (Kd.R_far (p := ⟨gb132, 1, none⟩) (Kd.R_far (p := ⟨gb132, 0, none⟩) (Kd.R_types (Kd.R_mono HO_4.out (fun k_ hk => (⟨hk, hk.2⟩ : _ ∧ k_ ≠ gb132))) BK130.out (by decide)) (fun _ hk => hk.1.2) (.int .i64 t133)) (fun _ hk => hk.1.2) (.int .i64 t134)) (fun _ hk => hk.2) (.int .i64 t135)) (fun _ hk => hk.2) (.int .i64 t136)) (fun _ hk => hk.1.2) (.bool t137)) (fun _ hk => hk.1.1.2))); (case aS => exact (below_size (by repeat (first | (with_reducible first | exact HB.out | apply below_alloc | apply pw_below_drewN | apply below_drew1 | refine below_set ?_ GE130.out | refine below_set ?_ GE132.out) | exact HB.out)))); (case aL => have := LMc9.out; omega); intro v139 w18 ho hb hg hat; rw [← Ny138.out] at ho; have n0_ := Aside0.mk (blk_grown (g := gb130) (o := .cells #[.int .i64 t135, .int .i64 t136] 61 (0, 0)) (by (with_reducible repeat (first | refine blk_drewN ?_ _ | refine blk_drew ?_ | refine blk_alloc ?_ _)); refine blk_far ?_ NB130_132.out _; (with_reducible repeat (first | refine blk_drewN ?_ _ | refine blk_drew ?_ | refine blk_alloc ?_ _)); refine blk_put (cs := #[.int .i64 t135, .int .i64 x131001_1]) ?_ 1 _ rfl; (with_reducible repeat (first | refine blk_drewN ?_ _ | refine blk_drew ?_ | refine blk_alloc ?_ _)); refine blk_put (cs := #[.int .i64 x131000_1, .int .i64 x131001_1]) ?_ 0 _ rfl; (with_reducible repeat (first | refine blk_drewN ?_ _ | refine blk_drew ?_ | refine blk_alloc ?_ _)); refine blk_far ?_ NB130_132.out _; (with_reducible repeat (first | refine blk_drewN ?_ _ | refine blk_drew ?_ | refine blk_alloc ?_ _)); refine blk_far ?_ NB130_132.out _; (with_reducible repeat (first | refine blk_drewN ?_ _ | refine blk_drew ?_ | refine blk_alloc ?_ _)); exact BK130.out) hg (Kd.R_ne HO_4.out BK130.out (by decide))); have n1_ := Aside0.mk (blk_grown (g := gb132) (o := .cells #[.int .i64 t133, .int .i64 t134, .bool t137] 77 (0, 0)) (by (with_reducible repeat (first | refine blk_drewN ?_ _ | refine blk_drew ?_ | refine blk_alloc ?_ _)); refine blk_put (cs := #[.int .i64 t133, .int .i64 t134, .bool false]) ?_ 2 _ rfl; (with_reducible repeat (first | refine blk_drewN ?_ _ | refine blk_drew ?_ | refine blk_alloc ?_ _)); refine blk_far ?_ NB132_130.out _; (with_reducible repeat (first | refine blk_drewN ?_ _ | refine blk_drew ?_ | refine blk_alloc ?_ _)); refine blk_far ?_ NB132_130.out _; (with_reducible repeat (first | refine blk_drewN ?_ _ | refine blk_drew ?_ | refine blk_alloc ?_ _)); refine blk_put (cs := #[.int .i64 t133, .int .i64 0, .bool false]) ?_ 1 _ rfl; (with_reducible repeat (first | refine blk_drewN ?_ _ | refine blk_drew ?_ | refine blk_alloc ?_ _)); refine blk_put (cs := #[.int .i64 0, .int .i64 0, .bool false]) ?_ 0 _ rfl; (with_reducible repeat (first | refine blk_drewN ?_ _ | refine blk_drew ?_ | refine blk_alloc ?_ _)); exact BK132.out) hg (Kd.R_away HO_4.out (fun _ hk => hk.2))); have n2_ := Aside0.mk (hb); have n3_ := Aside0.mk (ho); clear BK130; clear BK132; clear HB; clear HO_4; have BK130 := n0_; have BK132 := n1_; have HB := n2_; have HO140 := n3_; clear n0_ n1_ n2_ n3_; clear ho hb hg hat))
          go_roundg k1
          case measure => have := HK1.out; omega
          case rel => exact ⟨(y138), (t135), (t136), H', ⟨by have := HK1.out; omega⟩, ⟨by (with_reducible repeat (first | apply Kd.R_alloc | apply Kd.R_drewN | apply Kd.R_drew)); exact Kd.R_mono HO140.out (fun _ hk => trivial)⟩, ⟨by (with_reducible repeat (first | refine blk_drewN ?_ _ | refine blk_drew ?_ | refine blk_alloc ?_ _)); exact BK130.out⟩, ⟨by repeat (first | (with_reducible first | exact HB.out | apply below_alloc | apply pw_below_drewN | apply below_drew1 | refine below_set ?_ GE130.out | refine below_set ?_ GE132.out) | exact HB.out)⟩⟩
        · rw [if_neg c9] at H
          exact absurd H (by simp)

/-! ### impl_given: function 41 -/
def impl_given.f (a0_0 : Int) (a0_1 : Int) : Option (Int × Int) := some (a0_0, a0_1)
set_option maxHeartbeats 8000000 in
set_option maxRecDepth 100000 in
theorem impl_given.calls (a0_0 : Int) (a0_1 : Int) (r1 : Int) (r2 : Int) (w : World) (h : impl_given.f a0_0 a0_1 = some (r1, r2)) :
    Calls Try.prog 41 #[.agg #[.int .i64 a0_0, .int .i64 a0_1]] w fun e w' => e = .returned (.agg #[.int .i64 r1, .int .i64 r2]) ∧ Below w.heap.size w w' := by
  have hu28 := Try.underlying28
  have hu61 := Try.underlying61
  have HB := Aside0.mk (Below.refl w.heap.size w)
  have H : (some (a0_0, a0_1)) = some (r1, r2) := h
  clear h
  simp only [Option.some.injEq, Prod.mk.injEq] at H
  obtain ⟨rfl, rfl⟩ := H
  go_enter Try.func41, Try.ntmps41
  go_wp2_with (first | ((with_reducible refine gate_dst (N := 1) rfl ?_); refine box_event ?hg (N := 1) ?hd (cs := #[.int .i64 a0_0, .int .i64 a0_1]) (t := 28) ?hr ?_; (case hd => rfl); (case hg => rfl); (case hr => first | (go_simp; done) | (go_simp; rfl)); intro gb141 hg w2 hbox hb; have n0_ := Aside0.mk (below_step (by repeat (first | (with_reducible first | exact HB.out | apply below_alloc | apply pw_below_drewN | apply below_drew1) | exact HB.out)) hb); have n1_ := Aside0.mk (hbox); have n2_ := Aside0.mk ((by rw [hg]; exact (below_size (by repeat (first | (with_reducible first | exact HB.out | apply below_alloc | apply pw_below_drewN | apply below_drew1) | exact HB.out))) : w.heap.size ≤ gb141)); have n3_ := Aside0.mk ((by rw [hg]; exact (below_size (by repeat (first | (with_reducible first | exact HB.out | apply below_alloc | apply pw_below_drewN | apply below_drew1) | exact HB.out))) : w.heap.size ≤ gb141)); clear HB; have HB := n0_; have BK141 := n1_; have GW141 := n2_; have GE141 := n3_; clear n0_ n1_ n2_ n3_; clear hb hbox hg) | ((with_reducible refine gate_dst (N := 2) rfl ?_); refine box_event ?hg (N := 2) ?hd (cs := #[.int .i64 0, .int .i64 0]) (t := 61) ?hr ?_; (case hd => rfl); (case hg => rfl); (case hr => first | (go_simp; done) | (go_simp; rfl)); intro gb142 hg w3 hbox hb; have n0_ := Aside0.mk (blk_below (g := gb141) (o := .cells #[.int .i64 a0_0, .int .i64 a0_1] 28 (0, 0)) (by (with_reducible repeat (first | refine blk_drewN ?_ _ | refine blk_drew ?_ | refine blk_alloc ?_ _)); exact BK141.out) hb); have n1_ := Aside0.mk (below_step (by repeat (first | (with_reducible first | exact HB.out | apply below_alloc | apply pw_below_drewN | apply below_drew1 | refine below_set ?_ GE141.out) | exact HB.out)) hb); have n2_ := Aside0.mk (hbox); have n3_ := Aside0.mk ((by rw [hg]; exact (below_size (by repeat (first | (with_reducible first | exact HB.out | apply below_alloc | apply pw_below_drewN | apply below_drew1 | refine below_set ?_ GE141.out) | exact HB.out))) : w.heap.size ≤ gb142)); have n4_ := Aside0.mk ((by rw [hg]; exact (below_size (by repeat (first | (with_reducible first | exact HB.out | apply below_alloc | apply pw_below_drewN | apply below_drew1 | refine below_set ?_ GE141.out) | exact HB.out))) : w.heap.size ≤ gb142)); have n5_ := Aside0.mk ((by rw [hg]; exact Nat.ne_of_lt (blk_lt (g := gb141) (o := .cells #[.int .i64 a0_0, .int .i64 a0_1] 28 (0, 0)) (by (with_reducible repeat (first | refine blk_drewN ?_ _ | refine blk_drew ?_ | refine blk_alloc ?_ _)); exact BK141.out)) : gb141 ≠ gb142)); have n6_ := Aside0.mk ((by rw [hg]; exact Nat.ne_of_gt (blk_lt (g := gb141) (o := .cells #[.int .i64 a0_0, .int .i64 a0_1] 28 (0, 0)) (by (with_reducible repeat (first | refine blk_drewN ?_ _ | refine blk_drew ?_ | refine blk_alloc ?_ _)); exact BK141.out)) : gb142 ≠ gb141)); clear BK141; clear HB; have BK141 := n0_; have HB := n1_; have BK142 := n2_; have GW142 := n3_; have GE142 := n4_; have NB141_142 := n5_; have NB142_141 := n6_; clear n0_ n1_ n2_ n3_ n4_ n5_ n6_; clear hb hbox hg; have hnb4 := NB141_142.out; have hnc4 := NB142_141.out; have hcz5_0 : w3.cell? ⟨gb141, 0, none⟩ = some (.int .i64 a0_0) := (blk_cell BK141.out 0).trans rfl; have hcz5_1 : w3.cell? ⟨gb141, 1, none⟩ = some (.int .i64 a0_1) := (blk_cell BK141.out 1).trans rfl; have hfz5_0 := blk_frozen BK141.out 0; have hfz5_1 := blk_frozen BK141.out 1; have hcz6_0 : w3.cell? ⟨gb142, 0, none⟩ = some (.int .i64 0) := (blk_cell BK142.out 0).trans rfl; have hcz6_1 : w3.cell? ⟨gb142, 1, none⟩ = some (.int .i64 0) := (blk_cell BK142.out 1).trans rfl; have hfz6_0 := blk_frozen BK142.out 0; have hfz6_1 := blk_frozen BK142.out 1))
  refine bodyPost_ret (results_cell_row rfl _ _ gb142 61 #[.int .i64 a0_0, .int .i64 a0_1] (0, 0) _ rfl (by (with_reducible repeat (first | refine blk_drewN ?_ _ | refine blk_drew ?_ | refine blk_alloc ?_ _)); refine blk_put (cs := #[.int .i64 a0_0, .int .i64 0]) ?_ 1 _ rfl; (with_reducible repeat (first | refine blk_drewN ?_ _ | refine blk_drew ?_ | refine blk_alloc ?_ _)); refine blk_put (cs := #[.int .i64 0, .int .i64 0]) ?_ 0 _ rfl; (with_reducible repeat (first | refine blk_drewN ?_ _ | refine blk_drew ?_ | refine blk_alloc ?_ _)); exact BK142.out) Try.underlying61 rfl (by kernel_rfl)) rfl ?_
  exact ⟨by first | rfl | (simp [errW_none, errW_some] <;> rfl) | (simp [*, errW_none, errW_some] <;> rfl), by repeat (first | (with_reducible first | exact HB.out | apply below_alloc | apply pw_below_drewN | apply below_drew1 | refine below_set ?_ GE141.out | refine below_set ?_ GE142.out) | exact HB.out)⟩

/-! ### impl_RangesFindAll: function 18 -/
def impl_RangesFindAll.f (k : Nat) (l0 : List (S28)) (a1_0 : Int) (a1_1 : Int) : Option ((List (S37))) := (impl_inserted.f l0).bind fun t144 => ((impl_given.f a1_0 a1_1).bind fun bt147 => ((ranges_Ranges_FindAll.f k t144 bt147.1 bt147.2).bind fun t149 => ((impl_tellFound.f k t149).bind fun t152 => (some t152))))
theorem impl_RangesFindAll.mono : ∀ a0 a1 a2 k, LeO (impl_RangesFindAll.f k a0 a1 a2) (impl_RangesFindAll.f (k + 1) a0 a1 a2) := by
  intro a0 a1 a2 k
  unfold impl_RangesFindAll.f
  repeat' first
      | (with_reducible exact impl_tellFound.mono _ _)
      | (with_reducible exact ranges_Ranges_FindAll.mono _ _ _ _)
      | (with_reducible exact LeO.refl _)
      | (with_reducible exact LeO.none _)
      | (with_reducible refine LeO.ite ?_ ?_)
      | (with_reducible refine LeO.bind ?_ (fun _ => ?_))
      | exact impl_tellFound.mono _ _
      | exact ranges_Ranges_FindAll.mono _ _ _ _
      | exact LeO.none _
      | refine LeO.ite ?_ ?_
      | refine LeO.bind ?_ (fun _ => ?_)
set_option maxHeartbeats 8000000 in
set_option maxRecDepth 100000 in
theorem impl_RangesFindAll.calls (k : Nat) (A0 : Option Addr) (c0 : Nat) (l0 : List (S28)) (a1_0 : Int) (a1_1 : Int) (r : List (S37)) (w : World) (hr0 : Kd.C k28 w A0 l0.length l0) (hc0 : l0.length ≤ c0) (h : impl_RangesFindAll.f k l0 a1_0 a1_1 = some r) :
    Calls Try.prog 18 #[.slice A0 l0.length c0, .agg #[.int .i64 a1_0, .int .i64 a1_1]] w fun e w' => ∃ v0_ : Value, e = .returned (v0_) ∧ Kd.R k37 37 w' w.heap.size (fun _ => True) v0_ r ∧ Below w.heap.size w w' := by
  have hu28 := Try.underlying28
  have HR0 := Aside0.mk hr0
  have HC0 := Aside0.mk hc0
  clear hr0 hc0
  have HB := Aside0.mk (Below.refl w.heap.size w)
  have H : ((impl_inserted.f l0).bind fun t144 => ((impl_given.f a1_0 a1_1).bind fun bt147 => ((ranges_Ranges_FindAll.f k t144 bt147.1 bt147.2).bind fun t149 => ((impl_tellFound.f k t149).bind fun t152 => (some t152))))) = some r := h
  clear h
  replace H := Option.bind_eq_some_iff.mp H
  obtain ⟨t144, A30, H⟩ := H
  replace H : ((impl_given.f a1_0 a1_1).bind fun bt147 => ((ranges_Ranges_FindAll.f k t144 bt147.1 bt147.2).bind fun t149 => ((impl_tellFound.f k t149).bind fun t152 => (some t152)))) = some r := H
  have A3 := Aside0.mk A30
  clear A30
  replace H := Option.bind_eq_some_iff.mp H
  obtain ⟨⟨t147, t148⟩, A40, H⟩ := H
  replace H : ((ranges_Ranges_FindAll.f k t144 t147 t148).bind fun t149 => ((impl_tellFound.f k t149).bind fun t152 => (some t152))) = some r := H
  have A4 := Aside0.mk A40
  clear A40
  replace H := Option.bind_eq_some_iff.mp H
  obtain ⟨t149, A50, H⟩ := H
  replace H : ((impl_tellFound.f k t149).bind fun t152 => (some t152)) = some r := H
  have A5 := Aside0.mk A50
  clear A50
  replace H := Option.bind_eq_some_iff.mp H
  obtain ⟨t152, A60, H⟩ := H
  replace H : (some t152) = some r := H
  have A6 := Aside0.mk A60
  clear A60
  obtain rfl := Option.some.inj H
  go_enter Try.func18, Try.ntmps18
  try go_wp2_with (first | ((with_reducible refine gate_dst (N := 3) rfl ?_); refine box_event ?hg (N := 3) ?hd (cs := #[.int .i64 a1_0, .int .i64 a1_1]) (t := 28) ?hr ?_; (case hd => rfl); (case hg => rfl); (case hr => first | (go_simp; done) | (go_simp; rfl)); intro gb143 hg w7 hbox hb; have n0_ := Aside0.mk (below_step (by repeat (first | (with_reducible first | exact HB.out | apply below_alloc | apply pw_below_drewN | apply below_drew1) | exact HB.out)) hb); have n1_ := Aside0.mk (hbox); have n2_ := Aside0.mk ((by rw [hg]; exact (below_size (by repeat (first | (with_reducible first | exact HB.out | apply below_alloc | apply pw_below_drewN | apply below_drew1) | exact HB.out))) : w.heap.size ≤ gb143)); have n3_ := Aside0.mk ((by rw [hg]; exact (below_size (by repeat (first | (with_reducible first | exact HB.out | apply below_alloc | apply pw_below_drewN | apply below_drew1) | exact HB.out))) : w.heap.size ≤ gb143)); clear HB; have HB := n0_; have BK143 := n1_; have GW143 := n2_; have GE143 := n3_; clear n0_ n1_ n2_ n3_; clear hb hbox hg))
  have n0_ := Aside0.mk (blk_drew BK143.out)
  have n1_ := Aside0.mk (below_drew1 HB.out)
  clear BK143
  clear HB
  have BK143 := n0_
  have HB := n1_
  clear n0_ n1_
  refine start_ (n := 7) (S := fun w' => w'.cell? ⟨gb143, 0, none⟩ = some (.int .i64 a1_0) ∧ w'.cell? ⟨gb143, 1, none⟩ = some (.int .i64 a1_1)) (ds := []) #[false, false, false, false, false, false, false] (by kernel_rfl) rfl rfl ⟨(blk_cell BK143.out 0).trans rfl, (blk_cell BK143.out 1).trans rfl⟩ (fun hHeld => ?_)
  generalize w7.drew = w8 at BK143 HB hHeld ⊢
  refine pure_ (i := 0) (N := some 5) (v := ?_) (a' := ?_) #[true, false, false, false, false, false, false] rfl rfl (by kernel_rfl) (fun _ _ _ h => h) (Or.inl ⟨by rfl, ?_⟩) ?_ ?_
  rotate_left
  · intro w'
    go_simp
    with_reducible rfl
  rotate_left
  · simp only [Act.put, List.setIfInBounds_toArray, List.set_cons_zero, List.set_cons_succ, i64_w, i32_w]
    rfl
  refine take_ (i := 2) (N := some 7) (v := ?_) (a' := ?_) #[true, false, true, false, false, false, false] rfl rfl (by kernel_rfl) (fun _ _ _ h => h) (Or.inl ⟨by rfl, ?_⟩) hHeld ?_ ?_
  rotate_left
  · rintro w' ⟨s0, s1⟩
    go_simp
    with_reducible rfl
  rotate_left
  · simp only [Act.put, List.setIfInBounds_toArray, List.set_cons_zero, List.set_cons_succ, i64_w, i32_w]
    rfl
  refine one_ (i := 1) (N := some 6) #[true, true, true, false, false, false, false] rfl rfl (by kernel_rfl) (by decide) (fun K hK => ?_)
  refine goes_ Try.func38 (by kernel_rfl) rfl #[.slice A0 l0.length c0] (by rfl) rfl rfl (by (try simp only [List.map_toArray, List.map_cons, List.map_nil]); first | done | rfl | (simp only [List.length_drop, List.length_take]; rfl)) ?_
  with_reducible refine (impl_inserted.calls _ _ l0 t144 _ ?side1 ?side2 A3.out).mono ?_
  (case side1 => repeat (first | exact (Kd.C_below HR0.out HB.out) | (with_reducible refine Kd.C_alloc ?_ _) | (with_reducible refine Kd.C_drewN ?_ _) | (with_reducible refine Kd.C_drew ?_)))
  (case side2 => exact HC0.out)
  rintro e w9 ⟨v145, rfl, ho0, hb⟩
  refine ⟨_, rfl, ?_⟩
  have n0_ := Aside0.mk (Kd.R_lower ho0 (below_size (by repeat (first | (with_reducible first | exact HB.out | apply below_alloc | apply pw_below_drewN | apply below_drew1 | refine below_set ?_ GE143.out) | exact HB.out))))
  have n1_ := Aside0.mk (blk_below (g := gb143) (o := .cells #[.int .i64 a1_0, .int .i64 a1_1] 28 (0, 0)) (by (with_reducible repeat (first | refine blk_drewN ?_ _ | refine blk_drew ?_ | refine blk_alloc ?_ _)); exact BK143.out) hb)
  have n2_ := Aside0.mk (below_step (by repeat (first | (with_reducible first | exact HB.out | apply below_alloc | apply pw_below_drewN | apply below_drew1 | refine below_set ?_ GE143.out) | exact HB.out)) hb)
  clear BK143
  clear HB
  have HO146 := n0_
  have BK143 := n1_
  have HB := n2_
  clear n0_ n1_ n2_
  (try clear hb)
  (try clear hb2)
  (try clear hk)
  (try clear hi)
  (try clear ho0)
  refine hK.out _ _ ⟨(blk_cell BK143.out 0).trans rfl, (blk_cell BK143.out 1).trans rfl⟩ (fun hHeld => ?_)
  clear hK K
  refine norm_ (a' := ?_) ?_ ?_
  rotate_left
  · show Act.put _ (some 6) _ = _
    simp only [Act.put, List.setIfInBounds_toArray, List.set_cons_zero, List.set_cons_succ, i64_w, i32_w]
    rfl
  refine one_ (i := 3) (N := some 8) #[true, true, true, true, false, false, false] rfl rfl (by kernel_rfl) (by decide) (fun K hK => ?_)
  refine goes_ Try.func41 (by kernel_rfl) rfl #[.agg #[.int .i64 a1_0, .int .i64 a1_1]] (by rfl) rfl rfl (by (try simp only [List.map_toArray, List.map_cons, List.map_nil]); first | done | rfl | (simp only [List.length_drop, List.length_take]; rfl)) ?_
  with_reducible refine (impl_given.calls a1_0 a1_1 t147 t148 _ A4.out).mono ?_
  rintro e w10 ⟨rfl, hb⟩
  refine ⟨_, rfl, ?_⟩
  have n0_ := Aside0.mk (Kd.R_below (by (with_reducible repeat (first | apply Kd.R_alloc | apply Kd.R_drewN | apply Kd.R_drew)); exact HO146.out) hb)
  have n1_ := Aside0.mk (blk_below (g := gb143) (o := .cells #[.int .i64 a1_0, .int .i64 a1_1] 28 (0, 0)) (by (with_reducible repeat (first | refine blk_drewN ?_ _ | refine blk_drew ?_ | refine blk_alloc ?_ _)); exact BK143.out) hb)
  have n2_ := Aside0.mk (below_step (by repeat (first | (with_reducible first | exact HB.out | apply below_alloc | apply pw_below_drewN | apply below_drew1 | refine below_set ?_ GE143.out) | exact HB.out)) hb)
  clear HO146
  clear BK143
  clear HB
  have HO146 := n0_
  have BK143 := n1_
  have HB := n2_
  clear n0_ n1_ n2_
  (try clear hb)
  (try clear hb2)
  (try clear hk)
  (try clear hi)
  obtain ⟨Ao11, co11, eo11⟩ := Kd.R_slice HO146.out
  (first | subst eo11 | (injection eo11 with f1_ f2_ f3_; have f4_ := f1_.symm; have f5_ := f3_.symm; clear f1_ f2_ f3_; subst f4_; subst f5_))
  refine hK.out _ _ ⟨(blk_cell BK143.out 0).trans rfl, (blk_cell BK143.out 1).trans rfl⟩ (fun hHeld => ?_)
  clear hK K
  refine norm_ (a' := ?_) ?_ ?_
  rotate_left
  · show Act.put _ (some 8) _ = _
    simp only [Act.put, List.setIfInBounds_toArray, List.set_cons_zero, List.set_cons_succ, i64_w, i32_w]
    rfl
  refine one_ (i := 4) (N := some 9) #[true, true, true, true, true, false, false] rfl rfl (by kernel_rfl) (by decide) (fun K hK => ?_)
  refine goes_ Try.func40 (by kernel_rfl) rfl #[.slice Ao11 t144.length co11, .agg #[.int .i64 t147, .int .i64 t148]] (by rfl) rfl rfl (by (try simp only [List.map_toArray, List.map_cons, List.map_nil]); first | done | rfl | (simp only [List.length_drop, List.length_take]; rfl)) ?_
  with_reducible refine (ranges_Ranges_FindAll.calls k _ _ t144 t147 t148 t149 _ ?side1 ?side2 A5.out).mono ?_
  (case side1 => repeat (first | exact (Kd.R_reads' HO146.out).2.2 | (with_reducible refine Kd.C_alloc ?_ _) | (with_reducible refine Kd.C_drewN ?_ _) | (with_reducible refine Kd.C_drew ?_)))
  (case side2 => exact (Kd.R_reads' HO146.out).2.1)
  rintro e w12 ⟨v150, rfl, ho0, hb⟩
  refine ⟨_, rfl, ?_⟩
  have n0_ := Aside0.mk (Kd.R_below (by (with_reducible repeat (first | apply Kd.R_alloc | apply Kd.R_drewN | apply Kd.R_drew)); exact HO146.out) hb)
  have n1_ := Aside0.mk (Kd.R_lower ho0 (below_size (by repeat (first | (with_reducible first | exact HB.out | apply below_alloc | apply pw_below_drewN | apply below_drew1 | refine below_set ?_ GE143.out) | exact HB.out))))
  have n2_ := Aside0.mk (blk_below (g := gb143) (o := .cells #[.int .i64 a1_0, .int .i64 a1_1] 28 (0, 0)) (by (with_reducible repeat (first | refine blk_drewN ?_ _ | refine blk_drew ?_ | refine blk_alloc ?_ _)); exact BK143.out) hb)
  have n3_ := Aside0.mk (below_step (by repeat (first | (with_reducible first | exact HB.out | apply below_alloc | apply pw_below_drewN | apply below_drew1 | refine below_set ?_ GE143.out) | exact HB.out)) hb)
  clear HO146
  clear BK143
  clear HB
  have HO146 := n0_
  have HO151 := n1_
  have BK143 := n2_
  have HB := n3_
  clear n0_ n1_ n2_ n3_
  (try clear hb)
  (try clear hb2)
  (try clear hk)
  (try clear hi)
  (try clear ho0)
  obtain ⟨Ao13, co13, eo13⟩ := Kd.R_slice HO151.out
  (first | subst eo13 | (injection eo13 with f1_ f2_ f3_; have f4_ := f1_.symm; have f5_ := f3_.symm; clear f1_ f2_ f3_; subst f4_; subst f5_))
  refine hK.out _ _ ⟨(blk_cell BK143.out 0).trans rfl, (blk_cell BK143.out 1).trans rfl⟩ (fun hHeld => ?_)
  clear hK K
  refine norm_ (a' := ?_) ?_ ?_
  rotate_left
  · show Act.put _ (some 9) _ = _
    simp only [Act.put, List.setIfInBounds_toArray, List.set_cons_zero, List.set_cons_succ, i64_w, i32_w]
    rfl
  refine one_ (i := 5) (N := some 10) #[true, true, true, true, true, true, false] rfl rfl (by kernel_rfl) (by decide) (fun K hK => ?_)
  refine goes_ Try.func39 (by kernel_rfl) rfl #[.slice Ao13 t149.length co13] (by rfl) rfl rfl (by (try simp only [List.map_toArray, List.map_cons, List.map_nil]); first | done | rfl | (simp only [List.length_drop, List.length_take]; rfl)) ?_
  with_reducible refine (impl_tellFound.calls k _ _ t149 t152 _ ?side1 ?side2 A6.out).mono ?_
  (case side1 => repeat (first | exact (Kd.R_reads' HO151.out).2.2 | (with_reducible refine Kd.C_alloc ?_ _) | (with_reducible refine Kd.C_drewN ?_ _) | (with_reducible refine Kd.C_drew ?_)))
  (case side2 => exact (Kd.R_reads' HO151.out).2.1)
  rintro e w14 ⟨v153, rfl, ho0, hb⟩
  refine ⟨_, rfl, ?_⟩
  have n0_ := Aside0.mk (Kd.R_below (by (with_reducible repeat (first | apply Kd.R_alloc | apply Kd.R_drewN | apply Kd.R_drew)); exact HO146.out) hb)
  have n1_ := Aside0.mk (Kd.R_below (by (with_reducible repeat (first | apply Kd.R_alloc | apply Kd.R_drewN | apply Kd.R_drew)); exact HO151.out) hb)
  have n2_ := Aside0.mk (Kd.R_lower ho0 (below_size (by repeat (first | (with_reducible first | exact HB.out | apply below_alloc | apply pw_below_drewN | apply below_drew1 | refine below_set ?_ GE143.out) | exact HB.out))))
  have n3_ := Aside0.mk (blk_below (g := gb143) (o := .cells #[.int .i64 a1_0, .int .i64 a1_1] 28 (0, 0)) (by (with_reducible repeat (first | refine blk_drewN ?_ _ | refine blk_drew ?_ | refine blk_alloc ?_ _)); exact BK143.out) hb)
  have n4_ := Aside0.mk (below_step (by repeat (first | (with_reducible first | exact HB.out | apply below_alloc | apply pw_below_drewN | apply below_drew1 | refine below_set ?_ GE143.out) | exact HB.out)) hb)
  clear HO146
  clear HO151
  clear BK143
  clear HB
  have HO146 := n0_
  have HO151 := n1_
  have HO154 := n2_
  have BK143 := n3_
  have HB := n4_
  clear n0_ n1_ n2_ n3_ n4_
  (try clear hb)
  (try clear hb2)
  (try clear hk)
  (try clear hi)
  (try clear ho0)
  refine hK.out _ _ ⟨(blk_cell BK143.out 0).trans rfl, (blk_cell BK143.out 1).trans rfl⟩ (fun hHeld => ?_)
  clear hK K
  refine norm_ (a' := ?_) ?_ ?_
  rotate_left
  · show Act.put _ (some 10) _ = _
    simp only [Act.put, List.setIfInBounds_toArray, List.set_cons_zero, List.set_cons_succ, i64_w, i32_w]
    rfl
  refine pure_ (i := 6) (N := some 4) (v := ?_) (a' := ?_) #[true, true, true, true, true, true, true] rfl rfl (by kernel_rfl) (fun _ _ _ h => h) (Or.inl ⟨by rfl, ?_⟩) ?_ ?_
  rotate_left
  · intro w'
    go_simp
    with_reducible rfl
  rotate_left
  · simp only [Act.put, List.setIfInBounds_toArray, List.set_cons_zero, List.set_cons_succ, i64_w, i32_w]
    rfl
  refine done_ (by kernel_rfl) ?_
  try go_wp2
  go_ret
  exact ⟨_, by first | rfl | (simp [errW_none, errW_some] <;> rfl) | (simp [*, errW_none, errW_some] <;> rfl), by (with_reducible repeat (first | apply Kd.R_alloc | apply Kd.R_drewN | apply Kd.R_drew)); exact HO154.out, by repeat (first | (with_reducible first | exact HB.out | apply below_alloc | apply pw_below_drewN | apply below_drew1 | refine below_set ?_ GE143.out) | exact HB.out)⟩

/-! ### laws_rangeAwake: function 13 -/
def laws_rangeAwake.f (k : Nat)  : Option (Bool) := (impl_RangesOf.f k (([(⟨5, 5⟩ : S28), (⟨0, 5⟩ : S28)] : List (S28)))).bind fun t158 => ((impl_RangesFindAll.f k (([(⟨0, 2⟩ : S28), (⟨4, 2⟩ : S28)] : List (S28))) 1 4).bind fun t164 => ((spec_RangesSame.f k t158 (([(⟨0, 10⟩ : S28)] : List (S28)))).bind fun t170 => (if t170 = true then (if (t164.length : Int) = 3 then (if 1 < (t164.length : Int) then (some ((((rd_T37 t164 1).f0.f0) == 2 && (((rd_T37 t164 1).f0.f1) == 2)) && (!((rd_T37 t164 1).f1)))) else (none)) else (some false)) else (some false))))
theorem laws_rangeAwake.mono : ∀ k, LeO (laws_rangeAwake.f k ) (laws_rangeAwake.f (k + 1) ) := by
  intro  k
  unfold laws_rangeAwake.f
  repeat' first
      | (with_reducible exact impl_RangesFindAll.mono _ _ _ _)
      | (with_reducible exact impl_RangesOf.mono _ _)
      | (with_reducible exact spec_RangesSame.mono _ _ _)
      | (with_reducible exact LeO.refl _)
      | (with_reducible exact LeO.none _)
      | (with_reducible refine LeO.ite ?_ ?_)
      | (with_reducible refine LeO.bind ?_ (fun _ => ?_))
      | exact impl_RangesFindAll.mono _ _ _ _
      | exact impl_RangesOf.mono _ _
      | exact spec_RangesSame.mono _ _ _
      | exact LeO.none _
      | refine LeO.ite ?_ ?_
      | refine LeO.bind ?_ (fun _ => ?_)
set_option maxHeartbeats 8000000 in
set_option maxRecDepth 100000 in
theorem laws_rangeAwake.calls (k : Nat)  (r : Bool) (w : World) (h : laws_rangeAwake.f k  = some r) :
    Calls Try.prog 13 #[] w fun e w' => e = .returned (.bool r) ∧ Below w.heap.size w w' := by
  have hu28 := Try.underlying28
  have hu37 := Try.underlying37
  have HB := Aside0.mk (Below.refl w.heap.size w)
  have H : ((impl_RangesOf.f k (([(⟨5, 5⟩ : S28), (⟨0, 5⟩ : S28)] : List (S28)))).bind fun t158 => ((impl_RangesFindAll.f k (([(⟨0, 2⟩ : S28), (⟨4, 2⟩ : S28)] : List (S28))) 1 4).bind fun t164 => ((spec_RangesSame.f k t158 (([(⟨0, 10⟩ : S28)] : List (S28)))).bind fun t170 => (if t170 = true then (if (t164.length : Int) = 3 then (if 1 < (t164.length : Int) then (some ((((rd_T37 t164 1).f0.f0) == 2 && (((rd_T37 t164 1).f0.f1) == 2)) && (!((rd_T37 t164 1).f1)))) else (none)) else (some false)) else (some false))))) = some r := h
  clear h
  obtain ⟨y155, hy155⟩ : ∃ y_ : List (S28), y_ = (([(⟨5, 5⟩ : S28), (⟨0, 5⟩ : S28)] : List (S28))) := ⟨_, rfl⟩
  replace H : ((impl_RangesOf.f k y155).bind fun t158 => ((impl_RangesFindAll.f k (([(⟨0, 2⟩ : S28), (⟨4, 2⟩ : S28)] : List (S28))) 1 4).bind fun t164 => ((spec_RangesSame.f k t158 (([(⟨0, 10⟩ : S28)] : List (S28)))).bind fun t170 => (if t170 = true then (if (t164.length : Int) = 3 then (if 1 < (t164.length : Int) then (some ((((rd_T37 t164 1).f0.f0) == 2 && (((rd_T37 t164 1).f0.f1) == 2)) && (!((rd_T37 t164 1).f1)))) else (none)) else (some false)) else (some false))))) = some r := by first | (rw [hy155]; with_reducible exact H) | (have H2_ := (Option.bind_some _ _).symm.trans H; rw [hy155]; with_reducible exact H2_) | (have H2_ := (Option.bind_some _ _).symm.trans H; with_reducible exact H2_) | with_reducible exact H | (rw [hy155]; exact H) | exact H
  have Ny155 := Aside0.mk hy155
  clear hy155
  replace H := Option.bind_eq_some_iff.mp H
  obtain ⟨t158, A10, H⟩ := H
  replace H : ((impl_RangesFindAll.f k (([(⟨0, 2⟩ : S28), (⟨4, 2⟩ : S28)] : List (S28))) 1 4).bind fun t164 => ((spec_RangesSame.f k t158 (([(⟨0, 10⟩ : S28)] : List (S28)))).bind fun t170 => (if t170 = true then (if (t164.length : Int) = 3 then (if 1 < (t164.length : Int) then (some ((((rd_T37 t164 1).f0.f0) == 2 && (((rd_T37 t164 1).f0.f1) == 2)) && (!((rd_T37 t164 1).f1)))) else (none)) else (some false)) else (some false)))) = some r := H
  have A1 := Aside0.mk A10
  clear A10
  obtain ⟨y161, hy161⟩ : ∃ y_ : List (S28), y_ = (([(⟨0, 2⟩ : S28), (⟨4, 2⟩ : S28)] : List (S28))) := ⟨_, rfl⟩
  replace H : ((impl_RangesFindAll.f k y161 1 4).bind fun t164 => ((spec_RangesSame.f k t158 (([(⟨0, 10⟩ : S28)] : List (S28)))).bind fun t170 => (if t170 = true then (if (t164.length : Int) = 3 then (if 1 < (t164.length : Int) then (some ((((rd_T37 t164 1).f0.f0) == 2 && (((rd_T37 t164 1).f0.f1) == 2)) && (!((rd_T37 t164 1).f1)))) else (none)) else (some false)) else (some false)))) = some r := by first | (rw [hy161]; with_reducible exact H) | (have H2_ := (Option.bind_some _ _).symm.trans H; rw [hy161]; with_reducible exact H2_) | (have H2_ := (Option.bind_some _ _).symm.trans H; with_reducible exact H2_) | with_reducible exact H | (rw [hy161]; exact H) | exact H
  have Ny161 := Aside0.mk hy161
  clear hy161
  replace H := Option.bind_eq_some_iff.mp H
  obtain ⟨t164, A20, H⟩ := H
  replace H : ((spec_RangesSame.f k t158 (([(⟨0, 10⟩ : S28)] : List (S28)))).bind fun t170 => (if t170 = true then (if (t164.length : Int) = 3 then (if 1 < (t164.length : Int) then (some ((((rd_T37 t164 1).f0.f0) == 2 && (((rd_T37 t164 1).f0.f1) == 2)) && (!((rd_T37 t164 1).f1)))) else (none)) else (some false)) else (some false))) = some r := H
  have A2 := Aside0.mk A20
  clear A20
  obtain ⟨y167, hy167⟩ : ∃ y_ : List (S28), y_ = (([(⟨0, 10⟩ : S28)] : List (S28))) := ⟨_, rfl⟩
  replace H : ((spec_RangesSame.f k t158 y167).bind fun t170 => (if t170 = true then (if (t164.length : Int) = 3 then (if 1 < (t164.length : Int) then (some ((((rd_T37 t164 1).f0.f0) == 2 && (((rd_T37 t164 1).f0.f1) == 2)) && (!((rd_T37 t164 1).f1)))) else (none)) else (some false)) else (some false))) = some r := by first | (rw [hy167]; with_reducible exact H) | (have H2_ := (Option.bind_some _ _).symm.trans H; rw [hy167]; with_reducible exact H2_) | (have H2_ := (Option.bind_some _ _).symm.trans H; with_reducible exact H2_) | with_reducible exact H | (rw [hy167]; exact H) | exact H
  have Ny167 := Aside0.mk hy167
  clear hy167
  replace H := Option.bind_eq_some_iff.mp H
  obtain ⟨t170, A30, H⟩ := H
  replace H : (if t170 = true then (if (t164.length : Int) = 3 then (if 1 < (t164.length : Int) then (some ((((rd_T37 t164 1).f0.f0) == 2 && (((rd_T37 t164 1).f0.f1) == 2)) && (!((rd_T37 t164 1).f1)))) else (none)) else (some false)) else (some false)) = some r := H
  have A3 := Aside0.mk A30
  clear A30
  by_cases c4 : t170 = true
  · subst c4
    have H1 : (if (t164.length : Int) = 3 then (if 1 < (t164.length : Int) then (some ((((rd_T37 t164 1).f0.f0) == 2 && (((rd_T37 t164 1).f0.f1) == 2)) && (!((rd_T37 t164 1).f1)))) else (none)) else (some false)) = some r := by rw [if_pos rfl] at H; exact H
    clear H
    have H := H1
    clear H1
    by_cases c5 : (t164.length : Int) = 3
    · rw [if_pos c5] at H
      have c5b0 : ((t164.length : Int) == 3) = true := beq_iff_eq.mpr c5
      have c5b1 : ((t164.length : Int) != 3) = false := bne_eq_false_iff_eq.mpr c5
      clear c5
      by_cases c6 : 1 < (t164.length : Int)
      · rw [if_pos c6] at H
        have c6b0 : decide (1 < (t164.length : Int)) = true := decide_eq_true c6
        have c6b1 : decide (1 < t164.length) = true := decide_eq_true (by omega)
        clear c6
        obtain rfl := Option.some.inj H
        go_enter Try.func13, Try.ntmps13
        go_wp2_with (first | ((with_reducible refine gate_dst (N := 5) rfl ?_); (try (refine gate_guard (by rfl) ?_; dsimp only)); refine Kd.R_lit k28 _ 28 ?hg (N := 5) ?hd (xs := ([(⟨5, 5⟩ : S28), (⟨0, 5⟩ : S28)] : List (S28))) (inner := [.int .i64 5, .int .i64 5, .int .i64 0, .int .i64 5]) (ok := fun _ => True) (okp := fun _ => True) ?hr ?hp (fun _ hk => hk) trivial (Below.refl _ _) (Nat.le_refl _) (by simp) ?_; (case hd => rfl); (case hg => rfl); (case hr => first | (go_simp; done) | (go_simp; rfl)); (case hp => exact (Reps.c2 (show Kd.M k28 _ _ _ (⟨5, 5⟩ : S28) [.int .i64 5, .int .i64 5] from (k28_mkM _ _ _ (⟨5, 5⟩ : S28) )) (Reps.c2 (show Kd.M k28 _ _ _ (⟨0, 5⟩ : S28) [.int .i64 0, .int .i64 5] from (k28_mkM _ _ _ (⟨0, 5⟩ : S28) )) (Reps.none _ _)))); intro v156 w7 ho8 hb hg_ hnew_; clear hg_ hnew_; (first | rw [← Ny155.out] at ho8 | (simp only [Int.reduceToNat] at ho8; rw [← Ny155.out] at ho8)); have n0_ := Aside0.mk (Kd.R_lower ho8 (below_size (by repeat (first | (with_reducible first | exact HB.out | apply below_alloc | apply pw_below_drewN | apply below_drew1) | exact HB.out)))); have n1_ := Aside0.mk (below_step (by repeat (first | (with_reducible first | exact HB.out | apply below_alloc | apply pw_below_drewN | apply below_drew1) | exact HB.out)) hb); clear HB; have HO157 := n0_; have HB := n1_; clear n0_ n1_; clear hb ho8; obtain ⟨Ao9, co9, eo9⟩ := Kd.R_slice HO157.out; subst eo9) | ((with_reducible refine gate_callee (f := 14) rfl ?_); refine goesL_ (some 6) rfl rfl Try.func14 (by kernel_rfl) rfl #[.slice Ao9 y155.length co9] rfl (by (try simp only [List.map_toArray, List.map_cons, List.map_nil]); first | done | rfl | (simp only [List.length_drop, List.length_take]; rfl)) ?_; (with_reducible refine (impl_RangesOf.calls k _ _ y155 t158 _ ?side1 ?side2 A1.out).mono ?_); (case side1 => repeat (first | exact (Kd.R_reads' HO157.out).2.2 | (with_reducible refine Kd.C_alloc ?_ _) | (with_reducible refine Kd.C_drewN ?_ _) | (with_reducible refine Kd.C_drew ?_))); (case side2 => exact (Kd.R_reads' HO157.out).2.1); rintro e w10 ⟨v159, rfl, ho0, hb⟩; refine ⟨_, rfl, ?_⟩; have n0_ := Aside0.mk (Kd.R_elder' (by (with_reducible repeat (first | apply Kd.R_alloc | apply Kd.R_drewN | apply Kd.R_drew)); exact HO157.out) (Kd.R_base ho0) hb); have n1_ := Aside0.mk (Kd.R_lower (Kd.R_new' ho0 (Kd.R_lt (by (with_reducible repeat (first | apply Kd.R_alloc | apply Kd.R_drewN | apply Kd.R_drew)); exact HO157.out))) (below_size (by repeat (first | (with_reducible first | exact HB.out | apply below_alloc | apply pw_below_drewN | apply below_drew1) | exact HB.out)))); have n2_ := Aside0.mk (below_step (by repeat (first | (with_reducible first | exact HB.out | apply below_alloc | apply pw_below_drewN | apply below_drew1) | exact HB.out)) hb); clear HO157; clear HB; have HO157 := n0_; have HO160 := n1_; have HB := n2_; clear n0_ n1_ n2_; (try clear hb); (try clear hb2); (try clear hk); (try clear hi); (try clear ho0)) | ((with_reducible refine gate_dst (N := 9) rfl ?_); (try (refine gate_guard (by rfl) ?_; dsimp only)); refine Kd.R_lit k28 _ 28 ?hg (N := 9) ?hd (xs := ([(⟨0, 2⟩ : S28), (⟨4, 2⟩ : S28)] : List (S28))) (inner := [.int .i64 0, .int .i64 2, .int .i64 4, .int .i64 2]) (ok := fun _ => True) (okp := fun _ => True) ?hr ?hp (fun _ hk => hk) trivial (Below.refl _ _) (Nat.le_refl _) (by simp) ?_; (case hd => rfl); (case hg => rfl); (case hr => first | (go_simp; done) | (go_simp; rfl)); (case hp => exact (Reps.c2 (show Kd.M k28 _ _ _ (⟨0, 2⟩ : S28) [.int .i64 0, .int .i64 2] from (k28_mkM _ _ _ (⟨0, 2⟩ : S28) )) (Reps.c2 (show Kd.M k28 _ _ _ (⟨4, 2⟩ : S28) [.int .i64 4, .int .i64 2] from (k28_mkM _ _ _ (⟨4, 2⟩ : S28) )) (Reps.none _ _)))); intro v162 w11 ho12 hb hg_ hnew_; clear hg_ hnew_; (first | rw [← Ny161.out] at ho12 | (simp only [Int.reduceToNat] at ho12; rw [← Ny161.out] at ho12)); have n0_ := Aside0.mk (Kd.R_elder' (by (with_reducible repeat (first | apply Kd.R_alloc | apply Kd.R_drewN | apply Kd.R_drew)); exact HO157.out) (Kd.R_base ho12) hb); have n1_ := Aside0.mk (Kd.R_elder' (by (with_reducible repeat (first | apply Kd.R_alloc | apply Kd.R_drewN | apply Kd.R_drew)); exact HO160.out) (Kd.R_base ho12) hb); have n2_ := Aside0.mk (Kd.R_lower (Kd.R_new' (Kd.R_new' ho12 (Kd.R_lt (by (with_reducible repeat (first | apply Kd.R_alloc | apply Kd.R_drewN | apply Kd.R_drew)); exact HO157.out))) (Kd.R_lt (by (with_reducible repeat (first | apply Kd.R_alloc | apply Kd.R_drewN | apply Kd.R_drew)); exact HO160.out))) (below_size (by repeat (first | (with_reducible first | exact HB.out | apply below_alloc | apply pw_below_drewN | apply below_drew1) | exact HB.out)))); have n3_ := Aside0.mk (below_step (by repeat (first | (with_reducible first | exact HB.out | apply below_alloc | apply pw_below_drewN | apply below_drew1) | exact HB.out)) hb); clear HO157; clear HO160; clear HB; have HO157 := n0_; have HO160 := n1_; have HO163 := n2_; have HB := n3_; clear n0_ n1_ n2_ n3_; clear hb ho12; obtain ⟨Ao13, co13, eo13⟩ := Kd.R_slice HO163.out; subst eo13) | ((with_reducible refine gate_callee (f := 18) rfl ?_); refine goesL_ (some 11) rfl rfl Try.func18 (by kernel_rfl) rfl #[.slice Ao13 y161.length co13, .agg #[.int .i64 1, .int .i64 4]] rfl (by (try simp only [List.map_toArray, List.map_cons, List.map_nil]); first | done | rfl | (simp only [List.length_drop, List.length_take]; rfl)) ?_; (with_reducible refine (impl_RangesFindAll.calls k _ _ y161 1 4 t164 _ ?side1 ?side2 A2.out).mono ?_); (case side1 => repeat (first | exact (Kd.R_reads' HO163.out).2.2 | (with_reducible refine Kd.C_alloc ?_ _) | (with_reducible refine Kd.C_drewN ?_ _) | (with_reducible refine Kd.C_drew ?_))); (case side2 => exact (Kd.R_reads' HO163.out).2.1); rintro e w14 ⟨v165, rfl, ho0, hb⟩; refine ⟨_, rfl, ?_⟩; have n0_ := Aside0.mk (Kd.R_below (by (with_reducible repeat (first | apply Kd.R_alloc | apply Kd.R_drewN | apply Kd.R_drew)); exact HO157.out) hb); have n1_ := Aside0.mk (Kd.R_below (by (with_reducible repeat (first | apply Kd.R_alloc | apply Kd.R_drewN | apply Kd.R_drew)); exact HO160.out) hb); have n2_ := Aside0.mk (Kd.R_below (by (with_reducible repeat (first | apply Kd.R_alloc | apply Kd.R_drewN | apply Kd.R_drew)); exact HO163.out) hb); have n3_ := Aside0.mk (Kd.R_lower ho0 (below_size (by repeat (first | (with_reducible first | exact HB.out | apply below_alloc | apply pw_below_drewN | apply below_drew1) | exact HB.out)))); have n4_ := Aside0.mk (below_step (by repeat (first | (with_reducible first | exact HB.out | apply below_alloc | apply pw_below_drewN | apply below_drew1) | exact HB.out)) hb); clear HO157; clear HO160; clear HO163; clear HB; have HO157 := n0_; have HO160 := n1_; have HO163 := n2_; have HO166 := n3_; have HB := n4_; clear n0_ n1_ n2_ n3_ n4_; (try clear hb); (try clear hb2); (try clear hk); (try clear hi); (try clear ho0)) | ((with_reducible refine gate_dst (N := 14) rfl ?_); (try (refine gate_guard (by rfl) ?_; dsimp only)); refine Kd.R_lit k28 _ 28 ?hg (N := 14) ?hd (xs := ([(⟨0, 10⟩ : S28)] : List (S28))) (inner := [.int .i64 0, .int .i64 10]) (ok := fun _ => True) (okp := fun _ => True) ?hr ?hp (fun _ hk => hk) trivial (Below.refl _ _) (Nat.le_refl _) (by simp) ?_; (case hd => rfl); (case hg => rfl); (case hr => first | (go_simp; done) | (go_simp; rfl)); (case hp => exact (Reps.c2 (show Kd.M k28 _ _ _ (⟨0, 10⟩ : S28) [.int .i64 0, .int .i64 10] from (k28_mkM _ _ _ (⟨0, 10⟩ : S28) )) (Reps.none _ _))); intro v168 w15 ho16 hb hg_ hnew_; clear hg_ hnew_; (first | rw [← Ny167.out] at ho16 | (simp only [Int.reduceToNat] at ho16; rw [← Ny167.out] at ho16)); have n0_ := Aside0.mk (Kd.R_elder' (by (with_reducible repeat (first | apply Kd.R_alloc | apply Kd.R_drewN | apply Kd.R_drew)); exact HO157.out) (Kd.R_base ho16) hb); have n1_ := Aside0.mk (Kd.R_elder' (by (with_reducible repeat (first | apply Kd.R_alloc | apply Kd.R_drewN | apply Kd.R_drew)); exact HO160.out) (Kd.R_base ho16) hb); have n2_ := Aside0.mk (Kd.R_elder' (by (with_reducible repeat (first | apply Kd.R_alloc | apply Kd.R_drewN | apply Kd.R_drew)); exact HO163.out) (Kd.R_base ho16) hb); have n3_ := Aside0.mk (Kd.R_below (by (with_reducible repeat (first | apply Kd.R_alloc | apply Kd.R_drewN | apply Kd.R_drew)); exact HO166.out) hb); have n4_ := Aside0.mk (Kd.R_lower (Kd.R_new' (Kd.R_new' (Kd.R_new' ho16 (Kd.R_lt (by (with_reducible repeat (first | apply Kd.R_alloc | apply Kd.R_drewN | apply Kd.R_drew)); exact HO157.out))) (Kd.R_lt (by (with_reducible repeat (first | apply Kd.R_alloc | apply Kd.R_drewN | apply Kd.R_drew)); exact HO160.out))) (Kd.R_lt (by (with_reducible repeat (first | apply Kd.R_alloc | apply Kd.R_drewN | apply Kd.R_drew)); exact HO163.out))) (below_size (by repeat (first | (with_reducible first | exact HB.out | apply below_alloc | apply pw_below_drewN | apply below_drew1) | exact HB.out)))); have n5_ := Aside0.mk (below_step (by repeat (first | (with_reducible first | exact HB.out | apply below_alloc | apply pw_below_drewN | apply below_drew1) | exact HB.out)) hb); clear HO157; clear HO160; clear HO163; clear HO166; clear HB; have HO157 := n0_; have HO160 := n1_; have HO163 := n2_; have HO166 := n3_; have HO169 := n4_; have HB := n5_; clear n0_ n1_ n2_ n3_ n4_ n5_; clear hb ho16; obtain ⟨Ao17, co17, eo17⟩ := Kd.R_slice HO160.out; subst eo17; obtain ⟨Ao18, co18, eo18⟩ := Kd.R_slice HO169.out; subst eo18) | ((with_reducible refine gate_callee (f := 15) rfl ?_); refine goesL_ (some 15) rfl rfl Try.func15 (by kernel_rfl) rfl #[.slice Ao17 t158.length co17, .slice Ao18 y167.length co18] rfl (by (try simp only [List.map_toArray, List.map_cons, List.map_nil]); first | done | rfl | (simp only [List.length_drop, List.length_take]; rfl)) ?_; (with_reducible refine (spec_RangesSame.calls k _ _ t158 _ _ y167 true _ ?side1 ?side2 ?side3 ?side4 A3.out).mono ?_); (case side1 => repeat (first | exact (Kd.R_reads' HO160.out).2.2 | (with_reducible refine Kd.C_alloc ?_ _) | (with_reducible refine Kd.C_drewN ?_ _) | (with_reducible refine Kd.C_drew ?_))); (case side2 => exact (Kd.R_reads' HO160.out).2.1); (case side3 => repeat (first | exact (Kd.R_reads' HO169.out).2.2 | (with_reducible refine Kd.C_alloc ?_ _) | (with_reducible refine Kd.C_drewN ?_ _) | (with_reducible refine Kd.C_drew ?_))); (case side4 => exact (Kd.R_reads' HO169.out).2.1); rintro e w' ⟨rfl, ⟨nd, rfl⟩⟩; refine ⟨_, rfl, ?_⟩; obtain ⟨Ao19, co19, eo19⟩ := Kd.R_slice HO166.out; subst eo19; have p171 : 0 ≤ (1 : Int) := (by omega); have q171 : 1 < (t164.length : Int) := of_decide_eq_true (by first | (with_reducible assumption) | assumption); obtain ⟨ad171, e171, hx171_0, hx171_1, hx171_2⟩ := at_T37 (Kd.R_reads' HO166.out).2.2 1 p171 q171; cases e171; (try simp only [show (1 : Int).toNat = 1 from rfl, Nat.reduceMul, Nat.reduceEqDiff, Go.Addr.add, ↓reduceIte] at hx171_0); (try simp only [show (1 : Int).toNat = 1 from rfl, Nat.reduceMul, Nat.reduceEqDiff, Go.Addr.add, ↓reduceIte] at hx171_1); (try simp only [show (1 : Int).toNat = 1 from rfl, Nat.reduceMul, Nat.reduceEqDiff, Go.Addr.add, ↓reduceIte] at hx171_2); have qi171 : (1 < t164.length) = True := eq_true (by omega); (try rw [show ((1 : Int)).toNat = 1 from rfl] at hx171_0); (try rw [show 1 * 3 = 3 from rfl] at hx171_0); (try rw [show ((1 : Int)).toNat = 1 from rfl] at hx171_1); (try rw [show 1 * 3 = 3 from rfl] at hx171_1); (try rw [show ((1 : Int)).toNat = 1 from rfl] at hx171_2); (try rw [show 1 * 3 = 3 from rfl] at hx171_2); replace p171 := eq_true p171; replace q171 := eq_true q171))
        go_ret
        exact ⟨by first | rfl | (simp [errW_none, errW_some] <;> rfl) | (simp [*, errW_none, errW_some] <;> rfl), by repeat (first | (with_reducible first | exact HB.out | apply below_alloc | apply pw_below_drewN | apply below_drew1) | exact HB.out)⟩
      · rw [if_neg c6] at H
        exact absurd H (by simp)
    · rw [if_neg c5] at H
      have c5b0 : ((t164.length : Int) == 3) = false := beq_eq_false_iff_ne.mpr c5
      have c5b1 : ((t164.length : Int) != 3) = true := bne_iff_ne.mpr c5
      obtain rfl := Option.some.inj H
      go_enter Try.func13, Try.ntmps13
      go_wp2_with (first | ((with_reducible refine gate_dst (N := 5) rfl ?_); (try (refine gate_guard (by rfl) ?_; dsimp only)); refine Kd.R_lit k28 _ 28 ?hg (N := 5) ?hd (xs := ([(⟨5, 5⟩ : S28), (⟨0, 5⟩ : S28)] : List (S28))) (inner := [.int .i64 5, .int .i64 5, .int .i64 0, .int .i64 5]) (ok := fun _ => True) (okp := fun _ => True) ?hr ?hp (fun _ hk => hk) trivial (Below.refl _ _) (Nat.le_refl _) (by simp) ?_; (case hd => rfl); (case hg => rfl); (case hr => first | (go_simp; done) | (go_simp; rfl)); (case hp => exact (Reps.c2 (show Kd.M k28 _ _ _ (⟨5, 5⟩ : S28) [.int .i64 5, .int .i64 5] from (k28_mkM _ _ _ (⟨5, 5⟩ : S28) )) (Reps.c2 (show Kd.M k28 _ _ _ (⟨0, 5⟩ : S28) [.int .i64 0, .int .i64 5] from (k28_mkM _ _ _ (⟨0, 5⟩ : S28) )) (Reps.none _ _)))); intro v156 w20 ho21 hb hg_ hnew_; clear hg_ hnew_; (first | rw [← Ny155.out] at ho21 | (simp only [Int.reduceToNat] at ho21; rw [← Ny155.out] at ho21)); have n0_ := Aside0.mk (Kd.R_lower ho21 (below_size (by repeat (first | (with_reducible first | exact HB.out | apply below_alloc | apply pw_below_drewN | apply below_drew1) | exact HB.out)))); have n1_ := Aside0.mk (below_step (by repeat (first | (with_reducible first | exact HB.out | apply below_alloc | apply pw_below_drewN | apply below_drew1) | exact HB.out)) hb); clear HB; have HO157 := n0_; have HB := n1_; clear n0_ n1_; clear hb ho21; obtain ⟨Ao22, co22, eo22⟩ := Kd.R_slice HO157.out; subst eo22) | ((with_reducible refine gate_callee (f := 14) rfl ?_); refine goesL_ (some 6) rfl rfl Try.func14 (by kernel_rfl) rfl #[.slice Ao22 y155.length co22] rfl (by (try simp only [List.map_toArray, List.map_cons, List.map_nil]); first | done | rfl | (simp only [List.length_drop, List.length_take]; rfl)) ?_; (with_reducible refine (impl_RangesOf.calls k _ _ y155 t158 _ ?side1 ?side2 A1.out).mono ?_); (case side1 => repeat (first | exact (Kd.R_reads' HO157.out).2.2 | (with_reducible refine Kd.C_alloc ?_ _) | (with_reducible refine Kd.C_drewN ?_ _) | (with_reducible refine Kd.C_drew ?_))); (case side2 => exact (Kd.R_reads' HO157.out).2.1); rintro e w23 ⟨v159, rfl, ho0, hb⟩; refine ⟨_, rfl, ?_⟩; have n0_ := Aside0.mk (Kd.R_elder' (by (with_reducible repeat (first | apply Kd.R_alloc | apply Kd.R_drewN | apply Kd.R_drew)); exact HO157.out) (Kd.R_base ho0) hb); have n1_ := Aside0.mk (Kd.R_lower (Kd.R_new' ho0 (Kd.R_lt (by (with_reducible repeat (first | apply Kd.R_alloc | apply Kd.R_drewN | apply Kd.R_drew)); exact HO157.out))) (below_size (by repeat (first | (with_reducible first | exact HB.out | apply below_alloc | apply pw_below_drewN | apply below_drew1) | exact HB.out)))); have n2_ := Aside0.mk (below_step (by repeat (first | (with_reducible first | exact HB.out | apply below_alloc | apply pw_below_drewN | apply below_drew1) | exact HB.out)) hb); clear HO157; clear HB; have HO157 := n0_; have HO160 := n1_; have HB := n2_; clear n0_ n1_ n2_; (try clear hb); (try clear hb2); (try clear hk); (try clear hi); (try clear ho0)) | ((with_reducible refine gate_dst (N := 9) rfl ?_); (try (refine gate_guard (by rfl) ?_; dsimp only)); refine Kd.R_lit k28 _ 28 ?hg (N := 9) ?hd (xs := ([(⟨0, 2⟩ : S28), (⟨4, 2⟩ : S28)] : List (S28))) (inner := [.int .i64 0, .int .i64 2, .int .i64 4, .int .i64 2]) (ok := fun _ => True) (okp := fun _ => True) ?hr ?hp (fun _ hk => hk) trivial (Below.refl _ _) (Nat.le_refl _) (by simp) ?_; (case hd => rfl); (case hg => rfl); (case hr => first | (go_simp; done) | (go_simp; rfl)); (case hp => exact (Reps.c2 (show Kd.M k28 _ _ _ (⟨0, 2⟩ : S28) [.int .i64 0, .int .i64 2] from (k28_mkM _ _ _ (⟨0, 2⟩ : S28) )) (Reps.c2 (show Kd.M k28 _ _ _ (⟨4, 2⟩ : S28) [.int .i64 4, .int .i64 2] from (k28_mkM _ _ _ (⟨4, 2⟩ : S28) )) (Reps.none _ _)))); intro v162 w24 ho25 hb hg_ hnew_; clear hg_ hnew_; (first | rw [← Ny161.out] at ho25 | (simp only [Int.reduceToNat] at ho25; rw [← Ny161.out] at ho25)); have n0_ := Aside0.mk (Kd.R_elder' (by (with_reducible repeat (first | apply Kd.R_alloc | apply Kd.R_drewN | apply Kd.R_drew)); exact HO157.out) (Kd.R_base ho25) hb); have n1_ := Aside0.mk (Kd.R_elder' (by (with_reducible repeat (first | apply Kd.R_alloc | apply Kd.R_drewN | apply Kd.R_drew)); exact HO160.out) (Kd.R_base ho25) hb); have n2_ := Aside0.mk (Kd.R_lower (Kd.R_new' (Kd.R_new' ho25 (Kd.R_lt (by (with_reducible repeat (first | apply Kd.R_alloc | apply Kd.R_drewN | apply Kd.R_drew)); exact HO157.out))) (Kd.R_lt (by (with_reducible repeat (first | apply Kd.R_alloc | apply Kd.R_drewN | apply Kd.R_drew)); exact HO160.out))) (below_size (by repeat (first | (with_reducible first | exact HB.out | apply below_alloc | apply pw_below_drewN | apply below_drew1) | exact HB.out)))); have n3_ := Aside0.mk (below_step (by repeat (first | (with_reducible first | exact HB.out | apply below_alloc | apply pw_below_drewN | apply below_drew1) | exact HB.out)) hb); clear HO157; clear HO160; clear HB; have HO157 := n0_; have HO160 := n1_; have HO163 := n2_; have HB := n3_; clear n0_ n1_ n2_ n3_; clear hb ho25; obtain ⟨Ao26, co26, eo26⟩ := Kd.R_slice HO163.out; subst eo26) | ((with_reducible refine gate_callee (f := 18) rfl ?_); refine goesL_ (some 11) rfl rfl Try.func18 (by kernel_rfl) rfl #[.slice Ao26 y161.length co26, .agg #[.int .i64 1, .int .i64 4]] rfl (by (try simp only [List.map_toArray, List.map_cons, List.map_nil]); first | done | rfl | (simp only [List.length_drop, List.length_take]; rfl)) ?_; (with_reducible refine (impl_RangesFindAll.calls k _ _ y161 1 4 t164 _ ?side1 ?side2 A2.out).mono ?_); (case side1 => repeat (first | exact (Kd.R_reads' HO163.out).2.2 | (with_reducible refine Kd.C_alloc ?_ _) | (with_reducible refine Kd.C_drewN ?_ _) | (with_reducible refine Kd.C_drew ?_))); (case side2 => exact (Kd.R_reads' HO163.out).2.1); rintro e w27 ⟨v165, rfl, ho0, hb⟩; refine ⟨_, rfl, ?_⟩; have n0_ := Aside0.mk (Kd.R_below (by (with_reducible repeat (first | apply Kd.R_alloc | apply Kd.R_drewN | apply Kd.R_drew)); exact HO157.out) hb); have n1_ := Aside0.mk (Kd.R_below (by (with_reducible repeat (first | apply Kd.R_alloc | apply Kd.R_drewN | apply Kd.R_drew)); exact HO160.out) hb); have n2_ := Aside0.mk (Kd.R_below (by (with_reducible repeat (first | apply Kd.R_alloc | apply Kd.R_drewN | apply Kd.R_drew)); exact HO163.out) hb); have n3_ := Aside0.mk (Kd.R_lower ho0 (below_size (by repeat (first | (with_reducible first | exact HB.out | apply below_alloc | apply pw_below_drewN | apply below_drew1) | exact HB.out)))); have n4_ := Aside0.mk (below_step (by repeat (first | (with_reducible first | exact HB.out | apply below_alloc | apply pw_below_drewN | apply below_drew1) | exact HB.out)) hb); clear HO157; clear HO160; clear HO163; clear HB; have HO157 := n0_; have HO160 := n1_; have HO163 := n2_; have HO166 := n3_; have HB := n4_; clear n0_ n1_ n2_ n3_ n4_; (try clear hb); (try clear hb2); (try clear hk); (try clear hi); (try clear ho0)) | ((with_reducible refine gate_dst (N := 14) rfl ?_); (try (refine gate_guard (by rfl) ?_; dsimp only)); refine Kd.R_lit k28 _ 28 ?hg (N := 14) ?hd (xs := ([(⟨0, 10⟩ : S28)] : List (S28))) (inner := [.int .i64 0, .int .i64 10]) (ok := fun _ => True) (okp := fun _ => True) ?hr ?hp (fun _ hk => hk) trivial (Below.refl _ _) (Nat.le_refl _) (by simp) ?_; (case hd => rfl); (case hg => rfl); (case hr => first | (go_simp; done) | (go_simp; rfl)); (case hp => exact (Reps.c2 (show Kd.M k28 _ _ _ (⟨0, 10⟩ : S28) [.int .i64 0, .int .i64 10] from (k28_mkM _ _ _ (⟨0, 10⟩ : S28) )) (Reps.none _ _))); intro v168 w28 ho29 hb hg_ hnew_; clear hg_ hnew_; (first | rw [← Ny167.out] at ho29 | (simp only [Int.reduceToNat] at ho29; rw [← Ny167.out] at ho29)); have n0_ := Aside0.mk (Kd.R_elder' (by (with_reducible repeat (first | apply Kd.R_alloc | apply Kd.R_drewN | apply Kd.R_drew)); exact HO157.out) (Kd.R_base ho29) hb); have n1_ := Aside0.mk (Kd.R_elder' (by (with_reducible repeat (first | apply Kd.R_alloc | apply Kd.R_drewN | apply Kd.R_drew)); exact HO160.out) (Kd.R_base ho29) hb); have n2_ := Aside0.mk (Kd.R_elder' (by (with_reducible repeat (first | apply Kd.R_alloc | apply Kd.R_drewN | apply Kd.R_drew)); exact HO163.out) (Kd.R_base ho29) hb); have n3_ := Aside0.mk (Kd.R_below (by (with_reducible repeat (first | apply Kd.R_alloc | apply Kd.R_drewN | apply Kd.R_drew)); exact HO166.out) hb); have n4_ := Aside0.mk (Kd.R_lower (Kd.R_new' (Kd.R_new' (Kd.R_new' ho29 (Kd.R_lt (by (with_reducible repeat (first | apply Kd.R_alloc | apply Kd.R_drewN | apply Kd.R_drew)); exact HO157.out))) (Kd.R_lt (by (with_reducible repeat (first | apply Kd.R_alloc | apply Kd.R_drewN | apply Kd.R_drew)); exact HO160.out))) (Kd.R_lt (by (with_reducible repeat (first | apply Kd.R_alloc | apply Kd.R_drewN | apply Kd.R_drew)); exact HO163.out))) (below_size (by repeat (first | (with_reducible first | exact HB.out | apply below_alloc | apply pw_below_drewN | apply below_drew1) | exact HB.out)))); have n5_ := Aside0.mk (below_step (by repeat (first | (with_reducible first | exact HB.out | apply below_alloc | apply pw_below_drewN | apply below_drew1) | exact HB.out)) hb); clear HO157; clear HO160; clear HO163; clear HO166; clear HB; have HO157 := n0_; have HO160 := n1_; have HO163 := n2_; have HO166 := n3_; have HO169 := n4_; have HB := n5_; clear n0_ n1_ n2_ n3_ n4_ n5_; clear hb ho29; obtain ⟨Ao30, co30, eo30⟩ := Kd.R_slice HO160.out; subst eo30; obtain ⟨Ao31, co31, eo31⟩ := Kd.R_slice HO169.out; subst eo31) | ((with_reducible refine gate_callee (f := 15) rfl ?_); refine goesL_ (some 15) rfl rfl Try.func15 (by kernel_rfl) rfl #[.slice Ao30 t158.length co30, .slice Ao31 y167.length co31] rfl (by (try simp only [List.map_toArray, List.map_cons, List.map_nil]); first | done | rfl | (simp only [List.length_drop, List.length_take]; rfl)) ?_; (with_reducible refine (spec_RangesSame.calls k _ _ t158 _ _ y167 true _ ?side1 ?side2 ?side3 ?side4 A3.out).mono ?_); (case side1 => repeat (first | exact (Kd.R_reads' HO160.out).2.2 | (with_reducible refine Kd.C_alloc ?_ _) | (with_reducible refine Kd.C_drewN ?_ _) | (with_reducible refine Kd.C_drew ?_))); (case side2 => exact (Kd.R_reads' HO160.out).2.1); (case side3 => repeat (first | exact (Kd.R_reads' HO169.out).2.2 | (with_reducible refine Kd.C_alloc ?_ _) | (with_reducible refine Kd.C_drewN ?_ _) | (with_reducible refine Kd.C_drew ?_))); (case side4 => exact (Kd.R_reads' HO169.out).2.1); rintro e w' ⟨rfl, ⟨nd, rfl⟩⟩; refine ⟨_, rfl, ?_⟩; obtain ⟨Ao32, co32, eo32⟩ := Kd.R_slice HO166.out; subst eo32))
      go_ret
      exact ⟨by first | rfl | (simp [errW_none, errW_some] <;> rfl) | (simp [*, errW_none, errW_some] <;> rfl), by repeat (first | (with_reducible first | exact HB.out | apply below_alloc | apply pw_below_drewN | apply below_drew1) | exact HB.out)⟩
  · replace c4 := Bool.eq_false_iff.mpr c4
    subst c4
    have H1 : (some false) = some r := by rw [if_neg (show ¬ (false = true) by decide)] at H; exact H
    clear H
    have H := H1
    clear H1
    obtain rfl := Option.some.inj H
    go_enter Try.func13, Try.ntmps13
    go_wp2_with (first | ((with_reducible refine gate_dst (N := 5) rfl ?_); (try (refine gate_guard (by rfl) ?_; dsimp only)); refine Kd.R_lit k28 _ 28 ?hg (N := 5) ?hd (xs := ([(⟨5, 5⟩ : S28), (⟨0, 5⟩ : S28)] : List (S28))) (inner := [.int .i64 5, .int .i64 5, .int .i64 0, .int .i64 5]) (ok := fun _ => True) (okp := fun _ => True) ?hr ?hp (fun _ hk => hk) trivial (Below.refl _ _) (Nat.le_refl _) (by simp) ?_; (case hd => rfl); (case hg => rfl); (case hr => first | (go_simp; done) | (go_simp; rfl)); (case hp => exact (Reps.c2 (show Kd.M k28 _ _ _ (⟨5, 5⟩ : S28) [.int .i64 5, .int .i64 5] from (k28_mkM _ _ _ (⟨5, 5⟩ : S28) )) (Reps.c2 (show Kd.M k28 _ _ _ (⟨0, 5⟩ : S28) [.int .i64 0, .int .i64 5] from (k28_mkM _ _ _ (⟨0, 5⟩ : S28) )) (Reps.none _ _)))); intro v156 w33 ho34 hb hg_ hnew_; clear hg_ hnew_; (first | rw [← Ny155.out] at ho34 | (simp only [Int.reduceToNat] at ho34; rw [← Ny155.out] at ho34)); have n0_ := Aside0.mk (Kd.R_lower ho34 (below_size (by repeat (first | (with_reducible first | exact HB.out | apply below_alloc | apply pw_below_drewN | apply below_drew1) | exact HB.out)))); have n1_ := Aside0.mk (below_step (by repeat (first | (with_reducible first | exact HB.out | apply below_alloc | apply pw_below_drewN | apply below_drew1) | exact HB.out)) hb); clear HB; have HO157 := n0_; have HB := n1_; clear n0_ n1_; clear hb ho34; obtain ⟨Ao35, co35, eo35⟩ := Kd.R_slice HO157.out; subst eo35) | ((with_reducible refine gate_callee (f := 14) rfl ?_); refine goesL_ (some 6) rfl rfl Try.func14 (by kernel_rfl) rfl #[.slice Ao35 y155.length co35] rfl (by (try simp only [List.map_toArray, List.map_cons, List.map_nil]); first | done | rfl | (simp only [List.length_drop, List.length_take]; rfl)) ?_; (with_reducible refine (impl_RangesOf.calls k _ _ y155 t158 _ ?side1 ?side2 A1.out).mono ?_); (case side1 => repeat (first | exact (Kd.R_reads' HO157.out).2.2 | (with_reducible refine Kd.C_alloc ?_ _) | (with_reducible refine Kd.C_drewN ?_ _) | (with_reducible refine Kd.C_drew ?_))); (case side2 => exact (Kd.R_reads' HO157.out).2.1); rintro e w36 ⟨v159, rfl, ho0, hb⟩; refine ⟨_, rfl, ?_⟩; have n0_ := Aside0.mk (Kd.R_elder' (by (with_reducible repeat (first | apply Kd.R_alloc | apply Kd.R_drewN | apply Kd.R_drew)); exact HO157.out) (Kd.R_base ho0) hb); have n1_ := Aside0.mk (Kd.R_lower (Kd.R_new' ho0 (Kd.R_lt (by (with_reducible repeat (first | apply Kd.R_alloc | apply Kd.R_drewN | apply Kd.R_drew)); exact HO157.out))) (below_size (by repeat (first | (with_reducible first | exact HB.out | apply below_alloc | apply pw_below_drewN | apply below_drew1) | exact HB.out)))); have n2_ := Aside0.mk (below_step (by repeat (first | (with_reducible first | exact HB.out | apply below_alloc | apply pw_below_drewN | apply below_drew1) | exact HB.out)) hb); clear HO157; clear HB; have HO157 := n0_; have HO160 := n1_; have HB := n2_; clear n0_ n1_ n2_; (try clear hb); (try clear hb2); (try clear hk); (try clear hi); (try clear ho0)) | ((with_reducible refine gate_dst (N := 9) rfl ?_); (try (refine gate_guard (by rfl) ?_; dsimp only)); refine Kd.R_lit k28 _ 28 ?hg (N := 9) ?hd (xs := ([(⟨0, 2⟩ : S28), (⟨4, 2⟩ : S28)] : List (S28))) (inner := [.int .i64 0, .int .i64 2, .int .i64 4, .int .i64 2]) (ok := fun _ => True) (okp := fun _ => True) ?hr ?hp (fun _ hk => hk) trivial (Below.refl _ _) (Nat.le_refl _) (by simp) ?_; (case hd => rfl); (case hg => rfl); (case hr => first | (go_simp; done) | (go_simp; rfl)); (case hp => exact (Reps.c2 (show Kd.M k28 _ _ _ (⟨0, 2⟩ : S28) [.int .i64 0, .int .i64 2] from (k28_mkM _ _ _ (⟨0, 2⟩ : S28) )) (Reps.c2 (show Kd.M k28 _ _ _ (⟨4, 2⟩ : S28) [.int .i64 4, .int .i64 2] from (k28_mkM _ _ _ (⟨4, 2⟩ : S28) )) (Reps.none _ _)))); intro v162 w37 ho38 hb hg_ hnew_; clear hg_ hnew_; (first | rw [← Ny161.out] at ho38 | (simp only [Int.reduceToNat] at ho38; rw [← Ny161.out] at ho38)); have n0_ := Aside0.mk (Kd.R_elder' (by (with_reducible repeat (first | apply Kd.R_alloc | apply Kd.R_drewN | apply Kd.R_drew)); exact HO157.out) (Kd.R_base ho38) hb); have n1_ := Aside0.mk (Kd.R_elder' (by (with_reducible repeat (first | apply Kd.R_alloc | apply Kd.R_drewN | apply Kd.R_drew)); exact HO160.out) (Kd.R_base ho38) hb); have n2_ := Aside0.mk (Kd.R_lower (Kd.R_new' (Kd.R_new' ho38 (Kd.R_lt (by (with_reducible repeat (first | apply Kd.R_alloc | apply Kd.R_drewN | apply Kd.R_drew)); exact HO157.out))) (Kd.R_lt (by (with_reducible repeat (first | apply Kd.R_alloc | apply Kd.R_drewN | apply Kd.R_drew)); exact HO160.out))) (below_size (by repeat (first | (with_reducible first | exact HB.out | apply below_alloc | apply pw_below_drewN | apply below_drew1) | exact HB.out)))); have n3_ := Aside0.mk (below_step (by repeat (first | (with_reducible first | exact HB.out | apply below_alloc | apply pw_below_drewN | apply below_drew1) | exact HB.out)) hb); clear HO157; clear HO160; clear HB; have HO157 := n0_; have HO160 := n1_; have HO163 := n2_; have HB := n3_; clear n0_ n1_ n2_ n3_; clear hb ho38; obtain ⟨Ao39, co39, eo39⟩ := Kd.R_slice HO163.out; subst eo39) | ((with_reducible refine gate_callee (f := 18) rfl ?_); refine goesL_ (some 11) rfl rfl Try.func18 (by kernel_rfl) rfl #[.slice Ao39 y161.length co39, .agg #[.int .i64 1, .int .i64 4]] rfl (by (try simp only [List.map_toArray, List.map_cons, List.map_nil]); first | done | rfl | (simp only [List.length_drop, List.length_take]; rfl)) ?_; (with_reducible refine (impl_RangesFindAll.calls k _ _ y161 1 4 t164 _ ?side1 ?side2 A2.out).mono ?_); (case side1 => repeat (first | exact (Kd.R_reads' HO163.out).2.2 | (with_reducible refine Kd.C_alloc ?_ _) | (with_reducible refine Kd.C_drewN ?_ _) | (with_reducible refine Kd.C_drew ?_))); (case side2 => exact (Kd.R_reads' HO163.out).2.1); rintro e w40 ⟨v165, rfl, ho0, hb⟩; refine ⟨_, rfl, ?_⟩; have n0_ := Aside0.mk (Kd.R_below (by (with_reducible repeat (first | apply Kd.R_alloc | apply Kd.R_drewN | apply Kd.R_drew)); exact HO157.out) hb); have n1_ := Aside0.mk (Kd.R_below (by (with_reducible repeat (first | apply Kd.R_alloc | apply Kd.R_drewN | apply Kd.R_drew)); exact HO160.out) hb); have n2_ := Aside0.mk (Kd.R_below (by (with_reducible repeat (first | apply Kd.R_alloc | apply Kd.R_drewN | apply Kd.R_drew)); exact HO163.out) hb); have n3_ := Aside0.mk (Kd.R_lower ho0 (below_size (by repeat (first | (with_reducible first | exact HB.out | apply below_alloc | apply pw_below_drewN | apply below_drew1) | exact HB.out)))); have n4_ := Aside0.mk (below_step (by repeat (first | (with_reducible first | exact HB.out | apply below_alloc | apply pw_below_drewN | apply below_drew1) | exact HB.out)) hb); clear HO157; clear HO160; clear HO163; clear HB; have HO157 := n0_; have HO160 := n1_; have HO163 := n2_; have HO166 := n3_; have HB := n4_; clear n0_ n1_ n2_ n3_ n4_; (try clear hb); (try clear hb2); (try clear hk); (try clear hi); (try clear ho0)) | ((with_reducible refine gate_dst (N := 14) rfl ?_); (try (refine gate_guard (by rfl) ?_; dsimp only)); refine Kd.R_lit k28 _ 28 ?hg (N := 14) ?hd (xs := ([(⟨0, 10⟩ : S28)] : List (S28))) (inner := [.int .i64 0, .int .i64 10]) (ok := fun _ => True) (okp := fun _ => True) ?hr ?hp (fun _ hk => hk) trivial (Below.refl _ _) (Nat.le_refl _) (by simp) ?_; (case hd => rfl); (case hg => rfl); (case hr => first | (go_simp; done) | (go_simp; rfl)); (case hp => exact (Reps.c2 (show Kd.M k28 _ _ _ (⟨0, 10⟩ : S28) [.int .i64 0, .int .i64 10] from (k28_mkM _ _ _ (⟨0, 10⟩ : S28) )) (Reps.none _ _))); intro v168 w41 ho42 hb hg_ hnew_; clear hg_ hnew_; (first | rw [← Ny167.out] at ho42 | (simp only [Int.reduceToNat] at ho42; rw [← Ny167.out] at ho42)); have n0_ := Aside0.mk (Kd.R_elder' (by (with_reducible repeat (first | apply Kd.R_alloc | apply Kd.R_drewN | apply Kd.R_drew)); exact HO157.out) (Kd.R_base ho42) hb); have n1_ := Aside0.mk (Kd.R_elder' (by (with_reducible repeat (first | apply Kd.R_alloc | apply Kd.R_drewN | apply Kd.R_drew)); exact HO160.out) (Kd.R_base ho42) hb); have n2_ := Aside0.mk (Kd.R_elder' (by (with_reducible repeat (first | apply Kd.R_alloc | apply Kd.R_drewN | apply Kd.R_drew)); exact HO163.out) (Kd.R_base ho42) hb); have n3_ := Aside0.mk (Kd.R_below (by (with_reducible repeat (first | apply Kd.R_alloc | apply Kd.R_drewN | apply Kd.R_drew)); exact HO166.out) hb); have n4_ := Aside0.mk (Kd.R_lower (Kd.R_new' (Kd.R_new' (Kd.R_new' ho42 (Kd.R_lt (by (with_reducible repeat (first | apply Kd.R_alloc | apply Kd.R_drewN | apply Kd.R_drew)); exact HO157.out))) (Kd.R_lt (by (with_reducible repeat (first | apply Kd.R_alloc | apply Kd.R_drewN | apply Kd.R_drew)); exact HO160.out))) (Kd.R_lt (by (with_reducible repeat (first | apply Kd.R_alloc | apply Kd.R_drewN | apply Kd.R_drew)); exact HO163.out))) (below_size (by repeat (first | (with_reducible first | exact HB.out | apply below_alloc | apply pw_below_drewN | apply below_drew1) | exact HB.out)))); have n5_ := Aside0.mk (below_step (by repeat (first | (with_reducible first | exact HB.out | apply below_alloc | apply pw_below_drewN | apply below_drew1) | exact HB.out)) hb); clear HO157; clear HO160; clear HO163; clear HO166; clear HB; have HO157 := n0_; have HO160 := n1_; have HO163 := n2_; have HO166 := n3_; have HO169 := n4_; have HB := n5_; clear n0_ n1_ n2_ n3_ n4_ n5_; clear hb ho42; obtain ⟨Ao43, co43, eo43⟩ := Kd.R_slice HO160.out; subst eo43; obtain ⟨Ao44, co44, eo44⟩ := Kd.R_slice HO169.out; subst eo44) | ((with_reducible refine gate_callee (f := 15) rfl ?_); refine goesL_ (some 15) rfl rfl Try.func15 (by kernel_rfl) rfl #[.slice Ao43 t158.length co43, .slice Ao44 y167.length co44] rfl (by (try simp only [List.map_toArray, List.map_cons, List.map_nil]); first | done | rfl | (simp only [List.length_drop, List.length_take]; rfl)) ?_; (with_reducible refine (spec_RangesSame.calls k _ _ t158 _ _ y167 false _ ?side1 ?side2 ?side3 ?side4 A3.out).mono ?_); (case side1 => repeat (first | exact (Kd.R_reads' HO160.out).2.2 | (with_reducible refine Kd.C_alloc ?_ _) | (with_reducible refine Kd.C_drewN ?_ _) | (with_reducible refine Kd.C_drew ?_))); (case side2 => exact (Kd.R_reads' HO160.out).2.1); (case side3 => repeat (first | exact (Kd.R_reads' HO169.out).2.2 | (with_reducible refine Kd.C_alloc ?_ _) | (with_reducible refine Kd.C_drewN ?_ _) | (with_reducible refine Kd.C_drew ?_))); (case side4 => exact (Kd.R_reads' HO169.out).2.1); rintro e w' ⟨rfl, ⟨nd, rfl⟩⟩; refine ⟨_, rfl, ?_⟩))
    go_ret
    exact ⟨by first | rfl | (simp [errW_none, errW_some] <;> rfl) | (simp [*, errW_none, errW_some] <;> rfl), by repeat (first | (with_reducible first | exact HB.out | apply below_alloc | apply pw_below_drewN | apply below_drew1) | exact HB.out)⟩

/-! ### spec_RangeAsk: function 16 -/
def spec_RangeAsk.f (a0_0 : Int) (a0_1 : Int) : Option (Bool) := (spec_RangeIn.f a0_0 a0_1).bind fun t173 => (if t173 = true then (some (decide (a0_1 ≥ 0))) else (some false))
set_option maxHeartbeats 8000000 in
set_option maxRecDepth 100000 in
theorem spec_RangeAsk.calls (a0_0 : Int) (a0_1 : Int) (r : Bool) (w : World) (h : spec_RangeAsk.f a0_0 a0_1 = some r) :
    Calls Try.prog 16 #[.agg #[.int .i64 a0_0, .int .i64 a0_1]] w fun e w' => e = .returned (.bool r) ∧ Below w.heap.size w w' := by
  have hu28 := Try.underlying28
  have HB := Aside0.mk (Below.refl w.heap.size w)
  have H : ((spec_RangeIn.f a0_0 a0_1).bind fun t173 => (if t173 = true then (some (decide (a0_1 ≥ 0))) else (some false))) = some r := h
  clear h
  replace H := Option.bind_eq_some_iff.mp H
  obtain ⟨t173, A20, H⟩ := H
  replace H : (if t173 = true then (some (decide (a0_1 ≥ 0))) else (some false)) = some r := H
  have A2 := Aside0.mk A20
  clear A20
  by_cases c3 : t173 = true
  · subst c3
    have H1 : (some (decide (a0_1 ≥ 0))) = some r := by rw [if_pos rfl] at H; exact H
    clear H
    have H := H1
    clear H1
    obtain rfl := Option.some.inj H
    go_enter Try.func16, Try.ntmps16
    go_wp2_with (first | ((with_reducible refine gate_dst (N := 1) rfl ?_); refine box_event ?hg (N := 1) ?hd (cs := #[.int .i64 a0_0, .int .i64 a0_1]) (t := 28) ?hr ?_; (case hd => rfl); (case hg => rfl); (case hr => first | (go_simp; done) | (go_simp; rfl)); intro gb172 hg w4 hbox hb; have n0_ := Aside0.mk (below_step (by repeat (first | (with_reducible first | exact HB.out | apply below_alloc | apply pw_below_drewN | apply below_drew1) | exact HB.out)) hb); have n1_ := Aside0.mk (hbox); have n2_ := Aside0.mk ((by rw [hg]; exact (below_size (by repeat (first | (with_reducible first | exact HB.out | apply below_alloc | apply pw_below_drewN | apply below_drew1) | exact HB.out))) : w.heap.size ≤ gb172)); have n3_ := Aside0.mk ((by rw [hg]; exact (below_size (by repeat (first | (with_reducible first | exact HB.out | apply below_alloc | apply pw_below_drewN | apply below_drew1) | exact HB.out))) : w.heap.size ≤ gb172)); clear HB; have HB := n0_; have BK172 := n1_; have GW172 := n2_; have GE172 := n3_; clear n0_ n1_ n2_ n3_; clear hb hbox hg; have hcz5_0 : w4.cell? ⟨gb172, 0, none⟩ = some (.int .i64 a0_0) := (blk_cell BK172.out 0).trans rfl; have hcz5_1 : w4.cell? ⟨gb172, 1, none⟩ = some (.int .i64 a0_1) := (blk_cell BK172.out 1).trans rfl; have hfz5_0 := blk_frozen BK172.out 0; have hfz5_1 := blk_frozen BK172.out 1) | ((with_reducible refine gate_callee (f := 33) rfl ?_); refine goesL_ (some 4) rfl rfl Try.func33 (by kernel_rfl) rfl #[.agg #[.int .i64 a0_0, .int .i64 a0_1]] rfl (by (try simp only [List.map_toArray, List.map_cons, List.map_nil]); first | done | rfl | (simp only [List.length_drop, List.length_take]; rfl)) ?_; (with_reducible refine (spec_RangeIn.calls a0_0 a0_1 true _ A2.out).mono ?_); rintro e w6 ⟨rfl, hb⟩; refine ⟨_, rfl, ?_⟩; have n0_ := Aside0.mk (blk_below (g := gb172) (o := .cells #[.int .i64 a0_0, .int .i64 a0_1] 28 (0, 0)) (by (with_reducible repeat (first | refine blk_drewN ?_ _ | refine blk_drew ?_ | refine blk_alloc ?_ _)); exact BK172.out) hb); have n1_ := Aside0.mk (below_step (by repeat (first | (with_reducible first | exact HB.out | apply below_alloc | apply pw_below_drewN | apply below_drew1 | refine below_set ?_ GE172.out) | exact HB.out)) hb); clear BK172; clear HB; have BK172 := n0_; have HB := n1_; clear n0_ n1_; (try clear hb); (try clear hb2); (try clear hk); (try clear hi); have hcz7_0 : w6.cell? ⟨gb172, 0, none⟩ = some (.int .i64 a0_0) := (blk_cell BK172.out 0).trans rfl; have hcz7_1 : w6.cell? ⟨gb172, 1, none⟩ = some (.int .i64 a0_1) := (blk_cell BK172.out 1).trans rfl; have hfz7_0 := blk_frozen BK172.out 0; have hfz7_1 := blk_frozen BK172.out 1))
    go_ret
    exact ⟨by first | rfl | (simp [errW_none, errW_some] <;> rfl) | (simp [*, errW_none, errW_some] <;> rfl), by repeat (first | (with_reducible first | exact HB.out | apply below_alloc | apply pw_below_drewN | apply below_drew1 | refine below_set ?_ GE172.out) | exact HB.out)⟩
  · replace c3 := Bool.eq_false_iff.mpr c3
    subst c3
    have H1 : (some false) = some r := by rw [if_neg (show ¬ (false = true) by decide)] at H; exact H
    clear H
    have H := H1
    clear H1
    obtain rfl := Option.some.inj H
    go_enter Try.func16, Try.ntmps16
    go_wp2_with (first | ((with_reducible refine gate_dst (N := 1) rfl ?_); refine box_event ?hg (N := 1) ?hd (cs := #[.int .i64 a0_0, .int .i64 a0_1]) (t := 28) ?hr ?_; (case hd => rfl); (case hg => rfl); (case hr => first | (go_simp; done) | (go_simp; rfl)); intro gb172 hg w8 hbox hb; have n0_ := Aside0.mk (below_step (by repeat (first | (with_reducible first | exact HB.out | apply below_alloc | apply pw_below_drewN | apply below_drew1) | exact HB.out)) hb); have n1_ := Aside0.mk (hbox); have n2_ := Aside0.mk ((by rw [hg]; exact (below_size (by repeat (first | (with_reducible first | exact HB.out | apply below_alloc | apply pw_below_drewN | apply below_drew1) | exact HB.out))) : w.heap.size ≤ gb172)); have n3_ := Aside0.mk ((by rw [hg]; exact (below_size (by repeat (first | (with_reducible first | exact HB.out | apply below_alloc | apply pw_below_drewN | apply below_drew1) | exact HB.out))) : w.heap.size ≤ gb172)); clear HB; have HB := n0_; have BK172 := n1_; have GW172 := n2_; have GE172 := n3_; clear n0_ n1_ n2_ n3_; clear hb hbox hg; have hcz9_0 : w8.cell? ⟨gb172, 0, none⟩ = some (.int .i64 a0_0) := (blk_cell BK172.out 0).trans rfl; have hcz9_1 : w8.cell? ⟨gb172, 1, none⟩ = some (.int .i64 a0_1) := (blk_cell BK172.out 1).trans rfl; have hfz9_0 := blk_frozen BK172.out 0; have hfz9_1 := blk_frozen BK172.out 1) | ((with_reducible refine gate_callee (f := 33) rfl ?_); refine goesL_ (some 4) rfl rfl Try.func33 (by kernel_rfl) rfl #[.agg #[.int .i64 a0_0, .int .i64 a0_1]] rfl (by (try simp only [List.map_toArray, List.map_cons, List.map_nil]); first | done | rfl | (simp only [List.length_drop, List.length_take]; rfl)) ?_; (with_reducible refine (spec_RangeIn.calls a0_0 a0_1 false _ A2.out).mono ?_); rintro e w10 ⟨rfl, hb⟩; refine ⟨_, rfl, ?_⟩; have n0_ := Aside0.mk (blk_below (g := gb172) (o := .cells #[.int .i64 a0_0, .int .i64 a0_1] 28 (0, 0)) (by (with_reducible repeat (first | refine blk_drewN ?_ _ | refine blk_drew ?_ | refine blk_alloc ?_ _)); exact BK172.out) hb); have n1_ := Aside0.mk (below_step (by repeat (first | (with_reducible first | exact HB.out | apply below_alloc | apply pw_below_drewN | apply below_drew1 | refine below_set ?_ GE172.out) | exact HB.out)) hb); clear BK172; clear HB; have BK172 := n0_; have HB := n1_; clear n0_ n1_; (try clear hb); (try clear hb2); (try clear hk); (try clear hi)))
    go_ret
    exact ⟨by first | rfl | (simp [errW_none, errW_some] <;> rfl) | (simp [*, errW_none, errW_some] <;> rfl), by repeat (first | (with_reducible first | exact HB.out | apply below_alloc | apply pw_below_drewN | apply below_drew1 | refine below_set ?_ GE172.out) | exact HB.out)⟩

end Go.Proofs.Ytfegihmnpcjdgaa.PFnRangesFill

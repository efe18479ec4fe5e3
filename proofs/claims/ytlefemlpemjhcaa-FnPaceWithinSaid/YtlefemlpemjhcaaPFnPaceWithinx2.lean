-- Written by a program of this session's (over the kit's print), with contracts proved by hand among what it calls.
import Derived.Test.YtlefemlpemjhcaaPFnPaceWithinx0
import Derived.Test.YtlefemlpemjhcaaPFnPaceWithinx1
namespace Go.Proofs.Ytlefemlpemjhcaa.PFnPaceWithin
open Go.RowKit Go.Proofs.YtlefemlpemjhcaaW.PrintWords Go.Proofs.YtlefemlpemjhcaaW.PrintLast Go.Proofs.YtlefemlpemjhcaaW.PrintMore
attribute [local go_sem] max2_int min2_int max_two min_two max_three min_three max_four min_four   -- for this text's walks alone
set_option linter.unusedVariables false
set_option linter.unusedSimpArgs false

/-! ### laws_FnPaceWithin: function 6 -/
mutual
def laws_FnPaceWithin.j0 : Nat → Int → List Bool → Bool → Int → Int → Int → Int → Int → Int → Int → Int → Option (Bool)
  | 0, _, _, _, _, _, _, _, _, _, _, _ => none
  | k + 1, x1, x2, x40, x111000, x111001, x111002, x111003, x116000, x116001, x116002, x116003 => if x40 = true then (some true) else (laws_FnPaceWithin.l0 k x1 x2 ([] : List Int) (x2.length : Int) 0 x111000 x111001 x111002 x111003 x116000 x116001 x116002 x116003)
def laws_FnPaceWithin.l0 : Nat → Int → List Bool → List Int → Int → Int → Int → Int → Int → Int → Int → Int → Int → Int → Option (Bool)
  | 0, _, _, _, _, _, _, _, _, _, _, _, _, _ => none
  | k + 1, x1, x2, x8, x42, x43, x111000, x111001, x111002, x111003, x116000, x116001, x116002, x116003 => if x43 < x42 then (if x8.length < 17592186044416 then (laws_FnPaceWithin.l0 k x1 x2 (x8 ++ [(-1)]) x42 (wrap64 (x43 + 1)) x111000 x111001 x111002 x111003 x116000 x116001 x116002 x116003) else (none)) else ((laws_paceRun.f x111000 x111001 x111002 x111003 false x1 x2 x8).bind fun bt120 => (if bt120.2 = true then ((laws_paceAwake.f).bind fun t124 => (laws_FnPaceWithin.j2 k x1 x2 bt120.1 (!t124) x116000 x116001 x116002 x116003)) else (laws_FnPaceWithin.j2 k x1 x2 bt120.1 true x116000 x116001 x116002 x116003)))
def laws_FnPaceWithin.j2 : Nat → Int → List Bool → List Int → Bool → Int → Int → Int → Int → Option (Bool)
  | 0, _, _, _, _, _, _, _, _ => none
  | k + 1, x1, x2, x9, x62, x116000, x116001, x116002, x116003 => if x62 = true then (some false) else (laws_FnPaceWithin.l1 k x1 x2 x9 (x9.length : Int) 0 x116000 x116001 x116002 x116003)
def laws_FnPaceWithin.l1 : Nat → Int → List Bool → List Int → Int → Int → Int → Int → Int → Int → Option (Bool)
  | 0, _, _, _, _, _, _, _, _, _ => none
  | k + 1, x1, x2, x63, x64, x65, x116000, x116001, x116002, x116003 => if x65 < x64 then (if 0 ≤ x65 then (if x65 < (x63.length : Int) then (if (rd x63 x65) < x116000 then (some false) else (if (rd x63 x65) > x116001 then (some false) else (if x65 < (x2.length : Int) then (if rdOf false x2 x65 = true then (if (rd x63 x65) > x1 then (some false) else (laws_FnPaceWithin.l1 k (rd x63 x65) x2 x63 x64 (wrap64 (x65 + 1)) x116000 x116001 x116002 x116003)) else (if (rd x63 x65) < x1 then (some false) else (laws_FnPaceWithin.l1 k (rd x63 x65) x2 x63 x64 (wrap64 (x65 + 1)) x116000 x116001 x116002 x116003))) else (none)))) else (none)) else (none)) else (some true)
end
def laws_FnPaceWithin.f (k : Nat) (a0_0 : Int) (a0_1 : Int) (a0_2 : Int) (a0_3 : Int) (a1 : Int) (l2 : List Bool) : Option (Bool) := if (l2.length : Int) > 2147483647 then (some true) else ((spec_PaceGiven.f k a0_0 a0_1 a0_2 a0_3 false).bind fun bt111 => (if (l2.length : Int) > 200 then (laws_FnPaceWithin.j0 k a1 l2 true a0_0 a0_1 a0_2 a0_3 bt111.1 bt111.2.1 bt111.2.2.1 bt111.2.2.2) else ((spec_PaceIn.f a0_0 a0_1 a0_2 a0_3 (mx a1 0) 0 0 0).bind fun t116 => (if t116 = true then (if a1 < bt111.1 then (laws_FnPaceWithin.j0 k a1 l2 true a0_0 a0_1 a0_2 a0_3 bt111.1 bt111.2.1 bt111.2.2.1 bt111.2.2.2) else (laws_FnPaceWithin.j0 k a1 l2 (decide (a1 > bt111.2.1)) a0_0 a0_1 a0_2 a0_3 bt111.1 bt111.2.1 bt111.2.2.1 bt111.2.2.2)) else (laws_FnPaceWithin.j0 k a1 l2 true a0_0 a0_1 a0_2 a0_3 bt111.1 bt111.2.1 bt111.2.2.1 bt111.2.2.2)))))
theorem laws_FnPaceWithin.mono_l : ∀ k, (∀ y0 y1 y2 y3 y4 y5 y6 y7 y8 y9 y10, LeO (laws_FnPaceWithin.j0 k y0 y1 y2 y3 y4 y5 y6 y7 y8 y9 y10) (laws_FnPaceWithin.j0 (k + 1) y0 y1 y2 y3 y4 y5 y6 y7 y8 y9 y10)) ∧ (∀ y0 y1 y2 y3 y4 y5 y6 y7 y8 y9 y10 y11 y12, LeO (laws_FnPaceWithin.l0 k y0 y1 y2 y3 y4 y5 y6 y7 y8 y9 y10 y11 y12) (laws_FnPaceWithin.l0 (k + 1) y0 y1 y2 y3 y4 y5 y6 y7 y8 y9 y10 y11 y12)) ∧ (∀ y0 y1 y2 y3 y4 y5 y6 y7, LeO (laws_FnPaceWithin.j2 k y0 y1 y2 y3 y4 y5 y6 y7) (laws_FnPaceWithin.j2 (k + 1) y0 y1 y2 y3 y4 y5 y6 y7)) ∧ (∀ y0 y1 y2 y3 y4 y5 y6 y7 y8, LeO (laws_FnPaceWithin.l1 k y0 y1 y2 y3 y4 y5 y6 y7 y8) (laws_FnPaceWithin.l1 (k + 1) y0 y1 y2 y3 y4 y5 y6 y7 y8))
  | 0 => ⟨fun _ _ _ _ _ _ _ _ _ _ _ r h => by simp [laws_FnPaceWithin.j0] at h, fun _ _ _ _ _ _ _ _ _ _ _ _ _ r h => by simp [laws_FnPaceWithin.l0] at h, fun _ _ _ _ _ _ _ _ r h => by simp [laws_FnPaceWithin.j2] at h, fun _ _ _ _ _ _ _ _ _ r h => by simp [laws_FnPaceWithin.l1] at h⟩
  | k + 1 => by
    obtain ⟨ih0, ih1, ih2, ih3⟩ := laws_FnPaceWithin.mono_l k
    refine ⟨?_, ?_, ?_, ?_⟩
    · intro y0 y1 y2 y3 y4 y5 y6 y7 y8 y9 y10
      unfold laws_FnPaceWithin.j0
      repeat' first
      | (with_reducible exact ih0 _ _ _ _ _ _ _ _ _ _ _)
      | (with_reducible exact ih1 _ _ _ _ _ _ _ _ _ _ _ _ _)
      | (with_reducible exact ih2 _ _ _ _ _ _ _ _)
      | (with_reducible exact ih3 _ _ _ _ _ _ _ _ _)
      | (with_reducible exact spec_PaceGiven.mono _ _ _ _ _ _)
      | (with_reducible exact LeO.refl _)
      | (with_reducible exact LeO.none _)
      | (with_reducible refine LeO.ite ?_ ?_)
      | (with_reducible refine LeO.bind ?_ (fun _ => ?_))
      | exact ih0 _ _ _ _ _ _ _ _ _ _ _
      | exact ih1 _ _ _ _ _ _ _ _ _ _ _ _ _
      | exact ih2 _ _ _ _ _ _ _ _
      | exact ih3 _ _ _ _ _ _ _ _ _
      | exact spec_PaceGiven.mono _ _ _ _ _ _
      | exact LeO.none _
      | refine LeO.ite ?_ ?_
      | refine LeO.bind ?_ (fun _ => ?_)
    · intro y0 y1 y2 y3 y4 y5 y6 y7 y8 y9 y10 y11 y12
      unfold laws_FnPaceWithin.l0
      repeat' first
      | (with_reducible exact ih0 _ _ _ _ _ _ _ _ _ _ _)
      | (with_reducible exact ih1 _ _ _ _ _ _ _ _ _ _ _ _ _)
      | (with_reducible exact ih2 _ _ _ _ _ _ _ _)
      | (with_reducible exact ih3 _ _ _ _ _ _ _ _ _)
      | (with_reducible exact spec_PaceGiven.mono _ _ _ _ _ _)
      | (with_reducible exact LeO.refl _)
      | (with_reducible exact LeO.none _)
      | (with_reducible refine LeO.ite ?_ ?_)
      | (with_reducible refine LeO.bind ?_ (fun _ => ?_))
      | exact ih0 _ _ _ _ _ _ _ _ _ _ _
      | exact ih1 _ _ _ _ _ _ _ _ _ _ _ _ _
      | exact ih2 _ _ _ _ _ _ _ _
      | exact ih3 _ _ _ _ _ _ _ _ _
      | exact spec_PaceGiven.mono _ _ _ _ _ _
      | exact LeO.none _
      | refine LeO.ite ?_ ?_
      | refine LeO.bind ?_ (fun _ => ?_)
    · intro y0 y1 y2 y3 y4 y5 y6 y7
      unfold laws_FnPaceWithin.j2
      repeat' first
      | (with_reducible exact ih0 _ _ _ _ _ _ _ _ _ _ _)
      | (with_reducible exact ih1 _ _ _ _ _ _ _ _ _ _ _ _ _)
      | (with_reducible exact ih2 _ _ _ _ _ _ _ _)
      | (with_reducible exact ih3 _ _ _ _ _ _ _ _ _)
      | (with_reducible exact spec_PaceGiven.mono _ _ _ _ _ _)
      | (with_reducible exact LeO.refl _)
      | (with_reducible exact LeO.none _)
      | (with_reducible refine LeO.ite ?_ ?_)
      | (with_reducible refine LeO.bind ?_ (fun _ => ?_))
      | exact ih0 _ _ _ _ _ _ _ _ _ _ _
      | exact ih1 _ _ _ _ _ _ _ _ _ _ _ _ _
      | exact ih2 _ _ _ _ _ _ _ _
      | exact ih3 _ _ _ _ _ _ _ _ _
      | exact spec_PaceGiven.mono _ _ _ _ _ _
      | exact LeO.none _
      | refine LeO.ite ?_ ?_
      | refine LeO.bind ?_ (fun _ => ?_)
    · intro y0 y1 y2 y3 y4 y5 y6 y7 y8
      unfold laws_FnPaceWithin.l1
      repeat' first
      | (with_reducible exact ih0 _ _ _ _ _ _ _ _ _ _ _)
      | (with_reducible exact ih1 _ _ _ _ _ _ _ _ _ _ _ _ _)
      | (with_reducible exact ih2 _ _ _ _ _ _ _ _)
      | (with_reducible exact ih3 _ _ _ _ _ _ _ _ _)
      | (with_reducible exact spec_PaceGiven.mono _ _ _ _ _ _)
      | (with_reducible exact LeO.refl _)
      | (with_reducible exact LeO.none _)
      | (with_reducible refine LeO.ite ?_ ?_)
      | (with_reducible refine LeO.bind ?_ (fun _ => ?_))
      | exact ih0 _ _ _ _ _ _ _ _ _ _ _
      | exact ih1 _ _ _ _ _ _ _ _ _ _ _ _ _
      | exact ih2 _ _ _ _ _ _ _ _
      | exact ih3 _ _ _ _ _ _ _ _ _
      | exact spec_PaceGiven.mono _ _ _ _ _ _
      | exact LeO.none _
      | refine LeO.ite ?_ ?_
      | refine LeO.bind ?_ (fun _ => ?_)
theorem laws_FnPaceWithin.mono : ∀ a0 a1 a2 a3 a4 a5 k, LeO (laws_FnPaceWithin.f k a0 a1 a2 a3 a4 a5) (laws_FnPaceWithin.f (k + 1) a0 a1 a2 a3 a4 a5) := by
  intro a0 a1 a2 a3 a4 a5 k
  obtain ⟨ih0, ih1, ih2, ih3⟩ := laws_FnPaceWithin.mono_l k
  unfold laws_FnPaceWithin.f
  repeat' first
      | (with_reducible exact ih0 _ _ _ _ _ _ _ _ _ _ _)
      | (with_reducible exact ih1 _ _ _ _ _ _ _ _ _ _ _ _ _)
      | (with_reducible exact ih2 _ _ _ _ _ _ _ _)
      | (with_reducible exact ih3 _ _ _ _ _ _ _ _ _)
      | (with_reducible exact spec_PaceGiven.mono _ _ _ _ _ _)
      | (with_reducible exact LeO.refl _)
      | (with_reducible exact LeO.none _)
      | (with_reducible refine LeO.ite ?_ ?_)
      | (with_reducible refine LeO.bind ?_ (fun _ => ?_))
      | exact ih0 _ _ _ _ _ _ _ _ _ _ _
      | exact ih1 _ _ _ _ _ _ _ _ _ _ _ _ _
      | exact ih2 _ _ _ _ _ _ _ _
      | exact ih3 _ _ _ _ _ _ _ _ _
      | exact spec_PaceGiven.mono _ _ _ _ _ _
      | exact LeO.none _
      | refine LeO.ite ?_ ?_
      | refine LeO.bind ?_ (fun _ => ?_)
set_option maxHeartbeats 8000000 in
set_option maxRecDepth 100000 in
theorem laws_FnPaceWithin.calls (k : Nat) (a0_0 : Int) (a0_1 : Int) (a0_2 : Int) (a0_3 : Int) (a1 : Int) (A2 : Option Addr) (c2 : Nat) (l2 : List Bool) (r : Bool) (w : World) (hr2 : Kd.C Kd.bool w A2 l2.length l2) (hc2 : l2.length ≤ c2) (h : laws_FnPaceWithin.f k a0_0 a0_1 a0_2 a0_3 a1 l2 = some r) :
    Calls Try.prog 6 #[.agg #[.int .i64 a0_0, .int .i64 a0_1, .int .i64 a0_2, .int .i64 a0_3], .int .i64 a1, .slice A2 l2.length c2] w fun e w' => e = .returned (.bool r) ∧ Below w.heap.size w w' := by
  have hu26 := Try.underlying26
  have hu28 := Try.underlying28
  have HR2 := Aside0.mk hr2
  have HC2 := Aside0.mk hc2
  clear hr2 hc2
  have HB := Aside0.mk (Below.refl w.heap.size w)
  have H : (if (l2.length : Int) > 2147483647 then (some true) else ((spec_PaceGiven.f k a0_0 a0_1 a0_2 a0_3 false).bind fun bt111 => (if (l2.length : Int) > 200 then (laws_FnPaceWithin.j0 k a1 l2 true a0_0 a0_1 a0_2 a0_3 bt111.1 bt111.2.1 bt111.2.2.1 bt111.2.2.2) else ((spec_PaceIn.f a0_0 a0_1 a0_2 a0_3 (mx a1 0) 0 0 0).bind fun t116 => (if t116 = true then (if a1 < bt111.1 then (laws_FnPaceWithin.j0 k a1 l2 true a0_0 a0_1 a0_2 a0_3 bt111.1 bt111.2.1 bt111.2.2.1 bt111.2.2.2) else (laws_FnPaceWithin.j0 k a1 l2 (decide (a1 > bt111.2.1)) a0_0 a0_1 a0_2 a0_3 bt111.1 bt111.2.1 bt111.2.2.1 bt111.2.2.2)) else (laws_FnPaceWithin.j0 k a1 l2 true a0_0 a0_1 a0_2 a0_3 bt111.1 bt111.2.1 bt111.2.2.1 bt111.2.2.2)))))) = some r := h
  clear h
  by_cases c4 : (l2.length : Int) > 2147483647
  · rw [if_pos c4] at H
    have c4b0 : decide (2147483647 < (l2.length : Int)) = true := decide_eq_true c4
    have c4b1 : decide (2147483647 < l2.length) = true := decide_eq_true (by omega)
    clear c4
    obtain rfl := Option.some.inj H
    go_enter Try.func6, Try.ntmps6
    go_wp2_with (first | ((with_reducible refine gate_dst (N := 3) rfl ?_); (try (refine gate_guard (by rfl) ?_; dsimp only)); refine box_event ?hg (N := 3) ?hd (cs := #[.int .i64 a0_0, .int .i64 a0_1, .int .i64 a0_2, .int .i64 a0_3]) (t := 26) ?hr ?_; (case hd => rfl); (case hg => rfl); (case hr => first | (go_simp; done) | (go_simp; rfl)); intro gb110 hg w5 hbox hb; have n0_ := Aside0.mk (below_step (by repeat (first | (with_reducible first | exact HB.out | apply below_alloc | apply pw_below_drewN | apply below_drew1) | exact HB.out)) hb); have n1_ := Aside0.mk (hbox); have n2_ := Aside0.mk ((by rw [hg]; exact (below_size (by repeat (first | (with_reducible first | exact HB.out | apply below_alloc | apply pw_below_drewN | apply below_drew1) | exact HB.out))) : w.heap.size ≤ gb110)); have n3_ := Aside0.mk ((by rw [hg]; exact (below_size (by repeat (first | (with_reducible first | exact HB.out | apply below_alloc | apply pw_below_drewN | apply below_drew1) | exact HB.out))) : w.heap.size ≤ gb110)); clear HB; have HB := n0_; have BK110 := n1_; have GW110 := n2_; have GE110 := n3_; clear n0_ n1_ n2_ n3_; clear hb hbox hg))
    go_ret
    exact ⟨by first | rfl | (simp [errW_none, errW_some] <;> rfl) | (simp [*, errW_none, errW_some] <;> rfl), by repeat (first | (with_reducible first | exact HB.out | apply below_alloc | apply pw_below_drewN | apply below_drew1 | refine below_set ?_ GE110.out) | exact HB.out)⟩
  · rw [if_neg c4] at H
    have c4b0 : decide (2147483647 < (l2.length : Int)) = false := decide_eq_false c4
    have c4b1 : decide (2147483647 < l2.length) = false := decide_eq_false (by omega)
    clear c4
    replace H := Option.bind_eq_some_iff.mp H
    obtain ⟨⟨t111, t112, t113, t114⟩, A60, H⟩ := H
    replace H : (if (l2.length : Int) > 200 then (laws_FnPaceWithin.j0 k a1 l2 true a0_0 a0_1 a0_2 a0_3 t111 t112 t113 t114) else ((spec_PaceIn.f a0_0 a0_1 a0_2 a0_3 (mx a1 0) 0 0 0).bind fun t116 => (if t116 = true then (if a1 < t111 then (laws_FnPaceWithin.j0 k a1 l2 true a0_0 a0_1 a0_2 a0_3 t111 t112 t113 t114) else (laws_FnPaceWithin.j0 k a1 l2 (decide (a1 > t112)) a0_0 a0_1 a0_2 a0_3 t111 t112 t113 t114)) else (laws_FnPaceWithin.j0 k a1 l2 true a0_0 a0_1 a0_2 a0_3 t111 t112 t113 t114)))) = some r := H
    have A6 := Aside0.mk A60
    clear A60
    have HC7 := Aside0.mk H
    clear H
    go_enter Try.func6, Try.ntmps6
    go_upto_region 4 with (first | ((with_reducible refine gate_dst (N := 3) rfl ?_); (try (refine gate_guard (by rfl) ?_; dsimp only)); refine box_event ?hg (N := 3) ?hd (cs := #[.int .i64 a0_0, .int .i64 a0_1, .int .i64 a0_2, .int .i64 a0_3]) (t := 26) ?hr ?_; (case hd => rfl); (case hg => rfl); (case hr => first | (go_simp; done) | (go_simp; rfl)); intro gb110 hg w8 hbox hb; have n0_ := Aside0.mk (below_step (by repeat (first | (with_reducible first | exact HB.out | apply below_alloc | apply pw_below_drewN | apply below_drew1) | exact HB.out)) hb); have n1_ := Aside0.mk (hbox); have n2_ := Aside0.mk ((by rw [hg]; exact (below_size (by repeat (first | (with_reducible first | exact HB.out | apply below_alloc | apply pw_below_drewN | apply below_drew1) | exact HB.out))) : w.heap.size ≤ gb110)); have n3_ := Aside0.mk ((by rw [hg]; exact (below_size (by repeat (first | (with_reducible first | exact HB.out | apply below_alloc | apply pw_below_drewN | apply below_drew1) | exact HB.out))) : w.heap.size ≤ gb110)); clear HB; have HB := n0_; have BK110 := n1_; have GW110 := n2_; have GE110 := n3_; clear n0_ n1_ n2_ n3_; clear hb hbox hg; have hcz9_0 : w8.cell? ⟨gb110, 0, none⟩ = some (.int .i64 a0_0) := (blk_cell BK110.out 0).trans rfl; have hcz9_1 : w8.cell? ⟨gb110, 1, none⟩ = some (.int .i64 a0_1) := (blk_cell BK110.out 1).trans rfl; have hcz9_2 : w8.cell? ⟨gb110, 2, none⟩ = some (.int .i64 a0_2) := (blk_cell BK110.out 2).trans rfl; have hcz9_3 : w8.cell? ⟨gb110, 3, none⟩ = some (.int .i64 a0_3) := (blk_cell BK110.out 3).trans rfl; have hfz9_0 := blk_frozen BK110.out 0; have hfz9_1 := blk_frozen BK110.out 1; have hfz9_2 := blk_frozen BK110.out 2; have hfz9_3 := blk_frozen BK110.out 3) | ((with_reducible refine gate_callee (f := 13) rfl ?_); refine goesL_ (some 17) rfl rfl Try.func13 (by kernel_rfl) rfl #[.agg #[.int .i64 a0_0, .int .i64 a0_1, .int .i64 a0_2, .int .i64 a0_3], .bool false] rfl (by (try simp only [List.map_toArray, List.map_cons, List.map_nil]); first | done | rfl | (simp only [List.length_drop, List.length_take]; rfl)) ?_; (with_reducible refine (spec_PaceGiven.calls k a0_0 a0_1 a0_2 a0_3 false t111 t112 t113 t114 _ A6.out).mono ?_); rintro e w10 ⟨rfl, hb⟩; refine ⟨_, rfl, ?_⟩; have n0_ := Aside0.mk (blk_below (g := gb110) (o := .cells #[.int .i64 a0_0, .int .i64 a0_1, .int .i64 a0_2, .int .i64 a0_3] 26 (0, 0)) (by (with_reducible repeat (first | refine blk_drewN ?_ _ | refine blk_drew ?_ | refine blk_alloc ?_ _)); exact BK110.out) hb); have n1_ := Aside0.mk (below_step (by repeat (first | (with_reducible first | exact HB.out | apply below_alloc | apply pw_below_drewN | apply below_drew1 | refine below_set ?_ GE110.out) | exact HB.out)) hb); clear BK110; clear HB; have BK110 := n0_; have HB := n1_; clear n0_ n1_; (try clear hb); (try clear hb2); (try clear hk); (try clear hi)) | ((with_reducible refine gate_dst (N := 7) rfl ?_); (try (refine gate_guard (by rfl) ?_; dsimp only)); refine box_event ?hg (N := 7) ?hd (cs := #[.int .i64 0, .int .i64 0, .int .i64 0, .int .i64 0]) (t := 26) ?hr ?_; (case hd => rfl); (case hg => rfl); (case hr => first | (go_simp; done) | (go_simp; rfl)); intro gb115 hg w11 hbox hb; have n0_ := Aside0.mk (blk_below (g := gb110) (o := .cells #[.int .i64 a0_0, .int .i64 a0_1, .int .i64 a0_2, .int .i64 a0_3] 26 (0, 0)) (by (with_reducible repeat (first | refine blk_drewN ?_ _ | refine blk_drew ?_ | refine blk_alloc ?_ _)); exact BK110.out) hb); have n1_ := Aside0.mk (below_step (by repeat (first | (with_reducible first | exact HB.out | apply below_alloc | apply pw_below_drewN | apply below_drew1 | refine below_set ?_ GE110.out) | exact HB.out)) hb); have n2_ := Aside0.mk (hbox); have n3_ := Aside0.mk ((by rw [hg]; exact (below_size (by repeat (first | (with_reducible first | exact HB.out | apply below_alloc | apply pw_below_drewN | apply below_drew1 | refine below_set ?_ GE110.out) | exact HB.out))) : w.heap.size ≤ gb115)); have n4_ := Aside0.mk ((by rw [hg]; exact (below_size (by repeat (first | (with_reducible first | exact HB.out | apply below_alloc | apply pw_below_drewN | apply below_drew1 | refine below_set ?_ GE110.out) | exact HB.out))) : w.heap.size ≤ gb115)); have n5_ := Aside0.mk ((by rw [hg]; exact Nat.ne_of_lt (blk_lt (g := gb110) (o := .cells #[.int .i64 a0_0, .int .i64 a0_1, .int .i64 a0_2, .int .i64 a0_3] 26 (0, 0)) (by (with_reducible repeat (first | refine blk_drewN ?_ _ | refine blk_drew ?_ | refine blk_alloc ?_ _)); exact BK110.out)) : gb110 ≠ gb115)); have n6_ := Aside0.mk ((by rw [hg]; exact Nat.ne_of_gt (blk_lt (g := gb110) (o := .cells #[.int .i64 a0_0, .int .i64 a0_1, .int .i64 a0_2, .int .i64 a0_3] 26 (0, 0)) (by (with_reducible repeat (first | refine blk_drewN ?_ _ | refine blk_drew ?_ | refine blk_alloc ?_ _)); exact BK110.out)) : gb115 ≠ gb110)); clear BK110; clear HB; have BK110 := n0_; have HB := n1_; have BK115 := n2_; have GW115 := n3_; have GE115 := n4_; have NB110_115 := n5_; have NB115_110 := n6_; clear n0_ n1_ n2_ n3_ n4_ n5_ n6_; clear hb hbox hg; have hnb12 := NB115_110.out; have hnc12 := NB110_115.out; have hcz13_0 : w11.cell? ⟨gb115, 0, none⟩ = some (.int .i64 0) := (blk_cell BK115.out 0).trans rfl; have hcz13_1 : w11.cell? ⟨gb115, 1, none⟩ = some (.int .i64 0) := (blk_cell BK115.out 1).trans rfl; have hcz13_2 : w11.cell? ⟨gb115, 2, none⟩ = some (.int .i64 0) := (blk_cell BK115.out 2).trans rfl; have hcz13_3 : w11.cell? ⟨gb115, 3, none⟩ = some (.int .i64 0) := (blk_cell BK115.out 3).trans rfl; have hfz13_0 := blk_frozen BK115.out 0; have hfz13_1 := blk_frozen BK115.out 1; have hfz13_2 := blk_frozen BK115.out 2; have hfz13_3 := blk_frozen BK115.out 3))
    (try simp only [Act.put, List.setIfInBounds_toArray, List.set_cons_zero, List.set_cons_succ])
    go_cut [40] (fun v40 wc => ∃ (kq : Nat) (x40_6 : Bool), v40 = .bool x40_6 ∧ Aside0 (laws_FnPaceWithin.j0 kq a1 l2 x40_6 a0_0 a0_1 a0_2 a0_3 t111 t112 t113 t114 = some r) ∧ Aside0 (kq ≤ k) ∧ Aside0 (wc.heap[gb110]? = some (.cells #[.int .i64 a0_0, .int .i64 a0_1, .int .i64 a0_2, .int .i64 a0_3] 26 (0, 0))) ∧ Aside0 (wc.heap[gb115]? = some (.cells #[.int .i64 t111, .int .i64 t112, .int .i64 t113, .int .i64 t114] 26 (0, 0))) ∧ Aside0 (Below w.heap.size w wc))
    case first =>
      have H := HC7.out
      clear HC7
      by_cases c14 : (l2.length : Int) > 200
      · rw [if_pos c14] at H
        have c14b0 : decide (200 < (l2.length : Int)) = true := decide_eq_true c14
        have c14b1 : decide (200 < l2.length) = true := decide_eq_true (by omega)
        clear c14
        (first | rw [c14b0] | (simp only [i64_w, i32_w]; rw [c14b0]) | skip)
        have H' := Aside0.mk H
        clear H
        go_wp2
        go_meet
        case rel => exact ⟨_, (true), (by first | rfl | (simp; done) | (simp [*]; done) | (simp [xt_ne_nil]; done)), H', ⟨by first | omega | exact Nat.le_refl _⟩, ⟨by (with_reducible repeat (first | refine blk_drewN ?_ _ | refine blk_drew ?_ | refine blk_alloc ?_ _)); refine blk_far ?_ NB110_115.out _; (with_reducible repeat (first | refine blk_drewN ?_ _ | refine blk_drew ?_ | refine blk_alloc ?_ _)); refine blk_far ?_ NB110_115.out _; (with_reducible repeat (first | refine blk_drewN ?_ _ | refine blk_drew ?_ | refine blk_alloc ?_ _)); refine blk_far ?_ NB110_115.out _; (with_reducible repeat (first | refine blk_drewN ?_ _ | refine blk_drew ?_ | refine blk_alloc ?_ _)); refine blk_far ?_ NB110_115.out _; (with_reducible repeat (first | refine blk_drewN ?_ _ | refine blk_drew ?_ | refine blk_alloc ?_ _)); exact BK110.out⟩, ⟨by (with_reducible repeat (first | refine blk_drewN ?_ _ | refine blk_drew ?_ | refine blk_alloc ?_ _)); refine blk_put (cs := #[.int .i64 t111, .int .i64 t112, .int .i64 t113, .int .i64 0]) ?_ 3 _ rfl; (with_reducible repeat (first | refine blk_drewN ?_ _ | refine blk_drew ?_ | refine blk_alloc ?_ _)); refine blk_put (cs := #[.int .i64 t111, .int .i64 t112, .int .i64 0, .int .i64 0]) ?_ 2 _ rfl; (with_reducible repeat (first | refine blk_drewN ?_ _ | refine blk_drew ?_ | refine blk_alloc ?_ _)); refine blk_put (cs := #[.int .i64 t111, .int .i64 0, .int .i64 0, .int .i64 0]) ?_ 1 _ rfl; (with_reducible repeat (first | refine blk_drewN ?_ _ | refine blk_drew ?_ | refine blk_alloc ?_ _)); refine blk_put (cs := #[.int .i64 0, .int .i64 0, .int .i64 0, .int .i64 0]) ?_ 0 _ rfl; (with_reducible repeat (first | refine blk_drewN ?_ _ | refine blk_drew ?_ | refine blk_alloc ?_ _)); exact BK115.out⟩, ⟨by repeat (first | (with_reducible first | exact HB.out | apply below_alloc | apply pw_below_drewN | apply below_drew1 | refine below_set ?_ GE110.out | refine below_set ?_ GE115.out) | exact HB.out)⟩⟩
      · rw [if_neg c14] at H
        have c14b0 : decide (200 < (l2.length : Int)) = false := decide_eq_false c14
        have c14b1 : decide (200 < l2.length) = false := decide_eq_false (by omega)
        clear c14
        (first | rw [c14b0] | (simp only [i64_w, i32_w]; rw [c14b0]) | skip)
        obtain ⟨ji15, hji15⟩ : ∃ j_ : Int, (mx a1 0) = j_ := ⟨_, rfl⟩
        replace H : ((spec_PaceIn.f a0_0 a0_1 a0_2 a0_3 (ji15) 0 0 0).bind fun t116 => (if t116 = true then (if a1 < t111 then (laws_FnPaceWithin.j0 k a1 l2 true a0_0 a0_1 a0_2 a0_3 t111 t112 t113 t114) else (laws_FnPaceWithin.j0 k a1 l2 (decide (a1 > t112)) a0_0 a0_1 a0_2 a0_3 t111 t112 t113 t114)) else (laws_FnPaceWithin.j0 k a1 l2 true a0_0 a0_1 a0_2 a0_3 t111 t112 t113 t114))) = some r := by first | (rw [hji15] at H; exact H) | (simp only [hji15] at H ⊢; exact H)
        (try (have hji15l : 0 ≤ ji15 := by (rw [← hji15]; unfold mx; (repeat' split) <;> omega)))
        (try (have hji15m : 0 ≤ ji15 := by omega))
        have hji15_ : (if a1 < 0 then 0 else a1) = ji15 := hji15
        replace H := Option.bind_eq_some_iff.mp H
        obtain ⟨t116, A160, H⟩ := H
        replace H : (if t116 = true then (if a1 < t111 then (laws_FnPaceWithin.j0 k a1 l2 true a0_0 a0_1 a0_2 a0_3 t111 t112 t113 t114) else (laws_FnPaceWithin.j0 k a1 l2 (decide (a1 > t112)) a0_0 a0_1 a0_2 a0_3 t111 t112 t113 t114)) else (laws_FnPaceWithin.j0 k a1 l2 true a0_0 a0_1 a0_2 a0_3 t111 t112 t113 t114)) = some r := H
        have A16 := Aside0.mk A160
        clear A160
        by_cases c17 : t116 = true
        · subst c17
          have H1 : (if a1 < t111 then (laws_FnPaceWithin.j0 k a1 l2 true a0_0 a0_1 a0_2 a0_3 t111 t112 t113 t114) else (laws_FnPaceWithin.j0 k a1 l2 (decide (a1 > t112)) a0_0 a0_1 a0_2 a0_3 t111 t112 t113 t114)) = some r := by rw [if_pos rfl] at H; exact H
          clear H
          have H := H1
          clear H1
          by_cases c18 : a1 < t111
          · rw [if_pos c18] at H
            have c18b0 : decide (a1 < t111) = true := decide_eq_true c18
            clear c18
            have H' := Aside0.mk H
            clear H
            have hnb19 := NB110_115.out
            have hnc19 := NB115_110.out
            have hcz20_0 : w11.cell? ⟨gb110, 0, none⟩ = some (.int .i64 a0_0) := (blk_cell BK110.out 0).trans rfl
            have hcz20_1 : w11.cell? ⟨gb110, 1, none⟩ = some (.int .i64 a0_1) := (blk_cell BK110.out 1).trans rfl
            have hcz20_2 : w11.cell? ⟨gb110, 2, none⟩ = some (.int .i64 a0_2) := (blk_cell BK110.out 2).trans rfl
            have hcz20_3 : w11.cell? ⟨gb110, 3, none⟩ = some (.int .i64 a0_3) := (blk_cell BK110.out 3).trans rfl
            have hfz20_0 := blk_frozen BK110.out 0
            have hfz20_1 := blk_frozen BK110.out 1
            have hfz20_2 := blk_frozen BK110.out 2
            have hfz20_3 := blk_frozen BK110.out 3
            go_wp2_with (first | (go_at_call 8; (with_reducible refine (spec_PaceIn.calls a0_0 a0_1 a0_2 a0_3 ji15 0 0 0 true _ A16.out).mono ?_); rintro e w21 ⟨rfl, hb⟩; have n0_ := Aside0.mk (blk_below (g := gb110) (o := .cells #[.int .i64 a0_0, .int .i64 a0_1, .int .i64 a0_2, .int .i64 a0_3] 26 (0, 0)) (by (with_reducible repeat (first | refine blk_drewN ?_ _ | refine blk_drew ?_ | refine blk_alloc ?_ _)); refine blk_far ?_ NB110_115.out _; (with_reducible repeat (first | refine blk_drewN ?_ _ | refine blk_drew ?_ | refine blk_alloc ?_ _)); refine blk_far ?_ NB110_115.out _; (with_reducible repeat (first | refine blk_drewN ?_ _ | refine blk_drew ?_ | refine blk_alloc ?_ _)); refine blk_far ?_ NB110_115.out _; (with_reducible repeat (first | refine blk_drewN ?_ _ | refine blk_drew ?_ | refine blk_alloc ?_ _)); refine blk_far ?_ NB110_115.out _; (with_reducible repeat (first | refine blk_drewN ?_ _ | refine blk_drew ?_ | refine blk_alloc ?_ _)); exact BK110.out) hb); have n1_ := Aside0.mk (blk_below (g := gb115) (o := .cells #[.int .i64 t111, .int .i64 t112, .int .i64 t113, .int .i64 t114] 26 (0, 0)) (by (with_reducible repeat (first | refine blk_drewN ?_ _ | refine blk_drew ?_ | refine blk_alloc ?_ _)); refine blk_put (cs := #[.int .i64 t111, .int .i64 t112, .int .i64 t113, .int .i64 0]) ?_ 3 _ rfl; (with_reducible repeat (first | refine blk_drewN ?_ _ | refine blk_drew ?_ | refine blk_alloc ?_ _)); refine blk_put (cs := #[.int .i64 t111, .int .i64 t112, .int .i64 0, .int .i64 0]) ?_ 2 _ rfl; (with_reducible repeat (first | refine blk_drewN ?_ _ | refine blk_drew ?_ | refine blk_alloc ?_ _)); refine blk_put (cs := #[.int .i64 t111, .int .i64 0, .int .i64 0, .int .i64 0]) ?_ 1 _ rfl; (with_reducible repeat (first | refine blk_drewN ?_ _ | refine blk_drew ?_ | refine blk_alloc ?_ _)); refine blk_put (cs := #[.int .i64 0, .int .i64 0, .int .i64 0, .int .i64 0]) ?_ 0 _ rfl; (with_reducible repeat (first | refine blk_drewN ?_ _ | refine blk_drew ?_ | refine blk_alloc ?_ _)); exact BK115.out) hb); have n2_ := Aside0.mk (below_step (by repeat (first | (with_reducible first | exact HB.out | apply below_alloc | apply pw_below_drewN | apply below_drew1 | refine below_set ?_ GE110.out | refine below_set ?_ GE115.out) | exact HB.out)) hb); clear BK110; clear BK115; clear HB; have BK110 := n0_; have BK115 := n1_; have HB := n2_; clear n0_ n1_ n2_; (try clear hb); (try clear hb2); (try clear hk); (try clear hi); have hcz22_0 : w21.cell? ⟨gb115, 0, none⟩ = some (.int .i64 t111) := (blk_cell BK115.out 0).trans rfl; have hcz22_1 : w21.cell? ⟨gb115, 1, none⟩ = some (.int .i64 t112) := (blk_cell BK115.out 1).trans rfl; have hcz22_2 : w21.cell? ⟨gb115, 2, none⟩ = some (.int .i64 t113) := (blk_cell BK115.out 2).trans rfl; have hcz22_3 : w21.cell? ⟨gb115, 3, none⟩ = some (.int .i64 t114) := (blk_cell BK115.out 3).trans rfl; have hfz22_0 := blk_frozen BK115.out 0; have hfz22_1 := blk_frozen BK115.out 1; have hfz22_2 := blk_frozen BK115.out 2; have hfz22_3 := blk_frozen BK115.out 3))
            go_meet
            case rel => exact ⟨_, (true), (by first | rfl | (simp; done) | (simp [*]; done) | (simp [xt_ne_nil]; done)), H', ⟨by first | omega | exact Nat.le_refl _⟩, ⟨by (with_reducible repeat (first | refine blk_drewN ?_ _ | refine blk_drew ?_ | refine blk_alloc ?_ _)); exact BK110.out⟩, ⟨by (with_reducible repeat (first | refine blk_drewN ?_ _ | refine blk_drew ?_ | refine blk_alloc ?_ _)); exact BK115.out⟩, ⟨by repeat (first | (with_reducible first | exact HB.out | apply below_alloc | apply pw_below_drewN | apply below_drew1 | refine below_set ?_ GE110.out | refine below_set ?_ GE115.out) | exact HB.out)⟩⟩
          · rw [if_neg c18] at H
            have c18b0 : decide (a1 < t111) = false := decide_eq_false c18
            clear c18
            have H' := Aside0.mk H
            clear H
            have hnb23 := NB110_115.out
            have hnc23 := NB115_110.out
            have hcz24_0 : w11.cell? ⟨gb110, 0, none⟩ = some (.int .i64 a0_0) := (blk_cell BK110.out 0).trans rfl
            have hcz24_1 : w11.cell? ⟨gb110, 1, none⟩ = some (.int .i64 a0_1) := (blk_cell BK110.out 1).trans rfl
            have hcz24_2 : w11.cell? ⟨gb110, 2, none⟩ = some (.int .i64 a0_2) := (blk_cell BK110.out 2).trans rfl
            have hcz24_3 : w11.cell? ⟨gb110, 3, none⟩ = some (.int .i64 a0_3) := (blk_cell BK110.out 3).trans rfl
            have hfz24_0 := blk_frozen BK110.out 0
            have hfz24_1 := blk_frozen BK110.out 1
            have hfz24_2 := blk_frozen BK110.out 2
            have hfz24_3 := blk_frozen BK110.out 3
            go_wp2_with (first | (go_at_call 8; (with_reducible refine (spec_PaceIn.calls a0_0 a0_1 a0_2 a0_3 ji15 0 0 0 true _ A16.out).mono ?_); rintro e w25 ⟨rfl, hb⟩; have n0_ := Aside0.mk (blk_below (g := gb110) (o := .cells #[.int .i64 a0_0, .int .i64 a0_1, .int .i64 a0_2, .int .i64 a0_3] 26 (0, 0)) (by (with_reducible repeat (first | refine blk_drewN ?_ _ | refine blk_drew ?_ | refine blk_alloc ?_ _)); refine blk_far ?_ NB110_115.out _; (with_reducible repeat (first | refine blk_drewN ?_ _ | refine blk_drew ?_ | refine blk_alloc ?_ _)); refine blk_far ?_ NB110_115.out _; (with_reducible repeat (first | refine blk_drewN ?_ _ | refine blk_drew ?_ | refine blk_alloc ?_ _)); refine blk_far ?_ NB110_115.out _; (with_reducible repeat (first | refine blk_drewN ?_ _ | refine blk_drew ?_ | refine blk_alloc ?_ _)); refine blk_far ?_ NB110_115.out _; (with_reducible repeat (first | refine blk_drewN ?_ _ | refine blk_drew ?_ | refine blk_alloc ?_ _)); exact BK110.out) hb); have n1_ := Aside0.mk (blk_below (g := gb115) (o := .cells #[.int .i64 t111, .int .i64 t112, .int .i64 t113, .int .i64 t114] 26 (0, 0)) (by (with_reducible repeat (first | refine blk_drewN ?_ _ | refine blk_drew ?_ | refine blk_alloc ?_ _)); refine blk_put (cs := #[.int .i64 t111, .int .i64 t112, .int .i64 t113, .int .i64 0]) ?_ 3 _ rfl; (with_reducible repeat (first | refine blk_drewN ?_ _ | refine blk_drew ?_ | refine blk_alloc ?_ _)); refine blk_put (cs := #[.int .i64 t111, .int .i64 t112, .int .i64 0, .int .i64 0]) ?_ 2 _ rfl; (with_reducible repeat (first | refine blk_drewN ?_ _ | refine blk_drew ?_ | refine blk_alloc ?_ _)); refine blk_put (cs := #[.int .i64 t111, .int .i64 0, .int .i64 0, .int .i64 0]) ?_ 1 _ rfl; (with_reducible repeat (first | refine blk_drewN ?_ _ | refine blk_drew ?_ | refine blk_alloc ?_ _)); refine blk_put (cs := #[.int .i64 0, .int .i64 0, .int .i64 0, .int .i64 0]) ?_ 0 _ rfl; (with_reducible repeat (first | refine blk_drewN ?_ _ | refine blk_drew ?_ | refine blk_alloc ?_ _)); exact BK115.out) hb); have n2_ := Aside0.mk (below_step (by repeat (first | (with_reducible first | exact HB.out | apply below_alloc | apply pw_below_drewN | apply below_drew1 | refine below_set ?_ GE110.out | refine below_set ?_ GE115.out) | exact HB.out)) hb); clear BK110; clear BK115; clear HB; have BK110 := n0_; have BK115 := n1_; have HB := n2_; clear n0_ n1_ n2_; (try clear hb); (try clear hb2); (try clear hk); (try clear hi); have hcz26_0 : w25.cell? ⟨gb115, 0, none⟩ = some (.int .i64 t111) := (blk_cell BK115.out 0).trans rfl; have hcz26_1 : w25.cell? ⟨gb115, 1, none⟩ = some (.int .i64 t112) := (blk_cell BK115.out 1).trans rfl; have hcz26_2 : w25.cell? ⟨gb115, 2, none⟩ = some (.int .i64 t113) := (blk_cell BK115.out 2).trans rfl; have hcz26_3 : w25.cell? ⟨gb115, 3, none⟩ = some (.int .i64 t114) := (blk_cell BK115.out 3).trans rfl; have hfz26_0 := blk_frozen BK115.out 0; have hfz26_1 := blk_frozen BK115.out 1; have hfz26_2 := blk_frozen BK115.out 2; have hfz26_3 := blk_frozen BK115.out 3))
            go_meet
            case rel => exact ⟨_, (decide (a1 > t112)), (by first | rfl | (simp; done) | (simp [*]; done) | (simp [xt_ne_nil]; done)), H', ⟨by first | omega | exact Nat.le_refl _⟩, ⟨by (with_reducible repeat (first | refine blk_drewN ?_ _ | refine blk_drew ?_ | refine blk_alloc ?_ _)); exact BK110.out⟩, ⟨by (with_reducible repeat (first | refine blk_drewN ?_ _ | refine blk_drew ?_ | refine blk_alloc ?_ _)); exact BK115.out⟩, ⟨by repeat (first | (with_reducible first | exact HB.out | apply below_alloc | apply pw_below_drewN | apply below_drew1 | refine below_set ?_ GE110.out | refine below_set ?_ GE115.out) | exact HB.out)⟩⟩
        · replace c17 := Bool.eq_false_iff.mpr c17
          subst c17
          have H1 : (laws_FnPaceWithin.j0 k a1 l2 true a0_0 a0_1 a0_2 a0_3 t111 t112 t113 t114) = some r := by rw [if_neg (show ¬ (false = true) by decide)] at H; exact H
          clear H
          have H := H1
          clear H1
          have H' := Aside0.mk H
          clear H
          have hnb27 := NB110_115.out
          have hnc27 := NB115_110.out
          have hcz28_0 : w11.cell? ⟨gb110, 0, none⟩ = some (.int .i64 a0_0) := (blk_cell BK110.out 0).trans rfl
          have hcz28_1 : w11.cell? ⟨gb110, 1, none⟩ = some (.int .i64 a0_1) := (blk_cell BK110.out 1).trans rfl
          have hcz28_2 : w11.cell? ⟨gb110, 2, none⟩ = some (.int .i64 a0_2) := (blk_cell BK110.out 2).trans rfl
          have hcz28_3 : w11.cell? ⟨gb110, 3, none⟩ = some (.int .i64 a0_3) := (blk_cell BK110.out 3).trans rfl
          have hfz28_0 := blk_frozen BK110.out 0
          have hfz28_1 := blk_frozen BK110.out 1
          have hfz28_2 := blk_frozen BK110.out 2
          have hfz28_3 := blk_frozen BK110.out 3
          go_wp2_with (first | (go_at_call 8; (with_reducible refine (spec_PaceIn.calls a0_0 a0_1 a0_2 a0_3 ji15 0 0 0 false _ A16.out).mono ?_); rintro e w29 ⟨rfl, hb⟩; have n0_ := Aside0.mk (blk_below (g := gb110) (o := .cells #[.int .i64 a0_0, .int .i64 a0_1, .int .i64 a0_2, .int .i64 a0_3] 26 (0, 0)) (by (with_reducible repeat (first | refine blk_drewN ?_ _ | refine blk_drew ?_ | refine blk_alloc ?_ _)); refine blk_far ?_ NB110_115.out _; (with_reducible repeat (first | refine blk_drewN ?_ _ | refine blk_drew ?_ | refine blk_alloc ?_ _)); refine blk_far ?_ NB110_115.out _; (with_reducible repeat (first | refine blk_drewN ?_ _ | refine blk_drew ?_ | refine blk_alloc ?_ _)); refine blk_far ?_ NB110_115.out _; (with_reducible repeat (first | refine blk_drewN ?_ _ | refine blk_drew ?_ | refine blk_alloc ?_ _)); refine blk_far ?_ NB110_115.out _; (with_reducible repeat (first | refine blk_drewN ?_ _ | refine blk_drew ?_ | refine blk_alloc ?_ _)); exact BK110.out) hb); have n1_ := Aside0.mk (blk_below (g := gb115) (o := .cells #[.int .i64 t111, .int .i64 t112, .int .i64 t113, .int .i64 t114] 26 (0, 0)) (by (with_reducible repeat (first | refine blk_drewN ?_ _ | refine blk_drew ?_ | refine blk_alloc ?_ _)); refine blk_put (cs := #[.int .i64 t111, .int .i64 t112, .int .i64 t113, .int .i64 0]) ?_ 3 _ rfl; (with_reducible repeat (first | refine blk_drewN ?_ _ | refine blk_drew ?_ | refine blk_alloc ?_ _)); refine blk_put (cs := #[.int .i64 t111, .int .i64 t112, .int .i64 0, .int .i64 0]) ?_ 2 _ rfl; (with_reducible repeat (first | refine blk_drewN ?_ _ | refine blk_drew ?_ | refine blk_alloc ?_ _)); refine blk_put (cs := #[.int .i64 t111, .int .i64 0, .int .i64 0, .int .i64 0]) ?_ 1 _ rfl; (with_reducible repeat (first | refine blk_drewN ?_ _ | refine blk_drew ?_ | refine blk_alloc ?_ _)); refine blk_put (cs := #[.int .i64 0, .int .i64 0, .int .i64 0, .int .i64 0]) ?_ 0 _ rfl; (with_reducible repeat (first | refine blk_drewN ?_ _ | refine blk_drew ?_ | refine blk_alloc ?_ _)); exact BK115.out) hb); have n2_ := Aside0.mk (below_step (by repeat (first | (with_reducible first | exact HB.out | apply below_alloc | apply pw_below_drewN | apply below_drew1 | refine below_set ?_ GE110.out | refine below_set ?_ GE115.out) | exact HB.out)) hb); clear BK110; clear BK115; clear HB; have BK110 := n0_; have BK115 := n1_; have HB := n2_; clear n0_ n1_ n2_; (try clear hb); (try clear hb2); (try clear hk); (try clear hi)))
          go_meet
          case rel => exact ⟨_, (true), (by first | rfl | (simp; done) | (simp [*]; done) | (simp [xt_ne_nil]; done)), H', ⟨by first | omega | exact Nat.le_refl _⟩, ⟨by (with_reducible repeat (first | refine blk_drewN ?_ _ | refine blk_drew ?_ | refine blk_alloc ?_ _)); exact BK110.out⟩, ⟨by (with_reducible repeat (first | refine blk_drewN ?_ _ | refine blk_drew ?_ | refine blk_alloc ?_ _)); exact BK115.out⟩, ⟨by repeat (first | (with_reducible first | exact HB.out | apply below_alloc | apply pw_below_drewN | apply below_drew1 | refine below_set ?_ GE110.out | refine below_set ?_ GE115.out) | exact HB.out)⟩⟩
    case rest =>
      clear HC7
      try clear c1
      try clear c2
      try clear p2
      try clear c4
      try clear c4b0
      try clear c4b1
      try clear c6
      try clear c12
      try clear c13
      try clear c14
      try clear c14b0
      try clear c14b1
      try clear c17
      try clear c18
      try clear c18b0
      try clear c19
      try clear c23
      try clear c27
      try clear hcz13_0
      try clear hcz13_1
      try clear hcz13_2
      try clear hcz13_3
      try clear hcz20_0
      try clear hcz20_1
      try clear hcz20_2
      try clear hcz20_3
      try clear hcz22_0
      try clear hcz22_1
      try clear hcz22_2
      try clear hcz22_3
      try clear hcz24_0
      try clear hcz24_1
      try clear hcz24_2
      try clear hcz24_3
      try clear hcz26_0
      try clear hcz26_1
      try clear hcz26_2
      try clear hcz26_3
      try clear hcz28_0
      try clear hcz28_1
      try clear hcz28_2
      try clear hcz28_3
      try clear hcz9_0
      try clear hcz9_1
      try clear hcz9_2
      try clear hcz9_3
      try clear hfz13_0
      try clear hfz13_1
      try clear hfz13_2
      try clear hfz13_3
      try clear hfz20_0
      try clear hfz20_1
      try clear hfz20_2
      try clear hfz20_3
      try clear hfz22_0
      try clear hfz22_1
      try clear hfz22_2
      try clear hfz22_3
      try clear hfz24_0
      try clear hfz24_1
      try clear hfz24_2
      try clear hfz24_3
      try clear hfz26_0
      try clear hfz26_1
      try clear hfz26_2
      try clear hfz26_3
      try clear hfz28_0
      try clear hfz28_1
      try clear hfz28_2
      try clear hfz28_3
      try clear hfz9_0
      try clear hfz9_1
      try clear hfz9_2
      try clear hfz9_3
      obtain ⟨kq, x40_6, rfl, HA, HJ6, BK110, BK115, HB⟩ := hcut
      cases kq with
      | zero => exact absurd HA.out (by simp [laws_FnPaceWithin.j0])
      | succ kj6 =>
        have H := HA.out
        clear HA
        simp only [laws_FnPaceWithin.j0] at H
        by_cases c30 : x40_6 = true
        · subst c30
          have H1 : (some true) = some r := by rw [if_pos rfl] at H; exact H
          clear H
          have H := H1
          clear H1
          obtain rfl := Option.some.inj H
          go_wp2
          go_ret
          exact ⟨by first | rfl | (simp [errW_none, errW_some] <;> rfl) | (simp [*, errW_none, errW_some] <;> rfl), by repeat (first | (with_reducible first | exact HB.out | apply below_alloc | apply pw_below_drewN | apply below_drew1 | refine below_set ?_ GE110.out | refine below_set ?_ GE115.out) | exact HB.out)⟩
        · replace c30 := Bool.eq_false_iff.mpr c30
          subst c30
          have H1 : (laws_FnPaceWithin.l0 kj6 a1 l2 ([] : List Int) (l2.length : Int) 0 a0_0 a0_1 a0_2 a0_3 t111 t112 t113 t114) = some r := by rw [if_neg (show ¬ (false = true) by decide)] at H; exact H
          clear H
          have H := H1
          clear H1
          have H' := Aside0.mk H
          clear H
          go_wp2
          go_loopg [8, 43] kj6 (fun kq v8 v43 w' => ∃ (x8_2 : List Int) (x43_2 : Int), v43 = .int .i64 x43_2 ∧ Aside0 (laws_FnPaceWithin.l0 kq a1 l2 x8_2 (l2.length : Int) x43_2 a0_0 a0_1 a0_2 a0_3 t111 t112 t113 t114 = some r) ∧ Aside0 (kq ≤ kj6) ∧ Aside0 (Kd.R (Kd.int .i64) 3 w' w.heap.size (fun _ => True) v8 x8_2) ∧ Aside0 (w'.heap[gb110]? = some (.cells #[.int .i64 a0_0, .int .i64 a0_1, .int .i64 a0_2, .int .i64 a0_3] 26 (0, 0))) ∧ Aside0 (w'.heap[gb115]? = some (.cells #[.int .i64 t111, .int .i64 t112, .int .i64 t113, .int .i64 t114] 26 (0, 0))) ∧ Aside0 (Below w.heap.size w w'))
          case atStart => exact ⟨(([] : List Int)), (0), (by first | rfl | (simp; done) | (simp [*]; done) | (simp [xt_ne_nil]; done)), H', ⟨Nat.le_refl _⟩, ⟨by first | exact Kd.R_nil _ _ _ _ _ | exact Kd.N_nil _ _ _ _ _ | exact Kd.V_nil _ _ _ _ _ | exact Kd.Q_nil _ _ _ _ _ | exact Kd.S_nil _ _ _ _ _⟩, ⟨by (with_reducible repeat (first | refine blk_drewN ?_ _ | refine blk_drew ?_ | refine blk_alloc ?_ _)); exact BK110.out⟩, ⟨by (with_reducible repeat (first | refine blk_drewN ?_ _ | refine blk_drew ?_ | refine blk_alloc ?_ _)); exact BK115.out⟩, ⟨by repeat (first | (with_reducible first | exact HB.out | apply below_alloc | apply pw_below_drewN | apply below_drew1 | refine below_set ?_ GE110.out | refine below_set ?_ GE115.out) | exact HB.out)⟩⟩
          case round =>
            clear H'
            try clear c1
            try clear c2
            try clear p2
            try clear c3
            try clear c4
            try clear c4b0
            try clear c4b1
            try clear c6
            try clear c12
            try clear c13
            try clear c14
            try clear c14b0
            try clear c14b1
            try clear c17
            try clear c18
            try clear c18b0
            try clear c19
            try clear c23
            try clear c27
            try clear c30
            try clear hcz13_0
            try clear hcz13_1
            try clear hcz13_2
            try clear hcz13_3
            try clear hcz20_0
            try clear hcz20_1
            try clear hcz20_2
            try clear hcz20_3
            try clear hcz22_0
            try clear hcz22_1
            try clear hcz22_2
            try clear hcz22_3
            try clear hcz24_0
            try clear hcz24_1
            try clear hcz24_2
            try clear hcz24_3
            try clear hcz26_0
            try clear hcz26_1
            try clear hcz26_2
            try clear hcz26_3
            try clear hcz28_0
            try clear hcz28_1
            try clear hcz28_2
            try clear hcz28_3
            try clear hcz9_0
            try clear hcz9_1
            try clear hcz9_2
            try clear hcz9_3
            try clear hfz13_0
            try clear hfz13_1
            try clear hfz13_2
            try clear hfz13_3
            try clear hfz20_0
            try clear hfz20_1
            try clear hfz20_2
            try clear hfz20_3
            try clear hfz22_0
            try clear hfz22_1
            try clear hfz22_2
            try clear hfz22_3
            try clear hfz24_0
            try clear hfz24_1
            try clear hfz24_2
            try clear hfz24_3
            try clear hfz26_0
            try clear hfz26_1
            try clear hfz26_2
            try clear hfz26_3
            try clear hfz28_0
            try clear hfz28_1
            try clear hfz28_2
            try clear hfz28_3
            try clear hfz9_0
            try clear hfz9_1
            try clear hfz9_2
            try clear hfz9_3
            try clear p2
            obtain ⟨x8_2, x43_2, rfl, HA, HK2, HO_8, BK110, BK115, HB⟩ := hrel
            cases gk with
            | zero => exact absurd HA.out (by simp [laws_FnPaceWithin.l0])
            | succ k2 =>
              have H := HA.out
              clear HA
              simp only [laws_FnPaceWithin.l0] at H
              by_cases c31 : x43_2 < (l2.length : Int)
              · rw [if_pos c31] at H
                have c31b0 : decide (x43_2 < (l2.length : Int)) = true := decide_eq_true c31
                clear c31
                by_cases c32 : x8_2.length < 17592186044416
                · rw [if_pos c32] at H
                  have LMc32 := Aside0.mk c32
                  clear c32
                  obtain ⟨y117, hy117⟩ : ∃ y_ : List Int, y_ = (x8_2 ++ [(-1)]) := ⟨_, rfl⟩
                  replace H : (laws_FnPaceWithin.l0 k2 a1 l2 y117 (l2.length : Int) (wrap64 (x43_2 + 1)) a0_0 a0_1 a0_2 a0_3 t111 t112 t113 t114) = some r := by first | (rw [hy117]; with_reducible exact H) | (have H2_ := (Option.bind_some _ _).symm.trans H; rw [hy117]; with_reducible exact H2_) | (have H2_ := (Option.bind_some _ _).symm.trans H; with_reducible exact H2_) | with_reducible exact H | (rw [hy117]; exact H) | exact H
                  have Ny117 := Aside0.mk hy117
                  clear hy117
                  have H' := Aside0.mk H
                  clear H
                  go_wp2_with (first | ((with_reducible refine gate_builtin (b := .append) (xs := #[.tmp 45, .tmp 46]) rfl ?_); (try (refine gate_guard (by rfl) ?_; dsimp only)); at_builtin; refine Kd.R_append (Kd.int .i64) (w0 := w) w.heap.size rfl (.tmp 45) (.tmp 46) 37 3 (.int .i64 0) 8 rfl Try.underlying37 info3 rfl (by decide) (by omega) u8 x8_2 (-1) [.int .i64 (-1)] (fun _ => True) (fun _ => False) rfl rfl ?aP (fun _ hk => hk.elim) ?aF ?aO ?aB ?aS ?aL ?_; (case aP => exact rfl); (case aB => exact (by repeat (first | (with_reducible first | exact HB.out | apply below_alloc | apply pw_below_drewN | apply below_drew1 | refine below_set ?_ GE110.out | refine below_set ?_ GE115.out) | exact HB.out))); (case aF => exact (fun _ _ => trivial)); (case aO => exact (by (with_reducible repeat (first | apply Kd.R_alloc | apply Kd.R_drewN | apply Kd.R_drew)); exact HO_8.out)); (case aS => exact (below_size (by repeat (first | (with_reducible first | exact HB.out | apply below_alloc | apply pw_below_drewN | apply below_drew1 | refine below_set ?_ GE110.out | refine below_set ?_ GE115.out) | exact HB.out)))); (case aL => have := LMc32.out; omega); intro v118 w33 ho hb hg hat; rw [← Ny117.out] at ho; have n0_ := Aside0.mk (blk_grown (g := gb110) (o := .cells #[.int .i64 a0_0, .int .i64 a0_1, .int .i64 a0_2, .int .i64 a0_3] 26 (0, 0)) (by (with_reducible repeat (first | refine blk_drewN ?_ _ | refine blk_drew ?_ | refine blk_alloc ?_ _)); exact BK110.out) hg (Kd.R_ne HO_8.out BK110.out (by decide))); have n1_ := Aside0.mk (blk_grown (g := gb115) (o := .cells #[.int .i64 t111, .int .i64 t112, .int .i64 t113, .int .i64 t114] 26 (0, 0)) (by (with_reducible repeat (first | refine blk_drewN ?_ _ | refine blk_drew ?_ | refine blk_alloc ?_ _)); exact BK115.out) hg (Kd.R_ne HO_8.out BK115.out (by decide))); have n2_ := Aside0.mk (hb); have n3_ := Aside0.mk (ho); clear BK110; clear BK115; clear HB; clear HO_8; have BK110 := n0_; have BK115 := n1_; have HB := n2_; have HO119 := n3_; clear n0_ n1_ n2_ n3_; clear ho hb hg hat))
                  go_roundg k2
                  case measure => have := HJ6.out; have := HK2.out; omega
                  case rel => exact ⟨(y117), (wrap64 (x43_2 + 1)), (by first | rfl | (simp; done) | (simp [*]; done) | (simp [xt_ne_nil]; done)), H', ⟨by have := HJ6.out; have := HK2.out; omega⟩, ⟨by (with_reducible repeat (first | apply Kd.R_alloc | apply Kd.R_drewN | apply Kd.R_drew)); exact HO119.out⟩, ⟨by (with_reducible repeat (first | refine blk_drewN ?_ _ | refine blk_drew ?_ | refine blk_alloc ?_ _)); exact BK110.out⟩, ⟨by (with_reducible repeat (first | refine blk_drewN ?_ _ | refine blk_drew ?_ | refine blk_alloc ?_ _)); exact BK115.out⟩, ⟨by repeat (first | (with_reducible first | exact HB.out | apply below_alloc | apply pw_below_drewN | apply below_drew1 | refine below_set ?_ GE110.out | refine below_set ?_ GE115.out) | exact HB.out)⟩⟩
                · rw [if_neg c32] at H
                  exact absurd H (by simp)
              · rw [if_neg c31] at H
                have c31b0 : decide (x43_2 < (l2.length : Int)) = false := decide_eq_false c31
                clear c31
                replace H := Option.bind_eq_some_iff.mp H
                obtain ⟨⟨t120, t123⟩, A340, H⟩ := H
                replace H : (if t123 = true then ((laws_paceAwake.f).bind fun t124 => (laws_FnPaceWithin.j2 k2 a1 l2 t120 (!t124) t111 t112 t113 t114)) else (laws_FnPaceWithin.j2 k2 a1 l2 t120 true t111 t112 t113 t114)) = some r := H
                have A34 := Aside0.mk A340
                clear A340
                have HC35 := Aside0.mk H
                clear H
                have hnb36 := NB110_115.out
                have hnc36 := NB115_110.out
                have hcz37_0 : wr.cell? ⟨gb110, 0, none⟩ = some (.int .i64 a0_0) := (blk_cell BK110.out 0).trans rfl
                have hcz37_1 : wr.cell? ⟨gb110, 1, none⟩ = some (.int .i64 a0_1) := (blk_cell BK110.out 1).trans rfl
                have hcz37_2 : wr.cell? ⟨gb110, 2, none⟩ = some (.int .i64 a0_2) := (blk_cell BK110.out 2).trans rfl
                have hcz37_3 : wr.cell? ⟨gb110, 3, none⟩ = some (.int .i64 a0_3) := (blk_cell BK110.out 3).trans rfl
                have hfz37_0 := blk_frozen BK110.out 0
                have hfz37_1 := blk_frozen BK110.out 1
                have hfz37_2 := blk_frozen BK110.out 2
                have hfz37_3 := blk_frozen BK110.out 3
                obtain ⟨Ao38, co38, eo38⟩ := Kd.R_slice HO_8.out
                subst eo38
                go_upto_region 12 with (first | ((with_reducible refine gate_callee (f := 14) rfl ?_); refine goesL_ (some 54) rfl rfl Try.func14 (by kernel_rfl) rfl #[.agg #[.int .i64 a0_0, .int .i64 a0_1, .int .i64 a0_2, .int .i64 a0_3], .bool false, .int .i64 a1, .slice A2 l2.length c2, .slice Ao38 x8_2.length co38] rfl (by (try simp only [List.map_toArray, List.map_cons, List.map_nil]); first | done | rfl | (simp only [List.length_drop, List.length_take]; rfl)) ?_; (with_reducible refine (laws_paceRun.calls a0_0 a0_1 a0_2 a0_3 false a1 _ _ l2 _ _ x8_2 t120 t123 _ ?side1 ?side2 ?side3 ?side4 A34.out).mono ?_); (case side1 => repeat (first | exact (Kd.C_below HR2.out HB.out) | (with_reducible refine Kd.C_alloc ?_ _) | (with_reducible refine Kd.C_drewN ?_ _) | (with_reducible refine Kd.C_drew ?_))); (case side2 => exact HC2.out); (case side3 => repeat (first | exact (Kd.R_reads' HO_8.out).2.2 | (with_reducible refine Kd.C_alloc ?_ _) | (with_reducible refine Kd.C_drewN ?_ _) | (with_reducible refine Kd.C_drew ?_))); (case side4 => exact (Kd.R_reads' HO_8.out).2.1); rintro e w39 ⟨v121, rfl, ho0, hb⟩; refine ⟨_, rfl, ?_⟩; have n0_ := Aside0.mk (Kd.R_elder' (by (with_reducible repeat (first | apply Kd.R_alloc | apply Kd.R_drewN | apply Kd.R_drew)); exact HO_8.out) (Kd.R_base ho0) hb); have n1_ := Aside0.mk (Kd.R_lower (Kd.R_new' ho0 (Kd.R_lt (by (with_reducible repeat (first | apply Kd.R_alloc | apply Kd.R_drewN | apply Kd.R_drew)); exact HO_8.out))) (below_size (by repeat (first | (with_reducible first | exact HB.out | apply below_alloc | apply pw_below_drewN | apply below_drew1 | refine below_set ?_ GE110.out | refine below_set ?_ GE115.out) | exact HB.out)))); have n2_ := Aside0.mk (blk_below (g := gb110) (o := .cells #[.int .i64 a0_0, .int .i64 a0_1, .int .i64 a0_2, .int .i64 a0_3] 26 (0, 0)) (by (with_reducible repeat (first | refine blk_drewN ?_ _ | refine blk_drew ?_ | refine blk_alloc ?_ _)); exact BK110.out) hb); have n3_ := Aside0.mk (blk_below (g := gb115) (o := .cells #[.int .i64 t111, .int .i64 t112, .int .i64 t113, .int .i64 t114] 26 (0, 0)) (by (with_reducible repeat (first | refine blk_drewN ?_ _ | refine blk_drew ?_ | refine blk_alloc ?_ _)); exact BK115.out) hb); have n4_ := Aside0.mk (below_step (by repeat (first | (with_reducible first | exact HB.out | apply below_alloc | apply pw_below_drewN | apply below_drew1 | refine below_set ?_ GE110.out | refine below_set ?_ GE115.out) | exact HB.out)) hb); clear HO_8; clear BK110; clear BK115; clear HB; have HO_8 := n0_; have HO122 := n1_; have BK110 := n2_; have BK115 := n3_; have HB := n4_; clear n0_ n1_ n2_ n3_ n4_; (try clear hb); (try clear hb2); (try clear hk); (try clear hi); (try clear ho0)))
                (try simp only [Act.put, List.setIfInBounds_toArray, List.set_cons_zero, List.set_cons_succ])
                go_cut [62] (fun v62 wc => ∃ (kq : Nat) (x62_34 : Bool), v62 = .bool x62_34 ∧ Aside0 (laws_FnPaceWithin.j2 kq a1 l2 t120 x62_34 t111 t112 t113 t114 = some r) ∧ Aside0 (kq ≤ k2) ∧ Aside0 (Kd.R (Kd.int .i64) 3 wc w.heap.size (fun _ => True) v121 t120) ∧ Aside0 (wc.heap[gb110]? = some (.cells #[.int .i64 a0_0, .int .i64 a0_1, .int .i64 a0_2, .int .i64 a0_3] 26 (0, 0))) ∧ Aside0 (wc.heap[gb115]? = some (.cells #[.int .i64 t111, .int .i64 t112, .int .i64 t113, .int .i64 t114] 26 (0, 0))) ∧ Aside0 (Below w.heap.size w wc))
                case first =>
                  have H := HC35.out
                  clear HC35
                  by_cases c40 : t123 = true
                  · subst c40
                    have H1 : ((laws_paceAwake.f).bind fun t124 => (laws_FnPaceWithin.j2 k2 a1 l2 t120 (!t124) t111 t112 t113 t114)) = some r := by rw [if_pos rfl] at H; exact H
                    clear H
                    have H := H1
                    clear H1
                    replace H := Option.bind_eq_some_iff.mp H
                    obtain ⟨t124, A410, H⟩ := H
                    replace H : (laws_FnPaceWithin.j2 k2 a1 l2 t120 (!t124) t111 t112 t113 t114) = some r := H
                    have A41 := Aside0.mk A410
                    clear A410
                    have H' := Aside0.mk H
                    clear H
                    go_wp2_with (first | (go_at_call 11; (with_reducible refine (laws_paceAwake.calls  t124 _ A41.out).mono ?_); rintro e w42 ⟨rfl, hb⟩; have n0_ := Aside0.mk (Kd.R_below (by (with_reducible repeat (first | apply Kd.R_alloc | apply Kd.R_drewN | apply Kd.R_drew)); exact HO_8.out) hb); have n1_ := Aside0.mk (Kd.R_below (by (with_reducible repeat (first | apply Kd.R_alloc | apply Kd.R_drewN | apply Kd.R_drew)); exact HO122.out) hb); have n2_ := Aside0.mk (blk_below (g := gb110) (o := .cells #[.int .i64 a0_0, .int .i64 a0_1, .int .i64 a0_2, .int .i64 a0_3] 26 (0, 0)) (by (with_reducible repeat (first | refine blk_drewN ?_ _ | refine blk_drew ?_ | refine blk_alloc ?_ _)); exact BK110.out) hb); have n3_ := Aside0.mk (blk_below (g := gb115) (o := .cells #[.int .i64 t111, .int .i64 t112, .int .i64 t113, .int .i64 t114] 26 (0, 0)) (by (with_reducible repeat (first | refine blk_drewN ?_ _ | refine blk_drew ?_ | refine blk_alloc ?_ _)); exact BK115.out) hb); have n4_ := Aside0.mk (below_step (by repeat (first | (with_reducible first | exact HB.out | apply below_alloc | apply pw_below_drewN | apply below_drew1 | refine below_set ?_ GE110.out | refine below_set ?_ GE115.out) | exact HB.out)) hb); clear HO_8; clear HO122; clear BK110; clear BK115; clear HB; have HO_8 := n0_; have HO122 := n1_; have BK110 := n2_; have BK115 := n3_; have HB := n4_; clear n0_ n1_ n2_ n3_ n4_; (try clear hb); (try clear hb2); (try clear hk); (try clear hi)))
                    go_meet
                    case rel => exact ⟨_, (!t124), (by first | rfl | (simp; done) | (simp [*]; done) | (simp [xt_ne_nil]; done)), H', ⟨by have := HJ6.out; have := HK2.out; first | omega | exact Nat.le_refl _⟩, ⟨by (with_reducible repeat (first | apply Kd.R_alloc | apply Kd.R_drewN | apply Kd.R_drew)); exact Kd.R_mono HO122.out (fun _ hk => trivial)⟩, ⟨by (with_reducible repeat (first | refine blk_drewN ?_ _ | refine blk_drew ?_ | refine blk_alloc ?_ _)); exact BK110.out⟩, ⟨by (with_reducible repeat (first | refine blk_drewN ?_ _ | refine blk_drew ?_ | refine blk_alloc ?_ _)); exact BK115.out⟩, ⟨by repeat (first | (with_reducible first | exact HB.out | apply below_alloc | apply pw_below_drewN | apply below_drew1 | refine below_set ?_ GE110.out | refine below_set ?_ GE115.out) | exact HB.out)⟩⟩
                  · replace c40 := Bool.eq_false_iff.mpr c40
                    subst c40
                    have H1 : (laws_FnPaceWithin.j2 k2 a1 l2 t120 true t111 t112 t113 t114) = some r := by rw [if_neg (show ¬ (false = true) by decide)] at H; exact H
                    clear H
                    have H := H1
                    clear H1
                    have H' := Aside0.mk H
                    clear H
                    go_wp2
                    go_meet
                    case rel => exact ⟨_, (true), (by first | rfl | (simp; done) | (simp [*]; done) | (simp [xt_ne_nil]; done)), H', ⟨by have := HJ6.out; have := HK2.out; first | omega | exact Nat.le_refl _⟩, ⟨by (with_reducible repeat (first | apply Kd.R_alloc | apply Kd.R_drewN | apply Kd.R_drew)); exact Kd.R_mono HO122.out (fun _ hk => trivial)⟩, ⟨by (with_reducible repeat (first | refine blk_drewN ?_ _ | refine blk_drew ?_ | refine blk_alloc ?_ _)); exact BK110.out⟩, ⟨by (with_reducible repeat (first | refine blk_drewN ?_ _ | refine blk_drew ?_ | refine blk_alloc ?_ _)); exact BK115.out⟩, ⟨by repeat (first | (with_reducible first | exact HB.out | apply below_alloc | apply pw_below_drewN | apply below_drew1 | refine below_set ?_ GE110.out | refine below_set ?_ GE115.out) | exact HB.out)⟩⟩
                case rest =>
                  clear HC35
                  try clear c1
                  try clear c2
                  try clear p2
                  try clear c3
                  try clear c4
                  try clear c4b0
                  try clear c4b1
                  try clear c6
                  try clear p6
                  try clear c12
                  try clear c13
                  try clear c14
                  try clear c14b0
                  try clear c14b1
                  try clear c17
                  try clear c18
                  try clear c18b0
                  try clear c19
                  try clear c23
                  try clear c27
                  try clear c30
                  try clear c31
                  try clear c31b0
                  try clear c32
                  try clear c36
                  try clear c40
                  try clear hcz13_0
                  try clear hcz13_1
                  try clear hcz13_2
                  try clear hcz13_3
                  try clear hcz20_0
                  try clear hcz20_1
                  try clear hcz20_2
                  try clear hcz20_3
                  try clear hcz22_0
                  try clear hcz22_1
                  try clear hcz22_2
                  try clear hcz22_3
                  try clear hcz24_0
                  try clear hcz24_1
                  try clear hcz24_2
                  try clear hcz24_3
                  try clear hcz26_0
                  try clear hcz26_1
                  try clear hcz26_2
                  try clear hcz26_3
                  try clear hcz28_0
                  try clear hcz28_1
                  try clear hcz28_2
                  try clear hcz28_3
                  try clear hcz37_0
                  try clear hcz37_1
                  try clear hcz37_2
                  try clear hcz37_3
                  try clear hcz9_0
                  try clear hcz9_1
                  try clear hcz9_2
                  try clear hcz9_3
                  try clear hfz13_0
                  try clear hfz13_1
                  try clear hfz13_2
                  try clear hfz13_3
                  try clear hfz20_0
                  try clear hfz20_1
                  try clear hfz20_2
                  try clear hfz20_3
                  try clear hfz22_0
                  try clear hfz22_1
                  try clear hfz22_2
                  try clear hfz22_3
                  try clear hfz24_0
                  try clear hfz24_1
                  try clear hfz24_2
                  try clear hfz24_3
                  try clear hfz26_0
                  try clear hfz26_1
                  try clear hfz26_2
                  try clear hfz26_3
                  try clear hfz28_0
                  try clear hfz28_1
                  try clear hfz28_2
                  try clear hfz28_3
                  try clear hfz37_0
                  try clear hfz37_1
                  try clear hfz37_2
                  try clear hfz37_3
                  try clear hfz9_0
                  try clear hfz9_1
                  try clear hfz9_2
                  try clear hfz9_3
                  try clear p2
                  obtain ⟨kq, x62_34, rfl, HA, HJ34, HO_9, BK110, BK115, HB⟩ := hcut
                  cases kq with
                  | zero => exact absurd HA.out (by simp [laws_FnPaceWithin.j2])
                  | succ kj34 =>
                    have H := HA.out
                    clear HA
                    simp only [laws_FnPaceWithin.j2] at H
                    by_cases c43 : x62_34 = true
                    · subst c43
                      have H1 : (some false) = some r := by rw [if_pos rfl] at H; exact H
                      clear H
                      have H := H1
                      clear H1
                      obtain rfl := Option.some.inj H
                      go_wp2
                      go_ret
                      exact ⟨by first | rfl | (simp [errW_none, errW_some] <;> rfl) | (simp [*, errW_none, errW_some] <;> rfl), by repeat (first | (with_reducible first | exact HB.out | apply below_alloc | apply pw_below_drewN | apply below_drew1 | refine below_set ?_ GE110.out | refine below_set ?_ GE115.out) | exact HB.out)⟩
                    · replace c43 := Bool.eq_false_iff.mpr c43
                      subst c43
                      have H1 : (laws_FnPaceWithin.l1 kj34 a1 l2 t120 (t120.length : Int) 0 t111 t112 t113 t114) = some r := by rw [if_neg (show ¬ (false = true) by decide)] at H; exact H
                      clear H
                      have H := H1
                      clear H1
                      have H' := Aside0.mk H
                      clear H
                      obtain ⟨Ao44, co44, eo44⟩ := Kd.R_slice HO_9.out
                      subst eo44
                      go_wp2
                      go_loopg [1, 65] kj34 (fun kq v1 v65 w' => ∃ (x1_4 : Int) (x65_4 : Int), v1 = .int .i64 x1_4 ∧ v65 = .int .i64 x65_4 ∧ Aside0 (laws_FnPaceWithin.l1 kq x1_4 l2 t120 (t120.length : Int) x65_4 t111 t112 t113 t114 = some r) ∧ Aside0 (kq ≤ kj34) ∧ Aside0 (Kd.R (Kd.int .i64) 3 w' w.heap.size (fun _ => True) (.slice Ao44 t120.length co44) t120) ∧ Aside0 (w'.heap[gb110]? = some (.cells #[.int .i64 a0_0, .int .i64 a0_1, .int .i64 a0_2, .int .i64 a0_3] 26 (0, 0))) ∧ Aside0 (w'.heap[gb115]? = some (.cells #[.int .i64 t111, .int .i64 t112, .int .i64 t113, .int .i64 t114] 26 (0, 0))) ∧ Aside0 (Below w.heap.size w w'))
                      case atStart => exact ⟨(a1), (0), (by first | rfl | (simp; done) | (simp [*]; done) | (simp [xt_ne_nil]; done)), (by first | rfl | (simp; done) | (simp [*]; done) | (simp [xt_ne_nil]; done)), H', ⟨Nat.le_refl _⟩, ⟨by (with_reducible repeat (first | apply Kd.R_alloc | apply Kd.R_drewN | apply Kd.R_drew)); exact HO_9.out⟩, ⟨by (with_reducible repeat (first | refine blk_drewN ?_ _ | refine blk_drew ?_ | refine blk_alloc ?_ _)); exact BK110.out⟩, ⟨by (with_reducible repeat (first | refine blk_drewN ?_ _ | refine blk_drew ?_ | refine blk_alloc ?_ _)); exact BK115.out⟩, ⟨by repeat (first | (with_reducible first | exact HB.out | apply below_alloc | apply pw_below_drewN | apply below_drew1 | refine below_set ?_ GE110.out | refine below_set ?_ GE115.out) | exact HB.out)⟩⟩
                      case round =>
                        clear H'
                        try clear c1
                        try clear c2
                        try clear p2
                        try clear c3
                        try clear c4
                        try clear c4b0
                        try clear c4b1
                        try clear c6
                        try clear p6
                        try clear c12
                        try clear c13
                        try clear c14
                        try clear c14b0
                        try clear c14b1
                        try clear c17
                        try clear c18
                        try clear c18b0
                        try clear c19
                        try clear c23
                        try clear c27
                        try clear c30
                        try clear c31
                        try clear c31b0
                        try clear c32
                        try clear c36
                        try clear c40
                        try clear c43
                        try clear hcz13_0
                        try clear hcz13_1
                        try clear hcz13_2
                        try clear hcz13_3
                        try clear hcz20_0
                        try clear hcz20_1
                        try clear hcz20_2
                        try clear hcz20_3
                        try clear hcz22_0
                        try clear hcz22_1
                        try clear hcz22_2
                        try clear hcz22_3
                        try clear hcz24_0
                        try clear hcz24_1
                        try clear hcz24_2
                        try clear hcz24_3
                        try clear hcz26_0
                        try clear hcz26_1
                        try clear hcz26_2
                        try clear hcz26_3
                        try clear hcz28_0
                        try clear hcz28_1
                        try clear hcz28_2
                        try clear hcz28_3
                        try clear hcz37_0
                        try clear hcz37_1
                        try clear hcz37_2
                        try clear hcz37_3
                        try clear hcz9_0
                        try clear hcz9_1
                        try clear hcz9_2
                        try clear hcz9_3
                        try clear hfz13_0
                        try clear hfz13_1
                        try clear hfz13_2
                        try clear hfz13_3
                        try clear hfz20_0
                        try clear hfz20_1
                        try clear hfz20_2
                        try clear hfz20_3
                        try clear hfz22_0
                        try clear hfz22_1
                        try clear hfz22_2
                        try clear hfz22_3
                        try clear hfz24_0
                        try clear hfz24_1
                        try clear hfz24_2
                        try clear hfz24_3
                        try clear hfz26_0
                        try clear hfz26_1
                        try clear hfz26_2
                        try clear hfz26_3
                        try clear hfz28_0
                        try clear hfz28_1
                        try clear hfz28_2
                        try clear hfz28_3
                        try clear hfz37_0
                        try clear hfz37_1
                        try clear hfz37_2
                        try clear hfz37_3
                        try clear hfz9_0
                        try clear hfz9_1
                        try clear hfz9_2
                        try clear hfz9_3
                        try clear p2
                        try clear p6
                        obtain ⟨x1_4, x65_4, rfl, rfl, HA, HK4, HO_63, BK110, BK115, HB⟩ := hrel
                        cases gk with
                        | zero => exact absurd HA.out (by simp [laws_FnPaceWithin.l1])
                        | succ k4 =>
                          have H := HA.out
                          clear HA
                          simp only [laws_FnPaceWithin.l1] at H
                          by_cases c45 : x65_4 < (t120.length : Int)
                          · rw [if_pos c45] at H
                            have c45b0 : decide (x65_4 < (t120.length : Int)) = true := decide_eq_true c45
                            clear c45
                            by_cases c46 : 0 ≤ x65_4
                            · rw [if_pos c46] at H
                              have c46b0 : decide (0 ≤ x65_4) = true := decide_eq_true c46
                              clear c46
                              by_cases c47 : x65_4 < (t120.length : Int)
                              · rw [if_pos c47] at H
                                have c47b0 : decide (x65_4 < (t120.length : Int)) = true := decide_eq_true c47
                                clear c47
                                by_cases c48 : (rd t120 x65_4) < t111
                                · rw [if_pos c48] at H
                                  have c48b0 : decide ((rd t120 x65_4) < t111) = true := decide_eq_true c48
                                  clear c48
                                  obtain rfl := Option.some.inj H
                                  have p125 : 0 ≤ (x65_4 : Int) := of_decide_eq_true (by first | (with_reducible assumption) | assumption)
                                  have q125 : x65_4 < (t120.length : Int) := of_decide_eq_true (by first | (with_reducible assumption) | assumption)
                                  obtain ⟨ad125, e125, hx125_0⟩ := Kd.at_int (Kd.R_reads' HO_63.out).2.2 x65_4 p125 q125
                                  cases e125
                                  replace p125 := eq_true p125
                                  replace q125 := eq_true q125
                                  have hnb49 := NB115_110.out
                                  have hnc49 := NB110_115.out
                                  have hcz50_0 : wr.cell? ⟨gb115, 0, none⟩ = some (.int .i64 t111) := (blk_cell BK115.out 0).trans rfl
                                  have hcz50_1 : wr.cell? ⟨gb115, 1, none⟩ = some (.int .i64 t112) := (blk_cell BK115.out 1).trans rfl
                                  have hcz50_2 : wr.cell? ⟨gb115, 2, none⟩ = some (.int .i64 t113) := (blk_cell BK115.out 2).trans rfl
                                  have hcz50_3 : wr.cell? ⟨gb115, 3, none⟩ = some (.int .i64 t114) := (blk_cell BK115.out 3).trans rfl
                                  have hfz50_0 := blk_frozen BK115.out 0
                                  have hfz50_1 := blk_frozen BK115.out 1
                                  have hfz50_2 := blk_frozen BK115.out 2
                                  have hfz50_3 := blk_frozen BK115.out 3
                                  go_wp2
                                  go_ret
                                  exact ⟨by first | rfl | (simp [errW_none, errW_some] <;> rfl) | (simp [*, errW_none, errW_some] <;> rfl), by repeat (first | (with_reducible first | exact HB.out | apply below_alloc | apply pw_below_drewN | apply below_drew1 | refine below_set ?_ GE110.out | refine below_set ?_ GE115.out) | exact HB.out)⟩
                                · rw [if_neg c48] at H
                                  have c48b0 : decide ((rd t120 x65_4) < t111) = false := decide_eq_false c48
                                  clear c48
                                  by_cases c51 : (rd t120 x65_4) > t112
                                  · rw [if_pos c51] at H
                                    have c51b0 : decide (t112 < (rd t120 x65_4)) = true := decide_eq_true c51
                                    clear c51
                                    obtain rfl := Option.some.inj H
                                    have p125 : 0 ≤ (x65_4 : Int) := of_decide_eq_true (by first | (with_reducible assumption) | assumption)
                                    have q125 : x65_4 < (t120.length : Int) := of_decide_eq_true (by first | (with_reducible assumption) | assumption)
                                    obtain ⟨ad125, e125, hx125_0⟩ := Kd.at_int (Kd.R_reads' HO_63.out).2.2 x65_4 p125 q125
                                    cases e125
                                    replace p125 := eq_true p125
                                    replace q125 := eq_true q125
                                    have hnb52 := NB115_110.out
                                    have hnc52 := NB110_115.out
                                    have hcz53_0 : wr.cell? ⟨gb115, 0, none⟩ = some (.int .i64 t111) := (blk_cell BK115.out 0).trans rfl
                                    have hcz53_1 : wr.cell? ⟨gb115, 1, none⟩ = some (.int .i64 t112) := (blk_cell BK115.out 1).trans rfl
                                    have hcz53_2 : wr.cell? ⟨gb115, 2, none⟩ = some (.int .i64 t113) := (blk_cell BK115.out 2).trans rfl
                                    have hcz53_3 : wr.cell? ⟨gb115, 3, none⟩ = some (.int .i64 t114) := (blk_cell BK115.out 3).trans rfl
                                    have hfz53_0 := blk_frozen BK115.out 0
                                    have hfz53_1 := blk_frozen BK115.out 1
                                    have hfz53_2 := blk_frozen BK115.out 2
                                    have hfz53_3 := blk_frozen BK115.out 3
                                    go_wp2
                                    go_ret
                                    exact ⟨by first | rfl | (simp [errW_none, errW_some] <;> rfl) | (simp [*, errW_none, errW_some] <;> rfl), by repeat (first | (with_reducible first | exact HB.out | apply below_alloc | apply pw_below_drewN | apply below_drew1 | refine below_set ?_ GE110.out | refine below_set ?_ GE115.out) | exact HB.out)⟩
                                  · rw [if_neg c51] at H
                                    have c51b0 : decide (t112 < (rd t120 x65_4)) = false := decide_eq_false c51
                                    clear c51
                                    by_cases c54 : x65_4 < (l2.length : Int)
                                    · rw [if_pos c54] at H
                                      have c54b0 : decide (x65_4 < (l2.length : Int)) = true := decide_eq_true c54
                                      clear c54
                                      obtain ⟨bq55, hbq55⟩ : ∃ b_ : Bool, b_ = (rdOf false l2 x65_4) := ⟨_, rfl⟩
                                      replace H : (if bq55 = true then (if (rd t120 x65_4) > x1_4 then (some false) else (laws_FnPaceWithin.l1 k4 (rd t120 x65_4) l2 t120 (t120.length : Int) (wrap64 (x65_4 + 1)) t111 t112 t113 t114)) else (if (rd t120 x65_4) < x1_4 then (some false) else (laws_FnPaceWithin.l1 k4 (rd t120 x65_4) l2 t120 (t120.length : Int) (wrap64 (x65_4 + 1)) t111 t112 t113 t114))) = some r := by rw [← hbq55] at H; exact H
                                      have Nbq55 := Aside0.mk hbq55
                                      clear hbq55
                                      by_cases c56 : bq55 = true
                                      · subst c56
                                        have H1 : (if (rd t120 x65_4) > x1_4 then (some false) else (laws_FnPaceWithin.l1 k4 (rd t120 x65_4) l2 t120 (t120.length : Int) (wrap64 (x65_4 + 1)) t111 t112 t113 t114)) = some r := by rw [if_pos rfl] at H; exact H
                                        clear H
                                        have H := H1
                                        clear H1
                                        by_cases c57 : (rd t120 x65_4) > x1_4
                                        · rw [if_pos c57] at H
                                          have c57b0 : decide (x1_4 < (rd t120 x65_4)) = true := decide_eq_true c57
                                          clear c57
                                          obtain rfl := Option.some.inj H
                                          have p125 : 0 ≤ (x65_4 : Int) := of_decide_eq_true (by first | (with_reducible assumption) | assumption)
                                          have q125 : x65_4 < (t120.length : Int) := of_decide_eq_true (by first | (with_reducible assumption) | assumption)
                                          obtain ⟨ad125, e125, hx125_0⟩ := Kd.at_int (Kd.R_reads' HO_63.out).2.2 x65_4 p125 q125
                                          cases e125
                                          replace p125 := eq_true p125
                                          replace q125 := eq_true q125
                                          have hnb58 := NB115_110.out
                                          have hnc58 := NB110_115.out
                                          have hcz59_0 : wr.cell? ⟨gb115, 0, none⟩ = some (.int .i64 t111) := (blk_cell BK115.out 0).trans rfl
                                          have hcz59_1 : wr.cell? ⟨gb115, 1, none⟩ = some (.int .i64 t112) := (blk_cell BK115.out 1).trans rfl
                                          have hcz59_2 : wr.cell? ⟨gb115, 2, none⟩ = some (.int .i64 t113) := (blk_cell BK115.out 2).trans rfl
                                          have hcz59_3 : wr.cell? ⟨gb115, 3, none⟩ = some (.int .i64 t114) := (blk_cell BK115.out 3).trans rfl
                                          have hfz59_0 := blk_frozen BK115.out 0
                                          have hfz59_1 := blk_frozen BK115.out 1
                                          have hfz59_2 := blk_frozen BK115.out 2
                                          have hfz59_3 := blk_frozen BK115.out 3
                                          have p126 : 0 ≤ (x65_4 : Int) := of_decide_eq_true (by first | (with_reducible assumption) | assumption)
                                          have q126 : x65_4 < (l2.length : Int) := of_decide_eq_true (by first | (with_reducible assumption) | assumption)
                                          obtain ⟨ad126, e126, hx126_0⟩ := Kd.at_bool HR2.out x65_4 p126 q126
                                          (try rw [← Nbq55.out] at hx126_0)
                                          cases e126
                                          replace hx126_0 := (HB.out.cell (World.block_lt_of_cell? w _ hx126_0)).trans hx126_0
                                          replace p126 := eq_true p126
                                          replace q126 := eq_true q126
                                          go_wp2
                                          go_ret
                                          exact ⟨by first | rfl | (simp [errW_none, errW_some] <;> rfl) | (simp [*, errW_none, errW_some] <;> rfl), by repeat (first | (with_reducible first | exact HB.out | apply below_alloc | apply pw_below_drewN | apply below_drew1 | refine below_set ?_ GE110.out | refine below_set ?_ GE115.out) | exact HB.out)⟩
                                        · rw [if_neg c57] at H
                                          have c57b0 : decide (x1_4 < (rd t120 x65_4)) = false := decide_eq_false c57
                                          clear c57
                                          have H' := Aside0.mk H
                                          clear H
                                          have p125 : 0 ≤ (x65_4 : Int) := of_decide_eq_true (by first | (with_reducible assumption) | assumption)
                                          have q125 : x65_4 < (t120.length : Int) := of_decide_eq_true (by first | (with_reducible assumption) | assumption)
                                          obtain ⟨ad125, e125, hx125_0⟩ := Kd.at_int (Kd.R_reads' HO_63.out).2.2 x65_4 p125 q125
                                          cases e125
                                          replace p125 := eq_true p125
                                          replace q125 := eq_true q125
                                          have hnb60 := NB115_110.out
                                          have hnc60 := NB110_115.out
                                          have hcz61_0 : wr.cell? ⟨gb115, 0, none⟩ = some (.int .i64 t111) := (blk_cell BK115.out 0).trans rfl
                                          have hcz61_1 : wr.cell? ⟨gb115, 1, none⟩ = some (.int .i64 t112) := (blk_cell BK115.out 1).trans rfl
                                          have hcz61_2 : wr.cell? ⟨gb115, 2, none⟩ = some (.int .i64 t113) := (blk_cell BK115.out 2).trans rfl
                                          have hcz61_3 : wr.cell? ⟨gb115, 3, none⟩ = some (.int .i64 t114) := (blk_cell BK115.out 3).trans rfl
                                          have hfz61_0 := blk_frozen BK115.out 0
                                          have hfz61_1 := blk_frozen BK115.out 1
                                          have hfz61_2 := blk_frozen BK115.out 2
                                          have hfz61_3 := blk_frozen BK115.out 3
                                          have p126 : 0 ≤ (x65_4 : Int) := of_decide_eq_true (by first | (with_reducible assumption) | assumption)
                                          have q126 : x65_4 < (l2.length : Int) := of_decide_eq_true (by first | (with_reducible assumption) | assumption)
                                          obtain ⟨ad126, e126, hx126_0⟩ := Kd.at_bool HR2.out x65_4 p126 q126
                                          (try rw [← Nbq55.out] at hx126_0)
                                          cases e126
                                          replace hx126_0 := (HB.out.cell (World.block_lt_of_cell? w _ hx126_0)).trans hx126_0
                                          replace p126 := eq_true p126
                                          replace q126 := eq_true q126
                                          have p127 : 0 ≤ (x65_4 : Int) := of_decide_eq_true (by first | (with_reducible assumption) | assumption)
                                          have q127 : x65_4 < (l2.length : Int) := of_decide_eq_true (by first | (with_reducible assumption) | assumption)
                                          obtain ⟨ad127, e127, hx127_0⟩ := Kd.at_bool HR2.out x65_4 p127 q127
                                          (try rw [← Nbq55.out] at hx127_0)
                                          obtain rfl : ad126 = ad127 := (by injection e127)
                                          replace hx127_0 := (HB.out.cell (World.block_lt_of_cell? w _ hx127_0)).trans hx127_0
                                          replace p127 := eq_true p127
                                          replace q127 := eq_true q127
                                          go_wp2
                                          go_roundg k4
                                          case measure => have := HJ6.out; have := HK2.out; have := HJ34.out; have := HK4.out; omega
                                          case rel => exact ⟨(rd t120 x65_4), (wrap64 (x65_4 + 1)), (by first | rfl | (simp; done) | (simp [*]; done) | (simp [xt_ne_nil]; done)), (by first | rfl | (simp; done) | (simp [*]; done) | (simp [xt_ne_nil]; done)), H', ⟨by have := HJ6.out; have := HK2.out; have := HJ34.out; have := HK4.out; omega⟩, ⟨by (with_reducible repeat (first | apply Kd.R_alloc | apply Kd.R_drewN | apply Kd.R_drew)); exact HO_63.out⟩, ⟨by (with_reducible repeat (first | refine blk_drewN ?_ _ | refine blk_drew ?_ | refine blk_alloc ?_ _)); exact BK110.out⟩, ⟨by (with_reducible repeat (first | refine blk_drewN ?_ _ | refine blk_drew ?_ | refine blk_alloc ?_ _)); exact BK115.out⟩, ⟨by repeat (first | (with_reducible first | exact HB.out | apply below_alloc | apply pw_below_drewN | apply below_drew1 | refine below_set ?_ GE110.out | refine below_set ?_ GE115.out) | exact HB.out)⟩⟩
                                      · replace c56 := Bool.eq_false_iff.mpr c56
                                        subst c56
                                        have H1 : (if (rd t120 x65_4) < x1_4 then (some false) else (laws_FnPaceWithin.l1 k4 (rd t120 x65_4) l2 t120 (t120.length : Int) (wrap64 (x65_4 + 1)) t111 t112 t113 t114)) = some r := by rw [if_neg (show ¬ (false = true) by decide)] at H; exact H
                                        clear H
                                        have H := H1
                                        clear H1
                                        by_cases c62 : (rd t120 x65_4) < x1_4
                                        · rw [if_pos c62] at H
                                          have c62b0 : decide ((rd t120 x65_4) < x1_4) = true := decide_eq_true c62
                                          clear c62
                                          obtain rfl := Option.some.inj H
                                          have p125 : 0 ≤ (x65_4 : Int) := of_decide_eq_true (by first | (with_reducible assumption) | assumption)
                                          have q125 : x65_4 < (t120.length : Int) := of_decide_eq_true (by first | (with_reducible assumption) | assumption)
                                          obtain ⟨ad125, e125, hx125_0⟩ := Kd.at_int (Kd.R_reads' HO_63.out).2.2 x65_4 p125 q125
                                          cases e125
                                          replace p125 := eq_true p125
                                          replace q125 := eq_true q125
                                          have hnb63 := NB115_110.out
                                          have hnc63 := NB110_115.out
                                          have hcz64_0 : wr.cell? ⟨gb115, 0, none⟩ = some (.int .i64 t111) := (blk_cell BK115.out 0).trans rfl
                                          have hcz64_1 : wr.cell? ⟨gb115, 1, none⟩ = some (.int .i64 t112) := (blk_cell BK115.out 1).trans rfl
                                          have hcz64_2 : wr.cell? ⟨gb115, 2, none⟩ = some (.int .i64 t113) := (blk_cell BK115.out 2).trans rfl
                                          have hcz64_3 : wr.cell? ⟨gb115, 3, none⟩ = some (.int .i64 t114) := (blk_cell BK115.out 3).trans rfl
                                          have hfz64_0 := blk_frozen BK115.out 0
                                          have hfz64_1 := blk_frozen BK115.out 1
                                          have hfz64_2 := blk_frozen BK115.out 2
                                          have hfz64_3 := blk_frozen BK115.out 3
                                          have p126 : 0 ≤ (x65_4 : Int) := of_decide_eq_true (by first | (with_reducible assumption) | assumption)
                                          have q126 : x65_4 < (l2.length : Int) := of_decide_eq_true (by first | (with_reducible assumption) | assumption)
                                          obtain ⟨ad126, e126, hx126_0⟩ := Kd.at_bool HR2.out x65_4 p126 q126
                                          (try rw [← Nbq55.out] at hx126_0)
                                          cases e126
                                          replace hx126_0 := (HB.out.cell (World.block_lt_of_cell? w _ hx126_0)).trans hx126_0
                                          replace p126 := eq_true p126
                                          replace q126 := eq_true q126
                                          have p128 : 0 ≤ (x65_4 : Int) := of_decide_eq_true (by first | (with_reducible assumption) | assumption)
                                          have q128 : x65_4 < (l2.length : Int) := of_decide_eq_true (by first | (with_reducible assumption) | assumption)
                                          obtain ⟨ad128, e128, hx128_0⟩ := Kd.at_bool HR2.out x65_4 p128 q128
                                          (try rw [← Nbq55.out] at hx128_0)
                                          obtain rfl : ad126 = ad128 := (by injection e128)
                                          replace hx128_0 := (HB.out.cell (World.block_lt_of_cell? w _ hx128_0)).trans hx128_0
                                          replace p128 := eq_true p128
                                          replace q128 := eq_true q128
                                          go_wp2
                                          go_ret
                                          exact ⟨by first | rfl | (simp [errW_none, errW_some] <;> rfl) | (simp [*, errW_none, errW_some] <;> rfl), by repeat (first | (with_reducible first | exact HB.out | apply below_alloc | apply pw_below_drewN | apply below_drew1 | refine below_set ?_ GE110.out | refine below_set ?_ GE115.out) | exact HB.out)⟩
                                        · rw [if_neg c62] at H
                                          have c62b0 : decide ((rd t120 x65_4) < x1_4) = false := decide_eq_false c62
                                          clear c62
                                          have H' := Aside0.mk H
                                          clear H
                                          have p125 : 0 ≤ (x65_4 : Int) := of_decide_eq_true (by first | (with_reducible assumption) | assumption)
                                          have q125 : x65_4 < (t120.length : Int) := of_decide_eq_true (by first | (with_reducible assumption) | assumption)
                                          obtain ⟨ad125, e125, hx125_0⟩ := Kd.at_int (Kd.R_reads' HO_63.out).2.2 x65_4 p125 q125
                                          cases e125
                                          replace p125 := eq_true p125
                                          replace q125 := eq_true q125
                                          have hnb65 := NB115_110.out
                                          have hnc65 := NB110_115.out
                                          have hcz66_0 : wr.cell? ⟨gb115, 0, none⟩ = some (.int .i64 t111) := (blk_cell BK115.out 0).trans rfl
                                          have hcz66_1 : wr.cell? ⟨gb115, 1, none⟩ = some (.int .i64 t112) := (blk_cell BK115.out 1).trans rfl
                                          have hcz66_2 : wr.cell? ⟨gb115, 2, none⟩ = some (.int .i64 t113) := (blk_cell BK115.out 2).trans rfl
                                          have hcz66_3 : wr.cell? ⟨gb115, 3, none⟩ = some (.int .i64 t114) := (blk_cell BK115.out 3).trans rfl
                                          have hfz66_0 := blk_frozen BK115.out 0
                                          have hfz66_1 := blk_frozen BK115.out 1
                                          have hfz66_2 := blk_frozen BK115.out 2
                                          have hfz66_3 := blk_frozen BK115.out 3
                                          have p126 : 0 ≤ (x65_4 : Int) := of_decide_eq_true (by first | (with_reducible assumption) | assumption)
                                          have q126 : x65_4 < (l2.length : Int) := of_decide_eq_true (by first | (with_reducible assumption) | assumption)
                                          obtain ⟨ad126, e126, hx126_0⟩ := Kd.at_bool HR2.out x65_4 p126 q126
                                          (try rw [← Nbq55.out] at hx126_0)
                                          cases e126
                                          replace hx126_0 := (HB.out.cell (World.block_lt_of_cell? w _ hx126_0)).trans hx126_0
                                          replace p126 := eq_true p126
                                          replace q126 := eq_true q126
                                          have p128 : 0 ≤ (x65_4 : Int) := of_decide_eq_true (by first | (with_reducible assumption) | assumption)
                                          have q128 : x65_4 < (l2.length : Int) := of_decide_eq_true (by first | (with_reducible assumption) | assumption)
                                          obtain ⟨ad128, e128, hx128_0⟩ := Kd.at_bool HR2.out x65_4 p128 q128
                                          (try rw [← Nbq55.out] at hx128_0)
                                          obtain rfl : ad126 = ad128 := (by injection e128)
                                          replace hx128_0 := (HB.out.cell (World.block_lt_of_cell? w _ hx128_0)).trans hx128_0
                                          replace p128 := eq_true p128
                                          replace q128 := eq_true q128
                                          go_wp2
                                          go_roundg k4
                                          case measure => have := HJ6.out; have := HK2.out; have := HJ34.out; have := HK4.out; omega
                                          case rel => exact ⟨(rd t120 x65_4), (wrap64 (x65_4 + 1)), (by first | rfl | (simp; done) | (simp [*]; done) | (simp [xt_ne_nil]; done)), (by first | rfl | (simp; done) | (simp [*]; done) | (simp [xt_ne_nil]; done)), H', ⟨by have := HJ6.out; have := HK2.out; have := HJ34.out; have := HK4.out; omega⟩, ⟨by (with_reducible repeat (first | apply Kd.R_alloc | apply Kd.R_drewN | apply Kd.R_drew)); exact HO_63.out⟩, ⟨by (with_reducible repeat (first | refine blk_drewN ?_ _ | refine blk_drew ?_ | refine blk_alloc ?_ _)); exact BK110.out⟩, ⟨by (with_reducible repeat (first | refine blk_drewN ?_ _ | refine blk_drew ?_ | refine blk_alloc ?_ _)); exact BK115.out⟩, ⟨by repeat (first | (with_reducible first | exact HB.out | apply below_alloc | apply pw_below_drewN | apply below_drew1 | refine below_set ?_ GE110.out | refine below_set ?_ GE115.out) | exact HB.out)⟩⟩
                                    · rw [if_neg c54] at H
                                      exact absurd H (by simp)
                              · rw [if_neg c47] at H
                                exact absurd H (by simp)
                            · rw [if_neg c46] at H
                              exact absurd H (by simp)
                          · rw [if_neg c45] at H
                            have c45b0 : decide (x65_4 < (t120.length : Int)) = false := decide_eq_false c45
                            clear c45
                            obtain rfl := Option.some.inj H
                            go_wp2
                            go_ret
                            exact ⟨by first | rfl | (simp [errW_none, errW_some] <;> rfl) | (simp [*, errW_none, errW_some] <;> rfl), by repeat (first | (with_reducible first | exact HB.out | apply below_alloc | apply pw_below_drewN | apply below_drew1 | refine below_set ?_ GE110.out | refine below_set ?_ GE115.out) | exact HB.out)⟩

end Go.Proofs.Ytlefemlpemjhcaa.PFnPaceWithin

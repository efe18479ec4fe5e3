-- Written by a program of this session's (over the kit's print), with contracts proved by hand among what it calls.
import Derived.Test.YtfegihmnpcjdgaaPFnRangesFillx0
import Derived.Test.YtfegihmnpcjdgaaPFnRangesFillx3
import Derived.Test.YtfegihmnpcjdgaaPFnRangesFillx4
namespace Go.Proofs.Ytfegihmnpcjdgaa.PFnRangesFill
open Go.RowKit Go.Proofs.YtfegihmnpcjdgaaW.PrintWords Go.Proofs.YtfegihmnpcjdgaaW.PrintLast Go.Proofs.YtfegihmnpcjdgaaW.PrintMore
attribute [local go_sem] max2_int min2_int max_two min_two max_three min_three max_four min_four   -- for this text's walks alone
set_option linter.unusedVariables false
set_option linter.unusedSimpArgs false

/-! ### ranges_Ranges_Size: function 50 -/
def ranges_Ranges_Size.l0 : Nat → Int → List (S61) → Int → Int → Option (Int)
  | 0, _, _, _, _ => none
  | k + 1, x2, x5, x6, x7 => if x7 < x6 then (if 0 ≤ x7 then (if x7 < (x5.length : Int) then (ranges_Ranges_Size.l0 k (wrap64 (x2 + ((rd_T61 x5 x7).f1))) x5 x6 (wrap64 (x7 + 1))) else (none)) else (none)) else (some x2)
def ranges_Ranges_Size.f (k : Nat) (l0 : List (S61)) : Option (Int) := ranges_Ranges_Size.l0 k 0 l0 (l0.length : Int) 0
theorem ranges_Ranges_Size.mono_l : ∀ k, (∀ y0 y1 y2 y3, LeO (ranges_Ranges_Size.l0 k y0 y1 y2 y3) (ranges_Ranges_Size.l0 (k + 1) y0 y1 y2 y3))
  | 0 => fun _ _ _ _ r h => by simp [ranges_Ranges_Size.l0] at h
  | k + 1 => by
    have ih0 := ranges_Ranges_Size.mono_l k
    · intro y0 y1 y2 y3
      unfold ranges_Ranges_Size.l0
      repeat' first
      | (with_reducible exact ih0 _ _ _ _)
      | (with_reducible exact LeO.refl _)
      | (with_reducible exact LeO.none _)
      | (with_reducible refine LeO.ite ?_ ?_)
      | (with_reducible refine LeO.bind ?_ (fun _ => ?_))
      | exact ih0 _ _ _ _
      | exact LeO.none _
      | refine LeO.ite ?_ ?_
      | refine LeO.bind ?_ (fun _ => ?_)
theorem ranges_Ranges_Size.mono : ∀ a0 k, LeO (ranges_Ranges_Size.f k a0) (ranges_Ranges_Size.f (k + 1) a0) := by
  intro a0 k
  have ih0 := ranges_Ranges_Size.mono_l k
  unfold ranges_Ranges_Size.f
  repeat' first
      | (with_reducible exact ih0 _ _ _ _)
      | (with_reducible exact LeO.refl _)
      | (with_reducible exact LeO.none _)
      | (with_reducible refine LeO.ite ?_ ?_)
      | (with_reducible refine LeO.bind ?_ (fun _ => ?_))
      | exact ih0 _ _ _ _
      | exact LeO.none _
      | refine LeO.ite ?_ ?_
      | refine LeO.bind ?_ (fun _ => ?_)
set_option maxHeartbeats 8000000 in
set_option maxRecDepth 100000 in
theorem ranges_Ranges_Size.calls (k : Nat) (A0 : Option Addr) (c0 : Nat) (l0 : List (S61)) (r : Int) (w : World) (hr0 : Kd.C k61 w A0 l0.length l0) (hc0 : l0.length ≤ c0) (h : ranges_Ranges_Size.f k l0 = some r) :
    Calls Try.prog 50 #[.slice A0 l0.length c0] w fun e w' => e = .returned (.int .i64 r) ∧ Below w.heap.size w w' := by
  have hu61 := Try.underlying61
  have HR0 := Aside0.mk hr0
  have HC0 := Aside0.mk hc0
  clear hr0 hc0
  have HB := Aside0.mk (Below.refl w.heap.size w)
  have H : (ranges_Ranges_Size.l0 k 0 l0 (l0.length : Int) 0) = some r := h
  clear h
  have H' := Aside0.mk H
  clear H
  go_enter Try.func50, Try.ntmps50
  go_wp2
  go_loopg [2, 7] k (fun kq v2 v7 w' => ∃ (x2_1 : Int) (x7_1 : Int), v2 = .int .i64 x2_1 ∧ v7 = .int .i64 x7_1 ∧ Aside0 (ranges_Ranges_Size.l0 kq x2_1 l0 (l0.length : Int) x7_1 = some r) ∧ Aside0 (kq ≤ k) ∧ Aside0 (Below w.heap.size w w'))
  case atStart => exact ⟨(0), (0), (by first | rfl | (simp; done) | (simp [*]; done) | (simp [xt_ne_nil]; done)), (by first | rfl | (simp; done) | (simp [*]; done) | (simp [xt_ne_nil]; done)), H', ⟨Nat.le_refl _⟩, ⟨by repeat (first | (with_reducible first | exact HB.out | apply below_alloc | apply pw_below_drewN | apply below_drew1) | exact HB.out)⟩⟩
  case round =>
    clear H'
    obtain ⟨x2_1, x7_1, rfl, rfl, HA, HK1, HB⟩ := hrel
    cases gk with
    | zero => exact absurd HA.out (by simp [ranges_Ranges_Size.l0])
    | succ k1 =>
      have H := HA.out
      clear HA
      simp only [ranges_Ranges_Size.l0] at H
      by_cases c2 : x7_1 < (l0.length : Int)
      · rw [if_pos c2] at H
        have c2b0 : decide (x7_1 < (l0.length : Int)) = true := decide_eq_true c2
        clear c2
        by_cases c3 : 0 ≤ x7_1
        · rw [if_pos c3] at H
          have c3b0 : decide (0 ≤ x7_1) = true := decide_eq_true c3
          clear c3
          by_cases c4 : x7_1 < (l0.length : Int)
          · rw [if_pos c4] at H
            have c4b0 : decide (x7_1 < (l0.length : Int)) = true := decide_eq_true c4
            clear c4
            have H' := Aside0.mk H
            clear H
            have p193 : 0 ≤ (x7_1 : Int) := of_decide_eq_true (by first | (with_reducible assumption) | assumption)
            have q193 : x7_1 < (l0.length : Int) := of_decide_eq_true (by first | (with_reducible assumption) | assumption)
            obtain ⟨ad193, e193, hx193_0, hx193_1⟩ := at_T61 HR0.out x7_1 p193 q193
            cases e193
            replace hx193_0 := (HB.out.cell (World.block_lt_of_cell? w _ hx193_0)).trans hx193_0
            replace hx193_1 := (HB.out.cell (World.block_lt_of_cell? w _ hx193_1)).trans hx193_1
            replace p193 := eq_true p193
            replace q193 := eq_true q193
            go_wp2_with (first | ((with_reducible refine gate_dst (N := 4) rfl ?_); refine box_event ?hg (N := 4) ?hd (cs := #[.int .i64 0, .int .i64 0]) (t := 61) ?hr ?_; (case hd => rfl); (case hg => rfl); (case hr => first | (go_simp; done) | (go_simp; rfl)); intro gb194 hg w5 hbox hb; have n0_ := Aside0.mk (below_step (by repeat (first | (with_reducible first | exact HB.out | apply below_alloc | apply pw_below_drewN | apply below_drew1) | exact HB.out)) hb); have n1_ := Aside0.mk (hbox); have n2_ := Aside0.mk ((by rw [hg]; exact (below_size (by repeat (first | (with_reducible first | exact HB.out | apply below_alloc | apply pw_below_drewN | apply below_drew1) | exact HB.out))) : w.heap.size ≤ gb194)); have n3_ := Aside0.mk ((by rw [hg]; exact (below_size (by repeat (first | (with_reducible first | exact HB.out | apply below_alloc | apply pw_below_drewN | apply below_drew1) | exact HB.out))) : w.heap.size ≤ gb194)); clear HB; have HB := n0_; have BK194 := n1_; have GW194 := n2_; have GE194 := n3_; clear n0_ n1_ n2_ n3_; clear hb hbox hg; have hcz6_0 : w5.cell? ⟨gb194, 0, none⟩ = some (.int .i64 0) := (blk_cell BK194.out 0).trans rfl; have hcz6_1 : w5.cell? ⟨gb194, 1, none⟩ = some (.int .i64 0) := (blk_cell BK194.out 1).trans rfl; have hfz6_0 := blk_frozen BK194.out 0; have hfz6_1 := blk_frozen BK194.out 1))
            go_roundg k1
            case measure => have := HK1.out; omega
            case rel => exact ⟨(wrap64 (x2_1 + ((rd_T61 l0 x7_1).f1))), (wrap64 (x7_1 + 1)), (by first | rfl | (simp; done) | (simp [*]; done) | (simp [xt_ne_nil]; done)), (by first | rfl | (simp; done) | (simp [*]; done) | (simp [xt_ne_nil]; done)), H', ⟨by have := HK1.out; omega⟩, ⟨by repeat (first | (with_reducible first | exact HB.out | apply below_alloc | apply pw_below_drewN | apply below_drew1 | refine below_set ?_ GE194.out) | exact HB.out)⟩⟩
          · rw [if_neg c4] at H
            exact absurd H (by simp)
        · rw [if_neg c3] at H
          exact absurd H (by simp)
      · rw [if_neg c2] at H
        have c2b0 : decide (x7_1 < (l0.length : Int)) = false := decide_eq_false c2
        clear c2
        obtain rfl := Option.some.inj H
        go_wp2
        go_ret
        exact ⟨by first | rfl | (simp [errW_none, errW_some] <;> rfl) | (simp [*, errW_none, errW_some] <;> rfl), by repeat (first | (with_reducible first | exact HB.out | apply below_alloc | apply pw_below_drewN | apply below_drew1) | exact HB.out)⟩

/-! ### impl_RangesSize: function 28 -/
def impl_RangesSize.f (k : Nat) (l0 : List (S28)) : Option (Int) := (impl_inserted.f l0).bind fun t195 => ((ranges_Ranges_Size.f k t195).bind fun t198 => (some t198))
theorem impl_RangesSize.mono : ∀ a0 k, LeO (impl_RangesSize.f k a0) (impl_RangesSize.f (k + 1) a0) := by
  intro a0 k
  unfold impl_RangesSize.f
  repeat' first
      | (with_reducible exact ranges_Ranges_Size.mono _ _)
      | (with_reducible exact LeO.refl _)
      | (with_reducible exact LeO.none _)
      | (with_reducible refine LeO.ite ?_ ?_)
      | (with_reducible refine LeO.bind ?_ (fun _ => ?_))
      | exact ranges_Ranges_Size.mono _ _
      | exact LeO.none _
      | refine LeO.ite ?_ ?_
      | refine LeO.bind ?_ (fun _ => ?_)
set_option maxHeartbeats 8000000 in
set_option maxRecDepth 100000 in
theorem impl_RangesSize.calls (k : Nat) (A0 : Option Addr) (c0 : Nat) (l0 : List (S28)) (r : Int) (w : World) (hr0 : Kd.C k28 w A0 l0.length l0) (hc0 : l0.length ≤ c0) (h : impl_RangesSize.f k l0 = some r) :
    Calls Try.prog 28 #[.slice A0 l0.length c0] w fun e w' => e = .returned (.int .i64 r) ∧ Below w.heap.size w w' := by
  have HR0 := Aside0.mk hr0
  have HC0 := Aside0.mk hc0
  clear hr0 hc0
  have HB := Aside0.mk (Below.refl w.heap.size w)
  have H : ((impl_inserted.f l0).bind fun t195 => ((ranges_Ranges_Size.f k t195).bind fun t198 => (some t198))) = some r := h
  clear h
  replace H := Option.bind_eq_some_iff.mp H
  obtain ⟨t195, A20, H⟩ := H
  replace H : ((ranges_Ranges_Size.f k t195).bind fun t198 => (some t198)) = some r := H
  have A2 := Aside0.mk A20
  clear A20
  replace H := Option.bind_eq_some_iff.mp H
  obtain ⟨t198, A30, H⟩ := H
  replace H : (some t198) = some r := H
  have A3 := Aside0.mk A30
  clear A30
  obtain rfl := Option.some.inj H
  go_enter Try.func28, Try.ntmps28
  go_wp2_with (first | ((with_reducible refine gate_callee (f := 38) rfl ?_); refine goesL_ (some 4) rfl rfl Try.func38 (by kernel_rfl) rfl #[.slice A0 l0.length c0] rfl (by (try simp only [List.map_toArray, List.map_cons, List.map_nil]); first | done | rfl | (simp only [List.length_drop, List.length_take]; rfl)) ?_; (with_reducible refine (impl_inserted.calls _ _ l0 t195 _ ?side1 ?side2 A2.out).mono ?_); (case side1 => repeat (first | exact HR0.out | (with_reducible refine Kd.C_alloc ?_ _) | (with_reducible refine Kd.C_drewN ?_ _) | (with_reducible refine Kd.C_drew ?_))); (case side2 => exact HC0.out); rintro e w4 ⟨v196, rfl, ho0, hb⟩; refine ⟨_, rfl, ?_⟩; have n0_ := Aside0.mk (Kd.R_lower ho0 (below_size (by repeat (first | (with_reducible first | exact HB.out | apply below_alloc | apply pw_below_drewN | apply below_drew1) | exact HB.out)))); have n1_ := Aside0.mk (below_step (by repeat (first | (with_reducible first | exact HB.out | apply below_alloc | apply pw_below_drewN | apply below_drew1) | exact HB.out)) hb); clear HB; have HO197 := n0_; have HB := n1_; clear n0_ n1_; (try clear hb); (try clear hb2); (try clear hk); (try clear hi); (try clear ho0); obtain ⟨Ao5, co5, eo5⟩ := Kd.R_slice HO197.out; subst eo5) | ((with_reducible refine gate_callee (f := 50) rfl ?_); refine goesL_ (some 5) rfl rfl Try.func50 (by kernel_rfl) rfl #[.slice Ao5 t195.length co5] rfl (by (try simp only [List.map_toArray, List.map_cons, List.map_nil]); first | done | rfl | (simp only [List.length_drop, List.length_take]; rfl)) ?_; (with_reducible refine (ranges_Ranges_Size.calls k _ _ t195 t198 _ ?side1 ?side2 A3.out).mono ?_); (case side1 => repeat (first | exact (Kd.R_reads' HO197.out).2.2 | (with_reducible refine Kd.C_alloc ?_ _) | (with_reducible refine Kd.C_drewN ?_ _) | (with_reducible refine Kd.C_drew ?_))); (case side2 => exact (Kd.R_reads' HO197.out).2.1); rintro e w6 ⟨rfl, hb⟩; refine ⟨_, rfl, ?_⟩; have n0_ := Aside0.mk (Kd.R_below (by (with_reducible repeat (first | apply Kd.R_alloc | apply Kd.R_drewN | apply Kd.R_drew)); exact HO197.out) hb); have n1_ := Aside0.mk (below_step (by repeat (first | (with_reducible first | exact HB.out | apply below_alloc | apply pw_below_drewN | apply below_drew1) | exact HB.out)) hb); clear HO197; clear HB; have HO197 := n0_; have HB := n1_; clear n0_ n1_; (try clear hb); (try clear hb2); (try clear hk); (try clear hi)))
  go_ret
  exact ⟨by first | rfl | (simp [errW_none, errW_some] <;> rfl) | (simp [*, errW_none, errW_some] <;> rfl), by repeat (first | (with_reducible first | exact HB.out | apply below_alloc | apply pw_below_drewN | apply below_drew1) | exact HB.out)⟩

/-! ### ranges_Ranges_Present: function 51 -/
def ranges_Ranges_Present.f (l0 : List (S61)) (a1_0 : Int) (a1_1 : Int) : Option (Bool) := (ranges_Range_IsEmpty.f a1_0 a1_1).bind fun t200 => (if t200 = true then (some true) else ((ranges_Ranges_Find.f l0 a1_0 a1_1).bind fun bt201 => (if bt201.2.2.2.2 = true then ((ranges_Range_IsEmpty.f bt201.2.2.1 bt201.2.2.2.1).bind fun t208 => (if t208 = true then (some true) else (some false))) else (some false))))
set_option maxHeartbeats 8000000 in
set_option maxRecDepth 100000 in
theorem ranges_Ranges_Present.calls (A0 : Option Addr) (c0 : Nat) (l0 : List (S61)) (a1_0 : Int) (a1_1 : Int) (r : Bool) (w : World) (hr0 : Kd.C k61 w A0 l0.length l0) (hc0 : l0.length ≤ c0) (h : ranges_Ranges_Present.f l0 a1_0 a1_1 = some r) :
    Calls Try.prog 51 #[.slice A0 l0.length c0, .agg #[.int .i64 a1_0, .int .i64 a1_1]] w fun e w' => e = .returned (.bool r) ∧ Below w.heap.size w w' := by
  have hu61 := Try.underlying61
  have HR0 := Aside0.mk hr0
  have HC0 := Aside0.mk hc0
  clear hr0 hc0
  have HB := Aside0.mk (Below.refl w.heap.size w)
  have H : ((ranges_Range_IsEmpty.f a1_0 a1_1).bind fun t200 => (if t200 = true then (some true) else ((ranges_Ranges_Find.f l0 a1_0 a1_1).bind fun bt201 => (if bt201.2.2.2.2 = true then ((ranges_Range_IsEmpty.f bt201.2.2.1 bt201.2.2.2.1).bind fun t208 => (if t208 = true then (some true) else (some false))) else (some false))))) = some r := h
  clear h
  replace H := Option.bind_eq_some_iff.mp H
  obtain ⟨t200, A30, H⟩ := H
  replace H : (if t200 = true then (some true) else ((ranges_Ranges_Find.f l0 a1_0 a1_1).bind fun bt201 => (if bt201.2.2.2.2 = true then ((ranges_Range_IsEmpty.f bt201.2.2.1 bt201.2.2.2.1).bind fun t208 => (if t208 = true then (some true) else (some false))) else (some false)))) = some r := H
  have A3 := Aside0.mk A30
  clear A30
  by_cases c4 : t200 = true
  · subst c4
    have H1 : (some true) = some r := by rw [if_pos rfl] at H; exact H
    clear H
    have H := H1
    clear H1
    obtain rfl := Option.some.inj H
    go_enter Try.func51, Try.ntmps51
    go_wp2_with (first | ((with_reducible refine gate_dst (N := 3) rfl ?_); refine box_event ?hg (N := 3) ?hd (cs := #[.int .i64 a1_0, .int .i64 a1_1]) (t := 61) ?hr ?_; (case hd => rfl); (case hg => rfl); (case hr => first | (go_simp; done) | (go_simp; rfl)); intro gb199 hg w5 hbox hb; have n0_ := Aside0.mk (below_step (by repeat (first | (with_reducible first | exact HB.out | apply below_alloc | apply pw_below_drewN | apply below_drew1) | exact HB.out)) hb); have n1_ := Aside0.mk (hbox); have n2_ := Aside0.mk ((by rw [hg]; exact (below_size (by repeat (first | (with_reducible first | exact HB.out | apply below_alloc | apply pw_below_drewN | apply below_drew1) | exact HB.out))) : w.heap.size ≤ gb199)); have n3_ := Aside0.mk ((by rw [hg]; exact (below_size (by repeat (first | (with_reducible first | exact HB.out | apply below_alloc | apply pw_below_drewN | apply below_drew1) | exact HB.out))) : w.heap.size ≤ gb199)); clear HB; have HB := n0_; have BK199 := n1_; have GW199 := n2_; have GE199 := n3_; clear n0_ n1_ n2_ n3_; clear hb hbox hg; have hcz6_0 : w5.cell? ⟨gb199, 0, none⟩ = some (.int .i64 a1_0) := (blk_cell BK199.out 0).trans rfl; have hcz6_1 : w5.cell? ⟨gb199, 1, none⟩ = some (.int .i64 a1_1) := (blk_cell BK199.out 1).trans rfl; have hfz6_0 := blk_frozen BK199.out 0; have hfz6_1 := blk_frozen BK199.out 1) | ((with_reducible refine gate_callee (f := 48) rfl ?_); refine goesL_ (some 8) rfl rfl Try.func48 (by kernel_rfl) rfl #[.agg #[.int .i64 a1_0, .int .i64 a1_1]] rfl (by (try simp only [List.map_toArray, List.map_cons, List.map_nil]); first | done | rfl | (simp only [List.length_drop, List.length_take]; rfl)) ?_; (with_reducible refine (ranges_Range_IsEmpty.calls a1_0 a1_1 true _ A3.out).mono ?_); rintro e w7 ⟨rfl, hb⟩; refine ⟨_, rfl, ?_⟩; have n0_ := Aside0.mk (blk_below (g := gb199) (o := .cells #[.int .i64 a1_0, .int .i64 a1_1] 61 (0, 0)) (by (with_reducible repeat (first | refine blk_drewN ?_ _ | refine blk_drew ?_ | refine blk_alloc ?_ _)); exact BK199.out) hb); have n1_ := Aside0.mk (below_step (by repeat (first | (with_reducible first | exact HB.out | apply below_alloc | apply pw_below_drewN | apply below_drew1 | refine below_set ?_ GE199.out) | exact HB.out)) hb); clear BK199; clear HB; have BK199 := n0_; have HB := n1_; clear n0_ n1_; (try clear hb); (try clear hb2); (try clear hk); (try clear hi)))
    go_ret
    exact ⟨by first | rfl | (simp [errW_none, errW_some] <;> rfl) | (simp [*, errW_none, errW_some] <;> rfl), by repeat (first | (with_reducible first | exact HB.out | apply below_alloc | apply pw_below_drewN | apply below_drew1 | refine below_set ?_ GE199.out) | exact HB.out)⟩
  · replace c4 := Bool.eq_false_iff.mpr c4
    subst c4
    have H1 : ((ranges_Ranges_Find.f l0 a1_0 a1_1).bind fun bt201 => (if bt201.2.2.2.2 = true then ((ranges_Range_IsEmpty.f bt201.2.2.1 bt201.2.2.2.1).bind fun t208 => (if t208 = true then (some true) else (some false))) else (some false))) = some r := by rw [if_neg (show ¬ (false = true) by decide)] at H; exact H
    clear H
    have H := H1
    clear H1
    replace H := Option.bind_eq_some_iff.mp H
    obtain ⟨⟨t201, t202, t203, t204, t205⟩, A80, H⟩ := H
    replace H : (if t205 = true then ((ranges_Range_IsEmpty.f t203 t204).bind fun t208 => (if t208 = true then (some true) else (some false))) else (some false)) = some r := H
    have A8 := Aside0.mk A80
    clear A80
    by_cases c9 : t205 = true
    · subst c9
      have H1 : ((ranges_Range_IsEmpty.f t203 t204).bind fun t208 => (if t208 = true then (some true) else (some false))) = some r := by rw [if_pos rfl] at H; exact H
      clear H
      have H := H1
      clear H1
      replace H := Option.bind_eq_some_iff.mp H
      obtain ⟨t208, A100, H⟩ := H
      replace H : (if t208 = true then (some true) else (some false)) = some r := H
      have A10 := Aside0.mk A100
      clear A100
      by_cases c11 : t208 = true
      · subst c11
        have H1 : (some true) = some r := by rw [if_pos rfl] at H; exact H
        clear H
        have H := H1
        clear H1
        obtain rfl := Option.some.inj H
        go_enter Try.func51, Try.ntmps51
        go_wp2_with (first | ((with_reducible refine gate_dst (N := 3) rfl ?_); refine box_event ?hg (N := 3) ?hd (cs := #[.int .i64 a1_0, .int .i64 a1_1]) (t := 61) ?hr ?_; (case hd => rfl); (case hg => rfl); (case hr => first | (go_simp; done) | (go_simp; rfl)); intro gb199 hg w12 hbox hb; have n0_ := Aside0.mk (below_step (by repeat (first | (with_reducible first | exact HB.out | apply below_alloc | apply pw_below_drewN | apply below_drew1) | exact HB.out)) hb); have n1_ := Aside0.mk (hbox); have n2_ := Aside0.mk ((by rw [hg]; exact (below_size (by repeat (first | (with_reducible first | exact HB.out | apply below_alloc | apply pw_below_drewN | apply below_drew1) | exact HB.out))) : w.heap.size ≤ gb199)); have n3_ := Aside0.mk ((by rw [hg]; exact (below_size (by repeat (first | (with_reducible first | exact HB.out | apply below_alloc | apply pw_below_drewN | apply below_drew1) | exact HB.out))) : w.heap.size ≤ gb199)); clear HB; have HB := n0_; have BK199 := n1_; have GW199 := n2_; have GE199 := n3_; clear n0_ n1_ n2_ n3_; clear hb hbox hg; have hcz13_0 : w12.cell? ⟨gb199, 0, none⟩ = some (.int .i64 a1_0) := (blk_cell BK199.out 0).trans rfl; have hcz13_1 : w12.cell? ⟨gb199, 1, none⟩ = some (.int .i64 a1_1) := (blk_cell BK199.out 1).trans rfl; have hfz13_0 := blk_frozen BK199.out 0; have hfz13_1 := blk_frozen BK199.out 1) | ((with_reducible refine gate_callee (f := 48) rfl ?_); refine goesL_ (some 8) rfl rfl Try.func48 (by kernel_rfl) rfl #[.agg #[.int .i64 a1_0, .int .i64 a1_1]] rfl (by (try simp only [List.map_toArray, List.map_cons, List.map_nil]); first | done | rfl | (simp only [List.length_drop, List.length_take]; rfl)) ?_; (with_reducible refine (ranges_Range_IsEmpty.calls a1_0 a1_1 false _ A3.out).mono ?_); rintro e w14 ⟨rfl, hb⟩; refine ⟨_, rfl, ?_⟩; have n0_ := Aside0.mk (blk_below (g := gb199) (o := .cells #[.int .i64 a1_0, .int .i64 a1_1] 61 (0, 0)) (by (with_reducible repeat (first | refine blk_drewN ?_ _ | refine blk_drew ?_ | refine blk_alloc ?_ _)); exact BK199.out) hb); have n1_ := Aside0.mk (below_step (by repeat (first | (with_reducible first | exact HB.out | apply below_alloc | apply pw_below_drewN | apply below_drew1 | refine below_set ?_ GE199.out) | exact HB.out)) hb); clear BK199; clear HB; have BK199 := n0_; have HB := n1_; clear n0_ n1_; (try clear hb); (try clear hb2); (try clear hk); (try clear hi); have hcz15_0 : w14.cell? ⟨gb199, 0, none⟩ = some (.int .i64 a1_0) := (blk_cell BK199.out 0).trans rfl; have hcz15_1 : w14.cell? ⟨gb199, 1, none⟩ = some (.int .i64 a1_1) := (blk_cell BK199.out 1).trans rfl; have hfz15_0 := blk_frozen BK199.out 0; have hfz15_1 := blk_frozen BK199.out 1) | ((with_reducible refine gate_callee (f := 44) rfl ?_); refine goesL_ (some 12) rfl rfl Try.func44 (by kernel_rfl) rfl #[.slice A0 l0.length c0, .agg #[.int .i64 a1_0, .int .i64 a1_1]] rfl (by (try simp only [List.map_toArray, List.map_cons, List.map_nil]); first | done | rfl | (simp only [List.length_drop, List.length_take]; rfl)) ?_; (with_reducible refine (ranges_Ranges_Find.calls _ _ l0 a1_0 a1_1 t201 t202 t203 t204 true _ ?side1 ?side2 A8.out).mono ?_); (case side1 => repeat (first | exact (Kd.C_below HR0.out HB.out) | (with_reducible refine Kd.C_alloc ?_ _) | (with_reducible refine Kd.C_drewN ?_ _) | (with_reducible refine Kd.C_drew ?_))); (case side2 => exact HC0.out); rintro e w16 ⟨rfl, hb⟩; refine ⟨_, rfl, ?_⟩; have n0_ := Aside0.mk (blk_below (g := gb199) (o := .cells #[.int .i64 a1_0, .int .i64 a1_1] 61 (0, 0)) (by (with_reducible repeat (first | refine blk_drewN ?_ _ | refine blk_drew ?_ | refine blk_alloc ?_ _)); exact BK199.out) hb); have n1_ := Aside0.mk (below_step (by repeat (first | (with_reducible first | exact HB.out | apply below_alloc | apply pw_below_drewN | apply below_drew1 | refine below_set ?_ GE199.out) | exact HB.out)) hb); clear BK199; clear HB; have BK199 := n0_; have HB := n1_; clear n0_ n1_; (try clear hb); (try clear hb2); (try clear hk); (try clear hi)) | ((with_reducible refine gate_dst (N := 5) rfl ?_); refine box_event ?hg (N := 5) ?hd (cs := #[.int .i64 0, .int .i64 0]) (t := 61) ?hr ?_; (case hd => rfl); (case hg => rfl); (case hr => first | (go_simp; done) | (go_simp; rfl)); intro gb206 hg w17 hbox hb; have n0_ := Aside0.mk (blk_below (g := gb199) (o := .cells #[.int .i64 a1_0, .int .i64 a1_1] 61 (0, 0)) (by (with_reducible repeat (first | refine blk_drewN ?_ _ | refine blk_drew ?_ | refine blk_alloc ?_ _)); exact BK199.out) hb); have n1_ := Aside0.mk (below_step (by repeat (first | (with_reducible first | exact HB.out | apply below_alloc | apply pw_below_drewN | apply below_drew1 | refine below_set ?_ GE199.out) | exact HB.out)) hb); have n2_ := Aside0.mk (hbox); have n3_ := Aside0.mk ((by rw [hg]; exact (below_size (by repeat (first | (with_reducible first | exact HB.out | apply below_alloc | apply pw_below_drewN | apply below_drew1 | refine below_set ?_ GE199.out) | exact HB.out))) : w.heap.size ≤ gb206)); have n4_ := Aside0.mk ((by rw [hg]; exact (below_size (by repeat (first | (with_reducible first | exact HB.out | apply below_alloc | apply pw_below_drewN | apply below_drew1 | refine below_set ?_ GE199.out) | exact HB.out))) : w.heap.size ≤ gb206)); have n5_ := Aside0.mk ((by rw [hg]; exact Nat.ne_of_lt (blk_lt (g := gb199) (o := .cells #[.int .i64 a1_0, .int .i64 a1_1] 61 (0, 0)) (by (with_reducible repeat (first | refine blk_drewN ?_ _ | refine blk_drew ?_ | refine blk_alloc ?_ _)); exact BK199.out)) : gb199 ≠ gb206)); have n6_ := Aside0.mk ((by rw [hg]; exact Nat.ne_of_gt (blk_lt (g := gb199) (o := .cells #[.int .i64 a1_0, .int .i64 a1_1] 61 (0, 0)) (by (with_reducible repeat (first | refine blk_drewN ?_ _ | refine blk_drew ?_ | refine blk_alloc ?_ _)); exact BK199.out)) : gb206 ≠ gb199)); clear BK199; clear HB; have BK199 := n0_; have HB := n1_; have BK206 := n2_; have GW206 := n3_; have GE206 := n4_; have NB199_206 := n5_; have NB206_199 := n6_; clear n0_ n1_ n2_ n3_ n4_ n5_ n6_; clear hb hbox hg) | ((with_reducible refine gate_dst (N := 6) rfl ?_); refine box_event ?hg (N := 6) ?hd (cs := #[.int .i64 0, .int .i64 0]) (t := 61) ?hr ?_; (case hd => rfl); (case hg => rfl); (case hr => first | (go_simp; done) | (go_simp; rfl)); intro gb207 hg w18 hbox hb; have n0_ := Aside0.mk (blk_below (g := gb199) (o := .cells #[.int .i64 a1_0, .int .i64 a1_1] 61 (0, 0)) (by (with_reducible repeat (first | refine blk_drewN ?_ _ | refine blk_drew ?_ | refine blk_alloc ?_ _)); exact BK199.out) hb); have n1_ := Aside0.mk (blk_below (g := gb206) (o := .cells #[.int .i64 0, .int .i64 0] 61 (0, 0)) (by (with_reducible repeat (first | refine blk_drewN ?_ _ | refine blk_drew ?_ | refine blk_alloc ?_ _)); exact BK206.out) hb); have n2_ := Aside0.mk (below_step (by repeat (first | (with_reducible first | exact HB.out | apply below_alloc | apply pw_below_drewN | apply below_drew1 | refine below_set ?_ GE199.out | refine below_set ?_ GE206.out) | exact HB.out)) hb); have n3_ := Aside0.mk (hbox); have n4_ := Aside0.mk ((by rw [hg]; exact (below_size (by repeat (first | (with_reducible first | exact HB.out | apply below_alloc | apply pw_below_drewN | apply below_drew1 | refine below_set ?_ GE199.out | refine below_set ?_ GE206.out) | exact HB.out))) : w.heap.size ≤ gb207)); have n5_ := Aside0.mk ((by rw [hg]; exact (below_size (by repeat (first | (with_reducible first | exact HB.out | apply below_alloc | apply pw_below_drewN | apply below_drew1 | refine below_set ?_ GE199.out | refine below_set ?_ GE206.out) | exact HB.out))) : w.heap.size ≤ gb207)); have n6_ := Aside0.mk ((by rw [hg]; exact Nat.ne_of_lt (blk_lt (g := gb199) (o := .cells #[.int .i64 a1_0, .int .i64 a1_1] 61 (0, 0)) (by (with_reducible repeat (first | refine blk_drewN ?_ _ | refine blk_drew ?_ | refine blk_alloc ?_ _)); exact BK199.out)) : gb199 ≠ gb207)); have n7_ := Aside0.mk ((by rw [hg]; exact Nat.ne_of_gt (blk_lt (g := gb199) (o := .cells #[.int .i64 a1_0, .int .i64 a1_1] 61 (0, 0)) (by (with_reducible repeat (first | refine blk_drewN ?_ _ | refine blk_drew ?_ | refine blk_alloc ?_ _)); exact BK199.out)) : gb207 ≠ gb199)); have n8_ := Aside0.mk ((by rw [hg]; exact Nat.ne_of_lt (blk_lt (g := gb206) (o := .cells #[.int .i64 0, .int .i64 0] 61 (0, 0)) (by (with_reducible repeat (first | refine blk_drewN ?_ _ | refine blk_drew ?_ | refine blk_alloc ?_ _)); exact BK206.out)) : gb206 ≠ gb207)); have n9_ := Aside0.mk ((by rw [hg]; exact Nat.ne_of_gt (blk_lt (g := gb206) (o := .cells #[.int .i64 0, .int .i64 0] 61 (0, 0)) (by (with_reducible repeat (first | refine blk_drewN ?_ _ | refine blk_drew ?_ | refine blk_alloc ?_ _)); exact BK206.out)) : gb207 ≠ gb206)); clear BK199; clear BK206; clear HB; have BK199 := n0_; have BK206 := n1_; have HB := n2_; have BK207 := n3_; have GW207 := n4_; have GE207 := n5_; have NB199_207 := n6_; have NB207_199 := n7_; have NB206_207 := n8_; have NB207_206 := n9_; clear n0_ n1_ n2_ n3_ n4_ n5_ n6_ n7_ n8_ n9_; clear hb hbox hg; have hnb19 := NB206_199.out; have hnc19 := NB199_206.out; have hnb20 := NB206_207.out; have hnc20 := NB207_206.out; have hcz21_0 : w18.cell? ⟨gb206, 0, none⟩ = some (.int .i64 0) := (blk_cell BK206.out 0).trans rfl; have hcz21_1 : w18.cell? ⟨gb206, 1, none⟩ = some (.int .i64 0) := (blk_cell BK206.out 1).trans rfl; have hfz21_0 := blk_frozen BK206.out 0; have hfz21_1 := blk_frozen BK206.out 1; have hnb22 := NB207_199.out; have hnc22 := NB199_207.out; have hcz23_0 : w18.cell? ⟨gb207, 0, none⟩ = some (.int .i64 0) := (blk_cell BK207.out 0).trans rfl; have hcz23_1 : w18.cell? ⟨gb207, 1, none⟩ = some (.int .i64 0) := (blk_cell BK207.out 1).trans rfl; have hfz23_0 := blk_frozen BK207.out 0; have hfz23_1 := blk_frozen BK207.out 1) | ((with_reducible refine gate_callee (f := 48) rfl ?_); refine goesL_ (some 19) rfl rfl Try.func48 (by kernel_rfl) rfl #[.agg #[.int .i64 t203, .int .i64 t204]] rfl (by (try simp only [List.map_toArray, List.map_cons, List.map_nil]); first | done | rfl | (simp only [List.length_drop, List.length_take]; rfl)) ?_; (with_reducible refine (ranges_Range_IsEmpty.calls t203 t204 true _ A10.out).mono ?_); rintro e w24 ⟨rfl, hb⟩; refine ⟨_, rfl, ?_⟩; have n0_ := Aside0.mk (blk_below (g := gb199) (o := .cells #[.int .i64 a1_0, .int .i64 a1_1] 61 (0, 0)) (by (with_reducible repeat (first | refine blk_drewN ?_ _ | refine blk_drew ?_ | refine blk_alloc ?_ _)); refine blk_far ?_ NB199_207.out _; (with_reducible repeat (first | refine blk_drewN ?_ _ | refine blk_drew ?_ | refine blk_alloc ?_ _)); refine blk_far ?_ NB199_207.out _; (with_reducible repeat (first | refine blk_drewN ?_ _ | refine blk_drew ?_ | refine blk_alloc ?_ _)); refine blk_far ?_ NB199_206.out _; (with_reducible repeat (first | refine blk_drewN ?_ _ | refine blk_drew ?_ | refine blk_alloc ?_ _)); refine blk_far ?_ NB199_206.out _; (with_reducible repeat (first | refine blk_drewN ?_ _ | refine blk_drew ?_ | refine blk_alloc ?_ _)); exact BK199.out) hb); have n1_ := Aside0.mk (blk_below (g := gb206) (o := .cells #[.int .i64 t201, .int .i64 t202] 61 (0, 0)) (by (with_reducible repeat (first | refine blk_drewN ?_ _ | refine blk_drew ?_ | refine blk_alloc ?_ _)); refine blk_far ?_ NB206_207.out _; (with_reducible repeat (first | refine blk_drewN ?_ _ | refine blk_drew ?_ | refine blk_alloc ?_ _)); refine blk_far ?_ NB206_207.out _; (with_reducible repeat (first | refine blk_drewN ?_ _ | refine blk_drew ?_ | refine blk_alloc ?_ _)); refine blk_put (cs := #[.int .i64 t201, .int .i64 0]) ?_ 1 _ rfl; (with_reducible repeat (first | refine blk_drewN ?_ _ | refine blk_drew ?_ | refine blk_alloc ?_ _)); refine blk_put (cs := #[.int .i64 0, .int .i64 0]) ?_ 0 _ rfl; (with_reducible repeat (first | refine blk_drewN ?_ _ | refine blk_drew ?_ | refine blk_alloc ?_ _)); exact BK206.out) hb); have n2_ := Aside0.mk (blk_below (g := gb207) (o := .cells #[.int .i64 t203, .int .i64 t204] 61 (0, 0)) (by (with_reducible repeat (first | refine blk_drewN ?_ _ | refine blk_drew ?_ | refine blk_alloc ?_ _)); refine blk_put (cs := #[.int .i64 t203, .int .i64 0]) ?_ 1 _ rfl; (with_reducible repeat (first | refine blk_drewN ?_ _ | refine blk_drew ?_ | refine blk_alloc ?_ _)); refine blk_put (cs := #[.int .i64 0, .int .i64 0]) ?_ 0 _ rfl; (with_reducible repeat (first | refine blk_drewN ?_ _ | refine blk_drew ?_ | refine blk_alloc ?_ _)); refine blk_far ?_ NB207_206.out _; (with_reducible repeat (first | refine blk_drewN ?_ _ | refine blk_drew ?_ | refine blk_alloc ?_ _)); refine blk_far ?_ NB207_206.out _; (with_reducible repeat (first | refine blk_drewN ?_ _ | refine blk_drew ?_ | refine blk_alloc ?_ _)); exact BK207.out) hb); have n3_ := Aside0.mk (below_step (by repeat (first | (with_reducible first | exact HB.out | apply below_alloc | apply pw_below_drewN | apply below_drew1 | refine below_set ?_ GE199.out | refine below_set ?_ GE206.out | refine below_set ?_ GE207.out) | exact HB.out)) hb); clear BK199; clear BK206; clear BK207; clear HB; have BK199 := n0_; have BK206 := n1_; have BK207 := n2_; have HB := n3_; clear n0_ n1_ n2_ n3_; (try clear hb); (try clear hb2); (try clear hk); (try clear hi)))
        go_ret
        exact ⟨by first | rfl | (simp [errW_none, errW_some] <;> rfl) | (simp [*, errW_none, errW_some] <;> rfl), by repeat (first | (with_reducible first | exact HB.out | apply below_alloc | apply pw_below_drewN | apply below_drew1 | refine below_set ?_ GE199.out | refine below_set ?_ GE206.out | refine below_set ?_ GE207.out) | exact HB.out)⟩
      · replace c11 := Bool.eq_false_iff.mpr c11
        subst c11
        have H1 : (some false) = some r := by rw [if_neg (show ¬ (false = true) by decide)] at H; exact H
        clear H
        have H := H1
        clear H1
        obtain rfl := Option.some.inj H
        go_enter Try.func51, Try.ntmps51
        go_wp2_with (first | ((with_reducible refine gate_dst (N := 3) rfl ?_); refine box_event ?hg (N := 3) ?hd (cs := #[.int .i64 a1_0, .int .i64 a1_1]) (t := 61) ?hr ?_; (case hd => rfl); (case hg => rfl); (case hr => first | (go_simp; done) | (go_simp; rfl)); intro gb199 hg w25 hbox hb; have n0_ := Aside0.mk (below_step (by repeat (first | (with_reducible first | exact HB.out | apply below_alloc | apply pw_below_drewN | apply below_drew1) | exact HB.out)) hb); have n1_ := Aside0.mk (hbox); have n2_ := Aside0.mk ((by rw [hg]; exact (below_size (by repeat (first | (with_reducible first | exact HB.out | apply below_alloc | apply pw_below_drewN | apply below_drew1) | exact HB.out))) : w.heap.size ≤ gb199)); have n3_ := Aside0.mk ((by rw [hg]; exact (below_size (by repeat (first | (with_reducible first | exact HB.out | apply below_alloc | apply pw_below_drewN | apply below_drew1) | exact HB.out))) : w.heap.size ≤ gb199)); clear HB; have HB := n0_; have BK199 := n1_; have GW199 := n2_; have GE199 := n3_; clear n0_ n1_ n2_ n3_; clear hb hbox hg; have hcz26_0 : w25.cell? ⟨gb199, 0, none⟩ = some (.int .i64 a1_0) := (blk_cell BK199.out 0).trans rfl; have hcz26_1 : w25.cell? ⟨gb199, 1, none⟩ = some (.int .i64 a1_1) := (blk_cell BK199.out 1).trans rfl; have hfz26_0 := blk_frozen BK199.out 0; have hfz26_1 := blk_frozen BK199.out 1) | ((with_reducible refine gate_callee (f := 48) rfl ?_); refine goesL_ (some 8) rfl rfl Try.func48 (by kernel_rfl) rfl #[.agg #[.int .i64 a1_0, .int .i64 a1_1]] rfl (by (try simp only [List.map_toArray, List.map_cons, List.map_nil]); first | done | rfl | (simp only [List.length_drop, List.length_take]; rfl)) ?_; (with_reducible refine (ranges_Range_IsEmpty.calls a1_0 a1_1 false _ A3.out).mono ?_); rintro e w27 ⟨rfl, hb⟩; refine ⟨_, rfl, ?_⟩; have n0_ := Aside0.mk (blk_below (g := gb199) (o := .cells #[.int .i64 a1_0, .int .i64 a1_1] 61 (0, 0)) (by (with_reducible repeat (first | refine blk_drewN ?_ _ | refine blk_drew ?_ | refine blk_alloc ?_ _)); exact BK199.out) hb); have n1_ := Aside0.mk (below_step (by repeat (first | (with_reducible first | exact HB.out | apply below_alloc | apply pw_below_drewN | apply below_drew1 | refine below_set ?_ GE199.out) | exact HB.out)) hb); clear BK199; clear HB; have BK199 := n0_; have HB := n1_; clear n0_ n1_; (try clear hb); (try clear hb2); (try clear hk); (try clear hi); have hcz28_0 : w27.cell? ⟨gb199, 0, none⟩ = some (.int .i64 a1_0) := (blk_cell BK199.out 0).trans rfl; have hcz28_1 : w27.cell? ⟨gb199, 1, none⟩ = some (.int .i64 a1_1) := (blk_cell BK199.out 1).trans rfl; have hfz28_0 := blk_frozen BK199.out 0; have hfz28_1 := blk_frozen BK199.out 1) | ((with_reducible refine gate_callee (f := 44) rfl ?_); refine goesL_ (some 12) rfl rfl Try.func44 (by kernel_rfl) rfl #[.slice A0 l0.length c0, .agg #[.int .i64 a1_0, .int .i64 a1_1]] rfl (by (try simp only [List.map_toArray, List.map_cons, List.map_nil]); first | done | rfl | (simp only [List.length_drop, List.length_take]; rfl)) ?_; (with_reducible refine (ranges_Ranges_Find.calls _ _ l0 a1_0 a1_1 t201 t202 t203 t204 true _ ?side1 ?side2 A8.out).mono ?_); (case side1 => repeat (first | exact (Kd.C_below HR0.out HB.out) | (with_reducible refine Kd.C_alloc ?_ _) | (with_reducible refine Kd.C_drewN ?_ _) | (with_reducible refine Kd.C_drew ?_))); (case side2 => exact HC0.out); rintro e w29 ⟨rfl, hb⟩; refine ⟨_, rfl, ?_⟩; have n0_ := Aside0.mk (blk_below (g := gb199) (o := .cells #[.int .i64 a1_0, .int .i64 a1_1] 61 (0, 0)) (by (with_reducible repeat (first | refine blk_drewN ?_ _ | refine blk_drew ?_ | refine blk_alloc ?_ _)); exact BK199.out) hb); have n1_ := Aside0.mk (below_step (by repeat (first | (with_reducible first | exact HB.out | apply below_alloc | apply pw_below_drewN | apply below_drew1 | refine below_set ?_ GE199.out) | exact HB.out)) hb); clear BK199; clear HB; have BK199 := n0_; have HB := n1_; clear n0_ n1_; (try clear hb); (try clear hb2); (try clear hk); (try clear hi)) | ((with_reducible refine gate_dst (N := 5) rfl ?_); refine box_event ?hg (N := 5) ?hd (cs := #[.int .i64 0, .int .i64 0]) (t := 61) ?hr ?_; (case hd => rfl); (case hg => rfl); (case hr => first | (go_simp; done) | (go_simp; rfl)); intro gb206 hg w30 hbox hb; have n0_ := Aside0.mk (blk_below (g := gb199) (o := .cells #[.int .i64 a1_0, .int .i64 a1_1] 61 (0, 0)) (by (with_reducible repeat (first | refine blk_drewN ?_ _ | refine blk_drew ?_ | refine blk_alloc ?_ _)); exact BK199.out) hb); have n1_ := Aside0.mk (below_step (by repeat (first | (with_reducible first | exact HB.out | apply below_alloc | apply pw_below_drewN | apply below_drew1 | refine below_set ?_ GE199.out) | exact HB.out)) hb); have n2_ := Aside0.mk (hbox); have n3_ := Aside0.mk ((by rw [hg]; exact (below_size (by repeat (first | (with_reducible first | exact HB.out | apply below_alloc | apply pw_below_drewN | apply below_drew1 | refine below_set ?_ GE199.out) | exact HB.out))) : w.heap.size ≤ gb206)); have n4_ := Aside0.mk ((by rw [hg]; exact (below_size (by repeat (first | (with_reducible first | exact HB.out | apply below_alloc | apply pw_below_drewN | apply below_drew1 | refine below_set ?_ GE199.out) | exact HB.out))) : w.heap.size ≤ gb206)); have n5_ := Aside0.mk ((by rw [hg]; exact Nat.ne_of_lt (blk_lt (g := gb199) (o := .cells #[.int .i64 a1_0, .int .i64 a1_1] 61 (0, 0)) (by (with_reducible repeat (first | refine blk_drewN ?_ _ | refine blk_drew ?_ | refine blk_alloc ?_ _)); exact BK199.out)) : gb199 ≠ gb206)); have n6_ := Aside0.mk ((by rw [hg]; exact Nat.ne_of_gt (blk_lt (g := gb199) (o := .cells #[.int .i64 a1_0, .int .i64 a1_1] 61 (0, 0)) (by (with_reducible repeat (first | refine blk_drewN ?_ _ | refine blk_drew ?_ | refine blk_alloc ?_ _)); exact BK199.out)) : gb206 ≠ gb199)); clear BK199; clear HB; have BK199 := n0_; have HB := n1_; have BK206 := n2_; have GW206 := n3_; have GE206 := n4_; have NB199_206 := n5_; have NB206_199 := n6_; clear n0_ n1_ n2_ n3_ n4_ n5_ n6_; clear hb hbox hg) | ((with_reducible refine gate_dst (N := 6) rfl ?_); refine box_event ?hg (N := 6) ?hd (cs := #[.int .i64 0, .int .i64 0]) (t := 61) ?hr ?_; (case hd => rfl); (case hg => rfl); (case hr => first | (go_simp; done) | (go_simp; rfl)); intro gb207 hg w31 hbox hb; have n0_ := Aside0.mk (blk_below (g := gb199) (o := .cells #[.int .i64 a1_0, .int .i64 a1_1] 61 (0, 0)) (by (with_reducible repeat (first | refine blk_drewN ?_ _ | refine blk_drew ?_ | refine blk_alloc ?_ _)); exact BK199.out) hb); have n1_ := Aside0.mk (blk_below (g := gb206) (o := .cells #[.int .i64 0, .int .i64 0] 61 (0, 0)) (by (with_reducible repeat (first | refine blk_drewN ?_ _ | refine blk_drew ?_ | refine blk_alloc ?_ _)); exact BK206.out) hb); have n2_ := Aside0.mk (below_step (by repeat (first | (with_reducible first | exact HB.out | apply below_alloc | apply pw_below_drewN | apply below_drew1 | refine below_set ?_ GE199.out | refine below_set ?_ GE206.out) | exact HB.out)) hb); have n3_ := Aside0.mk (hbox); have n4_ := Aside0.mk ((by rw [hg]; exact (below_size (by repeat (first | (with_reducible first | exact HB.out | apply below_alloc | apply pw_below_drewN | apply below_drew1 | refine below_set ?_ GE199.out | refine below_set ?_ GE206.out) | exact HB.out))) : w.heap.size ≤ gb207)); have n5_ := Aside0.mk ((by rw [hg]; exact (below_size (by repeat (first | (with_reducible first | exact HB.out | apply below_alloc | apply pw_below_drewN | apply below_drew1 | refine below_set ?_ GE199.out | refine below_set ?_ GE206.out) | exact HB.out))) : w.heap.size ≤ gb207)); have n6_ := Aside0.mk ((by rw [hg]; exact Nat.ne_of_lt (blk_lt (g := gb199) (o := .cells #[.int .i64 a1_0, .int .i64 a1_1] 61 (0, 0)) (by (with_reducible repeat (first | refine blk_drewN ?_ _ | refine blk_drew ?_ | refine blk_alloc ?_ _)); exact BK199.out)) : gb199 ≠ gb207)); have n7_ := Aside0.mk ((by rw [hg]; exact Nat.ne_of_gt (blk_lt (g := gb199) (o := .cells #[.int .i64 a1_0, .int .i64 a1_1] 61 (0, 0)) (by (with_reducible repeat (first | refine blk_drewN ?_ _ | refine blk_drew ?_ | refine blk_alloc ?_ _)); exact BK199.out)) : gb207 ≠ gb199)); have n8_ := Aside0.mk ((by rw [hg]; exact Nat.ne_of_lt (blk_lt (g := gb206) (o := .cells #[.int .i64 0, .int .i64 0] 61 (0, 0)) (by (with_reducible repeat (first | refine blk_drewN ?_ _ | refine blk_drew ?_ | refine blk_alloc ?_ _)); exact BK206.out)) : gb206 ≠ gb207)); have n9_ := Aside0.mk ((by rw [hg]; exact Nat.ne_of_gt (blk_lt (g := gb206) (o := .cells #[.int .i64 0, .int .i64 0] 61 (0, 0)) (by (with_reducible repeat (first | refine blk_drewN ?_ _ | refine blk_drew ?_ | refine blk_alloc ?_ _)); exact BK206.out)) : gb207 ≠ gb206)); clear BK199; clear BK206; clear HB; have BK199 := n0_; have BK206 := n1_; have HB := n2_; have BK207 := n3_; have GW207 := n4_; have GE207 := n5_; have NB199_207 := n6_; have NB207_199 := n7_; have NB206_207 := n8_; have NB207_206 := n9_; clear n0_ n1_ n2_ n3_ n4_ n5_ n6_ n7_ n8_ n9_; clear hb hbox hg; have hnb32 := NB206_199.out; have hnc32 := NB199_206.out; have hnb33 := NB206_207.out; have hnc33 := NB207_206.out; have hcz34_0 : w31.cell? ⟨gb206, 0, none⟩ = some (.int .i64 0) := (blk_cell BK206.out 0).trans rfl; have hcz34_1 : w31.cell? ⟨gb206, 1, none⟩ = some (.int .i64 0) := (blk_cell BK206.out 1).trans rfl; have hfz34_0 := blk_frozen BK206.out 0; have hfz34_1 := blk_frozen BK206.out 1; have hnb35 := NB207_199.out; have hnc35 := NB199_207.out; have hcz36_0 : w31.cell? ⟨gb207, 0, none⟩ = some (.int .i64 0) := (blk_cell BK207.out 0).trans rfl; have hcz36_1 : w31.cell? ⟨gb207, 1, none⟩ = some (.int .i64 0) := (blk_cell BK207.out 1).trans rfl; have hfz36_0 := blk_frozen BK207.out 0; have hfz36_1 := blk_frozen BK207.out 1) | ((with_reducible refine gate_callee (f := 48) rfl ?_); refine goesL_ (some 19) rfl rfl Try.func48 (by kernel_rfl) rfl #[.agg #[.int .i64 t203, .int .i64 t204]] rfl (by (try simp only [List.map_toArray, List.map_cons, List.map_nil]); first | done | rfl | (simp only [List.length_drop, List.length_take]; rfl)) ?_; (with_reducible refine (ranges_Range_IsEmpty.calls t203 t204 false _ A10.out).mono ?_); rintro e w37 ⟨rfl, hb⟩; refine ⟨_, rfl, ?_⟩; have n0_ := Aside0.mk (blk_below (g := gb199) (o := .cells #[.int .i64 a1_0, .int .i64 a1_1] 61 (0, 0)) (by (with_reducible repeat (first | refine blk_drewN ?_ _ | refine blk_drew ?_ | refine blk_alloc ?_ _)); refine blk_far ?_ NB199_207.out _; (with_reducible repeat (first | refine blk_drewN ?_ _ | refine blk_drew ?_ | refine blk_alloc ?_ _)); refine blk_far ?_ NB199_207.out _; (with_reducible repeat (first | refine blk_drewN ?_ _ | refine blk_drew ?_ | refine blk_alloc ?_ _)); refine blk_far ?_ NB199_206.out _; (with_reducible repeat (first | refine blk_drewN ?_ _ | refine blk_drew ?_ | refine blk_alloc ?_ _)); refine blk_far ?_ NB199_206.out _; (with_reducible repeat (first | refine blk_drewN ?_ _ | refine blk_drew ?_ | refine blk_alloc ?_ _)); exact BK199.out) hb); have n1_ := Aside0.mk (blk_below (g := gb206) (o := .cells #[.int .i64 t201, .int .i64 t202] 61 (0, 0)) (by (with_reducible repeat (first | refine blk_drewN ?_ _ | refine blk_drew ?_ | refine blk_alloc ?_ _)); refine blk_far ?_ NB206_207.out _; (with_reducible repeat (first | refine blk_drewN ?_ _ | refine blk_drew ?_ | refine blk_alloc ?_ _)); refine blk_far ?_ NB206_207.out _; (with_reducible repeat (first | refine blk_drewN ?_ _ | refine blk_drew ?_ | refine blk_alloc ?_ _)); refine blk_put (cs := #[.int .i64 t201, .int .i64 0]) ?_ 1 _ rfl; (with_reducible repeat (first | refine blk_drewN ?_ _ | refine blk_drew ?_ | refine blk_alloc ?_ _)); refine blk_put (cs := #[.int .i64 0, .int .i64 0]) ?_ 0 _ rfl; (with_reducible repeat (first | refine blk_drewN ?_ _ | refine blk_drew ?_ | refine blk_alloc ?_ _)); exact BK206.out) hb); have n2_ := Aside0.mk (blk_below (g := gb207) (o := .cells #[.int .i64 t203, .int .i64 t204] 61 (0, 0)) (by (with_reducible repeat (first | refine blk_drewN ?_ _ | refine blk_drew ?_ | refine blk_alloc ?_ _)); refine blk_put (cs := #[.int .i64 t203, .int .i64 0]) ?_ 1 _ rfl; (with_reducible repeat (first | refine blk_drewN ?_ _ | refine blk_drew ?_ | refine blk_alloc ?_ _)); refine blk_put (cs := #[.int .i64 0, .int .i64 0]) ?_ 0 _ rfl; (with_reducible repeat (first | refine blk_drewN ?_ _ | refine blk_drew ?_ | refine blk_alloc ?_ _)); refine blk_far ?_ NB207_206.out _; (with_reducible repeat (first | refine blk_drewN ?_ _ | refine blk_drew ?_ | refine blk_alloc ?_ _)); refine blk_far ?_ NB207_206.out _; (with_reducible repeat (first | refine blk_drewN ?_ _ | refine blk_drew ?_ | refine blk_alloc ?_ _)); exact BK207.out) hb); have n3_ := Aside0.mk (below_step (by repeat (first | (with_reducible first | exact HB.out | apply below_alloc | apply pw_below_drewN | apply below_drew1 | refine below_set ?_ GE199.out | refine below_set ?_ GE206.out | refine below_set ?_ GE207.out) | exact HB.out)) hb); clear BK199; clear BK206; clear BK207; clear HB; have BK199 := n0_; have BK206 := n1_; have BK207 := n2_; have HB := n3_; clear n0_ n1_ n2_ n3_; (try clear hb); (try clear hb2); (try clear hk); (try clear hi)))
        go_ret
        exact ⟨by first | rfl | (simp [errW_none, errW_some] <;> rfl) | (simp [*, errW_none, errW_some] <;> rfl), by repeat (first | (with_reducible first | exact HB.out | apply below_alloc | apply pw_below_drewN | apply below_drew1 | refine below_set ?_ GE199.out | refine below_set ?_ GE206.out | refine below_set ?_ GE207.out) | exact HB.out)⟩
    · replace c9 := Bool.eq_false_iff.mpr c9
      subst c9
      have H1 : (some false) = some r := by rw [if_neg (show ¬ (false = true) by decide)] at H; exact H
      clear H
      have H := H1
      clear H1
      obtain rfl := Option.some.inj H
      go_enter Try.func51, Try.ntmps51
      go_wp2_with (first | ((with_reducible refine gate_dst (N := 3) rfl ?_); refine box_event ?hg (N := 3) ?hd (cs := #[.int .i64 a1_0, .int .i64 a1_1]) (t := 61) ?hr ?_; (case hd => rfl); (case hg => rfl); (case hr => first | (go_simp; done) | (go_simp; rfl)); intro gb199 hg w38 hbox hb; have n0_ := Aside0.mk (below_step (by repeat (first | (with_reducible first | exact HB.out | apply below_alloc | apply pw_below_drewN | apply below_drew1) | exact HB.out)) hb); have n1_ := Aside0.mk (hbox); have n2_ := Aside0.mk ((by rw [hg]; exact (below_size (by repeat (first | (with_reducible first | exact HB.out | apply below_alloc | apply pw_below_drewN | apply below_drew1) | exact HB.out))) : w.heap.size ≤ gb199)); have n3_ := Aside0.mk ((by rw [hg]; exact (below_size (by repeat (first | (with_reducible first | exact HB.out | apply below_alloc | apply pw_below_drewN | apply below_drew1) | exact HB.out))) : w.heap.size ≤ gb199)); clear HB; have HB := n0_; have BK199 := n1_; have GW199 := n2_; have GE199 := n3_; clear n0_ n1_ n2_ n3_; clear hb hbox hg; have hcz39_0 : w38.cell? ⟨gb199, 0, none⟩ = some (.int .i64 a1_0) := (blk_cell BK199.out 0).trans rfl; have hcz39_1 : w38.cell? ⟨gb199, 1, none⟩ = some (.int .i64 a1_1) := (blk_cell BK199.out 1).trans rfl; have hfz39_0 := blk_frozen BK199.out 0; have hfz39_1 := blk_frozen BK199.out 1) | ((with_reducible refine gate_callee (f := 48) rfl ?_); refine goesL_ (some 8) rfl rfl Try.func48 (by kernel_rfl) rfl #[.agg #[.int .i64 a1_0, .int .i64 a1_1]] rfl (by (try simp only [List.map_toArray, List.map_cons, List.map_nil]); first | done | rfl | (simp only [List.length_drop, List.length_take]; rfl)) ?_; (with_reducible refine (ranges_Range_IsEmpty.calls a1_0 a1_1 false _ A3.out).mono ?_); rintro e w40 ⟨rfl, hb⟩; refine ⟨_, rfl, ?_⟩; have n0_ := Aside0.mk (blk_below (g := gb199) (o := .cells #[.int .i64 a1_0, .int .i64 a1_1] 61 (0, 0)) (by (with_reducible repeat (first | refine blk_drewN ?_ _ | refine blk_drew ?_ | refine blk_alloc ?_ _)); exact BK199.out) hb); have n1_ := Aside0.mk (below_step (by repeat (first | (with_reducible first | exact HB.out | apply below_alloc | apply pw_below_drewN | apply below_drew1 | refine below_set ?_ GE199.out) | exact HB.out)) hb); clear BK199; clear HB; have BK199 := n0_; have HB := n1_; clear n0_ n1_; (try clear hb); (try clear hb2); (try clear hk); (try clear hi); have hcz41_0 : w40.cell? ⟨gb199, 0, none⟩ = some (.int .i64 a1_0) := (blk_cell BK199.out 0).trans rfl; have hcz41_1 : w40.cell? ⟨gb199, 1, none⟩ = some (.int .i64 a1_1) := (blk_cell BK199.out 1).trans rfl; have hfz41_0 := blk_frozen BK199.out 0; have hfz41_1 := blk_frozen BK199.out 1) | ((with_reducible refine gate_callee (f := 44) rfl ?_); refine goesL_ (some 12) rfl rfl Try.func44 (by kernel_rfl) rfl #[.slice A0 l0.length c0, .agg #[.int .i64 a1_0, .int .i64 a1_1]] rfl (by (try simp only [List.map_toArray, List.map_cons, List.map_nil]); first | done | rfl | (simp only [List.length_drop, List.length_take]; rfl)) ?_; (with_reducible refine (ranges_Ranges_Find.calls _ _ l0 a1_0 a1_1 t201 t202 t203 t204 false _ ?side1 ?side2 A8.out).mono ?_); (case side1 => repeat (first | exact (Kd.C_below HR0.out HB.out) | (with_reducible refine Kd.C_alloc ?_ _) | (with_reducible refine Kd.C_drewN ?_ _) | (with_reducible refine Kd.C_drew ?_))); (case side2 => exact HC0.out); rintro e w42 ⟨rfl, hb⟩; refine ⟨_, rfl, ?_⟩; have n0_ := Aside0.mk (blk_below (g := gb199) (o := .cells #[.int .i64 a1_0, .int .i64 a1_1] 61 (0, 0)) (by (with_reducible repeat (first | refine blk_drewN ?_ _ | refine blk_drew ?_ | refine blk_alloc ?_ _)); exact BK199.out) hb); have n1_ := Aside0.mk (below_step (by repeat (first | (with_reducible first | exact HB.out | apply below_alloc | apply pw_below_drewN | apply below_drew1 | refine below_set ?_ GE199.out) | exact HB.out)) hb); clear BK199; clear HB; have BK199 := n0_; have HB := n1_; clear n0_ n1_; (try clear hb); (try clear hb2); (try clear hk); (try clear hi)) | ((with_reducible refine gate_dst (N := 5) rfl ?_); refine box_event ?hg (N := 5) ?hd (cs := #[.int .i64 0, .int .i64 0]) (t := 61) ?hr ?_; (case hd => rfl); (case hg => rfl); (case hr => first | (go_simp; done) | (go_simp; rfl)); intro gb206 hg w43 hbox hb; have n0_ := Aside0.mk (blk_below (g := gb199) (o := .cells #[.int .i64 a1_0, .int .i64 a1_1] 61 (0, 0)) (by (with_reducible repeat (first | refine blk_drewN ?_ _ | refine blk_drew ?_ | refine blk_alloc ?_ _)); exact BK199.out) hb); have n1_ := Aside0.mk (below_step (by repeat (first | (with_reducible first | exact HB.out | apply below_alloc | apply pw_below_drewN | apply below_drew1 | refine below_set ?_ GE199.out) | exact HB.out)) hb); have n2_ := Aside0.mk (hbox); have n3_ := Aside0.mk ((by rw [hg]; exact (below_size (by repeat (first | (with_reducible first | exact HB.out | apply below_alloc | apply pw_below_drewN | apply below_drew1 | refine below_set ?_ GE199.out) | exact HB.out))) : w.heap.size ≤ gb206)); have n4_ := Aside0.mk ((by rw [hg]; exact (below_size (by repeat (first | (with_reducible first | exact HB.out | apply below_alloc | apply pw_below_drewN | apply below_drew1 | refine below_set ?_ GE199.out) | exact HB.out))) : w.heap.size ≤ gb206)); have n5_ := Aside0.mk ((by rw [hg]; exact Nat.ne_of_lt (blk_lt (g := gb199) (o := .cells #[.int .i64 a1_0, .int .i64 a1_1] 61 (0, 0)) (by (with_reducible repeat (first | refine blk_drewN ?_ _ | refine blk_drew ?_ | refine blk_alloc ?_ _)); exact BK199.out)) : gb199 ≠ gb206)); have n6_ := Aside0.mk ((by rw [hg]; exact Nat.ne_of_gt (blk_lt (g := gb199) (o := .cells #[.int .i64 a1_0, .int .i64 a1_1] 61 (0, 0)) (by (with_reducible repeat (first | refine blk_drewN ?_ _ | refine blk_drew ?_ | refine blk_alloc ?_ _)); exact BK199.out)) : gb206 ≠ gb199)); clear BK199; clear HB; have BK199 := n0_; have HB := n1_; have BK206 := n2_; have GW206 := n3_; have GE206 := n4_; have NB199_206 := n5_; have NB206_199 := n6_; clear n0_ n1_ n2_ n3_ n4_ n5_ n6_; clear hb hbox hg) | ((with_reducible refine gate_dst (N := 6) rfl ?_); refine box_event ?hg (N := 6) ?hd (cs := #[.int .i64 0, .int .i64 0]) (t := 61) ?hr ?_; (case hd => rfl); (case hg => rfl); (case hr => first | (go_simp; done) | (go_simp; rfl)); intro gb207 hg w44 hbox hb; have n0_ := Aside0.mk (blk_below (g := gb199) (o := .cells #[.int .i64 a1_0, .int .i64 a1_1] 61 (0, 0)) (by (with_reducible repeat (first | refine blk_drewN ?_ _ | refine blk_drew ?_ | refine blk_alloc ?_ _)); exact BK199.out) hb); have n1_ := Aside0.mk (blk_below (g := gb206) (o := .cells #[.int .i64 0, .int .i64 0] 61 (0, 0)) (by (with_reducible repeat (first | refine blk_drewN ?_ _ | refine blk_drew ?_ | refine blk_alloc ?_ _)); exact BK206.out) hb); have n2_ := Aside0.mk (below_step (by repeat (first | (with_reducible first | exact HB.out | apply below_alloc | apply pw_below_drewN | apply below_drew1 | refine below_set ?_ GE199.out | refine below_set ?_ GE206.out) | exact HB.out)) hb); have n3_ := Aside0.mk (hbox); have n4_ := Aside0.mk ((by rw [hg]; exact (below_size (by repeat (first | (with_reducible first | exact HB.out | apply below_alloc | apply pw_below_drewN | apply below_drew1 | refine below_set ?_ GE199.out | refine below_set ?_ GE206.out) | exact HB.out))) : w.heap.size ≤ gb207)); have n5_ := Aside0.mk ((by rw [hg]; exact (below_size (by repeat (first | (with_reducible first | exact HB.out | apply below_alloc | apply pw_below_drewN | apply below_drew1 | refine below_set ?_ GE199.out | refine below_set ?_ GE206.out) | exact HB.out))) : w.heap.size ≤ gb207)); have n6_ := Aside0.mk ((by rw [hg]; exact Nat.ne_of_lt (blk_lt (g := gb199) (o := .cells #[.int .i64 a1_0, .int .i64 a1_1] 61 (0, 0)) (by (with_reducible repeat (first | refine blk_drewN ?_ _ | refine blk_drew ?_ | refine blk_alloc ?_ _)); exact BK199.out)) : gb199 ≠ gb207)); have n7_ := Aside0.mk ((by rw [hg]; exact Nat.ne_of_gt (blk_lt (g := gb199) (o := .cells #[.int .i64 a1_0, .int .i64 a1_1] 61 (0, 0)) (by (with_reducible repeat (first | refine blk_drewN ?_ _ | refine blk_drew ?_ | refine blk_alloc ?_ _)); exact BK199.out)) : gb207 ≠ gb199)); have n8_ := Aside0.mk ((by rw [hg]; exact Nat.ne_of_lt (blk_lt (g := gb206) (o := .cells #[.int .i64 0, .int .i64 0] 61 (0, 0)) (by (with_reducible repeat (first | refine blk_drewN ?_ _ | refine blk_drew ?_ | refine blk_alloc ?_ _)); exact BK206.out)) : gb206 ≠ gb207)); have n9_ := Aside0.mk ((by rw [hg]; exact Nat.ne_of_gt (blk_lt (g := gb206) (o := .cells #[.int .i64 0, .int .i64 0] 61 (0, 0)) (by (with_reducible repeat (first | refine blk_drewN ?_ _ | refine blk_drew ?_ | refine blk_alloc ?_ _)); exact BK206.out)) : gb207 ≠ gb206)); clear BK199; clear BK206; clear HB; have BK199 := n0_; have BK206 := n1_; have HB := n2_; have BK207 := n3_; have GW207 := n4_; have GE207 := n5_; have NB199_207 := n6_; have NB207_199 := n7_; have NB206_207 := n8_; have NB207_206 := n9_; clear n0_ n1_ n2_ n3_ n4_ n5_ n6_ n7_ n8_ n9_; clear hb hbox hg; have hnb45 := NB206_199.out; have hnc45 := NB199_206.out; have hnb46 := NB206_207.out; have hnc46 := NB207_206.out; have hcz47_0 : w44.cell? ⟨gb206, 0, none⟩ = some (.int .i64 0) := (blk_cell BK206.out 0).trans rfl; have hcz47_1 : w44.cell? ⟨gb206, 1, none⟩ = some (.int .i64 0) := (blk_cell BK206.out 1).trans rfl; have hfz47_0 := blk_frozen BK206.out 0; have hfz47_1 := blk_frozen BK206.out 1; have hnb48 := NB207_199.out; have hnc48 := NB199_207.out; have hcz49_0 : w44.cell? ⟨gb207, 0, none⟩ = some (.int .i64 0) := (blk_cell BK207.out 0).trans rfl; have hcz49_1 : w44.cell? ⟨gb207, 1, none⟩ = some (.int .i64 0) := (blk_cell BK207.out 1).trans rfl; have hfz49_0 := blk_frozen BK207.out 0; have hfz49_1 := blk_frozen BK207.out 1))
      go_ret
      exact ⟨by first | rfl | (simp [errW_none, errW_some] <;> rfl) | (simp [*, errW_none, errW_some] <;> rfl), by repeat (first | (with_reducible first | exact HB.out | apply below_alloc | apply pw_below_drewN | apply below_drew1 | refine below_set ?_ GE199.out | refine below_set ?_ GE206.out | refine below_set ?_ GE207.out) | exact HB.out)⟩

/-! ### impl_RangesPresent: function 30 -/
def impl_RangesPresent.f (l0 : List (S28)) (a1_0 : Int) (a1_1 : Int) : Option (Bool) := (impl_inserted.f l0).bind fun t210 => ((impl_given.f a1_0 a1_1).bind fun bt213 => ((ranges_Ranges_Present.f t210 bt213.1 bt213.2).bind fun t215 => (some t215)))
set_option maxHeartbeats 8000000 in
set_option maxRecDepth 100000 in
theorem impl_RangesPresent.calls (A0 : Option Addr) (c0 : Nat) (l0 : List (S28)) (a1_0 : Int) (a1_1 : Int) (r : Bool) (w : World) (hr0 : Kd.C k28 w A0 l0.length l0) (hc0 : l0.length ≤ c0) (h : impl_RangesPresent.f l0 a1_0 a1_1 = some r) :
    Calls Try.prog 30 #[.slice A0 l0.length c0, .agg #[.int .i64 a1_0, .int .i64 a1_1]] w fun e w' => e = .returned (.bool r) ∧ Below w.heap.size w w' := by
  have hu28 := Try.underlying28
  have HR0 := Aside0.mk hr0
  have HC0 := Aside0.mk hc0
  clear hr0 hc0
  have HB := Aside0.mk (Below.refl w.heap.size w)
  have H : ((impl_inserted.f l0).bind fun t210 => ((impl_given.f a1_0 a1_1).bind fun bt213 => ((ranges_Ranges_Present.f t210 bt213.1 bt213.2).bind fun t215 => (some t215)))) = some r := h
  clear h
  replace H := Option.bind_eq_some_iff.mp H
  obtain ⟨t210, A30, H⟩ := H
  replace H : ((impl_given.f a1_0 a1_1).bind fun bt213 => ((ranges_Ranges_Present.f t210 bt213.1 bt213.2).bind fun t215 => (some t215))) = some r := H
  have A3 := Aside0.mk A30
  clear A30
  replace H := Option.bind_eq_some_iff.mp H
  obtain ⟨⟨t213, t214⟩, A40, H⟩ := H
  replace H : ((ranges_Ranges_Present.f t210 t213 t214).bind fun t215 => (some t215)) = some r := H
  have A4 := Aside0.mk A40
  clear A40
  replace H := Option.bind_eq_some_iff.mp H
  obtain ⟨t215, A50, H⟩ := H
  replace H : (some t215) = some r := H
  have A5 := Aside0.mk A50
  clear A50
  obtain rfl := Option.some.inj H
  go_enter Try.func30, Try.ntmps30
  try go_wp2_with (first | ((with_reducible refine gate_dst (N := 3) rfl ?_); refine box_event ?hg (N := 3) ?hd (cs := #[.int .i64 a1_0, .int .i64 a1_1]) (t := 28) ?hr ?_; (case hd => rfl); (case hg => rfl); (case hr => first | (go_simp; done) | (go_simp; rfl)); intro gb209 hg w6 hbox hb; have n0_ := Aside0.mk (below_step (by repeat (first | (with_reducible first | exact HB.out | apply below_alloc | apply pw_below_drewN | apply below_drew1) | exact HB.out)) hb); have n1_ := Aside0.mk (hbox); have n2_ := Aside0.mk ((by rw [hg]; exact (below_size (by repeat (first | (with_reducible first | exact HB.out | apply below_alloc | apply pw_below_drewN | apply below_drew1) | exact HB.out))) : w.heap.size ≤ gb209)); have n3_ := Aside0.mk ((by rw [hg]; exact (below_size (by repeat (first | (with_reducible first | exact HB.out | apply below_alloc | apply pw_below_drewN | apply below_drew1) | exact HB.out))) : w.heap.size ≤ gb209)); clear HB; have HB := n0_; have BK209 := n1_; have GW209 := n2_; have GE209 := n3_; clear n0_ n1_ n2_ n3_; clear hb hbox hg))
  have n0_ := Aside0.mk (blk_drew BK209.out)
  have n1_ := Aside0.mk (below_drew1 HB.out)
  clear BK209
  clear HB
  have BK209 := n0_
  have HB := n1_
  clear n0_ n1_
  refine start_ (n := 6) (S := fun w' => w'.cell? ⟨gb209, 0, none⟩ = some (.int .i64 a1_0) ∧ w'.cell? ⟨gb209, 1, none⟩ = some (.int .i64 a1_1)) (ds := []) #[false, false, false, false, false, false] (by kernel_rfl) rfl rfl ⟨(blk_cell BK209.out 0).trans rfl, (blk_cell BK209.out 1).trans rfl⟩ (fun hHeld => ?_)
  generalize w6.drew = w7 at BK209 HB hHeld ⊢
  refine pure_ (i := 0) (N := some 5) (v := ?_) (a' := ?_) #[true, false, false, false, false, false] rfl rfl (by kernel_rfl) (fun _ _ _ h => h) (Or.inl ⟨by rfl, ?_⟩) ?_ ?_
  rotate_left
  · intro w'
    go_simp
    with_reducible rfl
  rotate_left
  · simp only [Act.put, List.setIfInBounds_toArray, List.set_cons_zero, List.set_cons_succ, i64_w, i32_w]
    rfl
  refine take_ (i := 2) (N := some 7) (v := ?_) (a' := ?_) #[true, false, true, false, false, false] rfl rfl (by kernel_rfl) (fun _ _ _ h => h) (Or.inl ⟨by rfl, ?_⟩) hHeld ?_ ?_
  rotate_left
  · rintro w' ⟨s0, s1⟩
    go_simp
    with_reducible rfl
  rotate_left
  · simp only [Act.put, List.setIfInBounds_toArray, List.set_cons_zero, List.set_cons_succ, i64_w, i32_w]
    rfl
  refine one_ (i := 1) (N := some 6) #[true, true, true, false, false, false] rfl rfl (by kernel_rfl) (by decide) (fun K hK => ?_)
  refine goes_ Try.func38 (by kernel_rfl) rfl #[.slice A0 l0.length c0] (by rfl) rfl rfl (by (try simp only [List.map_toArray, List.map_cons, List.map_nil]); first | done | rfl | (simp only [List.length_drop, List.length_take]; rfl)) ?_
  with_reducible refine (impl_inserted.calls _ _ l0 t210 _ ?side1 ?side2 A3.out).mono ?_
  (case side1 => repeat (first | exact (Kd.C_below HR0.out HB.out) | (with_reducible refine Kd.C_alloc ?_ _) | (with_reducible refine Kd.C_drewN ?_ _) | (with_reducible refine Kd.C_drew ?_)))
  (case side2 => exact HC0.out)
  rintro e w8 ⟨v211, rfl, ho0, hb⟩
  refine ⟨_, rfl, ?_⟩
  have n0_ := Aside0.mk (Kd.R_lower ho0 (below_size (by repeat (first | (with_reducible first | exact HB.out | apply below_alloc | apply pw_below_drewN | apply below_drew1 | refine below_set ?_ GE209.out) | exact HB.out))))
  have n1_ := Aside0.mk (blk_below (g := gb209) (o := .cells #[.int .i64 a1_0, .int .i64 a1_1] 28 (0, 0)) (by (with_reducible repeat (first | refine blk_drewN ?_ _ | refine blk_drew ?_ | refine blk_alloc ?_ _)); exact BK209.out) hb)
  have n2_ := Aside0.mk (below_step (by repeat (first | (with_reducible first | exact HB.out | apply below_alloc | apply pw_below_drewN | apply below_drew1 | refine below_set ?_ GE209.out) | exact HB.out)) hb)
  clear BK209
  clear HB
  have HO212 := n0_
  have BK209 := n1_
  have HB := n2_
  clear n0_ n1_ n2_
  (try clear hb)
  (try clear hb2)
  (try clear hk)
  (try clear hi)
  (try clear ho0)
  refine hK.out _ _ ⟨(blk_cell BK209.out 0).trans rfl, (blk_cell BK209.out 1).trans rfl⟩ (fun hHeld => ?_)
  clear hK K
  refine norm_ (a' := ?_) ?_ ?_
  rotate_left
  · show Act.put _ (some 6) _ = _
    simp only [Act.put, List.setIfInBounds_toArray, List.set_cons_zero, List.set_cons_succ, i64_w, i32_w]
    rfl
  refine one_ (i := 3) (N := some 8) #[true, true, true, true, false, false] rfl rfl (by kernel_rfl) (by decide) (fun K hK => ?_)
  refine goes_ Try.func41 (by kernel_rfl) rfl #[.agg #[.int .i64 a1_0, .int .i64 a1_1]] (by rfl) rfl rfl (by (try simp only [List.map_toArray, List.map_cons, List.map_nil]); first | done | rfl | (simp only [List.length_drop, List.length_take]; rfl)) ?_
  with_reducible refine (impl_given.calls a1_0 a1_1 t213 t214 _ A4.out).mono ?_
  rintro e w9 ⟨rfl, hb⟩
  refine ⟨_, rfl, ?_⟩
  have n0_ := Aside0.mk (Kd.R_below (by (with_reducible repeat (first | apply Kd.R_alloc | apply Kd.R_drewN | apply Kd.R_drew)); exact HO212.out) hb)
  have n1_ := Aside0.mk (blk_below (g := gb209) (o := .cells #[.int .i64 a1_0, .int .i64 a1_1] 28 (0, 0)) (by (with_reducible repeat (first | refine blk_drewN ?_ _ | refine blk_drew ?_ | refine blk_alloc ?_ _)); exact BK209.out) hb)
  have n2_ := Aside0.mk (below_step (by repeat (first | (with_reducible first | exact HB.out | apply below_alloc | apply pw_below_drewN | apply below_drew1 | refine below_set ?_ GE209.out) | exact HB.out)) hb)
  clear HO212
  clear BK209
  clear HB
  have HO212 := n0_
  have BK209 := n1_
  have HB := n2_
  clear n0_ n1_ n2_
  (try clear hb)
  (try clear hb2)
  (try clear hk)
  (try clear hi)
  obtain ⟨Ao10, co10, eo10⟩ := Kd.R_slice HO212.out
  (first | subst eo10 | (injection eo10 with f1_ f2_ f3_; have f4_ := f1_.symm; have f5_ := f3_.symm; clear f1_ f2_ f3_; subst f4_; subst f5_))
  refine hK.out _ _ ⟨(blk_cell BK209.out 0).trans rfl, (blk_cell BK209.out 1).trans rfl⟩ (fun hHeld => ?_)
  clear hK K
  refine norm_ (a' := ?_) ?_ ?_
  rotate_left
  · show Act.put _ (some 8) _ = _
    simp only [Act.put, List.setIfInBounds_toArray, List.set_cons_zero, List.set_cons_succ, i64_w, i32_w]
    rfl
  refine one_ (i := 4) (N := some 9) #[true, true, true, true, true, false] rfl rfl (by kernel_rfl) (by decide) (fun K hK => ?_)
  refine goes_ Try.func51 (by kernel_rfl) rfl #[.slice Ao10 t210.length co10, .agg #[.int .i64 t213, .int .i64 t214]] (by rfl) rfl rfl (by (try simp only [List.map_toArray, List.map_cons, List.map_nil]); first | done | rfl | (simp only [List.length_drop, List.length_take]; rfl)) ?_
  with_reducible refine (ranges_Ranges_Present.calls _ _ t210 t213 t214 t215 _ ?side1 ?side2 A5.out).mono ?_
  (case side1 => repeat (first | exact (Kd.R_reads' HO212.out).2.2 | (with_reducible refine Kd.C_alloc ?_ _) | (with_reducible refine Kd.C_drewN ?_ _) | (with_reducible refine Kd.C_drew ?_)))
  (case side2 => exact (Kd.R_reads' HO212.out).2.1)
  rintro e w11 ⟨rfl, hb⟩
  refine ⟨_, rfl, ?_⟩
  have n0_ := Aside0.mk (Kd.R_below (by (with_reducible repeat (first | apply Kd.R_alloc | apply Kd.R_drewN | apply Kd.R_drew)); exact HO212.out) hb)
  have n1_ := Aside0.mk (blk_below (g := gb209) (o := .cells #[.int .i64 a1_0, .int .i64 a1_1] 28 (0, 0)) (by (with_reducible repeat (first | refine blk_drewN ?_ _ | refine blk_drew ?_ | refine blk_alloc ?_ _)); exact BK209.out) hb)
  have n2_ := Aside0.mk (below_step (by repeat (first | (with_reducible first | exact HB.out | apply below_alloc | apply pw_below_drewN | apply below_drew1 | refine below_set ?_ GE209.out) | exact HB.out)) hb)
  clear HO212
  clear BK209
  clear HB
  have HO212 := n0_
  have BK209 := n1_
  have HB := n2_
  clear n0_ n1_ n2_
  (try clear hb)
  (try clear hb2)
  (try clear hk)
  (try clear hi)
  refine hK.out _ _ ⟨(blk_cell BK209.out 0).trans rfl, (blk_cell BK209.out 1).trans rfl⟩ (fun hHeld => ?_)
  clear hK K
  refine norm_ (a' := ?_) ?_ ?_
  rotate_left
  · show Act.put _ (some 9) _ = _
    simp only [Act.put, List.setIfInBounds_toArray, List.set_cons_zero, List.set_cons_succ, i64_w, i32_w]
    rfl
  refine pure_ (i := 5) (N := some 4) (v := ?_) (a' := ?_) #[true, true, true, true, true, true] rfl rfl (by kernel_rfl) (fun _ _ _ h => h) (Or.inl ⟨by rfl, ?_⟩) ?_ ?_
  rotate_left
  · intro w'
    go_simp
    with_reducible rfl
  rotate_left
  · simp only [Act.put, List.setIfInBounds_toArray, List.set_cons_zero, List.set_cons_succ, i64_w, i32_w]
    rfl
  refine done_ (by kernel_rfl) ?_
  try go_wp2
  go_ret
  exact ⟨by first | rfl | (simp [errW_none, errW_some] <;> rfl) | (simp [*, errW_none, errW_some] <;> rfl), by repeat (first | (with_reducible first | exact HB.out | apply below_alloc | apply pw_below_drewN | apply below_drew1 | refine below_set ?_ GE209.out) | exact HB.out)⟩

/-! ### ranges_Range_End: function 49 -/
def ranges_Range_End.f (a0_0 : Int) (a0_1 : Int) : Option (Int) := some (wrap64 (a0_0 + a0_1))
set_option maxHeartbeats 8000000 in
set_option maxRecDepth 100000 in
theorem ranges_Range_End.calls (a0_0 : Int) (a0_1 : Int) (r : Int) (w : World) (h : ranges_Range_End.f a0_0 a0_1 = some r) :
    Calls Try.prog 49 #[.agg #[.int .i64 a0_0, .int .i64 a0_1]] w fun e w' => e = .returned (.int .i64 r) ∧ Below w.heap.size w w' := by
  have hu61 := Try.underlying61
  have HB := Aside0.mk (Below.refl w.heap.size w)
  have H : (some (wrap64 (a0_0 + a0_1))) = some r := h
  clear h
  obtain rfl := Option.some.inj H
  go_enter Try.func49, Try.ntmps49
  go_wp2_with (first | ((with_reducible refine gate_dst (N := 1) rfl ?_); refine box_event ?hg (N := 1) ?hd (cs := #[.int .i64 a0_0, .int .i64 a0_1]) (t := 61) ?hr ?_; (case hd => rfl); (case hg => rfl); (case hr => first | (go_simp; done) | (go_simp; rfl)); intro gb216 hg w2 hbox hb; have n0_ := Aside0.mk (below_step (by repeat (first | (with_reducible first | exact HB.out | apply below_alloc | apply pw_below_drewN | apply below_drew1) | exact HB.out)) hb); have n1_ := Aside0.mk (hbox); have n2_ := Aside0.mk ((by rw [hg]; exact (below_size (by repeat (first | (with_reducible first | exact HB.out | apply below_alloc | apply pw_below_drewN | apply below_drew1) | exact HB.out))) : w.heap.size ≤ gb216)); have n3_ := Aside0.mk ((by rw [hg]; exact (below_size (by repeat (first | (with_reducible first | exact HB.out | apply below_alloc | apply pw_below_drewN | apply below_drew1) | exact HB.out))) : w.heap.size ≤ gb216)); clear HB; have HB := n0_; have BK216 := n1_; have GW216 := n2_; have GE216 := n3_; clear n0_ n1_ n2_ n3_; clear hb hbox hg; have hcz3_0 : w2.cell? ⟨gb216, 0, none⟩ = some (.int .i64 a0_0) := (blk_cell BK216.out 0).trans rfl; have hcz3_1 : w2.cell? ⟨gb216, 1, none⟩ = some (.int .i64 a0_1) := (blk_cell BK216.out 1).trans rfl; have hfz3_0 := blk_frozen BK216.out 0; have hfz3_1 := blk_frozen BK216.out 1))
  go_ret
  exact ⟨by first | rfl | (simp [errW_none, errW_some] <;> rfl) | (simp [*, errW_none, errW_some] <;> rfl), by repeat (first | (with_reducible first | exact HB.out | apply below_alloc | apply pw_below_drewN | apply below_drew1 | refine below_set ?_ GE216.out) | exact HB.out)⟩

/-! ### ranges_Ranges_FindMissing: function 52 -/
def ranges_Ranges_FindMissing.f (l0 : List (S61)) (a1_0 : Int) (a1_1 : Int) : Option (Int × Int) := (ranges_Range_IsEmpty.f a1_0 a1_1).bind fun t219 => (if t219 = true then (some (a1_0, a1_1)) else ((ranges_Ranges_Find.f l0 a1_0 a1_1).bind fun bt220 => (if bt220.2.2.2.2 = true then ((ranges_Range_End.f bt220.1 bt220.2.1).bind fun t227 => ((ranges_Range_End.f bt220.1 bt220.2.1).bind fun t228 => (some (t228, wrap64 (a1_1 - (wrap64 (t227 - a1_0))))))) else (some (a1_0, a1_1)))))
def ranges_Ranges_FindMissing.T7 : Bool × List (List Nat × List Nat) := (true, [([], []), ([0], [0]), ([], []), ([2], [2]), ([], []), ([4], [4]), ([3, 5], [3, 5]), ([1, 6], [1, 6]), ([0, 1, 2, 3, 4, 5, 6, 7], []), ([8, 7, 3, 0, 1, 2, 3, 4, 5, 6, 7], [7, 8])])
def ranges_Ranges_FindMissing.B7 : List Nat := [0, 1, 0, 4, 0, 16, 60, 127, 255, 511]
theorem ranges_Ranges_FindMissing.tab7 : rtab .any (opsOf Try.f52 7) = ranges_Ranges_FindMissing.T7 := by kernel_rfl
theorem ranges_Ranges_FindMissing.bits7 : waitsOk ranges_Ranges_FindMissing.T7.2 ranges_Ranges_FindMissing.B7 = true := by kernel_rfl
set_option maxHeartbeats 8000000 in
set_option maxRecDepth 100000 in
theorem ranges_Ranges_FindMissing.calls (A0 : Option Addr) (c0 : Nat) (l0 : List (S61)) (a1_0 : Int) (a1_1 : Int) (r1 : Int) (r2 : Int) (w : World) (hr0 : Kd.C k61 w A0 l0.length l0) (hc0 : l0.length ≤ c0) (h : ranges_Ranges_FindMissing.f l0 a1_0 a1_1 = some (r1, r2)) :
    Calls Try.prog 52 #[.slice A0 l0.length c0, .agg #[.int .i64 a1_0, .int .i64 a1_1]] w fun e w' => e = .returned (.agg #[.int .i64 r1, .int .i64 r2]) ∧ Below w.heap.size w w' := by
  have hu61 := Try.underlying61
  have HR0 := Aside0.mk hr0
  have HC0 := Aside0.mk hc0
  clear hr0 hc0
  have HB := Aside0.mk (Below.refl w.heap.size w)
  have H : ((ranges_Range_IsEmpty.f a1_0 a1_1).bind fun t219 => (if t219 = true then (some (a1_0, a1_1)) else ((ranges_Ranges_Find.f l0 a1_0 a1_1).bind fun bt220 => (if bt220.2.2.2.2 = true then ((ranges_Range_End.f bt220.1 bt220.2.1).bind fun t227 => ((ranges_Range_End.f bt220.1 bt220.2.1).bind fun t228 => (some (t228, wrap64 (a1_1 - (wrap64 (t227 - a1_0))))))) else (some (a1_0, a1_1)))))) = some (r1, r2) := h
  clear h
  replace H := Option.bind_eq_some_iff.mp H
  obtain ⟨t219, A30, H⟩ := H
  replace H : (if t219 = true then (some (a1_0, a1_1)) else ((ranges_Ranges_Find.f l0 a1_0 a1_1).bind fun bt220 => (if bt220.2.2.2.2 = true then ((ranges_Range_End.f bt220.1 bt220.2.1).bind fun t227 => ((ranges_Range_End.f bt220.1 bt220.2.1).bind fun t228 => (some (t228, wrap64 (a1_1 - (wrap64 (t227 - a1_0))))))) else (some (a1_0, a1_1))))) = some (r1, r2) := H
  have A3 := Aside0.mk A30
  clear A30
  by_cases c4 : t219 = true
  · subst c4
    have H1 : (some (a1_0, a1_1)) = some (r1, r2) := by rw [if_pos rfl] at H; exact H
    clear H
    have H := H1
    clear H1
    simp only [Option.some.injEq, Prod.mk.injEq] at H
    obtain ⟨rfl, rfl⟩ := H
    go_enter Try.func52, Try.ntmps52
    go_wp2_with (first | ((with_reducible refine gate_dst (N := 3) rfl ?_); refine box_event ?hg (N := 3) ?hd (cs := #[.int .i64 a1_0, .int .i64 a1_1]) (t := 61) ?hr ?_; (case hd => rfl); (case hg => rfl); (case hr => first | (go_simp; done) | (go_simp; rfl)); intro gb217 hg w5 hbox hb; have n0_ := Aside0.mk (below_step (by repeat (first | (with_reducible first | exact HB.out | apply below_alloc | apply pw_below_drewN | apply below_drew1) | exact HB.out)) hb); have n1_ := Aside0.mk (hbox); have n2_ := Aside0.mk ((by rw [hg]; exact (below_size (by repeat (first | (with_reducible first | exact HB.out | apply below_alloc | apply pw_below_drewN | apply below_drew1) | exact HB.out))) : w.heap.size ≤ gb217)); have n3_ := Aside0.mk ((by rw [hg]; exact (below_size (by repeat (first | (with_reducible first | exact HB.out | apply below_alloc | apply pw_below_drewN | apply below_drew1) | exact HB.out))) : w.heap.size ≤ gb217)); clear HB; have HB := n0_; have BK217 := n1_; have GW217 := n2_; have GE217 := n3_; clear n0_ n1_ n2_ n3_; clear hb hbox hg) | ((with_reducible refine gate_dst (N := 4) rfl ?_); refine box_event ?hg (N := 4) ?hd (cs := #[.int .i64 0, .int .i64 0]) (t := 61) ?hr ?_; (case hd => rfl); (case hg => rfl); (case hr => first | (go_simp; done) | (go_simp; rfl)); intro gb218 hg w6 hbox hb; have n0_ := Aside0.mk (blk_below (g := gb217) (o := .cells #[.int .i64 a1_0, .int .i64 a1_1] 61 (0, 0)) (by (with_reducible repeat (first | refine blk_drewN ?_ _ | refine blk_drew ?_ | refine blk_alloc ?_ _)); exact BK217.out) hb); have n1_ := Aside0.mk (below_step (by repeat (first | (with_reducible first | exact HB.out | apply below_alloc | apply pw_below_drewN | apply below_drew1 | refine below_set ?_ GE217.out) | exact HB.out)) hb); have n2_ := Aside0.mk (hbox); have n3_ := Aside0.mk ((by rw [hg]; exact (below_size (by repeat (first | (with_reducible first | exact HB.out | apply below_alloc | apply pw_below_drewN | apply below_drew1 | refine below_set ?_ GE217.out) | exact HB.out))) : w.heap.size ≤ gb218)); have n4_ := Aside0.mk ((by rw [hg]; exact (below_size (by repeat (first | (with_reducible first | exact HB.out | apply below_alloc | apply pw_below_drewN | apply below_drew1 | refine below_set ?_ GE217.out) | exact HB.out))) : w.heap.size ≤ gb218)); have n5_ := Aside0.mk ((by rw [hg]; exact Nat.ne_of_lt (blk_lt (g := gb217) (o := .cells #[.int .i64 a1_0, .int .i64 a1_1] 61 (0, 0)) (by (with_reducible repeat (first | refine blk_drewN ?_ _ | refine blk_drew ?_ | refine blk_alloc ?_ _)); exact BK217.out)) : gb217 ≠ gb218)); have n6_ := Aside0.mk ((by rw [hg]; exact Nat.ne_of_gt (blk_lt (g := gb217) (o := .cells #[.int .i64 a1_0, .int .i64 a1_1] 61 (0, 0)) (by (with_reducible repeat (first | refine blk_drewN ?_ _ | refine blk_drew ?_ | refine blk_alloc ?_ _)); exact BK217.out)) : gb218 ≠ gb217)); clear BK217; clear HB; have BK217 := n0_; have HB := n1_; have BK218 := n2_; have GW218 := n3_; have GE218 := n4_; have NB217_218 := n5_; have NB218_217 := n6_; clear n0_ n1_ n2_ n3_ n4_ n5_ n6_; clear hb hbox hg; have hnb7 := NB217_218.out; have hnc7 := NB218_217.out; have hcz8_0 : w6.cell? ⟨gb217, 0, none⟩ = some (.int .i64 a1_0) := (blk_cell BK217.out 0).trans rfl; have hcz8_1 : w6.cell? ⟨gb217, 1, none⟩ = some (.int .i64 a1_1) := (blk_cell BK217.out 1).trans rfl; have hfz8_0 := blk_frozen BK217.out 0; have hfz8_1 := blk_frozen BK217.out 1; have hcz9_0 : w6.cell? ⟨gb218, 0, none⟩ = some (.int .i64 0) := (blk_cell BK218.out 0).trans rfl; have hcz9_1 : w6.cell? ⟨gb218, 1, none⟩ = some (.int .i64 0) := (blk_cell BK218.out 1).trans rfl; have hfz9_0 := blk_frozen BK218.out 0; have hfz9_1 := blk_frozen BK218.out 1) | ((with_reducible refine gate_callee (f := 48) rfl ?_); refine goesL_ (some 10) rfl rfl Try.func48 (by kernel_rfl) rfl #[.agg #[.int .i64 a1_0, .int .i64 a1_1]] rfl (by (try simp only [List.map_toArray, List.map_cons, List.map_nil]); first | done | rfl | (simp only [List.length_drop, List.length_take]; rfl)) ?_; (with_reducible refine (ranges_Range_IsEmpty.calls a1_0 a1_1 true _ A3.out).mono ?_); rintro e w10 ⟨rfl, hb⟩; refine ⟨_, rfl, ?_⟩; have n0_ := Aside0.mk (blk_below (g := gb217) (o := .cells #[.int .i64 a1_0, .int .i64 a1_1] 61 (0, 0)) (by (with_reducible repeat (first | refine blk_drewN ?_ _ | refine blk_drew ?_ | refine blk_alloc ?_ _)); refine blk_far ?_ NB217_218.out _; (with_reducible repeat (first | refine blk_drewN ?_ _ | refine blk_drew ?_ | refine blk_alloc ?_ _)); refine blk_far ?_ NB217_218.out _; (with_reducible repeat (first | refine blk_drewN ?_ _ | refine blk_drew ?_ | refine blk_alloc ?_ _)); exact BK217.out) hb); have n1_ := Aside0.mk (blk_below (g := gb218) (o := .cells #[.int .i64 a1_0, .int .i64 a1_1] 61 (0, 0)) (by (with_reducible repeat (first | refine blk_drewN ?_ _ | refine blk_drew ?_ | refine blk_alloc ?_ _)); refine blk_put (cs := #[.int .i64 a1_0, .int .i64 0]) ?_ 1 _ rfl; (with_reducible repeat (first | refine blk_drewN ?_ _ | refine blk_drew ?_ | refine blk_alloc ?_ _)); refine blk_put (cs := #[.int .i64 0, .int .i64 0]) ?_ 0 _ rfl; (with_reducible repeat (first | refine blk_drewN ?_ _ | refine blk_drew ?_ | refine blk_alloc ?_ _)); exact BK218.out) hb); have n2_ := Aside0.mk (below_step (by repeat (first | (with_reducible first | exact HB.out | apply below_alloc | apply pw_below_drewN | apply below_drew1 | refine below_set ?_ GE217.out | refine below_set ?_ GE218.out) | exact HB.out)) hb); clear BK217; clear BK218; clear HB; have BK217 := n0_; have BK218 := n1_; have HB := n2_; clear n0_ n1_ n2_; (try clear hb); (try clear hb2); (try clear hk); (try clear hi); have hcz11_0 : w10.cell? ⟨gb218, 0, none⟩ = some (.int .i64 a1_0) := (blk_cell BK218.out 0).trans rfl; have hcz11_1 : w10.cell? ⟨gb218, 1, none⟩ = some (.int .i64 a1_1) := (blk_cell BK218.out 1).trans rfl; have hfz11_0 := blk_frozen BK218.out 0; have hfz11_1 := blk_frozen BK218.out 1))
    refine bodyPost_ret (results_cell_row rfl _ _ gb218 61 #[.int .i64 a1_0, .int .i64 a1_1] (0, 0) _ rfl (by (with_reducible repeat (first | refine blk_drewN ?_ _ | refine blk_drew ?_ | refine blk_alloc ?_ _)); refine blk_put (cs := #[.int .i64 a1_0, .int .i64 a1_1]) ?_ 1 _ rfl; (with_reducible repeat (first | refine blk_drewN ?_ _ | refine blk_drew ?_ | refine blk_alloc ?_ _)); refine blk_put (cs := #[.int .i64 a1_0, .int .i64 a1_1]) ?_ 0 _ rfl; (with_reducible repeat (first | refine blk_drewN ?_ _ | refine blk_drew ?_ | refine blk_alloc ?_ _)); exact BK218.out) Try.underlying61 rfl (by kernel_rfl)) rfl ?_
    exact ⟨by first | rfl | (simp [errW_none, errW_some] <;> rfl) | (simp [*, errW_none, errW_some] <;> rfl), by repeat (first | (with_reducible first | exact HB.out | apply below_alloc | apply pw_below_drewN | apply below_drew1 | refine below_set ?_ GE217.out | refine below_set ?_ GE218.out) | exact HB.out)⟩
  · replace c4 := Bool.eq_false_iff.mpr c4
    subst c4
    have H1 : ((ranges_Ranges_Find.f l0 a1_0 a1_1).bind fun bt220 => (if bt220.2.2.2.2 = true then ((ranges_Range_End.f bt220.1 bt220.2.1).bind fun t227 => ((ranges_Range_End.f bt220.1 bt220.2.1).bind fun t228 => (some (t228, wrap64 (a1_1 - (wrap64 (t227 - a1_0))))))) else (some (a1_0, a1_1)))) = some (r1, r2) := by rw [if_neg (show ¬ (false = true) by decide)] at H; exact H
    clear H
    have H := H1
    clear H1
    replace H := Option.bind_eq_some_iff.mp H
    obtain ⟨⟨t220, t221, t222, t223, t224⟩, A120, H⟩ := H
    replace H : (if t224 = true then ((ranges_Range_End.f t220 t221).bind fun t227 => ((ranges_Range_End.f t220 t221).bind fun t228 => (some (t228, wrap64 (a1_1 - (wrap64 (t227 - a1_0))))))) else (some (a1_0, a1_1))) = some (r1, r2) := H
    have A12 := Aside0.mk A120
    clear A120
    by_cases c13 : t224 = true
    · subst c13
      have H1 : ((ranges_Range_End.f t220 t221).bind fun t227 => ((ranges_Range_End.f t220 t221).bind fun t228 => (some (t228, wrap64 (a1_1 - (wrap64 (t227 - a1_0))))))) = some (r1, r2) := by rw [if_pos rfl] at H; exact H
      clear H
      have H := H1
      clear H1
      replace H := Option.bind_eq_some_iff.mp H
      obtain ⟨t227, A140, H⟩ := H
      replace H : ((ranges_Range_End.f t220 t221).bind fun t228 => (some (t228, wrap64 (a1_1 - (wrap64 (t227 - a1_0)))))) = some (r1, r2) := H
      have A14 := Aside0.mk A140
      clear A140
      replace H := Option.bind_eq_some_iff.mp H
      obtain ⟨t228, A150, H⟩ := H
      replace H : (some (t228, wrap64 (a1_1 - (wrap64 (t227 - a1_0))))) = some (r1, r2) := H
      have A15 := Aside0.mk A150
      clear A150
      simp only [Option.some.injEq, Prod.mk.injEq] at H
      obtain ⟨rfl, rfl⟩ := H
      go_enter Try.func52, Try.ntmps52
      try go_wp2_with (first | ((with_reducible refine gate_dst (N := 3) rfl ?_); refine box_event ?hg (N := 3) ?hd (cs := #[.int .i64 a1_0, .int .i64 a1_1]) (t := 61) ?hr ?_; (case hd => rfl); (case hg => rfl); (case hr => first | (go_simp; done) | (go_simp; rfl)); intro gb217 hg w16 hbox hb; have n0_ := Aside0.mk (below_step (by repeat (first | (with_reducible first | exact HB.out | apply below_alloc | apply pw_below_drewN | apply below_drew1) | exact HB.out)) hb); have n1_ := Aside0.mk (hbox); have n2_ := Aside0.mk ((by rw [hg]; exact (below_size (by repeat (first | (with_reducible first | exact HB.out | apply below_alloc | apply pw_below_drewN | apply below_drew1) | exact HB.out))) : w.heap.size ≤ gb217)); have n3_ := Aside0.mk ((by rw [hg]; exact (below_size (by repeat (first | (with_reducible first | exact HB.out | apply below_alloc | apply pw_below_drewN | apply below_drew1) | exact HB.out))) : w.heap.size ≤ gb217)); clear HB; have HB := n0_; have BK217 := n1_; have GW217 := n2_; have GE217 := n3_; clear n0_ n1_ n2_ n3_; clear hb hbox hg) | ((with_reducible refine gate_dst (N := 4) rfl ?_); refine box_event ?hg (N := 4) ?hd (cs := #[.int .i64 0, .int .i64 0]) (t := 61) ?hr ?_; (case hd => rfl); (case hg => rfl); (case hr => first | (go_simp; done) | (go_simp; rfl)); intro gb218 hg w17 hbox hb; have n0_ := Aside0.mk (blk_below (g := gb217) (o := .cells #[.int .i64 a1_0, .int .i64 a1_1] 61 (0, 0)) (by (with_reducible repeat (first | refine blk_drewN ?_ _ | refine blk_drew ?_ | refine blk_alloc ?_ _)); exact BK217.out) hb); have n1_ := Aside0.mk (below_step (by repeat (first | (with_reducible first | exact HB.out | apply below_alloc | apply pw_below_drewN | apply below_drew1 | refine below_set ?_ GE217.out) | exact HB.out)) hb); have n2_ := Aside0.mk (hbox); have n3_ := Aside0.mk ((by rw [hg]; exact (below_size (by repeat (first | (with_reducible first | exact HB.out | apply below_alloc | apply pw_below_drewN | apply below_drew1 | refine below_set ?_ GE217.out) | exact HB.out))) : w.heap.size ≤ gb218)); have n4_ := Aside0.mk ((by rw [hg]; exact (below_size (by repeat (first | (with_reducible first | exact HB.out | apply below_alloc | apply pw_below_drewN | apply below_drew1 | refine below_set ?_ GE217.out) | exact HB.out))) : w.heap.size ≤ gb218)); have n5_ := Aside0.mk ((by rw [hg]; exact Nat.ne_of_lt (blk_lt (g := gb217) (o := .cells #[.int .i64 a1_0, .int .i64 a1_1] 61 (0, 0)) (by (with_reducible repeat (first | refine blk_drewN ?_ _ | refine blk_drew ?_ | refine blk_alloc ?_ _)); exact BK217.out)) : gb217 ≠ gb218)); have n6_ := Aside0.mk ((by rw [hg]; exact Nat.ne_of_gt (blk_lt (g := gb217) (o := .cells #[.int .i64 a1_0, .int .i64 a1_1] 61 (0, 0)) (by (with_reducible repeat (first | refine blk_drewN ?_ _ | refine blk_drew ?_ | refine blk_alloc ?_ _)); exact BK217.out)) : gb218 ≠ gb217)); clear BK217; clear HB; have BK217 := n0_; have HB := n1_; have BK218 := n2_; have GW218 := n3_; have GE218 := n4_; have NB217_218 := n5_; have NB218_217 := n6_; clear n0_ n1_ n2_ n3_ n4_ n5_ n6_; clear hb hbox hg; have hnb18 := NB217_218.out; have hnc18 := NB218_217.out; have hcz19_0 : w17.cell? ⟨gb217, 0, none⟩ = some (.int .i64 a1_0) := (blk_cell BK217.out 0).trans rfl; have hcz19_1 : w17.cell? ⟨gb217, 1, none⟩ = some (.int .i64 a1_1) := (blk_cell BK217.out 1).trans rfl; have hfz19_0 := blk_frozen BK217.out 0; have hfz19_1 := blk_frozen BK217.out 1; have hcz20_0 : w17.cell? ⟨gb218, 0, none⟩ = some (.int .i64 0) := (blk_cell BK218.out 0).trans rfl; have hcz20_1 : w17.cell? ⟨gb218, 1, none⟩ = some (.int .i64 0) := (blk_cell BK218.out 1).trans rfl; have hfz20_0 := blk_frozen BK218.out 0; have hfz20_1 := blk_frozen BK218.out 1) | ((with_reducible refine gate_callee (f := 48) rfl ?_); refine goesL_ (some 10) rfl rfl Try.func48 (by kernel_rfl) rfl #[.agg #[.int .i64 a1_0, .int .i64 a1_1]] rfl (by (try simp only [List.map_toArray, List.map_cons, List.map_nil]); first | done | rfl | (simp only [List.length_drop, List.length_take]; rfl)) ?_; (with_reducible refine (ranges_Range_IsEmpty.calls a1_0 a1_1 false _ A3.out).mono ?_); rintro e w21 ⟨rfl, hb⟩; refine ⟨_, rfl, ?_⟩; have n0_ := Aside0.mk (blk_below (g := gb217) (o := .cells #[.int .i64 a1_0, .int .i64 a1_1] 61 (0, 0)) (by (with_reducible repeat (first | refine blk_drewN ?_ _ | refine blk_drew ?_ | refine blk_alloc ?_ _)); refine blk_far ?_ NB217_218.out _; (with_reducible repeat (first | refine blk_drewN ?_ _ | refine blk_drew ?_ | refine blk_alloc ?_ _)); refine blk_far ?_ NB217_218.out _; (with_reducible repeat (first | refine blk_drewN ?_ _ | refine blk_drew ?_ | refine blk_alloc ?_ _)); exact BK217.out) hb); have n1_ := Aside0.mk (blk_below (g := gb218) (o := .cells #[.int .i64 a1_0, .int .i64 a1_1] 61 (0, 0)) (by (with_reducible repeat (first | refine blk_drewN ?_ _ | refine blk_drew ?_ | refine blk_alloc ?_ _)); refine blk_put (cs := #[.int .i64 a1_0, .int .i64 0]) ?_ 1 _ rfl; (with_reducible repeat (first | refine blk_drewN ?_ _ | refine blk_drew ?_ | refine blk_alloc ?_ _)); refine blk_put (cs := #[.int .i64 0, .int .i64 0]) ?_ 0 _ rfl; (with_reducible repeat (first | refine blk_drewN ?_ _ | refine blk_drew ?_ | refine blk_alloc ?_ _)); exact BK218.out) hb); have n2_ := Aside0.mk (below_step (by repeat (first | (with_reducible first | exact HB.out | apply below_alloc | apply pw_below_drewN | apply below_drew1 | refine below_set ?_ GE217.out | refine below_set ?_ GE218.out) | exact HB.out)) hb); clear BK217; clear BK218; clear HB; have BK217 := n0_; have BK218 := n1_; have HB := n2_; clear n0_ n1_ n2_; (try clear hb); (try clear hb2); (try clear hk); (try clear hi); have hcz22_0 : w21.cell? ⟨gb217, 0, none⟩ = some (.int .i64 a1_0) := (blk_cell BK217.out 0).trans rfl; have hcz22_1 : w21.cell? ⟨gb217, 1, none⟩ = some (.int .i64 a1_1) := (blk_cell BK217.out 1).trans rfl; have hfz22_0 := blk_frozen BK217.out 0; have hfz22_1 := blk_frozen BK217.out 1) | ((with_reducible refine gate_callee (f := 44) rfl ?_); refine goesL_ (some 15) rfl rfl Try.func44 (by kernel_rfl) rfl #[.slice A0 l0.length c0, .agg #[.int .i64 a1_0, .int .i64 a1_1]] rfl (by (try simp only [List.map_toArray, List.map_cons, List.map_nil]); first | done | rfl | (simp only [List.length_drop, List.length_take]; rfl)) ?_; (with_reducible refine (ranges_Ranges_Find.calls _ _ l0 a1_0 a1_1 t220 t221 t222 t223 true _ ?side1 ?side2 A12.out).mono ?_); (case side1 => repeat (first | exact (Kd.C_below HR0.out HB.out) | (with_reducible refine Kd.C_alloc ?_ _) | (with_reducible refine Kd.C_drewN ?_ _) | (with_reducible refine Kd.C_drew ?_))); (case side2 => exact HC0.out); rintro e w23 ⟨rfl, hb⟩; refine ⟨_, rfl, ?_⟩; have n0_ := Aside0.mk (blk_below (g := gb217) (o := .cells #[.int .i64 a1_0, .int .i64 a1_1] 61 (0, 0)) (by (with_reducible repeat (first | refine blk_drewN ?_ _ | refine blk_drew ?_ | refine blk_alloc ?_ _)); exact BK217.out) hb); have n1_ := Aside0.mk (blk_below (g := gb218) (o := .cells #[.int .i64 a1_0, .int .i64 a1_1] 61 (0, 0)) (by (with_reducible repeat (first | refine blk_drewN ?_ _ | refine blk_drew ?_ | refine blk_alloc ?_ _)); exact BK218.out) hb); have n2_ := Aside0.mk (below_step (by repeat (first | (with_reducible first | exact HB.out | apply below_alloc | apply pw_below_drewN | apply below_drew1 | refine below_set ?_ GE217.out | refine below_set ?_ GE218.out) | exact HB.out)) hb); clear BK217; clear BK218; clear HB; have BK217 := n0_; have BK218 := n1_; have HB := n2_; clear n0_ n1_ n2_; (try clear hb); (try clear hb2); (try clear hk); (try clear hi)) | ((with_reducible refine gate_dst (N := 5) rfl ?_); refine box_event ?hg (N := 5) ?hd (cs := #[.int .i64 0, .int .i64 0]) (t := 61) ?hr ?_; (case hd => rfl); (case hg => rfl); (case hr => first | (go_simp; done) | (go_simp; rfl)); intro gb225 hg w24 hbox hb; have n0_ := Aside0.mk (blk_below (g := gb217) (o := .cells #[.int .i64 a1_0, .int .i64 a1_1] 61 (0, 0)) (by (with_reducible repeat (first | refine blk_drewN ?_ _ | refine blk_drew ?_ | refine blk_alloc ?_ _)); exact BK217.out) hb); have n1_ := Aside0.mk (blk_below (g := gb218) (o := .cells #[.int .i64 a1_0, .int .i64 a1_1] 61 (0, 0)) (by (with_reducible repeat (first | refine blk_drewN ?_ _ | refine blk_drew ?_ | refine blk_alloc ?_ _)); exact BK218.out) hb); have n2_ := Aside0.mk (below_step (by repeat (first | (with_reducible first | exact HB.out | apply below_alloc | apply pw_below_drewN | apply below_drew1 | refine below_set ?_ GE217.out | refine below_set ?_ GE218.out) | exact HB.out)) hb); have n3_ := Aside0.mk (hbox); have n4_ := Aside0.mk ((by rw [hg]; exact (below_size (by repeat (first | (with_reducible first | exact HB.out | apply below_alloc | apply pw_below_drewN | apply below_drew1 | refine below_set ?_ GE217.out | refine below_set ?_ GE218.out) | exact HB.out))) : w.heap.size ≤ gb225)); have n5_ := Aside0.mk ((by rw [hg]; exact (below_size (by repeat (first | (with_reducible first | exact HB.out | apply below_alloc | apply pw_below_drewN | apply below_drew1 | refine below_set ?_ GE217.out | refine below_set ?_ GE218.out) | exact HB.out))) : w.heap.size ≤ gb225)); have n6_ := Aside0.mk ((by rw [hg]; exact Nat.ne_of_lt (blk_lt (g := gb217) (o := .cells #[.int .i64 a1_0, .int .i64 a1_1] 61 (0, 0)) (by (with_reducible repeat (first | refine blk_drewN ?_ _ | refine blk_drew ?_ | refine blk_alloc ?_ _)); exact BK217.out)) : gb217 ≠ gb225)); have n7_ := Aside0.mk ((by rw [hg]; exact Nat.ne_of_gt (blk_lt (g := gb217) (o := .cells #[.int .i64 a1_0, .int .i64 a1_1] 61 (0, 0)) (by (with_reducible repeat (first | refine blk_drewN ?_ _ | refine blk_drew ?_ | refine blk_alloc ?_ _)); exact BK217.out)) : gb225 ≠ gb217)); have n8_ := Aside0.mk ((by rw [hg]; exact Nat.ne_of_lt (blk_lt (g := gb218) (o := .cells #[.int .i64 a1_0, .int .i64 a1_1] 61 (0, 0)) (by (with_reducible repeat (first | refine blk_drewN ?_ _ | refine blk_drew ?_ | refine blk_alloc ?_ _)); exact BK218.out)) : gb218 ≠ gb225)); have n9_ := Aside0.mk ((by rw [hg]; exact Nat.ne_of_gt (blk_lt (g := gb218) (o := .cells #[.int .i64 a1_0, .int .i64 a1_1] 61 (0, 0)) (by (with_reducible repeat (first | refine blk_drewN ?_ _ | refine blk_drew ?_ | refine blk_alloc ?_ _)); exact BK218.out)) : gb225 ≠ gb218)); clear BK217; clear BK218; clear HB; have BK217 := n0_; have BK218 := n1_; have HB := n2_; have BK225 := n3_; have GW225 := n4_; have GE225 := n5_; have NB217_225 := n6_; have NB225_217 := n7_; have NB218_225 := n8_; have NB225_218 := n9_; clear n0_ n1_ n2_ n3_ n4_ n5_ n6_ n7_ n8_ n9_; clear hb hbox hg) | ((with_reducible refine gate_dst (N := 6) rfl ?_); refine box_event ?hg (N := 6) ?hd (cs := #[.int .i64 0, .int .i64 0]) (t := 61) ?hr ?_; (case hd => rfl); (case hg => rfl); (case hr => first | (go_simp; done) | (go_simp; rfl)); intro gb226 hg w25 hbox hb; have n0_ := Aside0.mk (blk_below (g := gb217) (o := .cells #[.int .i64 a1_0, .int .i64 a1_1] 61 (0, 0)) (by (with_reducible repeat (first | refine blk_drewN ?_ _ | refine blk_drew ?_ | refine blk_alloc ?_ _)); exact BK217.out) hb); have n1_ := Aside0.mk (blk_below (g := gb218) (o := .cells #[.int .i64 a1_0, .int .i64 a1_1] 61 (0, 0)) (by (with_reducible repeat (first | refine blk_drewN ?_ _ | refine blk_drew ?_ | refine blk_alloc ?_ _)); exact BK218.out) hb); have n2_ := Aside0.mk (blk_below (g := gb225) (o := .cells #[.int .i64 0, .int .i64 0] 61 (0, 0)) (by (with_reducible repeat (first | refine blk_drewN ?_ _ | refine blk_drew ?_ | refine blk_alloc ?_ _)); exact BK225.out) hb); have n3_ := Aside0.mk (below_step (by repeat (first | (with_reducible first | exact HB.out | apply below_alloc | apply pw_below_drewN | apply below_drew1 | refine below_set ?_ GE217.out | refine below_set ?_ GE218.out | refine below_set ?_ GE225.out) | exact HB.out)) hb); have n4_ := Aside0.mk (hbox); have n5_ := Aside0.mk ((by rw [hg]; exact (below_size (by repeat (first | (with_reducible first | exact HB.out | apply below_alloc | apply pw_below_drewN | apply below_drew1 | refine below_set ?_ GE217.out | refine below_set ?_ GE218.out | refine below_set ?_ GE225.out) | exact HB.out))) : w.heap.size ≤ gb226)); have n6_ := Aside0.mk ((by rw [hg]; exact (below_size (by repeat (first | (with_reducible first | exact HB.out | apply below_alloc | apply pw_below_drewN | apply below_drew1 | refine below_set ?_ GE217.out | refine below_set ?_ GE218.out | refine below_set ?_ GE225.out) | exact HB.out))) : w.heap.size ≤ gb226)); have n7_ := Aside0.mk ((by rw [hg]; exact Nat.ne_of_lt (blk_lt (g := gb217) (o := .cells #[.int .i64 a1_0, .int .i64 a1_1] 61 (0, 0)) (by (with_reducible repeat (first | refine blk_drewN ?_ _ | refine blk_drew ?_ | refine blk_alloc ?_ _)); exact BK217.out)) : gb217 ≠ gb226)); have n8_ := Aside0.mk ((by rw [hg]; exact Nat.ne_of_gt (blk_lt (g := gb217) (o := .cells #[.int .i64 a1_0, .int .i64 a1_1] 61 (0, 0)) (by (with_reducible repeat (first | refine blk_drewN ?_ _ | refine blk_drew ?_ | refine blk_alloc ?_ _)); exact BK217.out)) : gb226 ≠ gb217)); have n9_ := Aside0.mk ((by rw [hg]; exact Nat.ne_of_lt (blk_lt (g := gb218) (o := .cells #[.int .i64 a1_0, .int .i64 a1_1] 61 (0, 0)) (by (with_reducible repeat (first | refine blk_drewN ?_ _ | refine blk_drew ?_ | refine blk_alloc ?_ _)); exact BK218.out)) : gb218 ≠ gb226)); have n10_ := Aside0.mk ((by rw [hg]; exact Nat.ne_of_gt (blk_lt (g := gb218) (o := .cells #[.int .i64 a1_0, .int .i64 a1_1] 61 (0, 0)) (by (with_reducible repeat (first | refine blk_drewN ?_ _ | refine blk_drew ?_ | refine blk_alloc ?_ _)); exact BK218.out)) : gb226 ≠ gb218)); have n11_ := Aside0.mk ((by rw [hg]; exact Nat.ne_of_lt (blk_lt (g := gb225) (o := .cells #[.int .i64 0, .int .i64 0] 61 (0, 0)) (by (with_reducible repeat (first | refine blk_drewN ?_ _ | refine blk_drew ?_ | refine blk_alloc ?_ _)); exact BK225.out)) : gb225 ≠ gb226)); have n12_ := Aside0.mk ((by rw [hg]; exact Nat.ne_of_gt (blk_lt (g := gb225) (o := .cells #[.int .i64 0, .int .i64 0] 61 (0, 0)) (by (with_reducible repeat (first | refine blk_drewN ?_ _ | refine blk_drew ?_ | refine blk_alloc ?_ _)); exact BK225.out)) : gb226 ≠ gb225)); clear BK217; clear BK218; clear BK225; clear HB; have BK217 := n0_; have BK218 := n1_; have BK225 := n2_; have HB := n3_; have BK226 := n4_; have GW226 := n5_; have GE226 := n6_; have NB217_226 := n7_; have NB226_217 := n8_; have NB218_226 := n9_; have NB226_218 := n10_; have NB225_226 := n11_; have NB226_225 := n12_; clear n0_ n1_ n2_ n3_ n4_ n5_ n6_ n7_ n8_ n9_ n10_ n11_ n12_; clear hb hbox hg; have hnb26 := NB225_217.out; have hnc26 := NB217_225.out; have hnb27 := NB225_218.out; have hnc27 := NB218_225.out; have hnb28 := NB225_226.out; have hnc28 := NB226_225.out; have hcz29_0 : w25.cell? ⟨gb225, 0, none⟩ = some (.int .i64 0) := (blk_cell BK225.out 0).trans rfl; have hcz29_1 : w25.cell? ⟨gb225, 1, none⟩ = some (.int .i64 0) := (blk_cell BK225.out 1).trans rfl; have hfz29_0 := blk_frozen BK225.out 0; have hfz29_1 := blk_frozen BK225.out 1; have hnb30 := NB226_217.out; have hnc30 := NB217_226.out; have hnb31 := NB226_218.out; have hnc31 := NB218_226.out; have hcz32_0 : w25.cell? ⟨gb226, 0, none⟩ = some (.int .i64 0) := (blk_cell BK226.out 0).trans rfl; have hcz32_1 : w25.cell? ⟨gb226, 1, none⟩ = some (.int .i64 0) := (blk_cell BK226.out 1).trans rfl; have hfz32_0 := blk_frozen BK226.out 0; have hfz32_1 := blk_frozen BK226.out 1))
      have n0_ : Aside0 (((((w25.setCell ⟨gb225, 0, none⟩ (.int .i64 t220)).setCell ⟨gb225, 1, none⟩ (.int .i64 t221)).setCell ⟨gb226, 0, none⟩ (.int .i64 t222)).setCell ⟨gb226, 1, none⟩ (.int .i64 t223)).heap[gb217]? = some (.cells #[.int .i64 a1_0, .int .i64 a1_1] 61 (0, 0))) := ⟨by (with_reducible repeat (first | refine blk_drewN ?_ _ | refine blk_drew ?_ | refine blk_alloc ?_ _)); refine blk_far ?_ NB217_226.out _; (with_reducible repeat (first | refine blk_drewN ?_ _ | refine blk_drew ?_ | refine blk_alloc ?_ _)); refine blk_far ?_ NB217_226.out _; (with_reducible repeat (first | refine blk_drewN ?_ _ | refine blk_drew ?_ | refine blk_alloc ?_ _)); refine blk_far ?_ NB217_225.out _; (with_reducible repeat (first | refine blk_drewN ?_ _ | refine blk_drew ?_ | refine blk_alloc ?_ _)); refine blk_far ?_ NB217_225.out _; (with_reducible repeat (first | refine blk_drewN ?_ _ | refine blk_drew ?_ | refine blk_alloc ?_ _)); exact BK217.out⟩
      have n1_ : Aside0 (((((w25.setCell ⟨gb225, 0, none⟩ (.int .i64 t220)).setCell ⟨gb225, 1, none⟩ (.int .i64 t221)).setCell ⟨gb226, 0, none⟩ (.int .i64 t222)).setCell ⟨gb226, 1, none⟩ (.int .i64 t223)).heap[gb218]? = some (.cells #[.int .i64 a1_0, .int .i64 a1_1] 61 (0, 0))) := ⟨by (with_reducible repeat (first | refine blk_drewN ?_ _ | refine blk_drew ?_ | refine blk_alloc ?_ _)); refine blk_far ?_ NB218_226.out _; (with_reducible repeat (first | refine blk_drewN ?_ _ | refine blk_drew ?_ | refine blk_alloc ?_ _)); refine blk_far ?_ NB218_226.out _; (with_reducible repeat (first | refine blk_drewN ?_ _ | refine blk_drew ?_ | refine blk_alloc ?_ _)); refine blk_far ?_ NB218_225.out _; (with_reducible repeat (first | refine blk_drewN ?_ _ | refine blk_drew ?_ | refine blk_alloc ?_ _)); refine blk_far ?_ NB218_225.out _; (with_reducible repeat (first | refine blk_drewN ?_ _ | refine blk_drew ?_ | refine blk_alloc ?_ _)); exact BK218.out⟩
      have n2_ : Aside0 (((((w25.setCell ⟨gb225, 0, none⟩ (.int .i64 t220)).setCell ⟨gb225, 1, none⟩ (.int .i64 t221)).setCell ⟨gb226, 0, none⟩ (.int .i64 t222)).setCell ⟨gb226, 1, none⟩ (.int .i64 t223)).heap[gb225]? = some (.cells #[.int .i64 t220, .int .i64 t221] 61 (0, 0))) := ⟨by (with_reducible repeat (first | refine blk_drewN ?_ _ | refine blk_drew ?_ | refine blk_alloc ?_ _)); refine blk_far ?_ NB225_226.out _; (with_reducible repeat (first | refine blk_drewN ?_ _ | refine blk_drew ?_ | refine blk_alloc ?_ _)); refine blk_far ?_ NB225_226.out _; (with_reducible repeat (first | refine blk_drewN ?_ _ | refine blk_drew ?_ | refine blk_alloc ?_ _)); refine blk_put (cs := #[.int .i64 t220, .int .i64 0]) ?_ 1 _ rfl; (with_reducible repeat (first | refine blk_drewN ?_ _ | refine blk_drew ?_ | refine blk_alloc ?_ _)); refine blk_put (cs := #[.int .i64 0, .int .i64 0]) ?_ 0 _ rfl; (with_reducible repeat (first | refine blk_drewN ?_ _ | refine blk_drew ?_ | refine blk_alloc ?_ _)); exact BK225.out⟩
      have n3_ : Aside0 (((((w25.setCell ⟨gb225, 0, none⟩ (.int .i64 t220)).setCell ⟨gb225, 1, none⟩ (.int .i64 t221)).setCell ⟨gb226, 0, none⟩ (.int .i64 t222)).setCell ⟨gb226, 1, none⟩ (.int .i64 t223)).heap[gb226]? = some (.cells #[.int .i64 t222, .int .i64 t223] 61 (0, 0))) := ⟨by (with_reducible repeat (first | refine blk_drewN ?_ _ | refine blk_drew ?_ | refine blk_alloc ?_ _)); refine blk_put (cs := #[.int .i64 t222, .int .i64 0]) ?_ 1 _ rfl; (with_reducible repeat (first | refine blk_drewN ?_ _ | refine blk_drew ?_ | refine blk_alloc ?_ _)); refine blk_put (cs := #[.int .i64 0, .int .i64 0]) ?_ 0 _ rfl; (with_reducible repeat (first | refine blk_drewN ?_ _ | refine blk_drew ?_ | refine blk_alloc ?_ _)); refine blk_far ?_ NB226_225.out _; (with_reducible repeat (first | refine blk_drewN ?_ _ | refine blk_drew ?_ | refine blk_alloc ?_ _)); refine blk_far ?_ NB226_225.out _; (with_reducible repeat (first | refine blk_drewN ?_ _ | refine blk_drew ?_ | refine blk_alloc ?_ _)); exact BK226.out⟩
      have n4_ : Aside0 (Below w.heap.size w ((((w25.setCell ⟨gb225, 0, none⟩ (.int .i64 t220)).setCell ⟨gb225, 1, none⟩ (.int .i64 t221)).setCell ⟨gb226, 0, none⟩ (.int .i64 t222)).setCell ⟨gb226, 1, none⟩ (.int .i64 t223))) := ⟨by repeat (first | (with_reducible first | exact HB.out | apply below_alloc | apply pw_below_drewN | apply below_drew1 | refine below_set ?_ GE217.out | refine below_set ?_ GE218.out | refine below_set ?_ GE225.out | refine below_set ?_ GE226.out) | exact HB.out)⟩
      (try clear BK217)
      (try clear BK218)
      (try clear BK225)
      (try clear BK226)
      (try clear HB)
      generalize ((((w25.setCell ⟨gb225, 0, none⟩ (.int .i64 t220)).setCell ⟨gb225, 1, none⟩ (.int .i64 t221)).setCell ⟨gb226, 0, none⟩ (.int .i64 t222)).setCell ⟨gb226, 1, none⟩ (.int .i64 t223)) = w33 at n0_ n1_ n2_ n3_ n4_ ⊢
      have BK217 := n0_
      have BK218 := n1_
      have BK225 := n2_
      have BK226 := n3_
      have HB := n4_
      clear n0_ n1_ n2_ n3_ n4_
      have n0_ := Aside0.mk (blk_drew BK217.out)
      have n1_ := Aside0.mk (blk_drew BK218.out)
      have n2_ := Aside0.mk (blk_drew BK225.out)
      have n3_ := Aside0.mk (blk_drew BK226.out)
      have n4_ := Aside0.mk (below_drew1 HB.out)
      clear BK217
      clear BK218
      clear BK225
      clear BK226
      clear HB
      have BK217 := n0_
      have BK218 := n1_
      have BK225 := n2_
      have BK226 := n3_
      have HB := n4_
      clear n0_ n1_ n2_ n3_ n4_
      refine start_ (n := 10) (S := fun w' => w'.cell? ⟨gb218, 0, none⟩ = some (.int .i64 a1_0) ∧ w'.cell? ⟨gb218, 1, none⟩ = some (.int .i64 a1_1) ∧ w'.cell? ⟨gb225, 0, none⟩ = some (.int .i64 t220) ∧ w'.cell? ⟨gb225, 1, none⟩ = some (.int .i64 t221)) (ds := [9]) #[false, false, false, false, false, false, false, false, false, false] (by kernel_rfl) rfl rfl ⟨(blk_cell BK218.out 0).trans rfl, (blk_cell BK218.out 1).trans rfl, (blk_cell BK225.out 0).trans rfl, (blk_cell BK225.out 1).trans rfl⟩ (fun hHeld => ?_); refine with_tabW ranges_Ranges_FindMissing.tab7 ranges_Ranges_FindMissing.bits7 (fun HT_ HW_ => ?_)
      generalize w33.drew = w34 at BK217 BK218 BK225 BK226 HB hHeld ⊢
      refine pure_ (i := 0) (N := some 22) (v := ?_) (a' := ?_) #[true, false, false, false, false, false, false, false, false, false] rfl rfl (any_of HT_.out (by kernel_rfl)) (fun _ _ _ h => h) (Or.inl ⟨by rfl, ?_⟩) ?_ ?_
      rotate_left
      · intro w'
        go_simp
        with_reducible rfl
      rotate_left
      · simp only [Act.put, List.setIfInBounds_toArray, List.set_cons_zero, List.set_cons_succ, i64_w, i32_w]
        rfl
      refine pure_ (i := 4) (N := some 26) (v := ?_) (a' := ?_) #[true, false, false, false, true, false, false, false, false, false] rfl rfl (any_of HT_.out (by kernel_rfl)) (fun _ _ _ h => h) (Or.inl ⟨by rfl, ?_⟩) ?_ ?_
      rotate_left
      · intro w'
        go_simp
        with_reducible rfl
      rotate_left
      · simp only [Act.put, List.setIfInBounds_toArray, List.set_cons_zero, List.set_cons_succ, i64_w, i32_w]
        rfl
      refine take_ (i := 1) (N := some 23) (v := ?_) (a' := ?_) #[true, true, false, false, true, false, false, false, false, false] rfl rfl (take_ofW HT_.out HW_.out (by kernel_rfl)) (fun _ _ _ h => h) (Or.inl ⟨by rfl, ?_⟩) hHeld ?_ ?_
      rotate_left
      · rintro w' ⟨s0, s1, s2, s3⟩
        go_simp
        with_reducible rfl
      rotate_left
      · simp only [Act.put, List.setIfInBounds_toArray, List.set_cons_zero, List.set_cons_succ, i64_w, i32_w]
        rfl
      refine take_ (i := 2) (N := some 24) (v := ?_) (a' := ?_) #[true, true, true, false, true, false, false, false, false, false] rfl rfl (take_ofW HT_.out HW_.out (by kernel_rfl)) (fun _ _ _ h => h) (Or.inl ⟨by rfl, ?_⟩) hHeld ?_ ?_
      rotate_left
      · rintro w' ⟨s0, s1, s2, s3⟩
        go_simp
        with_reducible rfl
      rotate_left
      · simp only [Act.put, List.setIfInBounds_toArray, List.set_cons_zero, List.set_cons_succ, i64_w, i32_w]
        rfl
      refine take_ (i := 5) (N := some 27) (v := ?_) (a' := ?_) #[true, true, true, false, true, true, false, false, false, false] rfl rfl (take_ofW HT_.out HW_.out (by kernel_rfl)) (fun _ _ _ h => h) (Or.inl ⟨by rfl, ?_⟩) hHeld ?_ ?_
      rotate_left
      · rintro w' ⟨s0, s1, s2, s3⟩
        go_simp
        with_reducible rfl
      rotate_left
      · simp only [Act.put, List.setIfInBounds_toArray, List.set_cons_zero, List.set_cons_succ, i64_w, i32_w]
        rfl
      refine one_ (i := 3) (N := some 25) #[true, true, true, true, true, true, false, false, false, false] rfl rfl (one_of HT_.out (by kernel_rfl)) (by decide) (fun K hK => ?_)
      refine goes_ Try.func49 (by kernel_rfl) rfl #[.agg #[.int .i64 t220, .int .i64 t221]] (by rfl) rfl rfl (by (try simp only [List.map_toArray, List.map_cons, List.map_nil]); first | done | rfl | (simp only [List.length_drop, List.length_take]; rfl)) ?_
      with_reducible refine (ranges_Range_End.calls t220 t221 t227 _ A14.out).mono ?_
      rintro e w35 ⟨rfl, hb⟩
      refine ⟨_, rfl, ?_⟩
      have n0_ := Aside0.mk (blk_below (g := gb217) (o := .cells #[.int .i64 a1_0, .int .i64 a1_1] 61 (0, 0)) (by (with_reducible repeat (first | refine blk_drewN ?_ _ | refine blk_drew ?_ | refine blk_alloc ?_ _)); exact BK217.out) hb)
      have n1_ := Aside0.mk (blk_below (g := gb218) (o := .cells #[.int .i64 a1_0, .int .i64 a1_1] 61 (0, 0)) (by (with_reducible repeat (first | refine blk_drewN ?_ _ | refine blk_drew ?_ | refine blk_alloc ?_ _)); exact BK218.out) hb)
      have n2_ := Aside0.mk (blk_below (g := gb225) (o := .cells #[.int .i64 t220, .int .i64 t221] 61 (0, 0)) (by (with_reducible repeat (first | refine blk_drewN ?_ _ | refine blk_drew ?_ | refine blk_alloc ?_ _)); exact BK225.out) hb)
      have n3_ := Aside0.mk (blk_below (g := gb226) (o := .cells #[.int .i64 t222, .int .i64 t223] 61 (0, 0)) (by (with_reducible repeat (first | refine blk_drewN ?_ _ | refine blk_drew ?_ | refine blk_alloc ?_ _)); exact BK226.out) hb)
      have n4_ := Aside0.mk (below_step (by repeat (first | (with_reducible first | exact HB.out | apply below_alloc | apply pw_below_drewN | apply below_drew1 | refine below_set ?_ GE217.out | refine below_set ?_ GE218.out | refine below_set ?_ GE225.out | refine below_set ?_ GE226.out) | exact HB.out)) hb)
      clear BK217
      clear BK218
      clear BK225
      clear BK226
      clear HB
      have BK217 := n0_
      have BK218 := n1_
      have BK225 := n2_
      have BK226 := n3_
      have HB := n4_
      clear n0_ n1_ n2_ n3_ n4_
      (try clear hb)
      (try clear hb2)
      (try clear hk)
      (try clear hi)
      refine hK.out _ _ ⟨(blk_cell BK218.out 0).trans rfl, (blk_cell BK218.out 1).trans rfl, (blk_cell BK225.out 0).trans rfl, (blk_cell BK225.out 1).trans rfl⟩ (fun hHeld => ?_)
      clear hK K
      refine norm_ (a' := ?_) ?_ ?_
      rotate_left
      · show Act.put _ (some 25) _ = _
        simp only [Act.put, List.setIfInBounds_toArray, List.set_cons_zero, List.set_cons_succ, i64_w, i32_w]
        rfl
      refine pure_ (i := 6) (N := some 28) (v := ?_) (a' := ?_) #[true, true, true, true, true, true, true, false, false, false] rfl rfl (any_of HT_.out (by kernel_rfl)) (fun _ _ _ h => h) (Or.inl ⟨by rfl, ?_⟩) ?_ ?_
      rotate_left
      · intro w'
        go_simp
        with_reducible rfl
      rotate_left
      · simp only [Act.put, List.setIfInBounds_toArray, List.set_cons_zero, List.set_cons_succ, i64_w, i32_w]
        rfl
      refine pure_ (i := 7) (N := some 29) (v := ?_) (a' := ?_) #[true, true, true, true, true, true, true, true, false, false] rfl rfl (any_of HT_.out (by kernel_rfl)) (fun _ _ _ h => h) (Or.inl ⟨by rfl, ?_⟩) ?_ ?_
      rotate_left
      · intro w'
        go_simp
        with_reducible rfl
      rotate_left
      · simp only [Act.put, List.setIfInBounds_toArray, List.set_cons_zero, List.set_cons_succ, i64_w, i32_w]
        rfl
      refine pure_ (i := 8) (N := some 30) (v := ?_) (a' := ?_) #[true, true, true, true, true, true, true, true, true, false] rfl rfl (any_of HT_.out (by kernel_rfl)) (fun _ _ _ h => h) (Or.inl ⟨by rfl, ?_⟩) ?_ ?_
      rotate_left
      · intro w'
        go_simp
        with_reducible rfl
      rotate_left
      · simp only [Act.put, List.setIfInBounds_toArray, List.set_cons_zero, List.set_cons_succ, i64_w, i32_w]
        rfl
      refine last_ (i := 9) (N := none) #[true, true, true, true, true, true, true, true, true, true] rfl rfl (one_of HT_.out (by kernel_rfl)) (by decide) (fun K hK => ?_)
      have hs36 : w35.cell? ⟨gb218, 1, none⟩ = some (.int .i64 a1_1) := (blk_cell BK218.out 1).trans rfl
      have hfs36 := blk_frozen BK218.out 1
      have hns36_0 := NB217_218.out
      have hns36_2 := NB225_218.out
      have hns36_3 := NB226_218.out
      have hms36_0 := NB218_217.out
      have hms36_2 := NB218_225.out
      have hms36_3 := NB218_226.out
      refine skip_ (w1 := ?_) (by rfl) rfl ?_ ?_
      rotate_left
      · go_simp
        rfl
      refine hK.out _ _ ?_
      clear hK K
      refine done_ (done_of HT_.out (by kernel_rfl)) ?_
      have hcz37_0 : w35.cell? ⟨gb225, 0, none⟩ = some (.int .i64 t220) := (blk_cell BK225.out 0).trans rfl
      have hcz37_1 : w35.cell? ⟨gb225, 1, none⟩ = some (.int .i64 t221) := (blk_cell BK225.out 1).trans rfl
      have hfz37_0 := blk_frozen BK225.out 0
      have hfz37_1 := blk_frozen BK225.out 1
      try go_wp2_with (first | ((with_reducible refine gate_callee (f := 49) rfl ?_); refine goesL_ (some 32) rfl rfl Try.func49 (by kernel_rfl) rfl #[.agg #[.int .i64 t220, .int .i64 t221]] rfl (by (try simp only [List.map_toArray, List.map_cons, List.map_nil]); first | done | rfl | (simp only [List.length_drop, List.length_take]; rfl)) ?_; (with_reducible refine (ranges_Range_End.calls t220 t221 t228 _ A15.out).mono ?_); rintro e w38 ⟨rfl, hb⟩; refine ⟨_, rfl, ?_⟩; have n0_ := Aside0.mk (blk_below (g := gb217) (o := .cells #[.int .i64 a1_0, .int .i64 a1_1] 61 (0, 0)) (by (with_reducible repeat (first | refine blk_drewN ?_ _ | refine blk_drew ?_ | refine blk_alloc ?_ _)); refine blk_far ?_ NB217_218.out _; (with_reducible repeat (first | refine blk_drewN ?_ _ | refine blk_drew ?_ | refine blk_alloc ?_ _)); exact BK217.out) hb); have n1_ := Aside0.mk (blk_below (g := gb218) (o := .cells #[.int .i64 a1_0, .int .i64 (wrap64 (a1_1 - (wrap64 (t227 - a1_0))))] 61 (0, 0)) (by (with_reducible repeat (first | refine blk_drewN ?_ _ | refine blk_drew ?_ | refine blk_alloc ?_ _)); refine blk_put (cs := #[.int .i64 a1_0, .int .i64 a1_1]) ?_ 1 _ rfl; (with_reducible repeat (first | refine blk_drewN ?_ _ | refine blk_drew ?_ | refine blk_alloc ?_ _)); exact BK218.out) hb); have n2_ := Aside0.mk (blk_below (g := gb225) (o := .cells #[.int .i64 t220, .int .i64 t221] 61 (0, 0)) (by (with_reducible repeat (first | refine blk_drewN ?_ _ | refine blk_drew ?_ | refine blk_alloc ?_ _)); refine blk_far ?_ NB225_218.out _; (with_reducible repeat (first | refine blk_drewN ?_ _ | refine blk_drew ?_ | refine blk_alloc ?_ _)); exact BK225.out) hb); have n3_ := Aside0.mk (blk_below (g := gb226) (o := .cells #[.int .i64 t222, .int .i64 t223] 61 (0, 0)) (by (with_reducible repeat (first | refine blk_drewN ?_ _ | refine blk_drew ?_ | refine blk_alloc ?_ _)); refine blk_far ?_ NB226_218.out _; (with_reducible repeat (first | refine blk_drewN ?_ _ | refine blk_drew ?_ | refine blk_alloc ?_ _)); exact BK226.out) hb); have n4_ := Aside0.mk (below_step (by repeat (first | (with_reducible first | exact HB.out | apply below_alloc | apply pw_below_drewN | apply below_drew1 | refine below_set ?_ GE217.out | refine below_set ?_ GE218.out | refine below_set ?_ GE225.out | refine below_set ?_ GE226.out) | exact HB.out)) hb); clear BK217; clear BK218; clear BK225; clear BK226; clear HB; have BK217 := n0_; have BK218 := n1_; have BK225 := n2_; have BK226 := n3_; have HB := n4_; clear n0_ n1_ n2_ n3_ n4_; (try clear hb); (try clear hb2); (try clear hk); (try clear hi); have hcz39_0 : w38.cell? ⟨gb218, 0, none⟩ = some (.int .i64 a1_0) := (blk_cell BK218.out 0).trans rfl; have hcz39_1 : w38.cell? ⟨gb218, 1, none⟩ = some (.int .i64 (wrap64 (a1_1 - (wrap64 (t227 - a1_0))))) := (blk_cell BK218.out 1).trans rfl; have hfz39_0 := blk_frozen BK218.out 0; have hfz39_1 := blk_frozen BK218.out 1))
      refine bodyPost_ret (results_cell_row rfl _ _ gb218 61 #[.int .i64 t228, .int .i64 (wrap64 (a1_1 - (wrap64 (t227 - a1_0))))] (0, 0) _ rfl (by (with_reducible repeat (first | refine blk_drewN ?_ _ | refine blk_drew ?_ | refine blk_alloc ?_ _)); refine blk_put (cs := #[.int .i64 t228, .int .i64 (wrap64 (a1_1 - (wrap64 (t227 - a1_0))))]) ?_ 1 _ rfl; (with_reducible repeat (first | refine blk_drewN ?_ _ | refine blk_drew ?_ | refine blk_alloc ?_ _)); refine blk_put (cs := #[.int .i64 t228, .int .i64 (wrap64 (a1_1 - (wrap64 (t227 - a1_0))))]) ?_ 0 _ rfl; (with_reducible repeat (first | refine blk_drewN ?_ _ | refine blk_drew ?_ | refine blk_alloc ?_ _)); refine blk_put (cs := #[.int .i64 a1_0, .int .i64 (wrap64 (a1_1 - (wrap64 (t227 - a1_0))))]) ?_ 0 _ rfl; (with_reducible repeat (first | refine blk_drewN ?_ _ | refine blk_drew ?_ | refine blk_alloc ?_ _)); exact BK218.out) Try.underlying61 rfl (by kernel_rfl)) rfl ?_
      exact ⟨by first | rfl | (simp [errW_none, errW_some] <;> rfl) | (simp [*, errW_none, errW_some] <;> rfl), by repeat (first | (with_reducible first | exact HB.out | apply below_alloc | apply pw_below_drewN | apply below_drew1 | refine below_set ?_ GE217.out | refine below_set ?_ GE218.out | refine below_set ?_ GE225.out | refine below_set ?_ GE226.out) | exact HB.out)⟩
    · replace c13 := Bool.eq_false_iff.mpr c13
      subst c13
      have H1 : (some (a1_0, a1_1)) = some (r1, r2) := by rw [if_neg (show ¬ (false = true) by decide)] at H; exact H
      clear H
      have H := H1
      clear H1
      simp only [Option.some.injEq, Prod.mk.injEq] at H
      obtain ⟨rfl, rfl⟩ := H
      go_enter Try.func52, Try.ntmps52
      go_wp2_with (first | ((with_reducible refine gate_dst (N := 3) rfl ?_); refine box_event ?hg (N := 3) ?hd (cs := #[.int .i64 a1_0, .int .i64 a1_1]) (t := 61) ?hr ?_; (case hd => rfl); (case hg => rfl); (case hr => first | (go_simp; done) | (go_simp; rfl)); intro gb217 hg w40 hbox hb; have n0_ := Aside0.mk (below_step (by repeat (first | (with_reducible first | exact HB.out | apply below_alloc | apply pw_below_drewN | apply below_drew1) | exact HB.out)) hb); have n1_ := Aside0.mk (hbox); have n2_ := Aside0.mk ((by rw [hg]; exact (below_size (by repeat (first | (with_reducible first | exact HB.out | apply below_alloc | apply pw_below_drewN | apply below_drew1) | exact HB.out))) : w.heap.size ≤ gb217)); have n3_ := Aside0.mk ((by rw [hg]; exact (below_size (by repeat (first | (with_reducible first | exact HB.out | apply below_alloc | apply pw_below_drewN | apply below_drew1) | exact HB.out))) : w.heap.size ≤ gb217)); clear HB; have HB := n0_; have BK217 := n1_; have GW217 := n2_; have GE217 := n3_; clear n0_ n1_ n2_ n3_; clear hb hbox hg) | ((with_reducible refine gate_dst (N := 4) rfl ?_); refine box_event ?hg (N := 4) ?hd (cs := #[.int .i64 0, .int .i64 0]) (t := 61) ?hr ?_; (case hd => rfl); (case hg => rfl); (case hr => first | (go_simp; done) | (go_simp; rfl)); intro gb218 hg w41 hbox hb; have n0_ := Aside0.mk (blk_below (g := gb217) (o := .cells #[.int .i64 a1_0, .int .i64 a1_1] 61 (0, 0)) (by (with_reducible repeat (first | refine blk_drewN ?_ _ | refine blk_drew ?_ | refine blk_alloc ?_ _)); exact BK217.out) hb); have n1_ := Aside0.mk (below_step (by repeat (first | (with_reducible first | exact HB.out | apply below_alloc | apply pw_below_drewN | apply below_drew1 | refine below_set ?_ GE217.out) | exact HB.out)) hb); have n2_ := Aside0.mk (hbox); have n3_ := Aside0.mk ((by rw [hg]; exact (below_size (by repeat (first | (with_reducible first | exact HB.out | apply below_alloc | apply pw_below_drewN | apply below_drew1 | refine below_set ?_ GE217.out) | exact HB.out))) : w.heap.size ≤ gb218)); have n4_ := Aside0.mk ((by rw [hg]; exact (below_size (by repeat (first | (with_reducible first | exact HB.out | apply below_alloc | apply pw_below_drewN | apply below_drew1 | refine below_set ?_ GE217.out) | exact HB.out))) : w.heap.size ≤ gb218)); have n5_ := Aside0.mk ((by rw [hg]; exact Nat.ne_of_lt (blk_lt (g := gb217) (o := .cells #[.int .i64 a1_0, .int .i64 a1_1] 61 (0, 0)) (by (with_reducible repeat (first | refine blk_drewN ?_ _ | refine blk_drew ?_ | refine blk_alloc ?_ _)); exact BK217.out)) : gb217 ≠ gb218)); have n6_ := Aside0.mk ((by rw [hg]; exact Nat.ne_of_gt (blk_lt (g := gb217) (o := .cells #[.int .i64 a1_0, .int .i64 a1_1] 61 (0, 0)) (by (with_reducible repeat (first | refine blk_drewN ?_ _ | refine blk_drew ?_ | refine blk_alloc ?_ _)); exact BK217.out)) : gb218 ≠ gb217)); clear BK217; clear HB; have BK217 := n0_; have HB := n1_; have BK218 := n2_; have GW218 := n3_; have GE218 := n4_; have NB217_218 := n5_; have NB218_217 := n6_; clear n0_ n1_ n2_ n3_ n4_ n5_ n6_; clear hb hbox hg; have hnb42 := NB217_218.out; have hnc42 := NB218_217.out; have hcz43_0 : w41.cell? ⟨gb217, 0, none⟩ = some (.int .i64 a1_0) := (blk_cell BK217.out 0).trans rfl; have hcz43_1 : w41.cell? ⟨gb217, 1, none⟩ = some (.int .i64 a1_1) := (blk_cell BK217.out 1).trans rfl; have hfz43_0 := blk_frozen BK217.out 0; have hfz43_1 := blk_frozen BK217.out 1; have hcz44_0 : w41.cell? ⟨gb218, 0, none⟩ = some (.int .i64 0) := (blk_cell BK218.out 0).trans rfl; have hcz44_1 : w41.cell? ⟨gb218, 1, none⟩ = some (.int .i64 0) := (blk_cell BK218.out 1).trans rfl; have hfz44_0 := blk_frozen BK218.out 0; have hfz44_1 := blk_frozen BK218.out 1) | ((with_reducible refine gate_callee (f := 48) rfl ?_); refine goesL_ (some 10) rfl rfl Try.func48 (by kernel_rfl) rfl #[.agg #[.int .i64 a1_0, .int .i64 a1_1]] rfl (by (try simp only [List.map_toArray, List.map_cons, List.map_nil]); first | done | rfl | (simp only [List.length_drop, List.length_take]; rfl)) ?_; (with_reducible refine (ranges_Range_IsEmpty.calls a1_0 a1_1 false _ A3.out).mono ?_); rintro e w45 ⟨rfl, hb⟩; refine ⟨_, rfl, ?_⟩; have n0_ := Aside0.mk (blk_below (g := gb217) (o := .cells #[.int .i64 a1_0, .int .i64 a1_1] 61 (0, 0)) (by (with_reducible repeat (first | refine blk_drewN ?_ _ | refine blk_drew ?_ | refine blk_alloc ?_ _)); refine blk_far ?_ NB217_218.out _; (with_reducible repeat (first | refine blk_drewN ?_ _ | refine blk_drew ?_ | refine blk_alloc ?_ _)); refine blk_far ?_ NB217_218.out _; (with_reducible repeat (first | refine blk_drewN ?_ _ | refine blk_drew ?_ | refine blk_alloc ?_ _)); exact BK217.out) hb); have n1_ := Aside0.mk (blk_below (g := gb218) (o := .cells #[.int .i64 a1_0, .int .i64 a1_1] 61 (0, 0)) (by (with_reducible repeat (first | refine blk_drewN ?_ _ | refine blk_drew ?_ | refine blk_alloc ?_ _)); refine blk_put (cs := #[.int .i64 a1_0, .int .i64 0]) ?_ 1 _ rfl; (with_reducible repeat (first | refine blk_drewN ?_ _ | refine blk_drew ?_ | refine blk_alloc ?_ _)); refine blk_put (cs := #[.int .i64 0, .int .i64 0]) ?_ 0 _ rfl; (with_reducible repeat (first | refine blk_drewN ?_ _ | refine blk_drew ?_ | refine blk_alloc ?_ _)); exact BK218.out) hb); have n2_ := Aside0.mk (below_step (by repeat (first | (with_reducible first | exact HB.out | apply below_alloc | apply pw_below_drewN | apply below_drew1 | refine below_set ?_ GE217.out | refine below_set ?_ GE218.out) | exact HB.out)) hb); clear BK217; clear BK218; clear HB; have BK217 := n0_; have BK218 := n1_; have HB := n2_; clear n0_ n1_ n2_; (try clear hb); (try clear hb2); (try clear hk); (try clear hi); have hcz46_0 : w45.cell? ⟨gb217, 0, none⟩ = some (.int .i64 a1_0) := (blk_cell BK217.out 0).trans rfl; have hcz46_1 : w45.cell? ⟨gb217, 1, none⟩ = some (.int .i64 a1_1) := (blk_cell BK217.out 1).trans rfl; have hfz46_0 := blk_frozen BK217.out 0; have hfz46_1 := blk_frozen BK217.out 1) | ((with_reducible refine gate_callee (f := 44) rfl ?_); refine goesL_ (some 15) rfl rfl Try.func44 (by kernel_rfl) rfl #[.slice A0 l0.length c0, .agg #[.int .i64 a1_0, .int .i64 a1_1]] rfl (by (try simp only [List.map_toArray, List.map_cons, List.map_nil]); first | done | rfl | (simp only [List.length_drop, List.length_take]; rfl)) ?_; (with_reducible refine (ranges_Ranges_Find.calls _ _ l0 a1_0 a1_1 t220 t221 t222 t223 false _ ?side1 ?side2 A12.out).mono ?_); (case side1 => repeat (first | exact (Kd.C_below HR0.out HB.out) | (with_reducible refine Kd.C_alloc ?_ _) | (with_reducible refine Kd.C_drewN ?_ _) | (with_reducible refine Kd.C_drew ?_))); (case side2 => exact HC0.out); rintro e w47 ⟨rfl, hb⟩; refine ⟨_, rfl, ?_⟩; have n0_ := Aside0.mk (blk_below (g := gb217) (o := .cells #[.int .i64 a1_0, .int .i64 a1_1] 61 (0, 0)) (by (with_reducible repeat (first | refine blk_drewN ?_ _ | refine blk_drew ?_ | refine blk_alloc ?_ _)); exact BK217.out) hb); have n1_ := Aside0.mk (blk_below (g := gb218) (o := .cells #[.int .i64 a1_0, .int .i64 a1_1] 61 (0, 0)) (by (with_reducible repeat (first | refine blk_drewN ?_ _ | refine blk_drew ?_ | refine blk_alloc ?_ _)); exact BK218.out) hb); have n2_ := Aside0.mk (below_step (by repeat (first | (with_reducible first | exact HB.out | apply below_alloc | apply pw_below_drewN | apply below_drew1 | refine below_set ?_ GE217.out | refine below_set ?_ GE218.out) | exact HB.out)) hb); clear BK217; clear BK218; clear HB; have BK217 := n0_; have BK218 := n1_; have HB := n2_; clear n0_ n1_ n2_; (try clear hb); (try clear hb2); (try clear hk); (try clear hi)) | ((with_reducible refine gate_dst (N := 5) rfl ?_); refine box_event ?hg (N := 5) ?hd (cs := #[.int .i64 0, .int .i64 0]) (t := 61) ?hr ?_; (case hd => rfl); (case hg => rfl); (case hr => first | (go_simp; done) | (go_simp; rfl)); intro gb225 hg w48 hbox hb; have n0_ := Aside0.mk (blk_below (g := gb217) (o := .cells #[.int .i64 a1_0, .int .i64 a1_1] 61 (0, 0)) (by (with_reducible repeat (first | refine blk_drewN ?_ _ | refine blk_drew ?_ | refine blk_alloc ?_ _)); exact BK217.out) hb); have n1_ := Aside0.mk (blk_below (g := gb218) (o := .cells #[.int .i64 a1_0, .int .i64 a1_1] 61 (0, 0)) (by (with_reducible repeat (first | refine blk_drewN ?_ _ | refine blk_drew ?_ | refine blk_alloc ?_ _)); exact BK218.out) hb); have n2_ := Aside0.mk (below_step (by repeat (first | (with_reducible first | exact HB.out | apply below_alloc | apply pw_below_drewN | apply below_drew1 | refine below_set ?_ GE217.out | refine below_set ?_ GE218.out) | exact HB.out)) hb); have n3_ := Aside0.mk (hbox); have n4_ := Aside0.mk ((by rw [hg]; exact (below_size (by repeat (first | (with_reducible first | exact HB.out | apply below_alloc | apply pw_below_drewN | apply below_drew1 | refine below_set ?_ GE217.out | refine below_set ?_ GE218.out) | exact HB.out))) : w.heap.size ≤ gb225)); have n5_ := Aside0.mk ((by rw [hg]; exact (below_size (by repeat (first | (with_reducible first | exact HB.out | apply below_alloc | apply pw_below_drewN | apply below_drew1 | refine below_set ?_ GE217.out | refine below_set ?_ GE218.out) | exact HB.out))) : w.heap.size ≤ gb225)); have n6_ := Aside0.mk ((by rw [hg]; exact Nat.ne_of_lt (blk_lt (g := gb217) (o := .cells #[.int .i64 a1_0, .int .i64 a1_1] 61 (0, 0)) (by (with_reducible repeat (first | refine blk_drewN ?_ _ | refine blk_drew ?_ | refine blk_alloc ?_ _)); exact BK217.out)) : gb217 ≠ gb225)); have n7_ := Aside0.mk ((by rw [hg]; exact Nat.ne_of_gt (blk_lt (g := gb217) (o := .cells #[.int .i64 a1_0, .int .i64 a1_1] 61 (0, 0)) (by (with_reducible repeat (first | refine blk_drewN ?_ _ | refine blk_drew ?_ | refine blk_alloc ?_ _)); exact BK217.out)) : gb225 ≠ gb217)); have n8_ := Aside0.mk ((by rw [hg]; exact Nat.ne_of_lt (blk_lt (g := gb218) (o := .cells #[.int .i64 a1_0, .int .i64 a1_1] 61 (0, 0)) (by (with_reducible repeat (first | refine blk_drewN ?_ _ | refine blk_drew ?_ | refine blk_alloc ?_ _)); exact BK218.out)) : gb218 ≠ gb225)); have n9_ := Aside0.mk ((by rw [hg]; exact Nat.ne_of_gt (blk_lt (g := gb218) (o := .cells #[.int .i64 a1_0, .int .i64 a1_1] 61 (0, 0)) (by (with_reducible repeat (first | refine blk_drewN ?_ _ | refine blk_drew ?_ | refine blk_alloc ?_ _)); exact BK218.out)) : gb225 ≠ gb218)); clear BK217; clear BK218; clear HB; have BK217 := n0_; have BK218 := n1_; have HB := n2_; have BK225 := n3_; have GW225 := n4_; have GE225 := n5_; have NB217_225 := n6_; have NB225_217 := n7_; have NB218_225 := n8_; have NB225_218 := n9_; clear n0_ n1_ n2_ n3_ n4_ n5_ n6_ n7_ n8_ n9_; clear hb hbox hg) | ((with_reducible refine gate_dst (N := 6) rfl ?_); refine box_event ?hg (N := 6) ?hd (cs := #[.int .i64 0, .int .i64 0]) (t := 61) ?hr ?_; (case hd => rfl); (case hg => rfl); (case hr => first | (go_simp; done) | (go_simp; rfl)); intro gb226 hg w49 hbox hb; have n0_ := Aside0.mk (blk_below (g := gb217) (o := .cells #[.int .i64 a1_0, .int .i64 a1_1] 61 (0, 0)) (by (with_reducible repeat (first | refine blk_drewN ?_ _ | refine blk_drew ?_ | refine blk_alloc ?_ _)); exact BK217.out) hb); have n1_ := Aside0.mk (blk_below (g := gb218) (o := .cells #[.int .i64 a1_0, .int .i64 a1_1] 61 (0, 0)) (by (with_reducible repeat (first | refine blk_drewN ?_ _ | refine blk_drew ?_ | refine blk_alloc ?_ _)); exact BK218.out) hb); have n2_ := Aside0.mk (blk_below (g := gb225) (o := .cells #[.int .i64 0, .int .i64 0] 61 (0, 0)) (by (with_reducible repeat (first | refine blk_drewN ?_ _ | refine blk_drew ?_ | refine blk_alloc ?_ _)); exact BK225.out) hb); have n3_ := Aside0.mk (below_step (by repeat (first | (with_reducible first | exact HB.out | apply below_alloc | apply pw_below_drewN | apply below_drew1 | refine below_set ?_ GE217.out | refine below_set ?_ GE218.out | refine below_set ?_ GE225.out) | exact HB.out)) hb); have n4_ := Aside0.mk (hbox); have n5_ := Aside0.mk ((by rw [hg]; exact (below_size (by repeat (first | (with_reducible first | exact HB.out | apply below_alloc | apply pw_below_drewN | apply below_drew1 | refine below_set ?_ GE217.out | refine below_set ?_ GE218.out | refine below_set ?_ GE225.out) | exact HB.out))) : w.heap.size ≤ gb226)); have n6_ := Aside0.mk ((by rw [hg]; exact (below_size (by repeat (first | (with_reducible first | exact HB.out | apply below_alloc | apply pw_below_drewN | apply below_drew1 | refine below_set ?_ GE217.out | refine below_set ?_ GE218.out | refine below_set ?_ GE225.out) | exact HB.out))) : w.heap.size ≤ gb226)); have n7_ := Aside0.mk ((by rw [hg]; exact Nat.ne_of_lt (blk_lt (g := gb217) (o := .cells #[.int .i64 a1_0, .int .i64 a1_1] 61 (0, 0)) (by (with_reducible repeat (first | refine blk_drewN ?_ _ | refine blk_drew ?_ | refine blk_alloc ?_ _)); exact BK217.out)) : gb217 ≠ gb226)); have n8_ := Aside0.mk ((by rw [hg]; exact Nat.ne_of_gt (blk_lt (g := gb217) (o := .cells #[.int .i64 a1_0, .int .i64 a1_1] 61 (0, 0)) (by (with_reducible repeat (first | refine blk_drewN ?_ _ | refine blk_drew ?_ | refine blk_alloc ?_ _)); exact BK217.out)) : gb226 ≠ gb217)); have n9_ := Aside0.mk ((by rw [hg]; exact Nat.ne_of_lt (blk_lt (g := gb218) (o := .cells #[.int .i64 a1_0, .int .i64 a1_1] 61 (0, 0)) (by (with_reducible repeat (first | refine blk_drewN ?_ _ | refine blk_drew ?_ | refine blk_alloc ?_ _)); exact BK218.out)) : gb218 ≠ gb226)); have n10_ := Aside0.mk ((by rw [hg]; exact Nat.ne_of_gt (blk_lt (g := gb218) (o := .cells #[.int .i64 a1_0, .int .i64 a1_1] 61 (0, 0)) (by (with_reducible repeat (first | refine blk_drewN ?_ _ | refine blk_drew ?_ | refine blk_alloc ?_ _)); exact BK218.out)) : gb226 ≠ gb218)); have n11_ := Aside0.mk ((by rw [hg]; exact Nat.ne_of_lt (blk_lt (g := gb225) (o := .cells #[.int .i64 0, .int .i64 0] 61 (0, 0)) (by (with_reducible repeat (first | refine blk_drewN ?_ _ | refine blk_drew ?_ | refine blk_alloc ?_ _)); exact BK225.out)) : gb225 ≠ gb226)); have n12_ := Aside0.mk ((by rw [hg]; exact Nat.ne_of_gt (blk_lt (g := gb225) (o := .cells #[.int .i64 0, .int .i64 0] 61 (0, 0)) (by (with_reducible repeat (first | refine blk_drewN ?_ _ | refine blk_drew ?_ | refine blk_alloc ?_ _)); exact BK225.out)) : gb226 ≠ gb225)); clear BK217; clear BK218; clear BK225; clear HB; have BK217 := n0_; have BK218 := n1_; have BK225 := n2_; have HB := n3_; have BK226 := n4_; have GW226 := n5_; have GE226 := n6_; have NB217_226 := n7_; have NB226_217 := n8_; have NB218_226 := n9_; have NB226_218 := n10_; have NB225_226 := n11_; have NB226_225 := n12_; clear n0_ n1_ n2_ n3_ n4_ n5_ n6_ n7_ n8_ n9_ n10_ n11_ n12_; clear hb hbox hg; have hnb50 := NB225_217.out; have hnc50 := NB217_225.out; have hnb51 := NB225_218.out; have hnc51 := NB218_225.out; have hnb52 := NB225_226.out; have hnc52 := NB226_225.out; have hcz53_0 : w49.cell? ⟨gb225, 0, none⟩ = some (.int .i64 0) := (blk_cell BK225.out 0).trans rfl; have hcz53_1 : w49.cell? ⟨gb225, 1, none⟩ = some (.int .i64 0) := (blk_cell BK225.out 1).trans rfl; have hfz53_0 := blk_frozen BK225.out 0; have hfz53_1 := blk_frozen BK225.out 1; have hnb54 := NB226_217.out; have hnc54 := NB217_226.out; have hnb55 := NB226_218.out; have hnc55 := NB218_226.out; have hcz56_0 : w49.cell? ⟨gb226, 0, none⟩ = some (.int .i64 0) := (blk_cell BK226.out 0).trans rfl; have hcz56_1 : w49.cell? ⟨gb226, 1, none⟩ = some (.int .i64 0) := (blk_cell BK226.out 1).trans rfl; have hfz56_0 := blk_frozen BK226.out 0; have hfz56_1 := blk_frozen BK226.out 1; have hcz57_0 : w49.cell? ⟨gb218, 0, none⟩ = some (.int .i64 a1_0) := (blk_cell BK218.out 0).trans rfl; have hcz57_1 : w49.cell? ⟨gb218, 1, none⟩ = some (.int .i64 a1_1) := (blk_cell BK218.out 1).trans rfl; have hfz57_0 := blk_frozen BK218.out 0; have hfz57_1 := blk_frozen BK218.out 1))
      refine bodyPost_ret (results_cell_row rfl _ _ gb218 61 #[.int .i64 a1_0, .int .i64 a1_1] (0, 0) _ rfl (by (with_reducible repeat (first | refine blk_drewN ?_ _ | refine blk_drew ?_ | refine blk_alloc ?_ _)); refine blk_put (cs := #[.int .i64 a1_0, .int .i64 a1_1]) ?_ 1 _ rfl; (with_reducible repeat (first | refine blk_drewN ?_ _ | refine blk_drew ?_ | refine blk_alloc ?_ _)); refine blk_put (cs := #[.int .i64 a1_0, .int .i64 a1_1]) ?_ 0 _ rfl; (with_reducible repeat (first | refine blk_drewN ?_ _ | refine blk_drew ?_ | refine blk_alloc ?_ _)); refine blk_far ?_ NB218_226.out _; (with_reducible repeat (first | refine blk_drewN ?_ _ | refine blk_drew ?_ | refine blk_alloc ?_ _)); refine blk_far ?_ NB218_226.out _; (with_reducible repeat (first | refine blk_drewN ?_ _ | refine blk_drew ?_ | refine blk_alloc ?_ _)); refine blk_far ?_ NB218_225.out _; (with_reducible repeat (first | refine blk_drewN ?_ _ | refine blk_drew ?_ | refine blk_alloc ?_ _)); refine blk_far ?_ NB218_225.out _; (with_reducible repeat (first | refine blk_drewN ?_ _ | refine blk_drew ?_ | refine blk_alloc ?_ _)); exact BK218.out) Try.underlying61 rfl (by kernel_rfl)) rfl ?_
      exact ⟨by first | rfl | (simp [errW_none, errW_some] <;> rfl) | (simp [*, errW_none, errW_some] <;> rfl), by repeat (first | (with_reducible first | exact HB.out | apply below_alloc | apply pw_below_drewN | apply below_drew1 | refine below_set ?_ GE217.out | refine below_set ?_ GE218.out | refine below_set ?_ GE225.out | refine below_set ?_ GE226.out) | exact HB.out)⟩

/-! ### impl_RangesMissing: function 31 -/
def impl_RangesMissing.f (l0 : List (S28)) (a1_0 : Int) (a1_1 : Int) : Option (Int × Int) := (impl_inserted.f l0).bind fun t231 => ((impl_given.f a1_0 a1_1).bind fun bt234 => ((ranges_Ranges_FindMissing.f t231 bt234.1 bt234.2).bind fun bt236 => ((impl_told.f bt236.1 bt236.2).bind fun bt238 => (some (bt238.1, bt238.2)))))
set_option maxHeartbeats 8000000 in
set_option maxRecDepth 100000 in
theorem impl_RangesMissing.calls (A0 : Option Addr) (c0 : Nat) (l0 : List (S28)) (a1_0 : Int) (a1_1 : Int) (r1 : Int) (r2 : Int) (w : World) (hr0 : Kd.C k28 w A0 l0.length l0) (hc0 : l0.length ≤ c0) (h : impl_RangesMissing.f l0 a1_0 a1_1 = some (r1, r2)) :
    Calls Try.prog 31 #[.slice A0 l0.length c0, .agg #[.int .i64 a1_0, .int .i64 a1_1]] w fun e w' => e = .returned (.agg #[.int .i64 r1, .int .i64 r2]) ∧ Below w.heap.size w w' := by
  have hu28 := Try.underlying28
  have HR0 := Aside0.mk hr0
  have HC0 := Aside0.mk hc0
  clear hr0 hc0
  have HB := Aside0.mk (Below.refl w.heap.size w)
  have H : ((impl_inserted.f l0).bind fun t231 => ((impl_given.f a1_0 a1_1).bind fun bt234 => ((ranges_Ranges_FindMissing.f t231 bt234.1 bt234.2).bind fun bt236 => ((impl_told.f bt236.1 bt236.2).bind fun bt238 => (some (bt238.1, bt238.2)))))) = some (r1, r2) := h
  clear h
  replace H := Option.bind_eq_some_iff.mp H
  obtain ⟨t231, A30, H⟩ := H
  replace H : ((impl_given.f a1_0 a1_1).bind fun bt234 => ((ranges_Ranges_FindMissing.f t231 bt234.1 bt234.2).bind fun bt236 => ((impl_told.f bt236.1 bt236.2).bind fun bt238 => (some (bt238.1, bt238.2))))) = some (r1, r2) := H
  have A3 := Aside0.mk A30
  clear A30
  replace H := Option.bind_eq_some_iff.mp H
  obtain ⟨⟨t234, t235⟩, A40, H⟩ := H
  replace H : ((ranges_Ranges_FindMissing.f t231 t234 t235).bind fun bt236 => ((impl_told.f bt236.1 bt236.2).bind fun bt238 => (some (bt238.1, bt238.2)))) = some (r1, r2) := H
  have A4 := Aside0.mk A40
  clear A40
  replace H := Option.bind_eq_some_iff.mp H
  obtain ⟨⟨t236, t237⟩, A50, H⟩ := H
  replace H : ((impl_told.f t236 t237).bind fun bt238 => (some (bt238.1, bt238.2))) = some (r1, r2) := H
  have A5 := Aside0.mk A50
  clear A50
  replace H := Option.bind_eq_some_iff.mp H
  obtain ⟨⟨t238, t239⟩, A60, H⟩ := H
  replace H : (some (t238, t239)) = some (r1, r2) := H
  have A6 := Aside0.mk A60
  clear A60
  simp only [Option.some.injEq, Prod.mk.injEq] at H
  obtain ⟨rfl, rfl⟩ := H
  go_enter Try.func31, Try.ntmps31
  try go_wp2_with (first | ((with_reducible refine gate_dst (N := 3) rfl ?_); refine box_event ?hg (N := 3) ?hd (cs := #[.int .i64 a1_0, .int .i64 a1_1]) (t := 28) ?hr ?_; (case hd => rfl); (case hg => rfl); (case hr => first | (go_simp; done) | (go_simp; rfl)); intro gb229 hg w7 hbox hb; have n0_ := Aside0.mk (below_step (by repeat (first | (with_reducible first | exact HB.out | apply below_alloc | apply pw_below_drewN | apply below_drew1) | exact HB.out)) hb); have n1_ := Aside0.mk (hbox); have n2_ := Aside0.mk ((by rw [hg]; exact (below_size (by repeat (first | (with_reducible first | exact HB.out | apply below_alloc | apply pw_below_drewN | apply below_drew1) | exact HB.out))) : w.heap.size ≤ gb229)); have n3_ := Aside0.mk ((by rw [hg]; exact (below_size (by repeat (first | (with_reducible first | exact HB.out | apply below_alloc | apply pw_below_drewN | apply below_drew1) | exact HB.out))) : w.heap.size ≤ gb229)); clear HB; have HB := n0_; have BK229 := n1_; have GW229 := n2_; have GE229 := n3_; clear n0_ n1_ n2_ n3_; clear hb hbox hg) | ((with_reducible refine gate_dst (N := 4) rfl ?_); refine box_event ?hg (N := 4) ?hd (cs := #[.int .i64 0, .int .i64 0]) (t := 28) ?hr ?_; (case hd => rfl); (case hg => rfl); (case hr => first | (go_simp; done) | (go_simp; rfl)); intro gb230 hg w8 hbox hb; have n0_ := Aside0.mk (blk_below (g := gb229) (o := .cells #[.int .i64 a1_0, .int .i64 a1_1] 28 (0, 0)) (by (with_reducible repeat (first | refine blk_drewN ?_ _ | refine blk_drew ?_ | refine blk_alloc ?_ _)); exact BK229.out) hb); have n1_ := Aside0.mk (below_step (by repeat (first | (with_reducible first | exact HB.out | apply below_alloc | apply pw_below_drewN | apply below_drew1 | refine below_set ?_ GE229.out) | exact HB.out)) hb); have n2_ := Aside0.mk (hbox); have n3_ := Aside0.mk ((by rw [hg]; exact (below_size (by repeat (first | (with_reducible first | exact HB.out | apply below_alloc | apply pw_below_drewN | apply below_drew1 | refine below_set ?_ GE229.out) | exact HB.out))) : w.heap.size ≤ gb230)); have n4_ := Aside0.mk ((by rw [hg]; exact (below_size (by repeat (first | (with_reducible first | exact HB.out | apply below_alloc | apply pw_below_drewN | apply below_drew1 | refine below_set ?_ GE229.out) | exact HB.out))) : w.heap.size ≤ gb230)); have n5_ := Aside0.mk ((by rw [hg]; exact Nat.ne_of_lt (blk_lt (g := gb229) (o := .cells #[.int .i64 a1_0, .int .i64 a1_1] 28 (0, 0)) (by (with_reducible repeat (first | refine blk_drewN ?_ _ | refine blk_drew ?_ | refine blk_alloc ?_ _)); exact BK229.out)) : gb229 ≠ gb230)); have n6_ := Aside0.mk ((by rw [hg]; exact Nat.ne_of_gt (blk_lt (g := gb229) (o := .cells #[.int .i64 a1_0, .int .i64 a1_1] 28 (0, 0)) (by (with_reducible repeat (first | refine blk_drewN ?_ _ | refine blk_drew ?_ | refine blk_alloc ?_ _)); exact BK229.out)) : gb230 ≠ gb229)); clear BK229; clear HB; have BK229 := n0_; have HB := n1_; have BK230 := n2_; have GW230 := n3_; have GE230 := n4_; have NB229_230 := n5_; have NB230_229 := n6_; clear n0_ n1_ n2_ n3_ n4_ n5_ n6_; clear hb hbox hg))
  have n0_ := Aside0.mk (blk_drew BK229.out)
  have n1_ := Aside0.mk (blk_drew BK230.out)
  have n2_ := Aside0.mk (below_drew1 HB.out)
  clear BK229
  clear BK230
  clear HB
  have BK229 := n0_
  have BK230 := n1_
  have HB := n2_
  clear n0_ n1_ n2_
  refine start_ (n := 7) (S := fun w' => w'.cell? ⟨gb229, 0, none⟩ = some (.int .i64 a1_0) ∧ w'.cell? ⟨gb229, 1, none⟩ = some (.int .i64 a1_1)) (ds := []) #[false, false, false, false, false, false, false] (by kernel_rfl) rfl rfl ⟨(blk_cell BK229.out 0).trans rfl, (blk_cell BK229.out 1).trans rfl⟩ (fun hHeld => ?_)
  generalize w8.drew = w9 at BK229 BK230 HB hHeld ⊢
  refine pure_ (i := 0) (N := some 5) (v := ?_) (a' := ?_) #[true, false, false, false, false, false, false] rfl rfl (by kernel_rfl) (fun _ _ _ h => h) (Or.inl ⟨by rfl, ?_⟩) ?_ ?_
  rotate_left
  · intro w'
    go_simp
    with_reducible rfl
  rotate_left
  · simp only [Act.put, List.setIfInBounds_toArray, List.set_cons_zero, List.set_cons_succ, i64_w, i32_w]
    rfl
  refine take_ (i := 2) (N := some 7) (v := ?_) (a' := ?_) #[true, false, true, false, false, false, false] rfl rfl (by kernel_rfl) (fun _ _ _ h => h) (Or.inl ⟨by rfl, ?_⟩) hHeld ?_ ?_
  rotate_left
  · rintro w' ⟨s0, s1⟩
    go_simp
    with_reducible rfl
  rotate_left
  · simp only [Act.put, List.setIfInBounds_toArray, List.set_cons_zero, List.set_cons_succ, i64_w, i32_w]
    rfl
  refine one_ (i := 1) (N := some 6) #[true, true, true, false, false, false, false] rfl rfl (by kernel_rfl) (by decide) (fun K hK => ?_)
  refine goes_ Try.func38 (by kernel_rfl) rfl #[.slice A0 l0.length c0] (by rfl) rfl rfl (by (try simp only [List.map_toArray, List.map_cons, List.map_nil]); first | done | rfl | (simp only [List.length_drop, List.length_take]; rfl)) ?_
  with_reducible refine (impl_inserted.calls _ _ l0 t231 _ ?side1 ?side2 A3.out).mono ?_
  (case side1 => repeat (first | exact (Kd.C_below HR0.out HB.out) | (with_reducible refine Kd.C_alloc ?_ _) | (with_reducible refine Kd.C_drewN ?_ _) | (with_reducible refine Kd.C_drew ?_)))
  (case side2 => exact HC0.out)
  rintro e w10 ⟨v232, rfl, ho0, hb⟩
  refine ⟨_, rfl, ?_⟩
  have n0_ := Aside0.mk (Kd.R_lower ho0 (below_size (by repeat (first | (with_reducible first | exact HB.out | apply below_alloc | apply pw_below_drewN | apply below_drew1 | refine below_set ?_ GE229.out | refine below_set ?_ GE230.out) | exact HB.out))))
  have n1_ := Aside0.mk (blk_below (g := gb229) (o := .cells #[.int .i64 a1_0, .int .i64 a1_1] 28 (0, 0)) (by (with_reducible repeat (first | refine blk_drewN ?_ _ | refine blk_drew ?_ | refine blk_alloc ?_ _)); exact BK229.out) hb)
  have n2_ := Aside0.mk (blk_below (g := gb230) (o := .cells #[.int .i64 0, .int .i64 0] 28 (0, 0)) (by (with_reducible repeat (first | refine blk_drewN ?_ _ | refine blk_drew ?_ | refine blk_alloc ?_ _)); exact BK230.out) hb)
  have n3_ := Aside0.mk (below_step (by repeat (first | (with_reducible first | exact HB.out | apply below_alloc | apply pw_below_drewN | apply below_drew1 | refine below_set ?_ GE229.out | refine below_set ?_ GE230.out) | exact HB.out)) hb)
  clear BK229
  clear BK230
  clear HB
  have HO233 := n0_
  have BK229 := n1_
  have BK230 := n2_
  have HB := n3_
  clear n0_ n1_ n2_ n3_
  (try clear hb)
  (try clear hb2)
  (try clear hk)
  (try clear hi)
  (try clear ho0)
  refine hK.out _ _ ⟨(blk_cell BK229.out 0).trans rfl, (blk_cell BK229.out 1).trans rfl⟩ (fun hHeld => ?_)
  clear hK K
  refine norm_ (a' := ?_) ?_ ?_
  rotate_left
  · show Act.put _ (some 6) _ = _
    simp only [Act.put, List.setIfInBounds_toArray, List.set_cons_zero, List.set_cons_succ, i64_w, i32_w]
    rfl
  refine one_ (i := 3) (N := some 8) #[true, true, true, true, false, false, false] rfl rfl (by kernel_rfl) (by decide) (fun K hK => ?_)
  refine goes_ Try.func41 (by kernel_rfl) rfl #[.agg #[.int .i64 a1_0, .int .i64 a1_1]] (by rfl) rfl rfl (by (try simp only [List.map_toArray, List.map_cons, List.map_nil]); first | done | rfl | (simp only [List.length_drop, List.length_take]; rfl)) ?_
  with_reducible refine (impl_given.calls a1_0 a1_1 t234 t235 _ A4.out).mono ?_
  rintro e w11 ⟨rfl, hb⟩
  refine ⟨_, rfl, ?_⟩
  have n0_ := Aside0.mk (Kd.R_below (by (with_reducible repeat (first | apply Kd.R_alloc | apply Kd.R_drewN | apply Kd.R_drew)); exact HO233.out) hb)
  have n1_ := Aside0.mk (blk_below (g := gb229) (o := .cells #[.int .i64 a1_0, .int .i64 a1_1] 28 (0, 0)) (by (with_reducible repeat (first | refine blk_drewN ?_ _ | refine blk_drew ?_ | refine blk_alloc ?_ _)); exact BK229.out) hb)
  have n2_ := Aside0.mk (blk_below (g := gb230) (o := .cells #[.int .i64 0, .int .i64 0] 28 (0, 0)) (by (with_reducible repeat (first | refine blk_drewN ?_ _ | refine blk_drew ?_ | refine blk_alloc ?_ _)); exact BK230.out) hb)
  have n3_ := Aside0.mk (below_step (by repeat (first | (with_reducible first | exact HB.out | apply below_alloc | apply pw_below_drewN | apply below_drew1 | refine below_set ?_ GE229.out | refine below_set ?_ GE230.out) | exact HB.out)) hb)
  clear HO233
  clear BK229
  clear BK230
  clear HB
  have HO233 := n0_
  have BK229 := n1_
  have BK230 := n2_
  have HB := n3_
  clear n0_ n1_ n2_ n3_
  (try clear hb)
  (try clear hb2)
  (try clear hk)
  (try clear hi)
  obtain ⟨Ao12, co12, eo12⟩ := Kd.R_slice HO233.out
  (first | subst eo12 | (injection eo12 with f1_ f2_ f3_; have f4_ := f1_.symm; have f5_ := f3_.symm; clear f1_ f2_ f3_; subst f4_; subst f5_))
  refine hK.out _ _ ⟨(blk_cell BK229.out 0).trans rfl, (blk_cell BK229.out 1).trans rfl⟩ (fun hHeld => ?_)
  clear hK K
  refine norm_ (a' := ?_) ?_ ?_
  rotate_left
  · show Act.put _ (some 8) _ = _
    simp only [Act.put, List.setIfInBounds_toArray, List.set_cons_zero, List.set_cons_succ, i64_w, i32_w]
    rfl
  refine one_ (i := 4) (N := some 9) #[true, true, true, true, true, false, false] rfl rfl (by kernel_rfl) (by decide) (fun K hK => ?_)
  refine goes_ Try.func52 (by kernel_rfl) rfl #[.slice Ao12 t231.length co12, .agg #[.int .i64 t234, .int .i64 t235]] (by rfl) rfl rfl (by (try simp only [List.map_toArray, List.map_cons, List.map_nil]); first | done | rfl | (simp only [List.length_drop, List.length_take]; rfl)) ?_
  with_reducible refine (ranges_Ranges_FindMissing.calls _ _ t231 t234 t235 t236 t237 _ ?side1 ?side2 A5.out).mono ?_
  (case side1 => repeat (first | exact (Kd.R_reads' HO233.out).2.2 | (with_reducible refine Kd.C_alloc ?_ _) | (with_reducible refine Kd.C_drewN ?_ _) | (with_reducible refine Kd.C_drew ?_)))
  (case side2 => exact (Kd.R_reads' HO233.out).2.1)
  rintro e w13 ⟨rfl, hb⟩
  refine ⟨_, rfl, ?_⟩
  have n0_ := Aside0.mk (Kd.R_below (by (with_reducible repeat (first | apply Kd.R_alloc | apply Kd.R_drewN | apply Kd.R_drew)); exact HO233.out) hb)
  have n1_ := Aside0.mk (blk_below (g := gb229) (o := .cells #[.int .i64 a1_0, .int .i64 a1_1] 28 (0, 0)) (by (with_reducible repeat (first | refine blk_drewN ?_ _ | refine blk_drew ?_ | refine blk_alloc ?_ _)); exact BK229.out) hb)
  have n2_ := Aside0.mk (blk_below (g := gb230) (o := .cells #[.int .i64 0, .int .i64 0] 28 (0, 0)) (by (with_reducible repeat (first | refine blk_drewN ?_ _ | refine blk_drew ?_ | refine blk_alloc ?_ _)); exact BK230.out) hb)
  have n3_ := Aside0.mk (below_step (by repeat (first | (with_reducible first | exact HB.out | apply below_alloc | apply pw_below_drewN | apply below_drew1 | refine below_set ?_ GE229.out | refine below_set ?_ GE230.out) | exact HB.out)) hb)
  clear HO233
  clear BK229
  clear BK230
  clear HB
  have HO233 := n0_
  have BK229 := n1_
  have BK230 := n2_
  have HB := n3_
  clear n0_ n1_ n2_ n3_
  (try clear hb)
  (try clear hb2)
  (try clear hk)
  (try clear hi)
  refine hK.out _ _ ⟨(blk_cell BK229.out 0).trans rfl, (blk_cell BK229.out 1).trans rfl⟩ (fun hHeld => ?_)
  clear hK K
  refine norm_ (a' := ?_) ?_ ?_
  rotate_left
  · show Act.put _ (some 9) _ = _
    simp only [Act.put, List.setIfInBounds_toArray, List.set_cons_zero, List.set_cons_succ, i64_w, i32_w]
    rfl
  refine one_ (i := 5) (N := some 10) #[true, true, true, true, true, true, false] rfl rfl (by kernel_rfl) (by decide) (fun K hK => ?_)
  refine goes_ Try.func45 (by kernel_rfl) rfl #[.agg #[.int .i64 t236, .int .i64 t237]] (by rfl) rfl rfl (by (try simp only [List.map_toArray, List.map_cons, List.map_nil]); first | done | rfl | (simp only [List.length_drop, List.length_take]; rfl)) ?_
  with_reducible refine (impl_told.calls t236 t237 t238 t239 _ A6.out).mono ?_
  rintro e w14 ⟨rfl, hb⟩
  refine ⟨_, rfl, ?_⟩
  have n0_ := Aside0.mk (Kd.R_below (by (with_reducible repeat (first | apply Kd.R_alloc | apply Kd.R_drewN | apply Kd.R_drew)); exact HO233.out) hb)
  have n1_ := Aside0.mk (blk_below (g := gb229) (o := .cells #[.int .i64 a1_0, .int .i64 a1_1] 28 (0, 0)) (by (with_reducible repeat (first | refine blk_drewN ?_ _ | refine blk_drew ?_ | refine blk_alloc ?_ _)); exact BK229.out) hb)
  have n2_ := Aside0.mk (blk_below (g := gb230) (o := .cells #[.int .i64 0, .int .i64 0] 28 (0, 0)) (by (with_reducible repeat (first | refine blk_drewN ?_ _ | refine blk_drew ?_ | refine blk_alloc ?_ _)); exact BK230.out) hb)
  have n3_ := Aside0.mk (below_step (by repeat (first | (with_reducible first | exact HB.out | apply below_alloc | apply pw_below_drewN | apply below_drew1 | refine below_set ?_ GE229.out | refine below_set ?_ GE230.out) | exact HB.out)) hb)
  clear HO233
  clear BK229
  clear BK230
  clear HB
  have HO233 := n0_
  have BK229 := n1_
  have BK230 := n2_
  have HB := n3_
  clear n0_ n1_ n2_ n3_
  (try clear hb)
  (try clear hb2)
  (try clear hk)
  (try clear hi)
  refine hK.out _ _ ⟨(blk_cell BK229.out 0).trans rfl, (blk_cell BK229.out 1).trans rfl⟩ (fun hHeld => ?_)
  clear hK K
  refine norm_ (a' := ?_) ?_ ?_
  rotate_left
  · show Act.put _ (some 10) _ = _
    simp only [Act.put, List.setIfInBounds_toArray, List.set_cons_zero, List.set_cons_succ, i64_w, i32_w]
    rfl
  refine one_ (i := 6) (N := none) #[true, true, true, true, true, true, true] rfl rfl (by kernel_rfl) (by decide) (fun K hK => ?_)
  have hs15 : w14.cell? ⟨gb230, 0, none⟩ = some (.int .i64 0) := (blk_cell BK230.out 0).trans rfl
  have hfs15 := blk_frozen BK230.out 0
  have hns15_0 := NB229_230.out
  have hms15_0 := NB230_229.out
  have hs16 : w14.cell? ⟨gb230, 1, none⟩ = some (.int .i64 0) := (blk_cell BK230.out 1).trans rfl
  have hfs16 := blk_frozen BK230.out 1
  have hns16_0 := NB229_230.out
  have hms16_0 := NB230_229.out
  refine skip_ (w1 := ?_) (by rfl) rfl ?_ ?_
  rotate_left
  · go_simp
    rfl
  refine hK.out _ _ ⟨((cell_far (p := ⟨gb230, _, none⟩) NB229_230.out _).trans (((cell_far (p := ⟨gb230, _, none⟩) NB229_230.out _).trans (hHeld.1)))), ((cell_far (p := ⟨gb230, _, none⟩) NB229_230.out _).trans (((cell_far (p := ⟨gb230, _, none⟩) NB229_230.out _).trans (hHeld.2))))⟩ (fun hHeld => ?_)
  clear hK K
  refine done_ (by kernel_rfl) ?_
  try go_wp2
  refine bodyPost_ret (results_cell_row rfl _ _ gb230 28 #[.int .i64 t238, .int .i64 t239] (0, 0) _ rfl (by (with_reducible repeat (first | refine blk_drewN ?_ _ | refine blk_drew ?_ | refine blk_alloc ?_ _)); refine blk_put (cs := #[.int .i64 t238, .int .i64 0]) ?_ 1 _ rfl; (with_reducible repeat (first | refine blk_drewN ?_ _ | refine blk_drew ?_ | refine blk_alloc ?_ _)); refine blk_put (cs := #[.int .i64 0, .int .i64 0]) ?_ 0 _ rfl; (with_reducible repeat (first | refine blk_drewN ?_ _ | refine blk_drew ?_ | refine blk_alloc ?_ _)); exact BK230.out) Try.underlying28 rfl (by kernel_rfl)) rfl ?_
  exact ⟨by first | rfl | (simp [errW_none, errW_some] <;> rfl) | (simp [*, errW_none, errW_some] <;> rfl), by repeat (first | (with_reducible first | exact HB.out | apply below_alloc | apply pw_below_drewN | apply below_drew1 | refine below_set ?_ GE229.out | refine below_set ?_ GE230.out) | exact HB.out)⟩

/-! ### ranges_Ranges_Equal: function 53 -/
/-- Are two sets the same? -/
def ranges_Ranges_Equal.f (l0 l1 : List S61) : Option Bool := if l0.length ≤ 1000000 then some (decide (l0.map (fun x => (x.f0, x.f1)) = l1.map (fun x => (x.f0, x.f1)))) else none
theorem ranges_Ranges_Equal.calls (A0 : Option Addr) (c0 : Nat) (l0 : List S61) (A1 : Option Addr) (c1 : Nat) (l1 : List S61) (r : Bool) (w : World) (hr0 : Kd.C k61 w A0 l0.length l0) (hc0 : l0.length ≤ c0) (hr1 : Kd.C k61 w A1 l1.length l1) (hc1 : l1.length ≤ c1) (h : ranges_Ranges_Equal.f l0 l1 = some r) :
    Calls Try.prog 53 #[.slice A0 l0.length c0, .slice A1 l1.length c1] w fun e w' => e = .returned (.bool r) ∧ Below w.heap.size w w' := by
  unfold ranges_Ranges_Equal.f at h
  by_cases hc : l0.length ≤ 1000000
  · rw [if_pos hc] at h
    obtain rfl := Option.some.inj h
    have h1 := Rang.equal_any A0 A1 c0 c1 (l0.map fun x => (x.f0, x.f1)) (l1.map fun x => (x.f0, x.f1)) w (by simpa using hc) (by rw [List.length_map]; exact Rang.C_iso hr0) (by rw [List.length_map]; exact Rang.C_iso hr1)
    rw [List.length_map, List.length_map] at h1
    exact h1
  · rw [if_neg hc] at h; cases h

/-! ### impl_RangesEqual: function 32 -/
def impl_RangesEqual.f (l0 : List (S28)) (l1 : List (S28)) : Option (Bool) := (impl_inserted.f l0).bind fun t240 => ((impl_inserted.f l1).bind fun t243 => ((ranges_Ranges_Equal.f t240 t243).bind fun t246 => (some t246)))
set_option maxHeartbeats 8000000 in
set_option maxRecDepth 100000 in
theorem impl_RangesEqual.calls (A0 : Option Addr) (c0 : Nat) (l0 : List (S28)) (A1 : Option Addr) (c1 : Nat) (l1 : List (S28)) (r : Bool) (w : World) (hr0 : Kd.C k28 w A0 l0.length l0) (hc0 : l0.length ≤ c0) (hr1 : Kd.C k28 w A1 l1.length l1) (hc1 : l1.length ≤ c1) (h : impl_RangesEqual.f l0 l1 = some r) :
    Calls Try.prog 32 #[.slice A0 l0.length c0, .slice A1 l1.length c1] w fun e w' => e = .returned (.bool r) ∧ Below w.heap.size w w' := by
  have HR0 := Aside0.mk hr0
  have HC0 := Aside0.mk hc0
  clear hr0 hc0
  have HR1 := Aside0.mk hr1
  have HC1 := Aside0.mk hc1
  clear hr1 hc1
  have HB := Aside0.mk (Below.refl w.heap.size w)
  have H : ((impl_inserted.f l0).bind fun t240 => ((impl_inserted.f l1).bind fun t243 => ((ranges_Ranges_Equal.f t240 t243).bind fun t246 => (some t246)))) = some r := h
  clear h
  replace H := Option.bind_eq_some_iff.mp H
  obtain ⟨t240, A30, H⟩ := H
  replace H : ((impl_inserted.f l1).bind fun t243 => ((ranges_Ranges_Equal.f t240 t243).bind fun t246 => (some t246))) = some r := H
  have A3 := Aside0.mk A30
  clear A30
  replace H := Option.bind_eq_some_iff.mp H
  obtain ⟨t243, A40, H⟩ := H
  replace H : ((ranges_Ranges_Equal.f t240 t243).bind fun t246 => (some t246)) = some r := H
  have A4 := Aside0.mk A40
  clear A40
  replace H := Option.bind_eq_some_iff.mp H
  obtain ⟨t246, A50, H⟩ := H
  replace H : (some t246) = some r := H
  have A5 := Aside0.mk A50
  clear A50
  obtain rfl := Option.some.inj H
  go_enter Try.func32, Try.ntmps32
  go_wp2_with (first | ((with_reducible refine gate_callee (f := 38) rfl ?_); refine goesL_ (some 6) rfl rfl Try.func38 (by kernel_rfl) rfl #[.slice A0 l0.length c0] rfl (by (try simp only [List.map_toArray, List.map_cons, List.map_nil]); first | done | rfl | (simp only [List.length_drop, List.length_take]; rfl)) ?_; (with_reducible refine (impl_inserted.calls _ _ l0 t240 _ ?side1 ?side2 A3.out).mono ?_); (case side1 => repeat (first | exact HR0.out | (with_reducible refine Kd.C_alloc ?_ _) | (with_reducible refine Kd.C_drewN ?_ _) | (with_reducible refine Kd.C_drew ?_))); (case side2 => exact HC0.out); rintro e w6 ⟨v241, rfl, ho0, hb⟩; refine ⟨_, rfl, ?_⟩; have n0_ := Aside0.mk (Kd.R_lower ho0 (below_size (by repeat (first | (with_reducible first | exact HB.out | apply below_alloc | apply pw_below_drewN | apply below_drew1) | exact HB.out)))); have n1_ := Aside0.mk (below_step (by repeat (first | (with_reducible first | exact HB.out | apply below_alloc | apply pw_below_drewN | apply below_drew1) | exact HB.out)) hb); clear HB; have HO242 := n0_; have HB := n1_; clear n0_ n1_; (try clear hb); (try clear hb2); (try clear hk); (try clear hi); (try clear ho0)) | ((with_reducible refine gate_callee (f := 38) rfl ?_); refine goesL_ (some 8) rfl rfl Try.func38 (by kernel_rfl) rfl #[.slice A1 l1.length c1] rfl (by (try simp only [List.map_toArray, List.map_cons, List.map_nil]); first | done | rfl | (simp only [List.length_drop, List.length_take]; rfl)) ?_; (with_reducible refine (impl_inserted.calls _ _ l1 t243 _ ?side1 ?side2 A4.out).mono ?_); (case side1 => repeat (first | exact (Kd.C_below HR1.out HB.out) | (with_reducible refine Kd.C_alloc ?_ _) | (with_reducible refine Kd.C_drewN ?_ _) | (with_reducible refine Kd.C_drew ?_))); (case side2 => exact HC1.out); rintro e w7 ⟨v244, rfl, ho0, hb⟩; refine ⟨_, rfl, ?_⟩; have n0_ := Aside0.mk (Kd.R_elder' (by (with_reducible repeat (first | apply Kd.R_alloc | apply Kd.R_drewN | apply Kd.R_drew)); exact HO242.out) (Kd.R_base ho0) hb); have n1_ := Aside0.mk (Kd.R_lower (Kd.R_new' ho0 (Kd.R_lt (by (with_reducible repeat (first | apply Kd.R_alloc | apply Kd.R_drewN | apply Kd.R_drew)); exact HO242.out))) (below_size (by repeat (first | (with_reducible first | exact HB.out | apply below_alloc | apply pw_below_drewN | apply below_drew1) | exact HB.out)))); have n2_ := Aside0.mk (below_step (by repeat (first | (with_reducible first | exact HB.out | apply below_alloc | apply pw_below_drewN | apply below_drew1) | exact HB.out)) hb); clear HO242; clear HB; have HO242 := n0_; have HO245 := n1_; have HB := n2_; clear n0_ n1_ n2_; (try clear hb); (try clear hb2); (try clear hk); (try clear hi); (try clear ho0); obtain ⟨Ao8, co8, eo8⟩ := Kd.R_slice HO242.out; subst eo8; obtain ⟨Ao9, co9, eo9⟩ := Kd.R_slice HO245.out; subst eo9) | ((with_reducible refine gate_callee (f := 53) rfl ?_); refine goesL_ (some 9) rfl rfl Try.func53 (by kernel_rfl) rfl #[.slice Ao8 t240.length co8, .slice Ao9 t243.length co9] rfl (by (try simp only [List.map_toArray, List.map_cons, List.map_nil]); first | done | rfl | (simp only [List.length_drop, List.length_take]; rfl)) ?_; (with_reducible refine (ranges_Ranges_Equal.calls _ _ t240 _ _ t243 t246 _ ?side1 ?side2 ?side3 ?side4 A5.out).mono ?_); (case side1 => repeat (first | exact (Kd.R_reads' HO242.out).2.2 | (with_reducible refine Kd.C_alloc ?_ _) | (with_reducible refine Kd.C_drewN ?_ _) | (with_reducible refine Kd.C_drew ?_))); (case side2 => exact (Kd.R_reads' HO242.out).2.1); (case side3 => repeat (first | exact (Kd.R_reads' HO245.out).2.2 | (with_reducible refine Kd.C_alloc ?_ _) | (with_reducible refine Kd.C_drewN ?_ _) | (with_reducible refine Kd.C_drew ?_))); (case side4 => exact (Kd.R_reads' HO245.out).2.1); rintro e w10 ⟨rfl, hb⟩; refine ⟨_, rfl, ?_⟩; have n0_ := Aside0.mk (Kd.R_below (by (with_reducible repeat (first | apply Kd.R_alloc | apply Kd.R_drewN | apply Kd.R_drew)); exact HO242.out) hb); have n1_ := Aside0.mk (Kd.R_below (by (with_reducible repeat (first | apply Kd.R_alloc | apply Kd.R_drewN | apply Kd.R_drew)); exact HO245.out) hb); have n2_ := Aside0.mk (below_step (by repeat (first | (with_reducible first | exact HB.out | apply below_alloc | apply pw_below_drewN | apply below_drew1) | exact HB.out)) hb); clear HO242; clear HO245; clear HB; have HO242 := n0_; have HO245 := n1_; have HB := n2_; clear n0_ n1_ n2_; (try clear hb); (try clear hb2); (try clear hk); (try clear hi)))
  go_ret
  exact ⟨by first | rfl | (simp [errW_none, errW_some] <;> rfl) | (simp [*, errW_none, errW_some] <;> rfl), by repeat (first | (with_reducible first | exact HB.out | apply below_alloc | apply pw_below_drewN | apply below_drew1) | exact HB.out)⟩

end Go.Proofs.Ytfegihmnpcjdgaa.PFnRangesFill

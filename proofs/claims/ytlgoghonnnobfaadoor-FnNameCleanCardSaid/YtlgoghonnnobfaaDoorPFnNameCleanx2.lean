-- Written by a program of this session's (over the kit's print), with contracts proved by hand among what it calls.
import Derived.Test.YtlgoghonnnobfaaDoorPFnNameCleanx0
import Derived.Test.YtlgoghonnnobfaaDoorPFnNameCleanx1
namespace Go.Proofs.YtlgoghonnnobfaaDoor.PFnNameClean
open Go.RowKit Go.Proofs.YtlgoghonnnobfaaDoorW.PrintWords Go.Proofs.YtlgoghonnnobfaaDoorW.PrintLast Go.Proofs.YtlgoghonnnobfaaDoorW.PrintMore
attribute [local go_sem] max2_int min2_int max_two min_two max_three min_three max_four min_four   -- for this text's walks alone
set_option linter.unusedVariables false
set_option linter.unusedSimpArgs false

/-! ### spec_TakesRight: function 28 -/
def spec_TakesRight.f (a0 : Int) (a1 : Int) : Option (Bool) := if a1 = 32 then (some ((Go.bits .and .u64 a0 2097152) != 0)) else (if a1 = 46 then (some ((Go.bits .and .u64 a0 4194304) != 0)) else (if a1 = 13 then (some ((Go.bits .and .u64 a0 8388608) != 0)) else (if a1 = 10 then (some ((Go.bits .and .u64 a0 8388608) != 0)) else (if a1 = 9 then (some ((Go.bits .and .u64 a0 8388608) != 0)) else (if a1 = 11 then (some ((Go.bits .and .u64 a0 8388608) != 0)) else (some false))))))
set_option maxHeartbeats 8000000 in
set_option maxRecDepth 100000 in
theorem spec_TakesRight.calls (a0 : Int) (a1 : Int) (r : Bool) (w : World) (h : spec_TakesRight.f a0 a1 = some r) :
    Calls Tryd.prog 28 #[.int .u64 a0, .int .i32 a1] w fun e w' => e = .returned (.bool r) ∧ Drawn0 w w' := by
  have H : (if a1 = 32 then (some ((Go.bits .and .u64 a0 2097152) != 0)) else (if a1 = 46 then (some ((Go.bits .and .u64 a0 4194304) != 0)) else (if a1 = 13 then (some ((Go.bits .and .u64 a0 8388608) != 0)) else (if a1 = 10 then (some ((Go.bits .and .u64 a0 8388608) != 0)) else (if a1 = 9 then (some ((Go.bits .and .u64 a0 8388608) != 0)) else (if a1 = 11 then (some ((Go.bits .and .u64 a0 8388608) != 0)) else (some false))))))) = some r := h
  clear h
  by_cases c3 : a1 = 32
  · rw [if_pos c3] at H
    have c3b0 : (a1 == 32) = true := beq_iff_eq.mpr c3
    have c3b1 : (a1 != 32) = false := bne_eq_false_iff_eq.mpr c3
    clear c3
    obtain rfl := Option.some.inj H
    go_enter Tryd.func28, Tryd.ntmps28
    go_wp2
    go_ret
    exact ⟨by first | rfl | (simp; done) | (simp [*]; done) | (simp [xt_ne_nil]; done), by repeat (first | exact Drawn0.refl _ | apply Drawn0.step)⟩
  · rw [if_neg c3] at H
    have c3b0 : (a1 == 32) = false := beq_eq_false_iff_ne.mpr c3
    have c3b1 : (a1 != 32) = true := bne_iff_ne.mpr c3
    by_cases c4 : a1 = 46
    · rw [if_pos c4] at H
      have c4b0 : (a1 == 46) = true := beq_iff_eq.mpr c4
      have c4b1 : (a1 != 46) = false := bne_eq_false_iff_eq.mpr c4
      clear c4
      obtain rfl := Option.some.inj H
      go_enter Tryd.func28, Tryd.ntmps28
      go_wp2
      go_ret
      exact ⟨by first | rfl | (simp; done) | (simp [*]; done) | (simp [xt_ne_nil]; done), by repeat (first | exact Drawn0.refl _ | apply Drawn0.step)⟩
    · rw [if_neg c4] at H
      have c4b0 : (a1 == 46) = false := beq_eq_false_iff_ne.mpr c4
      have c4b1 : (a1 != 46) = true := bne_iff_ne.mpr c4
      by_cases c5 : a1 = 13
      · rw [if_pos c5] at H
        have c5b0 : (a1 == 13) = true := beq_iff_eq.mpr c5
        have c5b1 : (a1 != 13) = false := bne_eq_false_iff_eq.mpr c5
        clear c5
        obtain rfl := Option.some.inj H
        go_enter Tryd.func28, Tryd.ntmps28
        go_wp2
        go_ret
        exact ⟨by first | rfl | (simp; done) | (simp [*]; done) | (simp [xt_ne_nil]; done), by repeat (first | exact Drawn0.refl _ | apply Drawn0.step)⟩
      · rw [if_neg c5] at H
        have c5b0 : (a1 == 13) = false := beq_eq_false_iff_ne.mpr c5
        have c5b1 : (a1 != 13) = true := bne_iff_ne.mpr c5
        by_cases c6 : a1 = 10
        · rw [if_pos c6] at H
          have c6b0 : (a1 == 10) = true := beq_iff_eq.mpr c6
          have c6b1 : (a1 != 10) = false := bne_eq_false_iff_eq.mpr c6
          clear c6
          obtain rfl := Option.some.inj H
          go_enter Tryd.func28, Tryd.ntmps28
          go_wp2
          go_ret
          exact ⟨by first | rfl | (simp; done) | (simp [*]; done) | (simp [xt_ne_nil]; done), by repeat (first | exact Drawn0.refl _ | apply Drawn0.step)⟩
        · rw [if_neg c6] at H
          have c6b0 : (a1 == 10) = false := beq_eq_false_iff_ne.mpr c6
          have c6b1 : (a1 != 10) = true := bne_iff_ne.mpr c6
          by_cases c7 : a1 = 9
          · rw [if_pos c7] at H
            have c7b0 : (a1 == 9) = true := beq_iff_eq.mpr c7
            have c7b1 : (a1 != 9) = false := bne_eq_false_iff_eq.mpr c7
            clear c7
            obtain rfl := Option.some.inj H
            go_enter Tryd.func28, Tryd.ntmps28
            go_wp2
            go_ret
            exact ⟨by first | rfl | (simp; done) | (simp [*]; done) | (simp [xt_ne_nil]; done), by repeat (first | exact Drawn0.refl _ | apply Drawn0.step)⟩
          · rw [if_neg c7] at H
            have c7b0 : (a1 == 9) = false := beq_eq_false_iff_ne.mpr c7
            have c7b1 : (a1 != 9) = true := bne_iff_ne.mpr c7
            by_cases c8 : a1 = 11
            · rw [if_pos c8] at H
              have c8b0 : (a1 == 11) = true := beq_iff_eq.mpr c8
              have c8b1 : (a1 != 11) = false := bne_eq_false_iff_eq.mpr c8
              clear c8
              obtain rfl := Option.some.inj H
              go_enter Tryd.func28, Tryd.ntmps28
              go_wp2
              go_ret
              exact ⟨by first | rfl | (simp; done) | (simp [*]; done) | (simp [xt_ne_nil]; done), by repeat (first | exact Drawn0.refl _ | apply Drawn0.step)⟩
            · rw [if_neg c8] at H
              have c8b0 : (a1 == 11) = false := beq_eq_false_iff_ne.mpr c8
              have c8b1 : (a1 != 11) = true := bne_iff_ne.mpr c8
              obtain rfl := Option.some.inj H
              go_enter Tryd.func28, Tryd.ntmps28
              go_wp2
              go_ret
              exact ⟨by first | rfl | (simp; done) | (simp [*]; done) | (simp [xt_ne_nil]; done), by repeat (first | exact Drawn0.refl _ | apply Drawn0.step)⟩

/-! ### laws_encKept: function 13 -/
mutual
def laws_encKept.j0 : Nat → Int → ByteArray → Bool → Option (Bool)
  | 0, _, _, _ => none
  | k + 1, x0, x1, x20 => if x20 = true then (some false) else ((spec_Units.f x1).bind fun t103 => (laws_encKept.l0 k x0 t103 t103 (t103.length : Int) 0))
def laws_encKept.l0 : Nat → Int → List (S37) → List (S37) → Int → Int → Option (Bool)
  | 0, _, _, _, _, _ => none
  | k + 1, x0, x5, x23, x24, x25 => if x25 < x24 then (if 0 ≤ x25 then (if x25 < (x23.length : Int) then ((spec_Takes.f k x0 ((rd_T37 x23 x25).f1)).bind fun t108 => (if t108 = true then (some false) else (if (rd_T37 x23 x25).f2 = true then (if (Go.bits .and .u64 x0 16777216) = 0 then (laws_encKept.l0 k x0 x5 x23 x24 (wrap64 (x25 + 1))) else (some false)) else (laws_encKept.l0 k x0 x5 x23 x24 (wrap64 (x25 + 1)))))) else (none)) else (none)) else (if 0 < (x5.length : Int) then ((spec_TakesLeft.f x0 ((rd_T37 x5 0).f1)).bind fun t110 => (if t110 = true then (some false) else (if 0 ≤ (wrap64 ((x5.length : Int) - 1)) then (if (wrap64 ((x5.length : Int) - 1)) < (x5.length : Int) then ((spec_TakesRight.f x0 ((rd_T37 x5 (wrap64 ((x5.length : Int) - 1))).f1)).bind fun t112 => (some (!t112))) else (none)) else (none)))) else (none))
end
def laws_encKept.f (k : Nat) (a0 : Int) (a1 : ByteArray) : Option (Bool) := if a1.toList = ([] : List UInt8) then (some true) else (if (Go.bits .and .u64 a0 33554432) = 0 then (laws_encKept.j0 k a0 a1 false) else (if a1.toList = ([46] : List UInt8) then (laws_encKept.j0 k a0 a1 true) else (laws_encKept.j0 k a0 a1 (a1.toList == ([46, 46] : List UInt8)))))
theorem laws_encKept.mono_l : ∀ k, (∀ y0 y1 y2, LeO (laws_encKept.j0 k y0 y1 y2) (laws_encKept.j0 (k + 1) y0 y1 y2)) ∧ (∀ y0 y1 y2 y3 y4, LeO (laws_encKept.l0 k y0 y1 y2 y3 y4) (laws_encKept.l0 (k + 1) y0 y1 y2 y3 y4))
  | 0 => ⟨fun _ _ _ r h => by simp [laws_encKept.j0] at h, fun _ _ _ _ _ r h => by simp [laws_encKept.l0] at h⟩
  | k + 1 => by
    obtain ⟨ih0, ih1⟩ := laws_encKept.mono_l k
    refine ⟨?_, ?_⟩
    · intro y0 y1 y2
      unfold laws_encKept.j0
      repeat' first
      | (with_reducible exact ih0 _ _ _)
      | (with_reducible exact ih1 _ _ _ _ _)
      | (with_reducible exact spec_Takes.mono _ _ _)
      | (with_reducible exact LeO.refl _)
      | (with_reducible exact LeO.none _)
      | (with_reducible refine LeO.ite ?_ ?_)
      | (with_reducible refine LeO.bind ?_ (fun _ => ?_))
      | exact ih0 _ _ _
      | exact ih1 _ _ _ _ _
      | exact spec_Takes.mono _ _ _
      | exact LeO.none _
      | refine LeO.ite ?_ ?_
      | refine LeO.bind ?_ (fun _ => ?_)
    · intro y0 y1 y2 y3 y4
      unfold laws_encKept.l0
      repeat' first
      | (with_reducible exact ih0 _ _ _)
      | (with_reducible exact ih1 _ _ _ _ _)
      | (with_reducible exact spec_Takes.mono _ _ _)
      | (with_reducible exact LeO.refl _)
      | (with_reducible exact LeO.none _)
      | (with_reducible refine LeO.ite ?_ ?_)
      | (with_reducible refine LeO.bind ?_ (fun _ => ?_))
      | exact ih0 _ _ _
      | exact ih1 _ _ _ _ _
      | exact spec_Takes.mono _ _ _
      | exact LeO.none _
      | refine LeO.ite ?_ ?_
      | refine LeO.bind ?_ (fun _ => ?_)
theorem laws_encKept.mono : ∀ a0 a1 k, LeO (laws_encKept.f k a0 a1) (laws_encKept.f (k + 1) a0 a1) := by
  intro a0 a1 k
  obtain ⟨ih0, ih1⟩ := laws_encKept.mono_l k
  unfold laws_encKept.f
  repeat' first
      | (with_reducible exact ih0 _ _ _)
      | (with_reducible exact ih1 _ _ _ _ _)
      | (with_reducible exact spec_Takes.mono _ _ _)
      | (with_reducible exact LeO.refl _)
      | (with_reducible exact LeO.none _)
      | (with_reducible refine LeO.ite ?_ ?_)
      | (with_reducible refine LeO.bind ?_ (fun _ => ?_))
      | exact ih0 _ _ _
      | exact ih1 _ _ _ _ _
      | exact spec_Takes.mono _ _ _
      | exact LeO.none _
      | refine LeO.ite ?_ ?_
      | refine LeO.bind ?_ (fun _ => ?_)
set_option maxHeartbeats 8000000 in
set_option maxRecDepth 100000 in
theorem laws_encKept.calls (k : Nat) (a0 : Int) (a1 : ByteArray) (r : Bool) (w : World) (h : laws_encKept.f k a0 a1 = some r) :
    Calls Tryd.prog 13 #[.int .u64 a0, .string a1] w fun e w' => e = .returned (.bool r) ∧ Below w.heap.size w w' := by
  have hu37 := Tryd.underlying37
  have HB := Aside0.mk (Below.refl w.heap.size w)
  have H : (if a1.toList = ([] : List UInt8) then (some true) else (if (Go.bits .and .u64 a0 33554432) = 0 then (laws_encKept.j0 k a0 a1 false) else (if a1.toList = ([46] : List UInt8) then (laws_encKept.j0 k a0 a1 true) else (laws_encKept.j0 k a0 a1 (a1.toList == ([46, 46] : List UInt8)))))) = some r := h
  clear h
  by_cases c3 : a1.toList = ([] : List UInt8)
  · rw [if_pos c3] at H
    have c3b0 : (a1.toList == ([] : List UInt8)) = true := beq_iff_eq.mpr c3
    have c3b1 : (a1.toList != ([] : List UInt8)) = false := bne_eq_false_iff_eq.mpr c3
    clear c3
    obtain rfl := Option.some.inj H
    go_enter Tryd.func13, Tryd.ntmps13
    go_wp2
    go_ret
    exact ⟨by first | rfl | (simp [errW_none, errW_some] <;> rfl) | (simp [*, errW_none, errW_some] <;> rfl), by repeat (first | (with_reducible first | exact HB.out | apply below_alloc | apply pw_below_drewN | apply below_drew1) | exact HB.out)⟩
  · rw [if_neg c3] at H
    have c3b0 : (a1.toList == ([] : List UInt8)) = false := beq_eq_false_iff_ne.mpr c3
    have c3b1 : (a1.toList != ([] : List UInt8)) = true := bne_iff_ne.mpr c3
    have HC4 := Aside0.mk H
    clear H
    go_enter Tryd.func13, Tryd.ntmps13
    go_upto_region 3 with (fail)
    go_cut [20] (fun v20 wc => ∃ (kq : Nat) (x20_3 : Bool), v20 = .bool x20_3 ∧ Aside0 (laws_encKept.j0 kq a0 a1 x20_3 = some r) ∧ Aside0 (kq ≤ k) ∧ Aside0 (Below w.heap.size w wc))
    case first =>
      have H := HC4.out
      clear HC4
      by_cases c5 : (Go.bits .and .u64 a0 33554432) = 0
      · rw [if_pos c5] at H
        have c5b0 : ((Go.bits .and .u64 a0 33554432) == 0) = true := beq_iff_eq.mpr c5
        have c5b1 : ((Go.bits .and .u64 a0 33554432) != 0) = false := bne_eq_false_iff_eq.mpr c5
        clear c5
        (first | rw [c5b0] | (simp only [i64_w, i32_w]; rw [c5b0]) | skip)
        have H' := Aside0.mk H
        clear H
        go_wp2
        go_meet
        case rel => exact ⟨_, (false), (by first | rfl | (simp; done) | (simp [*]; done) | (simp [xt_ne_nil]; done)), H', ⟨by first | omega | exact Nat.le_refl _⟩, ⟨by repeat (first | (with_reducible first | exact HB.out | apply below_alloc | apply pw_below_drewN | apply below_drew1) | exact HB.out)⟩⟩
      · rw [if_neg c5] at H
        have c5b0 : ((Go.bits .and .u64 a0 33554432) == 0) = false := beq_eq_false_iff_ne.mpr c5
        have c5b1 : ((Go.bits .and .u64 a0 33554432) != 0) = true := bne_iff_ne.mpr c5
        (first | rw [c5b0] | (simp only [i64_w, i32_w]; rw [c5b0]) | skip)
        by_cases c6 : a1.toList = ([46] : List UInt8)
        · rw [if_pos c6] at H
          have c6b0 : (a1.toList == ([46] : List UInt8)) = true := beq_iff_eq.mpr c6
          have c6b1 : (a1.toList != ([46] : List UInt8)) = false := bne_eq_false_iff_eq.mpr c6
          clear c6
          have H' := Aside0.mk H
          clear H
          go_wp2
          go_meet
          case rel => exact ⟨_, (true), (by first | rfl | (simp; done) | (simp [*]; done) | (simp [xt_ne_nil]; done)), H', ⟨by first | omega | exact Nat.le_refl _⟩, ⟨by repeat (first | (with_reducible first | exact HB.out | apply below_alloc | apply pw_below_drewN | apply below_drew1) | exact HB.out)⟩⟩
        · rw [if_neg c6] at H
          have c6b0 : (a1.toList == ([46] : List UInt8)) = false := beq_eq_false_iff_ne.mpr c6
          have c6b1 : (a1.toList != ([46] : List UInt8)) = true := bne_iff_ne.mpr c6
          have H' := Aside0.mk H
          clear H
          go_wp2
          go_meet
          case rel => exact ⟨_, ((a1.toList == ([46, 46] : List UInt8))), (by first | rfl | (simp; done) | (simp [*]; done) | (simp [xt_ne_nil]; done)), H', ⟨by first | omega | exact Nat.le_refl _⟩, ⟨by repeat (first | (with_reducible first | exact HB.out | apply below_alloc | apply pw_below_drewN | apply below_drew1) | exact HB.out)⟩⟩
    case rest =>
      clear HC4
      try clear c1
      try clear p2
      try clear c3
      try clear c3b0
      try clear c3b1
      try clear c5
      try clear c5b0
      try clear c5b1
      try clear c6
      try clear c6b0
      try clear c6b1
      obtain ⟨kq, x20_3, rfl, HA, HJ3, HB⟩ := hcut
      cases kq with
      | zero => exact absurd HA.out (by simp [laws_encKept.j0])
      | succ kj3 =>
        have H := HA.out
        clear HA
        simp only [laws_encKept.j0] at H
        by_cases c7 : x20_3 = true
        · subst c7
          have H1 : (some false) = some r := by rw [if_pos rfl] at H; exact H
          clear H
          have H := H1
          clear H1
          obtain rfl := Option.some.inj H
          go_wp2
          go_ret
          exact ⟨by first | rfl | (simp [errW_none, errW_some] <;> rfl) | (simp [*, errW_none, errW_some] <;> rfl), by repeat (first | (with_reducible first | exact HB.out | apply below_alloc | apply pw_below_drewN | apply below_drew1) | exact HB.out)⟩
        · replace c7 := Bool.eq_false_iff.mpr c7
          subst c7
          have H1 : ((spec_Units.f a1).bind fun t103 => (laws_encKept.l0 kj3 a0 t103 t103 (t103.length : Int) 0)) = some r := by rw [if_neg (show ¬ (false = true) by decide)] at H; exact H
          clear H
          have H := H1
          clear H1
          replace H := Option.bind_eq_some_iff.mp H
          obtain ⟨t103, A80, H⟩ := H
          replace H : (laws_encKept.l0 kj3 a0 t103 t103 (t103.length : Int) 0) = some r := H
          have A8 := Aside0.mk A80
          clear A80
          have H' := Aside0.mk H
          clear H
          go_wp2_with (first | ((with_reducible refine gate_callee (f := 25) rfl ?_); refine goesL_ (some 22) rfl rfl Tryd.func25 (by kernel_rfl) rfl #[.string a1] rfl (by (try simp only [List.map_toArray, List.map_cons, List.map_nil]); first | done | rfl | (simp only [List.length_drop, List.length_take]; rfl)) ?_; (with_reducible refine (spec_Units.calls a1 t103 _ A8.out).mono ?_); rintro e w9 ⟨v104, rfl, ho0, hb⟩; refine ⟨_, rfl, ?_⟩; have n0_ := Aside0.mk (Kd.R_lower ho0 (below_size (by repeat (first | (with_reducible first | exact HB.out | apply below_alloc | apply pw_below_drewN | apply below_drew1) | exact HB.out)))); have n1_ := Aside0.mk (below_step (by repeat (first | (with_reducible first | exact HB.out | apply below_alloc | apply pw_below_drewN | apply below_drew1) | exact HB.out)) hb); clear HB; have HO105 := n0_; have HB := n1_; clear n0_ n1_; (try clear hb); (try clear hb2); (try clear hk); (try clear hi); (try clear ho0); obtain ⟨Ao10, co10, eo10⟩ := Kd.R_slice HO105.out; subst eo10))
          go_loopg [25] kj3 (fun kq v25 w' => ∃ (x25_2 : Int), v25 = .int .i64 x25_2 ∧ Aside0 (laws_encKept.l0 kq a0 t103 t103 (t103.length : Int) x25_2 = some r) ∧ Aside0 (kq ≤ kj3) ∧ Aside0 (Kd.R k37 37 w' w.heap.size (fun _ => True) (.slice Ao10 t103.length co10) t103) ∧ Aside0 (Kd.R k37 37 w' w.heap.size (fun _ => True) (.slice Ao10 t103.length co10) t103) ∧ Aside0 (Below w.heap.size w w'))
          case atStart => exact ⟨(0), (by first | rfl | (simp; done) | (simp [*]; done) | (simp [xt_ne_nil]; done)), H', ⟨Nat.le_refl _⟩, ⟨by (with_reducible repeat (first | apply Kd.R_alloc | apply Kd.R_drewN | apply Kd.R_drew)); exact HO105.out⟩, ⟨by (with_reducible repeat (first | apply Kd.R_alloc | apply Kd.R_drewN | apply Kd.R_drew)); exact HO105.out⟩, ⟨by repeat (first | (with_reducible first | exact HB.out | apply below_alloc | apply pw_below_drewN | apply below_drew1) | exact HB.out)⟩⟩
          case round =>
            clear H'
            try clear c1
            try clear c2
            try clear p2
            try clear c3
            try clear c3b0
            try clear c3b1
            try clear c5
            try clear c5b0
            try clear c5b1
            try clear c6
            try clear c6b0
            try clear c6b1
            try clear c7
            try clear p2
            obtain ⟨x25_2, rfl, HA, HK2, HO_5, HO_23, HB⟩ := hrel
            cases gk with
            | zero => exact absurd HA.out (by simp [laws_encKept.l0])
            | succ k2 =>
              have H := HA.out
              clear HA
              simp only [laws_encKept.l0] at H
              by_cases c11 : x25_2 < (t103.length : Int)
              · rw [if_pos c11] at H
                have c11b0 : decide (x25_2 < (t103.length : Int)) = true := decide_eq_true c11
                clear c11
                by_cases c12 : 0 ≤ x25_2
                · rw [if_pos c12] at H
                  have c12b0 : decide (0 ≤ x25_2) = true := decide_eq_true c12
                  clear c12
                  by_cases c13 : x25_2 < (t103.length : Int)
                  · rw [if_pos c13] at H
                    have c13b0 : decide (x25_2 < (t103.length : Int)) = true := decide_eq_true c13
                    clear c13
                    replace H := Option.bind_eq_some_iff.mp H
                    obtain ⟨t108, A140, H⟩ := H
                    replace H : (if t108 = true then (some false) else (if (rd_T37 t103 x25_2).f2 = true then (if (Go.bits .and .u64 a0 16777216) = 0 then (laws_encKept.l0 k2 a0 t103 t103 (t103.length : Int) (wrap64 (x25_2 + 1))) else (some false)) else (laws_encKept.l0 k2 a0 t103 t103 (t103.length : Int) (wrap64 (x25_2 + 1))))) = some r := H
                    have A14 := Aside0.mk A140
                    clear A140
                    by_cases c15 : t108 = true
                    · subst c15
                      have H1 : (some false) = some r := by rw [if_pos rfl] at H; exact H
                      clear H
                      have H := H1
                      clear H1
                      obtain rfl := Option.some.inj H
                      have p106 : 0 ≤ (x25_2 : Int) := of_decide_eq_true (by first | (with_reducible assumption) | assumption)
                      have q106 : x25_2 < (t103.length : Int) := of_decide_eq_true (by first | (with_reducible assumption) | assumption)
                      obtain ⟨ad106, e106, hx106_0, hx106_1, hx106_2⟩ := at_T37 (Kd.R_reads' HO_23.out).2.2 x25_2 p106 q106
                      cases e106
                      replace p106 := eq_true p106
                      replace q106 := eq_true q106
                      go_wp2_with (first | ((with_reducible refine gate_dst (N := 7) rfl ?_); (try (refine gate_guard (by rfl) ?_; dsimp only)); refine box_event ?hg (N := 7) ?hd (cs := #[.string (⟨#[]⟩ : ByteArray), .int .i32 0, .bool false]) (t := 37) ?hr ?_; (case hd => rfl); (case hg => rfl); (case hr => first | (go_simp; done) | (go_simp; rfl)); intro gb107 hg w16 hbox hb; have n0_ := Aside0.mk (Kd.R_below (Kd.R_elderB (by (with_reducible repeat (first | apply Kd.R_alloc | apply Kd.R_drewN | apply Kd.R_drew)); exact HO_5.out) gb107 (Nat.le_of_eq hg.symm)) hb); have n1_ := Aside0.mk (Kd.R_below (Kd.R_elderB (by (with_reducible repeat (first | apply Kd.R_alloc | apply Kd.R_drewN | apply Kd.R_drew)); exact HO_23.out) gb107 (Nat.le_of_eq hg.symm)) hb); have n2_ := Aside0.mk (below_step (by repeat (first | (with_reducible first | exact HB.out | apply below_alloc | apply pw_below_drewN | apply below_drew1) | exact HB.out)) hb); have n3_ := Aside0.mk (hbox); have n4_ := Aside0.mk ((by rw [hg]; exact (below_size (by repeat (first | (with_reducible first | exact HB.out | apply below_alloc | apply pw_below_drewN | apply below_drew1) | exact HB.out))) : w.heap.size ≤ gb107)); have n5_ := Aside0.mk ((by rw [hg]; exact (below_size (by repeat (first | (with_reducible first | exact HB.out | apply below_alloc | apply pw_below_drewN | apply below_drew1) | exact HB.out))) : w.heap.size ≤ gb107)); clear HO_5; clear HO_23; clear HB; have HO_5 := n0_; have HO_23 := n1_; have HB := n2_; have BK107 := n3_; have GW107 := n4_; have GE107 := n5_; clear n0_ n1_ n2_ n3_ n4_ n5_; clear hb hbox hg; have hcz17_0 : w16.cell? ⟨gb107, 0, none⟩ = some (.string (⟨#[]⟩ : ByteArray)) := (blk_cell BK107.out 0).trans rfl; have hcz17_1 : w16.cell? ⟨gb107, 1, none⟩ = some (.int .i32 0) := (blk_cell BK107.out 1).trans rfl; have hcz17_2 : w16.cell? ⟨gb107, 2, none⟩ = some (.bool false) := (blk_cell BK107.out 2).trans rfl; have hfz17_0 := blk_frozen BK107.out 0; have hfz17_1 := blk_frozen BK107.out 1; have hfz17_2 := blk_frozen BK107.out 2) | ((with_reducible refine gate_callee (f := 26) rfl ?_); refine goesL_ (some 32) rfl rfl Tryd.func26 (by kernel_rfl) rfl #[.int .u64 a0, .int .i32 ((rd_T37 t103 x25_2).f1)] rfl (by (try simp only [List.map_toArray, List.map_cons, List.map_nil]); first | done | rfl | (simp only [List.length_drop, List.length_take]; rfl)) ?_; (with_reducible refine (spec_Takes.calls k2 a0 ((rd_T37 t103 x25_2).f1) true _ A14.out).mono ?_); rintro e w' ⟨rfl, ⟨nd, rfl⟩⟩; refine ⟨_, rfl, ?_⟩))
                      go_ret
                      exact ⟨by first | rfl | (simp [errW_none, errW_some] <;> rfl) | (simp [*, errW_none, errW_some] <;> rfl), by repeat (first | (with_reducible first | exact HB.out | apply below_alloc | apply pw_below_drewN | apply below_drew1 | refine below_set ?_ GE107.out) | exact HB.out)⟩
                    · replace c15 := Bool.eq_false_iff.mpr c15
                      subst c15
                      have H1 : (if (rd_T37 t103 x25_2).f2 = true then (if (Go.bits .and .u64 a0 16777216) = 0 then (laws_encKept.l0 k2 a0 t103 t103 (t103.length : Int) (wrap64 (x25_2 + 1))) else (some false)) else (laws_encKept.l0 k2 a0 t103 t103 (t103.length : Int) (wrap64 (x25_2 + 1)))) = some r := by rw [if_neg (show ¬ (false = true) by decide)] at H; exact H
                      clear H
                      have H := H1
                      clear H1
                      obtain ⟨bq18, hbq18⟩ : ∃ b_ : Bool, b_ = ((rd_T37 t103 x25_2).f2) := ⟨_, rfl⟩
                      replace H : (if bq18 = true then (if (Go.bits .and .u64 a0 16777216) = 0 then (laws_encKept.l0 k2 a0 t103 t103 (t103.length : Int) (wrap64 (x25_2 + 1))) else (some false)) else (laws_encKept.l0 k2 a0 t103 t103 (t103.length : Int) (wrap64 (x25_2 + 1)))) = some r := by rw [← hbq18] at H; exact H
                      have Nbq18 := Aside0.mk hbq18
                      clear hbq18
                      by_cases c19 : bq18 = true
                      · subst c19
                        have H1 : (if (Go.bits .and .u64 a0 16777216) = 0 then (laws_encKept.l0 k2 a0 t103 t103 (t103.length : Int) (wrap64 (x25_2 + 1))) else (some false)) = some r := by rw [if_pos rfl] at H; exact H
                        clear H
                        have H := H1
                        clear H1
                        by_cases c20 : (Go.bits .and .u64 a0 16777216) = 0
                        · rw [if_pos c20] at H
                          have c20b0 : ((Go.bits .and .u64 a0 16777216) == 0) = true := beq_iff_eq.mpr c20
                          have c20b1 : ((Go.bits .and .u64 a0 16777216) != 0) = false := bne_eq_false_iff_eq.mpr c20
                          clear c20
                          have H' := Aside0.mk H
                          clear H
                          have p106 : 0 ≤ (x25_2 : Int) := of_decide_eq_true (by first | (with_reducible assumption) | assumption)
                          have q106 : x25_2 < (t103.length : Int) := of_decide_eq_true (by first | (with_reducible assumption) | assumption)
                          obtain ⟨ad106, e106, hx106_0, hx106_1, hx106_2⟩ := at_T37 (Kd.R_reads' HO_23.out).2.2 x25_2 p106 q106
                          (try rw [← Nbq18.out] at hx106_2)
                          cases e106
                          replace p106 := eq_true p106
                          replace q106 := eq_true q106
                          go_wp2_with (first | ((with_reducible refine gate_dst (N := 7) rfl ?_); (try (refine gate_guard (by rfl) ?_; dsimp only)); refine box_event ?hg (N := 7) ?hd (cs := #[.string (⟨#[]⟩ : ByteArray), .int .i32 0, .bool false]) (t := 37) ?hr ?_; (case hd => rfl); (case hg => rfl); (case hr => first | (go_simp; done) | (go_simp; rfl)); intro gb107 hg w21 hbox hb; have n0_ := Aside0.mk (Kd.R_below (Kd.R_elderB (by (with_reducible repeat (first | apply Kd.R_alloc | apply Kd.R_drewN | apply Kd.R_drew)); exact HO_5.out) gb107 (Nat.le_of_eq hg.symm)) hb); have n1_ := Aside0.mk (Kd.R_below (Kd.R_elderB (by (with_reducible repeat (first | apply Kd.R_alloc | apply Kd.R_drewN | apply Kd.R_drew)); exact HO_23.out) gb107 (Nat.le_of_eq hg.symm)) hb); have n2_ := Aside0.mk (below_step (by repeat (first | (with_reducible first | exact HB.out | apply below_alloc | apply pw_below_drewN | apply below_drew1) | exact HB.out)) hb); have n3_ := Aside0.mk (hbox); have n4_ := Aside0.mk ((by rw [hg]; exact (below_size (by repeat (first | (with_reducible first | exact HB.out | apply below_alloc | apply pw_below_drewN | apply below_drew1) | exact HB.out))) : w.heap.size ≤ gb107)); have n5_ := Aside0.mk ((by rw [hg]; exact (below_size (by repeat (first | (with_reducible first | exact HB.out | apply below_alloc | apply pw_below_drewN | apply below_drew1) | exact HB.out))) : w.heap.size ≤ gb107)); clear HO_5; clear HO_23; clear HB; have HO_5 := n0_; have HO_23 := n1_; have HB := n2_; have BK107 := n3_; have GW107 := n4_; have GE107 := n5_; clear n0_ n1_ n2_ n3_ n4_ n5_; clear hb hbox hg; have hcz22_0 : w21.cell? ⟨gb107, 0, none⟩ = some (.string (⟨#[]⟩ : ByteArray)) := (blk_cell BK107.out 0).trans rfl; have hcz22_1 : w21.cell? ⟨gb107, 1, none⟩ = some (.int .i32 0) := (blk_cell BK107.out 1).trans rfl; have hcz22_2 : w21.cell? ⟨gb107, 2, none⟩ = some (.bool false) := (blk_cell BK107.out 2).trans rfl; have hfz22_0 := blk_frozen BK107.out 0; have hfz22_1 := blk_frozen BK107.out 1; have hfz22_2 := blk_frozen BK107.out 2) | ((with_reducible refine gate_callee (f := 26) rfl ?_); refine goesL_ (some 32) rfl rfl Tryd.func26 (by kernel_rfl) rfl #[.int .u64 a0, .int .i32 ((rd_T37 t103 x25_2).f1)] rfl (by (try simp only [List.map_toArray, List.map_cons, List.map_nil]); first | done | rfl | (simp only [List.length_drop, List.length_take]; rfl)) ?_; (with_reducible refine (spec_Takes.calls k2 a0 ((rd_T37 t103 x25_2).f1) false _ A14.out).mono ?_); rintro e w' ⟨rfl, ⟨nd, rfl⟩⟩; refine ⟨_, rfl, ?_⟩))
                          go_roundg k2
                          case measure => have := HJ3.out; have := HK2.out; omega
                          case rel => exact ⟨(wrap64 (x25_2 + 1)), (by first | rfl | (simp; done) | (simp [*]; done) | (simp [xt_ne_nil]; done)), H', ⟨by have := HJ3.out; have := HK2.out; omega⟩, ⟨by (with_reducible repeat (first | apply Kd.R_alloc | apply Kd.R_drewN | apply Kd.R_drew)); exact Kd.R_mono (Kd.R_far (p := ⟨gb107, 2, none⟩) (Kd.R_far (p := ⟨gb107, 1, none⟩) (Kd.R_far (p := ⟨gb107, 0, none⟩) (Kd.R_mono HO_5.out (fun k_ hk => (⟨hk, hk.2⟩ : _ ∧ k_ ≠ gb107))) (fun _ hk => hk.2) (.string ((rd_T37 t103 x25_2).f0))) (fun _ hk => hk.2) (.int .i32 ((rd_T37 t103 x25_2).f1))) (fun _ hk => hk.2) (.bool true)) (fun _ hk => trivial)⟩, ⟨by (with_reducible repeat (first | apply Kd.R_alloc | apply Kd.R_drewN | apply Kd.R_drew)); exact Kd.R_mono (Kd.R_far (p := ⟨gb107, 2, none⟩) (Kd.R_far (p := ⟨gb107, 1, none⟩) (Kd.R_far (p := ⟨gb107, 0, none⟩) (Kd.R_mono HO_23.out (fun k_ hk => (⟨hk, hk.2⟩ : _ ∧ k_ ≠ gb107))) (fun _ hk => hk.2) (.string ((rd_T37 t103 x25_2).f0))) (fun _ hk => hk.2) (.int .i32 ((rd_T37 t103 x25_2).f1))) (fun _ hk => hk.2) (.bool true)) (fun _ hk => trivial)⟩, ⟨by repeat (first | (with_reducible first | exact HB.out | apply below_alloc | apply pw_below_drewN | apply below_drew1 | refine below_set ?_ GE107.out) | exact HB.out)⟩⟩
                        · rw [if_neg c20] at H
                          have c20b0 : ((Go.bits .and .u64 a0 16777216) == 0) = false := beq_eq_false_iff_ne.mpr c20
                          have c20b1 : ((Go.bits .and .u64 a0 16777216) != 0) = true := bne_iff_ne.mpr c20
                          obtain rfl := Option.some.inj H
                          have p106 : 0 ≤ (x25_2 : Int) := of_decide_eq_true (by first | (with_reducible assumption) | assumption)
                          have q106 : x25_2 < (t103.length : Int) := of_decide_eq_true (by first | (with_reducible assumption) | assumption)
                          obtain ⟨ad106, e106, hx106_0, hx106_1, hx106_2⟩ := at_T37 (Kd.R_reads' HO_23.out).2.2 x25_2 p106 q106
                          (try rw [← Nbq18.out] at hx106_2)
                          cases e106
                          replace p106 := eq_true p106
                          replace q106 := eq_true q106
                          go_wp2_with (first | ((with_reducible refine gate_dst (N := 7) rfl ?_); (try (refine gate_guard (by rfl) ?_; dsimp only)); refine box_event ?hg (N := 7) ?hd (cs := #[.string (⟨#[]⟩ : ByteArray), .int .i32 0, .bool false]) (t := 37) ?hr ?_; (case hd => rfl); (case hg => rfl); (case hr => first | (go_simp; done) | (go_simp; rfl)); intro gb107 hg w23 hbox hb; have n0_ := Aside0.mk (Kd.R_below (Kd.R_elderB (by (with_reducible repeat (first | apply Kd.R_alloc | apply Kd.R_drewN | apply Kd.R_drew)); exact HO_5.out) gb107 (Nat.le_of_eq hg.symm)) hb); have n1_ := Aside0.mk (Kd.R_below (Kd.R_elderB (by (with_reducible repeat (first | apply Kd.R_alloc | apply Kd.R_drewN | apply Kd.R_drew)); exact HO_23.out) gb107 (Nat.le_of_eq hg.symm)) hb); have n2_ := Aside0.mk (below_step (by repeat (first | (with_reducible first | exact HB.out | apply below_alloc | apply pw_below_drewN | apply below_drew1) | exact HB.out)) hb); have n3_ := Aside0.mk (hbox); have n4_ := Aside0.mk ((by rw [hg]; exact (below_size (by repeat (first | (with_reducible first | exact HB.out | apply below_alloc | apply pw_below_drewN | apply below_drew1) | exact HB.out))) : w.heap.size ≤ gb107)); have n5_ := Aside0.mk ((by rw [hg]; exact (below_size (by repeat (first | (with_reducible first | exact HB.out | apply below_alloc | apply pw_below_drewN | apply below_drew1) | exact HB.out))) : w.heap.size ≤ gb107)); clear HO_5; clear HO_23; clear HB; have HO_5 := n0_; have HO_23 := n1_; have HB := n2_; have BK107 := n3_; have GW107 := n4_; have GE107 := n5_; clear n0_ n1_ n2_ n3_ n4_ n5_; clear hb hbox hg; have hcz24_0 : w23.cell? ⟨gb107, 0, none⟩ = some (.string (⟨#[]⟩ : ByteArray)) := (blk_cell BK107.out 0).trans rfl; have hcz24_1 : w23.cell? ⟨gb107, 1, none⟩ = some (.int .i32 0) := (blk_cell BK107.out 1).trans rfl; have hcz24_2 : w23.cell? ⟨gb107, 2, none⟩ = some (.bool false) := (blk_cell BK107.out 2).trans rfl; have hfz24_0 := blk_frozen BK107.out 0; have hfz24_1 := blk_frozen BK107.out 1; have hfz24_2 := blk_frozen BK107.out 2) | ((with_reducible refine gate_callee (f := 26) rfl ?_); refine goesL_ (some 32) rfl rfl Tryd.func26 (by kernel_rfl) rfl #[.int .u64 a0, .int .i32 ((rd_T37 t103 x25_2).f1)] rfl (by (try simp only [List.map_toArray, List.map_cons, List.map_nil]); first | done | rfl | (simp only [List.length_drop, List.length_take]; rfl)) ?_; (with_reducible refine (spec_Takes.calls k2 a0 ((rd_T37 t103 x25_2).f1) false _ A14.out).mono ?_); rintro e w' ⟨rfl, ⟨nd, rfl⟩⟩; refine ⟨_, rfl, ?_⟩))
                          go_ret
                          exact ⟨by first | rfl | (simp [errW_none, errW_some] <;> rfl) | (simp [*, errW_none, errW_some] <;> rfl), by repeat (first | (with_reducible first | exact HB.out | apply below_alloc | apply pw_below_drewN | apply below_drew1 | refine below_set ?_ GE107.out) | exact HB.out)⟩
                      · replace c19 := Bool.eq_false_iff.mpr c19
                        subst c19
                        have H1 : (laws_encKept.l0 k2 a0 t103 t103 (t103.length : Int) (wrap64 (x25_2 + 1))) = some r := by rw [if_neg (show ¬ (false = true) by decide)] at H; exact H
                        clear H
                        have H := H1
                        clear H1
                        have H' := Aside0.mk H
                        clear H
                        have p106 : 0 ≤ (x25_2 : Int) := of_decide_eq_true (by first | (with_reducible assumption) | assumption)
                        have q106 : x25_2 < (t103.length : Int) := of_decide_eq_true (by first | (with_reducible assumption) | assumption)
                        obtain ⟨ad106, e106, hx106_0, hx106_1, hx106_2⟩ := at_T37 (Kd.R_reads' HO_23.out).2.2 x25_2 p106 q106
                        (try rw [← Nbq18.out] at hx106_2)
                        cases e106
                        replace p106 := eq_true p106
                        replace q106 := eq_true q106
                        go_wp2_with (first | ((with_reducible refine gate_dst (N := 7) rfl ?_); (try (refine gate_guard (by rfl) ?_; dsimp only)); refine box_event ?hg (N := 7) ?hd (cs := #[.string (⟨#[]⟩ : ByteArray), .int .i32 0, .bool false]) (t := 37) ?hr ?_; (case hd => rfl); (case hg => rfl); (case hr => first | (go_simp; done) | (go_simp; rfl)); intro gb107 hg w25 hbox hb; have n0_ := Aside0.mk (Kd.R_below (Kd.R_elderB (by (with_reducible repeat (first | apply Kd.R_alloc | apply Kd.R_drewN | apply Kd.R_drew)); exact HO_5.out) gb107 (Nat.le_of_eq hg.symm)) hb); have n1_ := Aside0.mk (Kd.R_below (Kd.R_elderB (by (with_reducible repeat (first | apply Kd.R_alloc | apply Kd.R_drewN | apply Kd.R_drew)); exact HO_23.out) gb107 (Nat.le_of_eq hg.symm)) hb); have n2_ := Aside0.mk (below_step (by repeat (first | (with_reducible first | exact HB.out | apply below_alloc | apply pw_below_drewN | apply below_drew1) | exact HB.out)) hb); have n3_ := Aside0.mk (hbox); have n4_ := Aside0.mk ((by rw [hg]; exact (below_size (by repeat (first | (with_reducible first | exact HB.out | apply below_alloc | apply pw_below_drewN | apply below_drew1) | exact HB.out))) : w.heap.size ≤ gb107)); have n5_ := Aside0.mk ((by rw [hg]; exact (below_size (by repeat (first | (with_reducible first | exact HB.out | apply below_alloc | apply pw_below_drewN | apply below_drew1) | exact HB.out))) : w.heap.size ≤ gb107)); clear HO_5; clear HO_23; clear HB; have HO_5 := n0_; have HO_23 := n1_; have HB := n2_; have BK107 := n3_; have GW107 := n4_; have GE107 := n5_; clear n0_ n1_ n2_ n3_ n4_ n5_; clear hb hbox hg; have hcz26_0 : w25.cell? ⟨gb107, 0, none⟩ = some (.string (⟨#[]⟩ : ByteArray)) := (blk_cell BK107.out 0).trans rfl; have hcz26_1 : w25.cell? ⟨gb107, 1, none⟩ = some (.int .i32 0) := (blk_cell BK107.out 1).trans rfl; have hcz26_2 : w25.cell? ⟨gb107, 2, none⟩ = some (.bool false) := (blk_cell BK107.out 2).trans rfl; have hfz26_0 := blk_frozen BK107.out 0; have hfz26_1 := blk_frozen BK107.out 1; have hfz26_2 := blk_frozen BK107.out 2) | ((with_reducible refine gate_callee (f := 26) rfl ?_); refine goesL_ (some 32) rfl rfl Tryd.func26 (by kernel_rfl) rfl #[.int .u64 a0, .int .i32 ((rd_T37 t103 x25_2).f1)] rfl (by (try simp only [List.map_toArray, List.map_cons, List.map_nil]); first | done | rfl | (simp only [List.length_drop, List.length_take]; rfl)) ?_; (with_reducible refine (spec_Takes.calls k2 a0 ((rd_T37 t103 x25_2).f1) false _ A14.out).mono ?_); rintro e w' ⟨rfl, ⟨nd, rfl⟩⟩; refine ⟨_, rfl, ?_⟩))
                        go_roundg k2
                        case measure => have := HJ3.out; have := HK2.out; omega
                        case rel => exact ⟨(wrap64 (x25_2 + 1)), (by first | rfl | (simp; done) | (simp [*]; done) | (simp [xt_ne_nil]; done)), H', ⟨by have := HJ3.out; have := HK2.out; omega⟩, ⟨by (with_reducible repeat (first | apply Kd.R_alloc | apply Kd.R_drewN | apply Kd.R_drew)); exact Kd.R_mono (Kd.R_far (p := ⟨gb107, 2, none⟩) (Kd.R_far (p := ⟨gb107, 1, none⟩) (Kd.R_far (p := ⟨gb107, 0, none⟩) (Kd.R_mono HO_5.out (fun k_ hk => (⟨hk, hk.2⟩ : _ ∧ k_ ≠ gb107))) (fun _ hk => hk.2) (.string ((rd_T37 t103 x25_2).f0))) (fun _ hk => hk.2) (.int .i32 ((rd_T37 t103 x25_2).f1))) (fun _ hk => hk.2) (.bool false)) (fun _ hk => trivial)⟩, ⟨by (with_reducible repeat (first | apply Kd.R_alloc | apply Kd.R_drewN | apply Kd.R_drew)); exact Kd.R_mono (Kd.R_far (p := ⟨gb107, 2, none⟩) (Kd.R_far (p := ⟨gb107, 1, none⟩) (Kd.R_far (p := ⟨gb107, 0, none⟩) (Kd.R_mono HO_23.out (fun k_ hk => (⟨hk, hk.2⟩ : _ ∧ k_ ≠ gb107))) (fun _ hk => hk.2) (.string ((rd_T37 t103 x25_2).f0))) (fun _ hk => hk.2) (.int .i32 ((rd_T37 t103 x25_2).f1))) (fun _ hk => hk.2) (.bool false)) (fun _ hk => trivial)⟩, ⟨by repeat (first | (with_reducible first | exact HB.out | apply below_alloc | apply pw_below_drewN | apply below_drew1 | refine below_set ?_ GE107.out) | exact HB.out)⟩⟩
                  · rw [if_neg c13] at H
                    exact absurd H (by simp)
                · rw [if_neg c12] at H
                  exact absurd H (by simp)
              · rw [if_neg c11] at H
                have c11b0 : decide (x25_2 < (t103.length : Int)) = false := decide_eq_false c11
                clear c11
                by_cases c27 : 0 < (t103.length : Int)
                · rw [if_pos c27] at H
                  have c27b0 : decide (0 < (t103.length : Int)) = true := decide_eq_true c27
                  have c27b1 : decide (0 < t103.length) = true := decide_eq_true (by omega)
                  clear c27
                  replace H := Option.bind_eq_some_iff.mp H
                  obtain ⟨t110, A280, H⟩ := H
                  replace H : (if t110 = true then (some false) else (if 0 ≤ (wrap64 ((t103.length : Int) - 1)) then (if (wrap64 ((t103.length : Int) - 1)) < (t103.length : Int) then ((spec_TakesRight.f a0 ((rd_T37 t103 (wrap64 ((t103.length : Int) - 1))).f1)).bind fun t112 => (some (!t112))) else (none)) else (none))) = some r := H
                  have A28 := Aside0.mk A280
                  clear A280
                  by_cases c29 : t110 = true
                  · subst c29
                    have H1 : (some false) = some r := by rw [if_pos rfl] at H; exact H
                    clear H
                    have H := H1
                    clear H1
                    obtain rfl := Option.some.inj H
                    have p109 : 0 ≤ (0 : Int) := (by omega)
                    have q109 : 0 < (t103.length : Int) := of_decide_eq_true (by first | (with_reducible assumption) | assumption)
                    obtain ⟨ad109, e109, hx109_0, hx109_1, hx109_2⟩ := at_T37 (Kd.R_reads' HO_5.out).2.2 0 p109 q109
                    cases e109
                    have qi109 : (0 < t103.length) = True := eq_true (by omega)
                    (try rw [show ((0 : Int)).toNat = 0 from rfl] at hx109_0)
                    (try rw [show 0 * 3 = 0 from rfl] at hx109_0)
                    (try rw [Addr.add_zero'] at hx109_0)
                    (try rw [show ((0 : Int)).toNat = 0 from rfl] at hx109_1)
                    (try rw [show 0 * 3 = 0 from rfl] at hx109_1)
                    (try rw [Addr.add_zero'] at hx109_1)
                    (try rw [show ((0 : Int)).toNat = 0 from rfl] at hx109_2)
                    (try rw [show 0 * 3 = 0 from rfl] at hx109_2)
                    (try rw [Addr.add_zero'] at hx109_2)
                    replace p109 := eq_true p109
                    replace q109 := eq_true q109
                    go_wp2_with (first | ((with_reducible refine gate_callee (f := 27) rfl ?_); refine goesL_ (some 48) rfl rfl Tryd.func27 (by kernel_rfl) rfl #[.int .u64 a0, .int .i32 ((rd_T37 t103 0).f1)] rfl (by (try simp only [List.map_toArray, List.map_cons, List.map_nil]); first | done | rfl | (simp only [List.length_drop, List.length_take]; rfl)) ?_; (with_reducible refine (spec_TakesLeft.calls a0 ((rd_T37 t103 0).f1) true _ A28.out).mono ?_); rintro e w' ⟨rfl, ⟨nd, rfl⟩⟩; refine ⟨_, rfl, ?_⟩))
                    go_ret
                    exact ⟨by first | rfl | (simp [errW_none, errW_some] <;> rfl) | (simp [*, errW_none, errW_some] <;> rfl), by repeat (first | (with_reducible first | exact HB.out | apply below_alloc | apply pw_below_drewN | apply below_drew1) | exact HB.out)⟩
                  · replace c29 := Bool.eq_false_iff.mpr c29
                    subst c29
                    have H1 : (if 0 ≤ (wrap64 ((t103.length : Int) - 1)) then (if (wrap64 ((t103.length : Int) - 1)) < (t103.length : Int) then ((spec_TakesRight.f a0 ((rd_T37 t103 (wrap64 ((t103.length : Int) - 1))).f1)).bind fun t112 => (some (!t112))) else (none)) else (none)) = some r := by rw [if_neg (show ¬ (false = true) by decide)] at H; exact H
                    clear H
                    have H := H1
                    clear H1
                    obtain ⟨ji30, hji30⟩ : ∃ j_ : Int, (wrap64 ((t103.length : Int) - 1)) = j_ := ⟨_, rfl⟩
                    replace H : (if 0 ≤ (ji30) then (if (ji30) < (t103.length : Int) then ((spec_TakesRight.f a0 ((rd_T37 t103 (ji30)).f1)).bind fun t112 => (some (!t112))) else (none)) else (none)) = some r := by first | (rw [hji30] at H; exact H) | (simp only [hji30] at H ⊢; exact H)
                    (try rw [hji30] at A28)
                    have hji30w : (IntKind.i64.wrap ((t103.length : Int) - 1)) = ji30 := (i64_w _).trans hji30
                    by_cases c31 : 0 ≤ (ji30)
                    · rw [if_pos c31] at H
                      have c31b0 : decide (0 ≤ (ji30)) = true := decide_eq_true c31
                      clear c31
                      by_cases c32 : (ji30) < (t103.length : Int)
                      · rw [if_pos c32] at H
                        have c32b0 : decide ((ji30) < (t103.length : Int)) = true := decide_eq_true c32
                        clear c32
                        replace H := Option.bind_eq_some_iff.mp H
                        obtain ⟨t112, A330, H⟩ := H
                        replace H : (some (!t112)) = some r := H
                        have A33 := Aside0.mk A330
                        clear A330
                        obtain rfl := Option.some.inj H
                        have p109 : 0 ≤ (0 : Int) := (by omega)
                        have q109 : 0 < (t103.length : Int) := of_decide_eq_true (by first | (with_reducible assumption) | assumption)
                        obtain ⟨ad109, e109, hx109_0, hx109_1, hx109_2⟩ := at_T37 (Kd.R_reads' HO_5.out).2.2 0 p109 q109
                        cases e109
                        have qi109 : (0 < t103.length) = True := eq_true (by omega)
                        (try rw [show ((0 : Int)).toNat = 0 from rfl] at hx109_0)
                        (try rw [show 0 * 3 = 0 from rfl] at hx109_0)
                        (try rw [Addr.add_zero'] at hx109_0)
                        (try rw [show ((0 : Int)).toNat = 0 from rfl] at hx109_1)
                        (try rw [show 0 * 3 = 0 from rfl] at hx109_1)
                        (try rw [Addr.add_zero'] at hx109_1)
                        (try rw [show ((0 : Int)).toNat = 0 from rfl] at hx109_2)
                        (try rw [show 0 * 3 = 0 from rfl] at hx109_2)
                        (try rw [Addr.add_zero'] at hx109_2)
                        replace p109 := eq_true p109
                        replace q109 := eq_true q109
                        go_wp2_with (first | ((with_reducible refine gate_callee (f := 27) rfl ?_); refine goesL_ (some 48) rfl rfl Tryd.func27 (by kernel_rfl) rfl #[.int .u64 a0, .int .i32 ((rd_T37 t103 0).f1)] rfl (by (try simp only [List.map_toArray, List.map_cons, List.map_nil]); first | done | rfl | (simp only [List.length_drop, List.length_take]; rfl)) ?_; (with_reducible refine (spec_TakesLeft.calls a0 ((rd_T37 t103 0).f1) false _ A28.out).mono ?_); rintro e w' ⟨rfl, ⟨nd, rfl⟩⟩; refine ⟨_, rfl, ?_⟩; have p111 : 0 ≤ ((ji30) : Int) := of_decide_eq_true (by first | (with_reducible assumption) | assumption); have q111 : (ji30) < (t103.length : Int) := of_decide_eq_true (by first | (with_reducible assumption) | assumption); obtain ⟨ad111, e111, hx111_0, hx111_1, hx111_2⟩ := at_T37 (Kd.R_reads' HO_5.out).2.2 (ji30) p111 q111; obtain rfl : ad109 = ad111 := (by injection e111); replace p111 := eq_true p111; replace q111 := eq_true q111) | (go_at_call 28; (with_reducible refine (spec_TakesRight.calls a0 ((rd_T37 t103 (ji30)).f1) t112 _ A33.out).mono ?_); rintro e w' ⟨rfl, ⟨nd, rfl⟩⟩))
                        go_ret
                        exact ⟨by first | rfl | (simp [errW_none, errW_some] <;> rfl) | (simp only [← hji30]; first | rfl | (simp [errW_none, errW_some] <;> rfl)) | (simp [*, errW_none, errW_some] <;> rfl), by repeat (first | (with_reducible first | exact HB.out | apply below_alloc | apply pw_below_drewN | apply below_drew1) | exact HB.out)⟩
                      · rw [if_neg c32] at H
                        exact absurd H (by simp)
                    · rw [if_neg c31] at H
                      exact absurd H (by simp)
                · rw [if_neg c27] at H
                  exact absurd H (by simp)

/-! ### impl_NameEncode: function 14 -/
/-- What a mask writes of a name. -/
def impl_NameEncode.f (a0 : Int) (a1 : ByteArray) : Option ByteArray := if a1.size ≤ 400000 then some (Enc.encode a0 a1) else none
set_option maxHeartbeats 400000 in
theorem impl_NameEncode.calls (a0 : Int) (a1 : ByteArray) (r : ByteArray) (w : World) (hglob : GlobE w) (h : impl_NameEncode.f a0 a1 = some r) :
    Calls Tryd.prog 14 #[.int .u64 a0, .string a1] w fun e w' => e = .returned (.string r) ∧ Below w.heap.size w w' := by
  unfold impl_NameEncode.f at h
  by_cases hc : a1.size ≤ 400000
  · rw [if_pos hc] at h
    obtain rfl := Option.some.inj h
    have HE := Lib.hid (Enc.encode_any a0 a1 w hglob.tabs hc)
    clear h hglob
    go_enter Tryd.func14, Tryd.ntmps14
    go_wp2_with (go_at_call 29; (with_reducible refine HE.out.mono ?_); rintro e w1 ⟨rfl, hb1⟩; have HB := Lib.hid hb1; clear hb1)
    go_ret
    exact ⟨rfl, HB.out⟩
  · rw [if_neg hc] at h; cases h

/-! ### laws_FnNameClean: function 3 -/
def laws_FnNameClean.j0 : Nat → Int → ByteArray → Bool → Option (Bool)
  | 0, _, _, _ => none
  | k + 1, x0, x1, x15 => if x15 = true then (some true) else ((impl_NameEncode.f x0 x1).bind fun t117 => ((laws_encKept.f k x0 t117).bind fun t118 => (if t118 = true then ((impl_NameEncode.f 32768 (⟨#[127]⟩ : ByteArray)).bind fun t119 => (some (t119.toList == ([226, 144, 161] : List UInt8)))) else (some false))))
def laws_FnNameClean.f (k : Nat) (a0 : Int) (a1 : ByteArray) : Option (Bool) := if (a1.size : Int) > 2147483647 then (some true) else ((laws_encShort.f k (([a1] : List ByteArray))).bind fun t116 => (if t116 = true then (laws_FnNameClean.j0 k a0 a1 (a0 == 1)) else (laws_FnNameClean.j0 k a0 a1 true)))
theorem laws_FnNameClean.mono_l : ∀ k, (∀ y0 y1 y2, LeO (laws_FnNameClean.j0 k y0 y1 y2) (laws_FnNameClean.j0 (k + 1) y0 y1 y2))
  | 0 => fun _ _ _ r h => by simp [laws_FnNameClean.j0] at h
  | k + 1 => by
    have ih0 := laws_FnNameClean.mono_l k
    · intro y0 y1 y2
      unfold laws_FnNameClean.j0
      repeat' first
      | (with_reducible exact ih0 _ _ _)
      | (with_reducible exact laws_encKept.mono _ _ _)
      | (with_reducible exact laws_encShort.mono _ _)
      | (with_reducible exact LeO.refl _)
      | (with_reducible exact LeO.none _)
      | (with_reducible refine LeO.ite ?_ ?_)
      | (with_reducible refine LeO.bind ?_ (fun _ => ?_))
      | exact ih0 _ _ _
      | exact laws_encKept.mono _ _ _
      | exact laws_encShort.mono _ _
      | exact LeO.none _
      | refine LeO.ite ?_ ?_
      | refine LeO.bind ?_ (fun _ => ?_)
theorem laws_FnNameClean.mono : ∀ a0 a1 k, LeO (laws_FnNameClean.f k a0 a1) (laws_FnNameClean.f (k + 1) a0 a1) := by
  intro a0 a1 k
  have ih0 := laws_FnNameClean.mono_l k
  unfold laws_FnNameClean.f
  repeat' first
      | (with_reducible exact ih0 _ _ _)
      | (with_reducible exact laws_encKept.mono _ _ _)
      | (with_reducible exact laws_encShort.mono _ _)
      | (with_reducible exact LeO.refl _)
      | (with_reducible exact LeO.none _)
      | (with_reducible refine LeO.ite ?_ ?_)
      | (with_reducible refine LeO.bind ?_ (fun _ => ?_))
      | exact ih0 _ _ _
      | exact laws_encKept.mono _ _ _
      | exact laws_encShort.mono _ _
      | exact LeO.none _
      | refine LeO.ite ?_ ?_
      | refine LeO.bind ?_ (fun _ => ?_)
set_option maxHeartbeats 8000000 in
set_option maxRecDepth 100000 in
theorem laws_FnNameClean.calls (k : Nat) (a0 : Int) (a1 : ByteArray) (r : Bool) (w : World) (hglob : GlobE w) (h : laws_FnNameClean.f k a0 a1 = some r) :
    Calls Tryd.prog 3 #[.int .u64 a0, .string a1] w fun e w' => e = .returned (.bool r) ∧ Below w.heap.size w w' := by
  have HGL := Aside0.mk hglob
  clear hglob
  have HB := Aside0.mk (Below.refl w.heap.size w)
  have H : (if (a1.size : Int) > 2147483647 then (some true) else ((laws_encShort.f k (([a1] : List ByteArray))).bind fun t116 => (if t116 = true then (laws_FnNameClean.j0 k a0 a1 (a0 == 1)) else (laws_FnNameClean.j0 k a0 a1 true)))) = some r := h
  clear h
  by_cases c3 : (a1.size : Int) > 2147483647
  · rw [if_pos c3] at H
    have c3b0 : decide (2147483647 < (a1.size : Int)) = true := decide_eq_true c3
    have c3b1 : decide (2147483647 < a1.size) = true := decide_eq_true (by omega)
    clear c3
    obtain rfl := Option.some.inj H
    go_enter Tryd.func3, Tryd.ntmps3
    go_wp2
    go_ret
    exact ⟨by first | rfl | (simp [errW_none, errW_some] <;> rfl) | (simp [*, errW_none, errW_some] <;> rfl), by repeat (first | (with_reducible first | exact HB.out | apply below_alloc | apply pw_below_drewN | apply below_drew1) | exact HB.out)⟩
  · rw [if_neg c3] at H
    have c3b0 : decide (2147483647 < (a1.size : Int)) = false := decide_eq_false c3
    have c3b1 : decide (2147483647 < a1.size) = false := decide_eq_false (by omega)
    clear c3
    have HC4 := Aside0.mk H
    clear H
    go_enter Tryd.func3, Tryd.ntmps3
    go_upto_region 3 with (fail)
    go_cut [15] (fun v15 wc => ∃ (kq : Nat) (x15_3 : Bool), v15 = .bool x15_3 ∧ Aside0 (laws_FnNameClean.j0 kq a0 a1 x15_3 = some r) ∧ Aside0 (kq ≤ k) ∧ Aside0 (Below w.heap.size w wc))
    case first =>
      have H := HC4.out
      clear HC4
      obtain ⟨y113, hy113⟩ : ∃ y_ : List ByteArray, y_ = (([a1] : List ByteArray)) := ⟨_, rfl⟩
      replace H : ((laws_encShort.f k y113).bind fun t116 => (if t116 = true then (laws_FnNameClean.j0 k a0 a1 (a0 == 1)) else (laws_FnNameClean.j0 k a0 a1 true))) = some r := by first | (rw [hy113]; with_reducible exact H) | (have H2_ := (Option.bind_some _ _).symm.trans H; rw [hy113]; with_reducible exact H2_) | (have H2_ := (Option.bind_some _ _).symm.trans H; with_reducible exact H2_) | with_reducible exact H | (rw [hy113]; exact H) | exact H
      have Ny113 := Aside0.mk hy113
      clear hy113
      replace H := Option.bind_eq_some_iff.mp H
      obtain ⟨t116, A50, H⟩ := H
      replace H : (if t116 = true then (laws_FnNameClean.j0 k a0 a1 (a0 == 1)) else (laws_FnNameClean.j0 k a0 a1 true)) = some r := H
      have A5 := Aside0.mk A50
      clear A50
      by_cases c6 : t116 = true
      · subst c6
        have H1 : (laws_FnNameClean.j0 k a0 a1 (a0 == 1)) = some r := by rw [if_pos rfl] at H; exact H
        clear H
        have H := H1
        clear H1
        have H' := Aside0.mk H
        clear H
        go_wp2_with (first | ((with_reducible refine gate_dst (N := 9) rfl ?_); refine Kd.R_lit Kd.string _ 9 ?hg (N := 9) ?hd (xs := ([a1] : List ByteArray)) (inner := [.string a1]) (ok := fun _ => True) (okp := fun _ => True) ?hr ?hp (fun _ hk => hk) trivial (Below.refl _ _) (Nat.le_refl _) (by simp) ?_; (case hd => rfl); (case hg => rfl); (case hr => first | (go_simp; done) | (go_simp; rfl)); (case hp => exact (Reps.one (show Kd.M Kd.string _ _ _ a1 [.string a1] from rfl) (Reps.none _ _))); intro v114 w7 ho8 hb hg_ hnew_; clear hg_ hnew_; (first | rw [← Ny113.out] at ho8 | (simp only [Int.reduceToNat] at ho8; rw [← Ny113.out] at ho8)); have n0_ := Aside0.mk (Kd.R_lower ho8 (below_size (by repeat (first | (with_reducible first | exact HB.out | apply below_alloc | apply pw_below_drewN | apply below_drew1) | exact HB.out)))); have n1_ := Aside0.mk (below_step (by repeat (first | (with_reducible first | exact HB.out | apply below_alloc | apply pw_below_drewN | apply below_drew1) | exact HB.out)) hb); clear HB; have HO115 := n0_; have HB := n1_; clear n0_ n1_; clear hb ho8; obtain ⟨Ao9, co9, eo9⟩ := Kd.R_slice HO115.out; subst eo9) | ((with_reducible refine gate_callee (f := 12) rfl ?_); refine goesL_ (some 10) rfl rfl Tryd.func12 (by kernel_rfl) rfl #[.slice Ao9 y113.length co9] rfl (by (try simp only [List.map_toArray, List.map_cons, List.map_nil]); first | done | rfl | (simp only [List.length_drop, List.length_take]; rfl)) ?_; (with_reducible refine (laws_encShort.calls k _ _ y113 true _ ?side1 ?side2 A5.out).mono ?_); (case side1 => repeat (first | exact (Kd.R_reads' HO115.out).2.2 | (with_reducible refine Kd.C_alloc ?_ _) | (with_reducible refine Kd.C_drewN ?_ _) | (with_reducible refine Kd.C_drew ?_))); (case side2 => exact (Kd.R_reads' HO115.out).2.1); rintro e w' ⟨rfl, ⟨nd, rfl⟩⟩; refine ⟨_, rfl, ?_⟩))
        go_meet
        case rel => exact ⟨_, ((a0 == 1)), (by first | rfl | (simp; done) | (simp [*]; done) | (simp [xt_ne_nil]; done)), H', ⟨by first | omega | exact Nat.le_refl _⟩, ⟨by repeat (first | (with_reducible first | exact HB.out | apply below_alloc | apply pw_below_drewN | apply below_drew1) | exact HB.out)⟩⟩
      · replace c6 := Bool.eq_false_iff.mpr c6
        subst c6
        have H1 : (laws_FnNameClean.j0 k a0 a1 true) = some r := by rw [if_neg (show ¬ (false = true) by decide)] at H; exact H
        clear H
        have H := H1
        clear H1
        have H' := Aside0.mk H
        clear H
        go_wp2_with (first | ((with_reducible refine gate_dst (N := 9) rfl ?_); refine Kd.R_lit Kd.string _ 9 ?hg (N := 9) ?hd (xs := ([a1] : List ByteArray)) (inner := [.string a1]) (ok := fun _ => True) (okp := fun _ => True) ?hr ?hp (fun _ hk => hk) trivial (Below.refl _ _) (Nat.le_refl _) (by simp) ?_; (case hd => rfl); (case hg => rfl); (case hr => first | (go_simp; done) | (go_simp; rfl)); (case hp => exact (Reps.one (show Kd.M Kd.string _ _ _ a1 [.string a1] from rfl) (Reps.none _ _))); intro v114 w10 ho11 hb hg_ hnew_; clear hg_ hnew_; (first | rw [← Ny113.out] at ho11 | (simp only [Int.reduceToNat] at ho11; rw [← Ny113.out] at ho11)); have n0_ := Aside0.mk (Kd.R_lower ho11 (below_size (by repeat (first | (with_reducible first | exact HB.out | apply below_alloc | apply pw_below_drewN | apply below_drew1) | exact HB.out)))); have n1_ := Aside0.mk (below_step (by repeat (first | (with_reducible first | exact HB.out | apply below_alloc | apply pw_below_drewN | apply below_drew1) | exact HB.out)) hb); clear HB; have HO115 := n0_; have HB := n1_; clear n0_ n1_; clear hb ho11; obtain ⟨Ao12, co12, eo12⟩ := Kd.R_slice HO115.out; subst eo12) | ((with_reducible refine gate_callee (f := 12) rfl ?_); refine goesL_ (some 10) rfl rfl Tryd.func12 (by kernel_rfl) rfl #[.slice Ao12 y113.length co12] rfl (by (try simp only [List.map_toArray, List.map_cons, List.map_nil]); first | done | rfl | (simp only [List.length_drop, List.length_take]; rfl)) ?_; (with_reducible refine (laws_encShort.calls k _ _ y113 false _ ?side1 ?side2 A5.out).mono ?_); (case side1 => repeat (first | exact (Kd.R_reads' HO115.out).2.2 | (with_reducible refine Kd.C_alloc ?_ _) | (with_reducible refine Kd.C_drewN ?_ _) | (with_reducible refine Kd.C_drew ?_))); (case side2 => exact (Kd.R_reads' HO115.out).2.1); rintro e w' ⟨rfl, ⟨nd, rfl⟩⟩; refine ⟨_, rfl, ?_⟩))
        go_meet
        case rel => exact ⟨_, (true), (by first | rfl | (simp; done) | (simp [*]; done) | (simp [xt_ne_nil]; done)), H', ⟨by first | omega | exact Nat.le_refl _⟩, ⟨by repeat (first | (with_reducible first | exact HB.out | apply below_alloc | apply pw_below_drewN | apply below_drew1) | exact HB.out)⟩⟩
    case rest =>
      clear HC4
      try clear c1
      try clear p2
      try clear c3
      try clear c3b0
      try clear c3b1
      try clear c6
      try clear c12
      obtain ⟨kq, x15_3, rfl, HA, HJ3, HB⟩ := hcut
      cases kq with
      | zero => exact absurd HA.out (by simp [laws_FnNameClean.j0])
      | succ kj3 =>
        have H := HA.out
        clear HA
        simp only [laws_FnNameClean.j0] at H
        by_cases c13 : x15_3 = true
        · subst c13
          have H1 : (some true) = some r := by rw [if_pos rfl] at H; exact H
          clear H
          have H := H1
          clear H1
          obtain rfl := Option.some.inj H
          go_wp2
          go_ret
          exact ⟨by first | rfl | (simp [errW_none, errW_some] <;> rfl) | (simp [*, errW_none, errW_some] <;> rfl), by repeat (first | (with_reducible first | exact HB.out | apply below_alloc | apply pw_below_drewN | apply below_drew1) | exact HB.out)⟩
        · replace c13 := Bool.eq_false_iff.mpr c13
          subst c13
          have H1 : ((impl_NameEncode.f a0 a1).bind fun t117 => ((laws_encKept.f kj3 a0 t117).bind fun t118 => (if t118 = true then ((impl_NameEncode.f 32768 (⟨#[127]⟩ : ByteArray)).bind fun t119 => (some (t119.toList == ([226, 144, 161] : List UInt8)))) else (some false)))) = some r := by rw [if_neg (show ¬ (false = true) by decide)] at H; exact H
          clear H
          have H := H1
          clear H1
          replace H := Option.bind_eq_some_iff.mp H
          obtain ⟨t117, A140, H⟩ := H
          replace H : ((laws_encKept.f kj3 a0 t117).bind fun t118 => (if t118 = true then ((impl_NameEncode.f 32768 (⟨#[127]⟩ : ByteArray)).bind fun t119 => (some (t119.toList == ([226, 144, 161] : List UInt8)))) else (some false))) = some r := H
          have A14 := Aside0.mk A140
          clear A140
          replace H := Option.bind_eq_some_iff.mp H
          obtain ⟨t118, A150, H⟩ := H
          replace H : (if t118 = true then ((impl_NameEncode.f 32768 (⟨#[127]⟩ : ByteArray)).bind fun t119 => (some (t119.toList == ([226, 144, 161] : List UInt8)))) else (some false)) = some r := H
          have A15 := Aside0.mk A150
          clear A150
          by_cases c16 : t118 = true
          · subst c16
            have H1 : ((impl_NameEncode.f 32768 (⟨#[127]⟩ : ByteArray)).bind fun t119 => (some (t119.toList == ([226, 144, 161] : List UInt8)))) = some r := by rw [if_pos rfl] at H; exact H
            clear H
            have H := H1
            clear H1
            replace H := Option.bind_eq_some_iff.mp H
            obtain ⟨t119, A170, H⟩ := H
            replace H : (some (t119.toList == ([226, 144, 161] : List UInt8))) = some r := H
            have A17 := Aside0.mk A170
            clear A170
            obtain rfl := Option.some.inj H
            go_wp2_with (first | ((with_reducible refine gate_callee (f := 14) rfl ?_); refine goesL_ (some 19) rfl rfl Tryd.func14 (by kernel_rfl) rfl #[.int .u64 a0, .string a1] rfl (by (try simp only [List.map_toArray, List.map_cons, List.map_nil]); first | done | rfl | (simp only [List.length_drop, List.length_take]; rfl)) ?_; (with_reducible refine (impl_NameEncode.calls a0 a1 t117 _ ?glob A14.out).mono ?_); (case glob => exact GlobE.below HGL.out (by repeat (first | (with_reducible first | exact HB.out | apply below_alloc | apply pw_below_drewN | apply below_drew1) | exact HB.out))); rintro e w18 ⟨rfl, hb⟩; refine ⟨_, rfl, ?_⟩; have n0_ := Aside0.mk (below_step (by repeat (first | (with_reducible first | exact HB.out | apply below_alloc | apply pw_below_drewN | apply below_drew1) | exact HB.out)) hb); clear HB; have HB := n0_; clear n0_; (try clear hb); (try clear hb2); (try clear hk); (try clear hi)) | ((with_reducible refine gate_callee (f := 13) rfl ?_); refine goesL_ (some 20) rfl rfl Tryd.func13 (by kernel_rfl) rfl #[.int .u64 a0, .string t117] rfl (by (try simp only [List.map_toArray, List.map_cons, List.map_nil]); first | done | rfl | (simp only [List.length_drop, List.length_take]; rfl)) ?_; (with_reducible refine (laws_encKept.calls kj3 a0 t117 true _ A15.out).mono ?_); rintro e w19 ⟨rfl, hb⟩; refine ⟨_, rfl, ?_⟩; have n0_ := Aside0.mk (below_step (by repeat (first | (with_reducible first | exact HB.out | apply below_alloc | apply pw_below_drewN | apply below_drew1) | exact HB.out)) hb); clear HB; have HB := n0_; clear n0_; (try clear hb); (try clear hb2); (try clear hk); (try clear hi)) | (go_at_call 14; (with_reducible refine (impl_NameEncode.calls 32768 (⟨#[127]⟩ : ByteArray) t119 _ ?glob A17.out).mono ?_); (case glob => exact GlobE.below HGL.out (by repeat (first | (with_reducible first | exact HB.out | apply below_alloc | apply pw_below_drewN | apply below_drew1) | exact HB.out))); rintro e w20 ⟨rfl, hb⟩; have n0_ := Aside0.mk (below_step (by repeat (first | (with_reducible first | exact HB.out | apply below_alloc | apply pw_below_drewN | apply below_drew1) | exact HB.out)) hb); clear HB; have HB := n0_; clear n0_; (try clear hb); (try clear hb2); (try clear hk); (try clear hi)))
            go_ret
            exact ⟨by first | rfl | (simp [errW_none, errW_some] <;> rfl) | (simp [*, errW_none, errW_some] <;> rfl), by repeat (first | (with_reducible first | exact HB.out | apply below_alloc | apply pw_below_drewN | apply below_drew1) | exact HB.out)⟩
          · replace c16 := Bool.eq_false_iff.mpr c16
            subst c16
            have H1 : (some false) = some r := by rw [if_neg (show ¬ (false = true) by decide)] at H; exact H
            clear H
            have H := H1
            clear H1
            obtain rfl := Option.some.inj H
            go_wp2_with (first | ((with_reducible refine gate_callee (f := 14) rfl ?_); refine goesL_ (some 19) rfl rfl Tryd.func14 (by kernel_rfl) rfl #[.int .u64 a0, .string a1] rfl (by (try simp only [List.map_toArray, List.map_cons, List.map_nil]); first | done | rfl | (simp only [List.length_drop, List.length_take]; rfl)) ?_; (with_reducible refine (impl_NameEncode.calls a0 a1 t117 _ ?glob A14.out).mono ?_); (case glob => exact GlobE.below HGL.out (by repeat (first | (with_reducible first | exact HB.out | apply below_alloc | apply pw_below_drewN | apply below_drew1) | exact HB.out))); rintro e w21 ⟨rfl, hb⟩; refine ⟨_, rfl, ?_⟩; have n0_ := Aside0.mk (below_step (by repeat (first | (with_reducible first | exact HB.out | apply below_alloc | apply pw_below_drewN | apply below_drew1) | exact HB.out)) hb); clear HB; have HB := n0_; clear n0_; (try clear hb); (try clear hb2); (try clear hk); (try clear hi)) | ((with_reducible refine gate_callee (f := 13) rfl ?_); refine goesL_ (some 20) rfl rfl Tryd.func13 (by kernel_rfl) rfl #[.int .u64 a0, .string t117] rfl (by (try simp only [List.map_toArray, List.map_cons, List.map_nil]); first | done | rfl | (simp only [List.length_drop, List.length_take]; rfl)) ?_; (with_reducible refine (laws_encKept.calls kj3 a0 t117 false _ A15.out).mono ?_); rintro e w22 ⟨rfl, hb⟩; refine ⟨_, rfl, ?_⟩; have n0_ := Aside0.mk (below_step (by repeat (first | (with_reducible first | exact HB.out | apply below_alloc | apply pw_below_drewN | apply below_drew1) | exact HB.out)) hb); clear HB; have HB := n0_; clear n0_; (try clear hb); (try clear hb2); (try clear hk); (try clear hi)))
            go_ret
            exact ⟨by first | rfl | (simp [errW_none, errW_some] <;> rfl) | (simp [*, errW_none, errW_some] <;> rfl), by repeat (first | (with_reducible first | exact HB.out | apply below_alloc | apply pw_below_drewN | apply below_drew1) | exact HB.out)⟩

/-- THE ONE PURE STATEMENT of laws_FnNameClean: yours. -/
def laws_FnNameClean.Pure : Prop := ∀ (a0 : Int) (a1 : ByteArray), (Lit.int .u64 a0).wf = true → a1.size ≤ 140737488351232 → ∃ k, laws_FnNameClean.f k a0 a1 = some true
theorem laws_FnNameClean.walk (P : laws_FnNameClean.Pure) (a0 : Int) (a1 : ByteArray) (w : World) (hglob : GlobE w) (w0 : (Lit.int .u64 a0).wf = true) (w1 : a1.size ≤ 140737488351232) :
    Calls Tryd.prog 3 #[.int .u64 a0, .string a1] w fun e w' => e = .returned (.bool true) ∧ Below w.heap.size w w' := by
  obtain ⟨k, h⟩ := P a0 a1 w0 w1
  refine (laws_FnNameClean.calls k a0 a1 true w hglob h).mono ?_
  rintro e w' ⟨rfl, hd⟩
  exact ⟨rfl, hd⟩

end Go.Proofs.YtlgoghonnnobfaaDoor.PFnNameClean

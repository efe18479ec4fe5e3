-- Written by a program of this session's (over the kit's print), with contracts proved by hand among what it calls.
import Derived.Test.YtecfojgamdilnaaPFnEscapeAllx0
namespace Go.Proofs.Ytecfojgamdilnaa.PFnEscapeAll
open Go.RowKit Go.Proofs.YtecfojgamdilnaaW.PrintWords Go.Proofs.YtecfojgamdilnaaW.PrintLast Go.Proofs.YtecfojgamdilnaaW.PrintMore
attribute [local go_sem] max2_int min2_int max_two min_two max_three min_three max_four min_four   -- for this text's walks alone
set_option linter.unusedVariables false
set_option linter.unusedSimpArgs false

/-! ### spec_EscapeAll: function 19 -/
mutual
def spec_EscapeAll.l0 : Nat → ByteArray → List Int → Int → Option (ByteArray)
  | 0, _, _, _ => none
  | k + 1, x0, x3, x4 => if x4 < (x0.size : Int) then (if 0 ≤ x4 then (if (bt x0 x4) ≥ 97 then (spec_EscapeAll.j1 k x0 x3 x4 (bt x0 x4) (decide ((bt x0 x4) ≤ 122))) else (spec_EscapeAll.j1 k x0 x3 x4 (bt x0 x4) false)) else (none)) else (some (strOfNums x3))
def spec_EscapeAll.j1 : Nat → ByteArray → List Int → Int → Int → Bool → Option (ByteArray)
  | 0, _, _, _, _, _ => none
  | k + 1, x0, x3, x4, x5, x25 => if x25 = true then (if x3.length < 140737488355328 then (spec_EscapeAll.l0 k x0 (x3 ++ [x5]) (wrap64 (x4 + 1))) else (none)) else (if x5 ≥ 65 then (spec_EscapeAll.j2 k x0 x3 x4 x5 (decide (x5 ≤ 90))) else (spec_EscapeAll.j2 k x0 x3 x4 x5 false))
def spec_EscapeAll.j2 : Nat → ByteArray → List Int → Int → Int → Bool → Option (ByteArray)
  | 0, _, _, _, _, _ => none
  | k + 1, x0, x3, x4, x5, x25 => if x25 = true then (if x3.length < 140737488355328 then (spec_EscapeAll.l0 k x0 (x3 ++ [x5]) (wrap64 (x4 + 1))) else (none)) else (if x5 ≥ 48 then (spec_EscapeAll.j3 k x0 x3 x4 x5 (decide (x5 ≤ 57))) else (spec_EscapeAll.j3 k x0 x3 x4 x5 false))
def spec_EscapeAll.j3 : Nat → ByteArray → List Int → Int → Int → Bool → Option (ByteArray)
  | 0, _, _, _, _, _ => none
  | k + 1, x0, x3, x4, x5, x25 => if x25 = true then (if x3.length < 140737488355328 then (spec_EscapeAll.l0 k x0 (x3 ++ [x5]) (wrap64 (x4 + 1))) else (none)) else (if x5 = 47 then (if x3.length < 140737488355328 then (spec_EscapeAll.l0 k x0 (x3 ++ [x5]) (wrap64 (x4 + 1))) else (none)) else (if x5 = 45 then (if x3.length < 140737488355328 then (spec_EscapeAll.l0 k x0 (x3 ++ [x5]) (wrap64 (x4 + 1))) else (none)) else (if x5 = 46 then (if x3.length < 140737488355328 then (spec_EscapeAll.l0 k x0 (x3 ++ [x5]) (wrap64 (x4 + 1))) else (none)) else (if x5 = 95 then (if x3.length < 140737488355328 then (spec_EscapeAll.l0 k x0 (x3 ++ [x5]) (wrap64 (x4 + 1))) else (none)) else (if x5 = 126 then (if x3.length < 140737488355328 then (spec_EscapeAll.l0 k x0 (x3 ++ [x5]) (wrap64 (x4 + 1))) else (none)) else (if 0 ≤ (x5 / 16) then (if (x5 / 16) < 16 then (if 0 ≤ (Go.bits .and .u8 x5 15) then (if (Go.bits .and .u8 x5 15) < 16 then ((some (([37, bt (⟨#[48, 49, 50, 51, 52, 53, 54, 55, 56, 57, 65, 66, 67, 68, 69, 70]⟩ : ByteArray) (x5 / 16), bt (⟨#[48, 49, 50, 51, 52, 53, 54, 55, 56, 57, 65, 66, 67, 68, 69, 70]⟩ : ByteArray) (Go.bits .and .u8 x5 15)] : List Int) : List Int)).bind fun y129 => (if x3.length + y129.length < 140737488355328 then (spec_EscapeAll.l0 k x0 (x3 ++ y129) (wrap64 (x4 + 1))) else (none))) else (none)) else (none)) else (none)) else (none)))))))
end
def spec_EscapeAll.f (k : Nat) (a0 : ByteArray) : Option (ByteArray) := spec_EscapeAll.l0 k a0 (([] : List Int)) 0
theorem spec_EscapeAll.mono_l : ∀ k, (∀ y0 y1 y2, LeO (spec_EscapeAll.l0 k y0 y1 y2) (spec_EscapeAll.l0 (k + 1) y0 y1 y2)) ∧ (∀ y0 y1 y2 y3 y4, LeO (spec_EscapeAll.j1 k y0 y1 y2 y3 y4) (spec_EscapeAll.j1 (k + 1) y0 y1 y2 y3 y4)) ∧ (∀ y0 y1 y2 y3 y4, LeO (spec_EscapeAll.j2 k y0 y1 y2 y3 y4) (spec_EscapeAll.j2 (k + 1) y0 y1 y2 y3 y4)) ∧ (∀ y0 y1 y2 y3 y4, LeO (spec_EscapeAll.j3 k y0 y1 y2 y3 y4) (spec_EscapeAll.j3 (k + 1) y0 y1 y2 y3 y4))
  | 0 => ⟨fun _ _ _ r h => by simp [spec_EscapeAll.l0] at h, fun _ _ _ _ _ r h => by simp [spec_EscapeAll.j1] at h, fun _ _ _ _ _ r h => by simp [spec_EscapeAll.j2] at h, fun _ _ _ _ _ r h => by simp [spec_EscapeAll.j3] at h⟩
  | k + 1 => by
    obtain ⟨ih0, ih1, ih2, ih3⟩ := spec_EscapeAll.mono_l k
    refine ⟨?_, ?_, ?_, ?_⟩
    · intro y0 y1 y2
      unfold spec_EscapeAll.l0
      repeat' first
      | (with_reducible exact ih0 _ _ _)
      | (with_reducible exact ih1 _ _ _ _ _)
      | (with_reducible exact ih2 _ _ _ _ _)
      | (with_reducible exact ih3 _ _ _ _ _)
      | (with_reducible exact LeO.refl _)
      | (with_reducible exact LeO.none _)
      | (with_reducible refine LeO.ite ?_ ?_)
      | (with_reducible refine LeO.bind ?_ (fun _ => ?_))
      | exact ih0 _ _ _
      | exact ih1 _ _ _ _ _
      | exact ih2 _ _ _ _ _
      | exact ih3 _ _ _ _ _
      | exact LeO.none _
      | refine LeO.ite ?_ ?_
      | refine LeO.bind ?_ (fun _ => ?_)
    · intro y0 y1 y2 y3 y4
      unfold spec_EscapeAll.j1
      repeat' first
      | (with_reducible exact ih0 _ _ _)
      | (with_reducible exact ih1 _ _ _ _ _)
      | (with_reducible exact ih2 _ _ _ _ _)
      | (with_reducible exact ih3 _ _ _ _ _)
      | (with_reducible exact LeO.refl _)
      | (with_reducible exact LeO.none _)
      | (with_reducible refine LeO.ite ?_ ?_)
      | (with_reducible refine LeO.bind ?_ (fun _ => ?_))
      | exact ih0 _ _ _
      | exact ih1 _ _ _ _ _
      | exact ih2 _ _ _ _ _
      | exact ih3 _ _ _ _ _
      | exact LeO.none _
      | refine LeO.ite ?_ ?_
      | refine LeO.bind ?_ (fun _ => ?_)
    · intro y0 y1 y2 y3 y4
      unfold spec_EscapeAll.j2
      repeat' first
      | (with_reducible exact ih0 _ _ _)
      | (with_reducible exact ih1 _ _ _ _ _)
      | (with_reducible exact ih2 _ _ _ _ _)
      | (with_reducible exact ih3 _ _ _ _ _)
      | (with_reducible exact LeO.refl _)
      | (with_reducible exact LeO.none _)
      | (with_reducible refine LeO.ite ?_ ?_)
      | (with_reducible refine LeO.bind ?_ (fun _ => ?_))
      | exact ih0 _ _ _
      | exact ih1 _ _ _ _ _
      | exact ih2 _ _ _ _ _
      | exact ih3 _ _ _ _ _
      | exact LeO.none _
      | refine LeO.ite ?_ ?_
      | refine LeO.bind ?_ (fun _ => ?_)
    · intro y0 y1 y2 y3 y4
      unfold spec_EscapeAll.j3
      repeat' first
      | (with_reducible exact ih0 _ _ _)
      | (with_reducible exact ih1 _ _ _ _ _)
      | (with_reducible exact ih2 _ _ _ _ _)
      | (with_reducible exact ih3 _ _ _ _ _)
      | (with_reducible exact LeO.refl _)
      | (with_reducible exact LeO.none _)
      | (with_reducible refine LeO.ite ?_ ?_)
      | (with_reducible refine LeO.bind ?_ (fun _ => ?_))
      | exact ih0 _ _ _
      | exact ih1 _ _ _ _ _
      | exact ih2 _ _ _ _ _
      | exact ih3 _ _ _ _ _
      | exact LeO.none _
      | refine LeO.ite ?_ ?_
      | refine LeO.bind ?_ (fun _ => ?_)
theorem spec_EscapeAll.mono : ∀ a0 k, LeO (spec_EscapeAll.f k a0) (spec_EscapeAll.f (k + 1) a0) := by
  intro a0 k
  obtain ⟨ih0, ih1, ih2, ih3⟩ := spec_EscapeAll.mono_l k
  unfold spec_EscapeAll.f
  repeat' first
      | (with_reducible exact ih0 _ _ _)
      | (with_reducible exact ih1 _ _ _ _ _)
      | (with_reducible exact ih2 _ _ _ _ _)
      | (with_reducible exact ih3 _ _ _ _ _)
      | (with_reducible exact LeO.refl _)
      | (with_reducible exact LeO.none _)
      | (with_reducible refine LeO.ite ?_ ?_)
      | (with_reducible refine LeO.bind ?_ (fun _ => ?_))
      | exact ih0 _ _ _
      | exact ih1 _ _ _ _ _
      | exact ih2 _ _ _ _ _
      | exact ih3 _ _ _ _ _
      | exact LeO.none _
      | refine LeO.ite ?_ ?_
      | refine LeO.bind ?_ (fun _ => ?_)
def spec_EscapeAll.T6 : Bool × List (List Nat × List Nat) := (true, [([], []), ([], []), ([1], [1]), ([2], [2]), ([], []), ([4], [4]), ([5], [5]), ([3, 6], [3, 6]), ([0, 7], [0, 7]), ([8, 8, 0, 1, 2, 3, 4, 5, 6, 7, 8], [0, 8])])
def spec_EscapeAll.B6 : List Nat := [0, 0, 2, 6, 0, 16, 48, 126, 255, 511]
theorem spec_EscapeAll.tab6 : rtab .any (opsOf Try.f19 6) = spec_EscapeAll.T6 := by kernel_rfl
theorem spec_EscapeAll.bits6 : waitsOk spec_EscapeAll.T6.2 spec_EscapeAll.B6 = true := by kernel_rfl
set_option maxHeartbeats 8000000 in
set_option maxRecDepth 100000 in
theorem spec_EscapeAll.calls (k : Nat) (a0 : ByteArray) (r : ByteArray) (w : World) (h : spec_EscapeAll.f k a0 = some r) :
    Calls Try.prog 19 #[.string a0] w fun e w' => e = .returned (.string r) ∧ Below w.heap.size w w' := by
  have HB := Aside0.mk (Below.refl w.heap.size w)
  have H : (spec_EscapeAll.l0 k a0 (([] : List Int)) 0) = some r := h
  clear h
  obtain ⟨y102, hy102⟩ : ∃ y_ : List Int, y_ = (([] : List Int)) := ⟨_, rfl⟩
  replace H : (spec_EscapeAll.l0 k a0 y102 0) = some r := by first | (rw [hy102]; with_reducible exact H) | (have H2_ := (Option.bind_some _ _).symm.trans H; rw [hy102]; with_reducible exact H2_) | (have H2_ := (Option.bind_some _ _).symm.trans H; with_reducible exact H2_) | with_reducible exact H | (rw [hy102]; exact H) | exact H
  have Ny102 := Aside0.mk hy102
  clear hy102
  have H' := Aside0.mk H
  clear H
  go_enter Try.func19, Try.ntmps19
  go_wp2_with (first | ((with_reducible refine gate_dst (N := 6) rfl ?_); refine Kd.R_lit (Kd.int .u8) _ 5 ?hg (N := 6) ?hd (xs := ([] : List Int)) (inner := []) (ok := fun _ => True) (okp := fun _ => True) ?hr ?hp (fun _ hk => hk) trivial (Below.refl _ _) (Nat.le_refl _) (by simp) ?_; (case hd => rfl); (case hg => rfl); (case hr => first | (go_simp; done) | (go_simp; rfl)); (case hp => exact (Reps.none _ _)); intro v103 w2 ho3 hb hg_ hnew_; clear hg_ hnew_; (first | rw [← Ny102.out] at ho3 | (simp only [Int.reduceToNat] at ho3; rw [← Ny102.out] at ho3)); have n0_ := Aside0.mk (Kd.R_lower ho3 (below_size (by repeat (first | (with_reducible first | exact HB.out | apply below_alloc | apply pw_below_drewN | apply below_drew1) | exact HB.out)))); have n1_ := Aside0.mk (below_step (by repeat (first | (with_reducible first | exact HB.out | apply below_alloc | apply pw_below_drewN | apply below_drew1) | exact HB.out)) hb); clear HB; have HO104 := n0_; have HB := n1_; clear n0_ n1_; clear hb ho3))
  go_loopg [3, 4] k (fun kq v3 v4 w' => ∃ (x3_1 : List Int) (x4_1 : Int), v4 = .int .i64 x4_1 ∧ Aside0 (spec_EscapeAll.l0 kq a0 x3_1 x4_1 = some r) ∧ Aside0 (kq ≤ k) ∧ Aside0 (Kd.R (Kd.int .u8) 5 w' w.heap.size (fun _ => True) v3 x3_1) ∧ Aside0 (Below w.heap.size w w'))
  case atStart => exact ⟨(y102), (0), (by first | rfl | (simp; done) | (simp [*]; done) | (simp [xt_ne_nil]; done)), H', ⟨Nat.le_refl _⟩, ⟨by (with_reducible repeat (first | apply Kd.R_alloc | apply Kd.R_drewN | apply Kd.R_drew)); exact HO104.out⟩, ⟨by repeat (first | (with_reducible first | exact HB.out | apply below_alloc | apply pw_below_drewN | apply below_drew1) | exact HB.out)⟩⟩
  case round =>
    clear H'
    try clear c1
    try clear p2
    obtain ⟨x3_1, x4_1, rfl, HA, HK1, HO_3, HB⟩ := hrel
    cases gk with
    | zero => exact absurd HA.out (by simp [spec_EscapeAll.l0])
    | succ k1 =>
      have H := HA.out
      clear HA
      simp only [spec_EscapeAll.l0] at H
      by_cases c4 : x4_1 < (a0.size : Int)
      · rw [if_pos c4] at H
        have c4b0 : decide (x4_1 < (a0.size : Int)) = true := decide_eq_true c4
        clear c4
        by_cases c5 : 0 ≤ x4_1
        · rw [if_pos c5] at H
          have c5b0 : decide (0 ≤ x4_1) = true := decide_eq_true c5
          clear c5
          have HC7 := Aside0.mk H
          clear H
          have p6 : 0 ≤ (x4_1 : Int) := of_decide_eq_true (by first | (with_reducible assumption) | assumption)
          have q6 : x4_1 < (a0.size : Int) := of_decide_eq_true (by first | (with_reducible assumption) | assumption)
          have hx6 := bt_at a0 x4_1
          replace p6 := eq_true p6
          replace q6 := eq_true q6
          go_upto_region 7 with (fail)
          go_cut [25] (fun v25 wc => ∃ (kq : Nat) (x25_6 : Bool), v25 = .bool x25_6 ∧ Aside0 (spec_EscapeAll.j1 kq a0 x3_1 x4_1 (bt a0 x4_1) x25_6 = some r) ∧ Aside0 (kq ≤ k1) ∧ Aside0 (Kd.R (Kd.int .u8) 5 wc w.heap.size (fun _ => True) u3 x3_1) ∧ Aside0 (Below w.heap.size w wc))
          case first =>
            have H := HC7.out
            clear HC7
            by_cases c8 : (bt a0 x4_1) ≥ 97
            · rw [if_pos c8] at H
              have c8b0 : decide (97 ≤ (bt a0 x4_1)) = true := decide_eq_true c8
              clear c8
              (first | rw [c8b0] | (simp only [i64_w, i32_w]; rw [c8b0]) | skip)
              have H' := Aside0.mk H
              clear H
              go_wp2
              go_meet
              case rel => exact ⟨_, (decide ((bt a0 x4_1) ≤ 122)), (by first | rfl | (simp; done) | (simp [*]; done) | (simp [xt_ne_nil]; done)), H', ⟨by have := HK1.out; first | omega | exact Nat.le_refl _⟩, ⟨by (with_reducible repeat (first | apply Kd.R_alloc | apply Kd.R_drewN | apply Kd.R_drew)); exact HO_3.out⟩, ⟨by repeat (first | (with_reducible first | exact HB.out | apply below_alloc | apply pw_below_drewN | apply below_drew1) | exact HB.out)⟩⟩
            · rw [if_neg c8] at H
              have c8b0 : decide (97 ≤ (bt a0 x4_1)) = false := decide_eq_false c8
              clear c8
              (first | rw [c8b0] | (simp only [i64_w, i32_w]; rw [c8b0]) | skip)
              have H' := Aside0.mk H
              clear H
              go_wp2
              go_meet
              case rel => exact ⟨_, (false), (by first | rfl | (simp; done) | (simp [*]; done) | (simp [xt_ne_nil]; done)), H', ⟨by have := HK1.out; first | omega | exact Nat.le_refl _⟩, ⟨by (with_reducible repeat (first | apply Kd.R_alloc | apply Kd.R_drewN | apply Kd.R_drew)); exact HO_3.out⟩, ⟨by repeat (first | (with_reducible first | exact HB.out | apply below_alloc | apply pw_below_drewN | apply below_drew1) | exact HB.out)⟩⟩
          case rest =>
            clear HC7
            try clear c1
            try clear p2
            try clear c4
            try clear c4b0
            try clear c5
            try clear c5b0
            try clear p6
            try clear q6
            try clear hx6
            try clear c8
            try clear c8b0
            try clear p2
            try clear p6
            try clear q6
            obtain ⟨kq, x25_6, rfl, HA, HJ6, HO_3, HB⟩ := hcut
            cases kq with
            | zero => exact absurd HA.out (by simp [spec_EscapeAll.j1])
            | succ kj6 =>
              have H := HA.out
              clear HA
              simp only [spec_EscapeAll.j1] at H
              by_cases c9 : x25_6 = true
              · subst c9
                have H1 : (if x3_1.length < 140737488355328 then (spec_EscapeAll.l0 kj6 a0 (x3_1 ++ [(bt a0 x4_1)]) (wrap64 (x4_1 + 1))) else (none)) = some r := by rw [if_pos rfl] at H; exact H
                clear H
                have H := H1
                clear H1
                by_cases c10 : x3_1.length < 140737488355328
                · rw [if_pos c10] at H
                  have LMc10 := Aside0.mk c10
                  clear c10
                  obtain ⟨y105, hy105⟩ : ∃ y_ : List Int, y_ = (x3_1 ++ [(bt a0 x4_1)]) := ⟨_, rfl⟩
                  replace H : (spec_EscapeAll.l0 kj6 a0 y105 (wrap64 (x4_1 + 1))) = some r := by first | (rw [hy105]; with_reducible exact H) | (have H2_ := (Option.bind_some _ _).symm.trans H; rw [hy105]; with_reducible exact H2_) | (have H2_ := (Option.bind_some _ _).symm.trans H; with_reducible exact H2_) | with_reducible exact H | (rw [hy105]; exact H) | exact H
                  have Ny105 := Aside0.mk hy105
                  clear hy105
                  have H' := Aside0.mk H
                  clear H
                  go_wp2_with (first | ((with_reducible refine gate_builtin (b := .append) (xs := #[.tmp 54, .tmp 56]) rfl ?_); at_builtin; refine Kd.R_append (Kd.int .u8) (w0 := w) w.heap.size rfl (.tmp 54) (.tmp 56) 30 5 (.int .u8 0) 1 rfl Try.underlying30 info5 rfl (by decide) (by omega) u3 x3_1 (bt a0 x4_1) [.int .u8 (bt a0 x4_1)] (fun _ => True) (fun _ => False) rfl rfl ?aP (fun _ hk => hk.elim) ?aF ?aO ?aB ?aS ?aL ?_; (case aP => exact rfl); (case aB => exact (by repeat (first | (with_reducible first | exact HB.out | apply below_alloc | apply pw_below_drewN | apply below_drew1) | exact HB.out))); (case aF => exact (fun _ _ => trivial)); (case aO => exact (by (with_reducible repeat (first | apply Kd.R_alloc | apply Kd.R_drewN | apply Kd.R_drew)); exact HO_3.out)); (case aS => exact (below_size (by repeat (first | (with_reducible first | exact HB.out | apply below_alloc | apply pw_below_drewN | apply below_drew1) | exact HB.out)))); (case aL => have := LMc10.out; omega); intro v106 w11 ho hb hg hat; rw [← Ny105.out] at ho; have n0_ := Aside0.mk (hb); have n1_ := Aside0.mk (ho); clear HB; clear HO_3; have HB := n0_; have HO107 := n1_; clear n0_ n1_; clear ho hb hg hat))
                  go_roundg kj6
                  case measure => have := HK1.out; have := HJ6.out; omega
                  case rel => exact ⟨(y105), (wrap64 (x4_1 + 1)), (by first | rfl | (simp; done) | (simp [*]; done) | (simp [xt_ne_nil]; done)), H', ⟨by have := HK1.out; have := HJ6.out; omega⟩, ⟨by (with_reducible repeat (first | apply Kd.R_alloc | apply Kd.R_drewN | apply Kd.R_drew)); exact HO107.out⟩, ⟨by repeat (first | (with_reducible first | exact HB.out | apply below_alloc | apply pw_below_drewN | apply below_drew1) | exact HB.out)⟩⟩
                · rw [if_neg c10] at H
                  exact absurd H (by simp)
              · replace c9 := Bool.eq_false_iff.mpr c9
                subst c9
                have H1 : (if (bt a0 x4_1) ≥ 65 then (spec_EscapeAll.j2 kj6 a0 x3_1 x4_1 (bt a0 x4_1) (decide ((bt a0 x4_1) ≤ 90))) else (spec_EscapeAll.j2 kj6 a0 x3_1 x4_1 (bt a0 x4_1) false)) = some r := by rw [if_neg (show ¬ (false = true) by decide)] at H; exact H
                clear H
                have H := H1
                clear H1
                have HC12 := Aside0.mk H
                clear H
                go_upto_region 8 with (fail)
                go_cut [25] (fun v25 wc => ∃ (kq : Nat) (x25_11 : Bool), v25 = .bool x25_11 ∧ Aside0 (spec_EscapeAll.j2 kq a0 x3_1 x4_1 (bt a0 x4_1) x25_11 = some r) ∧ Aside0 (kq ≤ kj6) ∧ Aside0 (Kd.R (Kd.int .u8) 5 wc w.heap.size (fun _ => True) u3 x3_1) ∧ Aside0 (Below w.heap.size w wc))
                case first =>
                  have H := HC12.out
                  clear HC12
                  by_cases c13 : (bt a0 x4_1) ≥ 65
                  · rw [if_pos c13] at H
                    have c13b0 : decide (65 ≤ (bt a0 x4_1)) = true := decide_eq_true c13
                    clear c13
                    (first | rw [c13b0] | (simp only [i64_w, i32_w]; rw [c13b0]) | skip)
                    have H' := Aside0.mk H
                    clear H
                    go_wp2
                    go_meet
                    case rel => exact ⟨_, (decide ((bt a0 x4_1) ≤ 90)), (by first | rfl | (simp; done) | (simp [*]; done) | (simp [xt_ne_nil]; done)), H', ⟨by have := HK1.out; have := HJ6.out; first | omega | exact Nat.le_refl _⟩, ⟨by (with_reducible repeat (first | apply Kd.R_alloc | apply Kd.R_drewN | apply Kd.R_drew)); exact HO_3.out⟩, ⟨by repeat (first | (with_reducible first | exact HB.out | apply below_alloc | apply pw_below_drewN | apply below_drew1) | exact HB.out)⟩⟩
                  · rw [if_neg c13] at H
                    have c13b0 : decide (65 ≤ (bt a0 x4_1)) = false := decide_eq_false c13
                    clear c13
                    (first | rw [c13b0] | (simp only [i64_w, i32_w]; rw [c13b0]) | skip)
                    have H' := Aside0.mk H
                    clear H
                    go_wp2
                    go_meet
                    case rel => exact ⟨_, (false), (by first | rfl | (simp; done) | (simp [*]; done) | (simp [xt_ne_nil]; done)), H', ⟨by have := HK1.out; have := HJ6.out; first | omega | exact Nat.le_refl _⟩, ⟨by (with_reducible repeat (first | apply Kd.R_alloc | apply Kd.R_drewN | apply Kd.R_drew)); exact HO_3.out⟩, ⟨by repeat (first | (with_reducible first | exact HB.out | apply below_alloc | apply pw_below_drewN | apply below_drew1) | exact HB.out)⟩⟩
                case rest =>
                  clear HC12
                  try clear c1
                  try clear p2
                  try clear c4
                  try clear c4b0
                  try clear c5
                  try clear c5b0
                  try clear p6
                  try clear q6
                  try clear hx6
                  try clear c8
                  try clear c8b0
                  try clear c9
                  try clear c10
                  try clear c13
                  try clear c13b0
                  try clear p2
                  try clear p6
                  try clear q6
                  obtain ⟨kq, x25_11, rfl, HA, HJ11, HO_3, HB⟩ := hcut
                  cases kq with
                  | zero => exact absurd HA.out (by simp [spec_EscapeAll.j2])
                  | succ kj11 =>
                    have H := HA.out
                    clear HA
                    simp only [spec_EscapeAll.j2] at H
                    by_cases c14 : x25_11 = true
                    · subst c14
                      have H1 : (if x3_1.length < 140737488355328 then (spec_EscapeAll.l0 kj11 a0 (x3_1 ++ [(bt a0 x4_1)]) (wrap64 (x4_1 + 1))) else (none)) = some r := by rw [if_pos rfl] at H; exact H
                      clear H
                      have H := H1
                      clear H1
                      by_cases c15 : x3_1.length < 140737488355328
                      · rw [if_pos c15] at H
                        have LMc15 := Aside0.mk c15
                        clear c15
                        obtain ⟨y108, hy108⟩ : ∃ y_ : List Int, y_ = (x3_1 ++ [(bt a0 x4_1)]) := ⟨_, rfl⟩
                        replace H : (spec_EscapeAll.l0 kj11 a0 y108 (wrap64 (x4_1 + 1))) = some r := by first | (rw [hy108]; with_reducible exact H) | (have H2_ := (Option.bind_some _ _).symm.trans H; rw [hy108]; with_reducible exact H2_) | (have H2_ := (Option.bind_some _ _).symm.trans H; with_reducible exact H2_) | with_reducible exact H | (rw [hy108]; exact H) | exact H
                        have Ny108 := Aside0.mk hy108
                        clear hy108
                        have H' := Aside0.mk H
                        clear H
                        go_wp2_with (first | ((with_reducible refine gate_builtin (b := .append) (xs := #[.tmp 54, .tmp 56]) rfl ?_); at_builtin; refine Kd.R_append (Kd.int .u8) (w0 := w) w.heap.size rfl (.tmp 54) (.tmp 56) 30 5 (.int .u8 0) 1 rfl Try.underlying30 info5 rfl (by decide) (by omega) u3 x3_1 (bt a0 x4_1) [.int .u8 (bt a0 x4_1)] (fun _ => True) (fun _ => False) rfl rfl ?aP (fun _ hk => hk.elim) ?aF ?aO ?aB ?aS ?aL ?_; (case aP => exact rfl); (case aB => exact (by repeat (first | (with_reducible first | exact HB.out | apply below_alloc | apply pw_below_drewN | apply below_drew1) | exact HB.out))); (case aF => exact (fun _ _ => trivial)); (case aO => exact (by (with_reducible repeat (first | apply Kd.R_alloc | apply Kd.R_drewN | apply Kd.R_drew)); exact HO_3.out)); (case aS => exact (below_size (by repeat (first | (with_reducible first | exact HB.out | apply below_alloc | apply pw_below_drewN | apply below_drew1) | exact HB.out)))); (case aL => have := LMc15.out; omega); intro v109 w16 ho hb hg hat; rw [← Ny108.out] at ho; have n0_ := Aside0.mk (hb); have n1_ := Aside0.mk (ho); clear HB; clear HO_3; have HB := n0_; have HO110 := n1_; clear n0_ n1_; clear ho hb hg hat))
                        go_roundg kj11
                        case measure => have := HK1.out; have := HJ6.out; have := HJ11.out; omega
                        case rel => exact ⟨(y108), (wrap64 (x4_1 + 1)), (by first | rfl | (simp; done) | (simp [*]; done) | (simp [xt_ne_nil]; done)), H', ⟨by have := HK1.out; have := HJ6.out; have := HJ11.out; omega⟩, ⟨by (with_reducible repeat (first | apply Kd.R_alloc | apply Kd.R_drewN | apply Kd.R_drew)); exact HO110.out⟩, ⟨by repeat (first | (with_reducible first | exact HB.out | apply below_alloc | apply pw_below_drewN | apply below_drew1) | exact HB.out)⟩⟩
                      · rw [if_neg c15] at H
                        exact absurd H (by simp)
                    · replace c14 := Bool.eq_false_iff.mpr c14
                      subst c14
                      have H1 : (if (bt a0 x4_1) ≥ 48 then (spec_EscapeAll.j3 kj11 a0 x3_1 x4_1 (bt a0 x4_1) (decide ((bt a0 x4_1) ≤ 57))) else (spec_EscapeAll.j3 kj11 a0 x3_1 x4_1 (bt a0 x4_1) false)) = some r := by rw [if_neg (show ¬ (false = true) by decide)] at H; exact H
                      clear H
                      have H := H1
                      clear H1
                      have HC17 := Aside0.mk H
                      clear H
                      go_upto_region 9 with (fail)
                      go_cut [25] (fun v25 wc => ∃ (kq : Nat) (x25_16 : Bool), v25 = .bool x25_16 ∧ Aside0 (spec_EscapeAll.j3 kq a0 x3_1 x4_1 (bt a0 x4_1) x25_16 = some r) ∧ Aside0 (kq ≤ kj11) ∧ Aside0 (Kd.R (Kd.int .u8) 5 wc w.heap.size (fun _ => True) u3 x3_1) ∧ Aside0 (Below w.heap.size w wc))
                      case first =>
                        have H := HC17.out
                        clear HC17
                        by_cases c18 : (bt a0 x4_1) ≥ 48
                        · rw [if_pos c18] at H
                          have c18b0 : decide (48 ≤ (bt a0 x4_1)) = true := decide_eq_true c18
                          clear c18
                          (first | rw [c18b0] | (simp only [i64_w, i32_w]; rw [c18b0]) | skip)
                          have H' := Aside0.mk H
                          clear H
                          go_wp2
                          go_meet
                          case rel => exact ⟨_, (decide ((bt a0 x4_1) ≤ 57)), (by first | rfl | (simp; done) | (simp [*]; done) | (simp [xt_ne_nil]; done)), H', ⟨by have := HK1.out; have := HJ6.out; have := HJ11.out; first | omega | exact Nat.le_refl _⟩, ⟨by (with_reducible repeat (first | apply Kd.R_alloc | apply Kd.R_drewN | apply Kd.R_drew)); exact HO_3.out⟩, ⟨by repeat (first | (with_reducible first | exact HB.out | apply below_alloc | apply pw_below_drewN | apply below_drew1) | exact HB.out)⟩⟩
                        · rw [if_neg c18] at H
                          have c18b0 : decide (48 ≤ (bt a0 x4_1)) = false := decide_eq_false c18
                          clear c18
                          (first | rw [c18b0] | (simp only [i64_w, i32_w]; rw [c18b0]) | skip)
                          have H' := Aside0.mk H
                          clear H
                          go_wp2
                          go_meet
                          case rel => exact ⟨_, (false), (by first | rfl | (simp; done) | (simp [*]; done) | (simp [xt_ne_nil]; done)), H', ⟨by have := HK1.out; have := HJ6.out; have := HJ11.out; first | omega | exact Nat.le_refl _⟩, ⟨by (with_reducible repeat (first | apply Kd.R_alloc | apply Kd.R_drewN | apply Kd.R_drew)); exact HO_3.out⟩, ⟨by repeat (first | (with_reducible first | exact HB.out | apply below_alloc | apply pw_below_drewN | apply below_drew1) | exact HB.out)⟩⟩
                      case rest =>
                        clear HC17
                        try clear c1
                        try clear p2
                        try clear c4
                        try clear c4b0
                        try clear c5
                        try clear c5b0
                        try clear p6
                        try clear q6
                        try clear hx6
                        try clear c8
                        try clear c8b0
                        try clear c9
                        try clear c10
                        try clear c13
                        try clear c13b0
                        try clear c14
                        try clear c15
                        try clear c18
                        try clear c18b0
                        try clear p2
                        try clear p6
                        try clear q6
                        obtain ⟨kq, x25_16, rfl, HA, HJ16, HO_3, HB⟩ := hcut
                        cases kq with
                        | zero => exact absurd HA.out (by simp [spec_EscapeAll.j3])
                        | succ kj16 =>
                          have H := HA.out
                          clear HA
                          simp only [spec_EscapeAll.j3] at H
                          by_cases c19 : x25_16 = true
                          · subst c19
                            have H1 : (if x3_1.length < 140737488355328 then (spec_EscapeAll.l0 kj16 a0 (x3_1 ++ [(bt a0 x4_1)]) (wrap64 (x4_1 + 1))) else (none)) = some r := by rw [if_pos rfl] at H; exact H
                            clear H
                            have H := H1
                            clear H1
                            by_cases c20 : x3_1.length < 140737488355328
                            · rw [if_pos c20] at H
                              have LMc20 := Aside0.mk c20
                              clear c20
                              obtain ⟨y111, hy111⟩ : ∃ y_ : List Int, y_ = (x3_1 ++ [(bt a0 x4_1)]) := ⟨_, rfl⟩
                              replace H : (spec_EscapeAll.l0 kj16 a0 y111 (wrap64 (x4_1 + 1))) = some r := by first | (rw [hy111]; with_reducible exact H) | (have H2_ := (Option.bind_some _ _).symm.trans H; rw [hy111]; with_reducible exact H2_) | (have H2_ := (Option.bind_some _ _).symm.trans H; with_reducible exact H2_) | with_reducible exact H | (rw [hy111]; exact H) | exact H
                              have Ny111 := Aside0.mk hy111
                              clear hy111
                              have H' := Aside0.mk H
                              clear H
                              go_wp2_with (first | ((with_reducible refine gate_builtin (b := .append) (xs := #[.tmp 54, .tmp 56]) rfl ?_); at_builtin; refine Kd.R_append (Kd.int .u8) (w0 := w) w.heap.size rfl (.tmp 54) (.tmp 56) 30 5 (.int .u8 0) 1 rfl Try.underlying30 info5 rfl (by decide) (by omega) u3 x3_1 (bt a0 x4_1) [.int .u8 (bt a0 x4_1)] (fun _ => True) (fun _ => False) rfl rfl ?aP (fun _ hk => hk.elim) ?aF ?aO ?aB ?aS ?aL ?_; (case aP => exact rfl); (case aB => exact (by repeat (first | (with_reducible first | exact HB.out | apply below_alloc | apply pw_below_drewN | apply below_drew1) | exact HB.out))); (case aF => exact (fun _ _ => trivial)); (case aO => exact (by (with_reducible repeat (first | apply Kd.R_alloc | apply Kd.R_drewN | apply Kd.R_drew)); exact HO_3.out)); (case aS => exact (below_size (by repeat (first | (with_reducible first | exact HB.out | apply below_alloc | apply pw_below_drewN | apply below_drew1) | exact HB.out)))); (case aL => have := LMc20.out; omega); intro v112 w21 ho hb hg hat; rw [← Ny111.out] at ho; have n0_ := Aside0.mk (hb); have n1_ := Aside0.mk (ho); clear HB; clear HO_3; have HB := n0_; have HO113 := n1_; clear n0_ n1_; clear ho hb hg hat))
                              go_roundg kj16
                              case measure => have := HK1.out; have := HJ6.out; have := HJ11.out; have := HJ16.out; omega
                              case rel => exact ⟨(y111), (wrap64 (x4_1 + 1)), (by first | rfl | (simp; done) | (simp [*]; done) | (simp [xt_ne_nil]; done)), H', ⟨by have := HK1.out; have := HJ6.out; have := HJ11.out; have := HJ16.out; omega⟩, ⟨by (with_reducible repeat (first | apply Kd.R_alloc | apply Kd.R_drewN | apply Kd.R_drew)); exact HO113.out⟩, ⟨by repeat (first | (with_reducible first | exact HB.out | apply below_alloc | apply pw_below_drewN | apply below_drew1) | exact HB.out)⟩⟩
                            · rw [if_neg c20] at H
                              exact absurd H (by simp)
                          · replace c19 := Bool.eq_false_iff.mpr c19
                            subst c19
                            have H1 : (if (bt a0 x4_1) = 47 then (if x3_1.length < 140737488355328 then (spec_EscapeAll.l0 kj16 a0 (x3_1 ++ [(bt a0 x4_1)]) (wrap64 (x4_1 + 1))) else (none)) else (if (bt a0 x4_1) = 45 then (if x3_1.length < 140737488355328 then (spec_EscapeAll.l0 kj16 a0 (x3_1 ++ [(bt a0 x4_1)]) (wrap64 (x4_1 + 1))) else (none)) else (if (bt a0 x4_1) = 46 then (if x3_1.length < 140737488355328 then (spec_EscapeAll.l0 kj16 a0 (x3_1 ++ [(bt a0 x4_1)]) (wrap64 (x4_1 + 1))) else (none)) else (if (bt a0 x4_1) = 95 then (if x3_1.length < 140737488355328 then (spec_EscapeAll.l0 kj16 a0 (x3_1 ++ [(bt a0 x4_1)]) (wrap64 (x4_1 + 1))) else (none)) else (if (bt a0 x4_1) = 126 then (if x3_1.length < 140737488355328 then (spec_EscapeAll.l0 kj16 a0 (x3_1 ++ [(bt a0 x4_1)]) (wrap64 (x4_1 + 1))) else (none)) else (if 0 ≤ ((bt a0 x4_1) / 16) then (if ((bt a0 x4_1) / 16) < 16 then (if 0 ≤ (Go.bits .and .u8 (bt a0 x4_1) 15) then (if (Go.bits .and .u8 (bt a0 x4_1) 15) < 16 then ((some (([37, bt (⟨#[48, 49, 50, 51, 52, 53, 54, 55, 56, 57, 65, 66, 67, 68, 69, 70]⟩ : ByteArray) ((bt a0 x4_1) / 16), bt (⟨#[48, 49, 50, 51, 52, 53, 54, 55, 56, 57, 65, 66, 67, 68, 69, 70]⟩ : ByteArray) (Go.bits .and .u8 (bt a0 x4_1) 15)] : List Int) : List Int)).bind fun y129 => (if x3_1.length + y129.length < 140737488355328 then (spec_EscapeAll.l0 kj16 a0 (x3_1 ++ y129) (wrap64 (x4_1 + 1))) else (none))) else (none)) else (none)) else (none)) else (none))))))) = some r := by rw [if_neg (show ¬ (false = true) by decide)] at H; exact H
                            clear H
                            have H := H1
                            clear H1
                            by_cases c22 : (bt a0 x4_1) = 47
                            · rw [if_pos c22] at H
                              have c22b0 : ((bt a0 x4_1) == 47) = true := beq_iff_eq.mpr c22
                              have c22b1 : ((bt a0 x4_1) != 47) = false := bne_eq_false_iff_eq.mpr c22
                              clear c22
                              by_cases c23 : x3_1.length < 140737488355328
                              · rw [if_pos c23] at H
                                have LMc23 := Aside0.mk c23
                                clear c23
                                obtain ⟨y114, hy114⟩ : ∃ y_ : List Int, y_ = (x3_1 ++ [(bt a0 x4_1)]) := ⟨_, rfl⟩
                                replace H : (spec_EscapeAll.l0 kj16 a0 y114 (wrap64 (x4_1 + 1))) = some r := by first | (rw [hy114]; with_reducible exact H) | (have H2_ := (Option.bind_some _ _).symm.trans H; rw [hy114]; with_reducible exact H2_) | (have H2_ := (Option.bind_some _ _).symm.trans H; with_reducible exact H2_) | with_reducible exact H | (rw [hy114]; exact H) | exact H
                                have Ny114 := Aside0.mk hy114
                                clear hy114
                                have H' := Aside0.mk H
                                clear H
                                go_wp2_with (first | ((with_reducible refine gate_builtin (b := .append) (xs := #[.tmp 54, .tmp 56]) rfl ?_); at_builtin; refine Kd.R_append (Kd.int .u8) (w0 := w) w.heap.size rfl (.tmp 54) (.tmp 56) 30 5 (.int .u8 0) 1 rfl Try.underlying30 info5 rfl (by decide) (by omega) u3 x3_1 (bt a0 x4_1) [.int .u8 (bt a0 x4_1)] (fun _ => True) (fun _ => False) rfl rfl ?aP (fun _ hk => hk.elim) ?aF ?aO ?aB ?aS ?aL ?_; (case aP => exact rfl); (case aB => exact (by repeat (first | (with_reducible first | exact HB.out | apply below_alloc | apply pw_below_drewN | apply below_drew1) | exact HB.out))); (case aF => exact (fun _ _ => trivial)); (case aO => exact (by (with_reducible repeat (first | apply Kd.R_alloc | apply Kd.R_drewN | apply Kd.R_drew)); exact HO_3.out)); (case aS => exact (below_size (by repeat (first | (with_reducible first | exact HB.out | apply below_alloc | apply pw_below_drewN | apply below_drew1) | exact HB.out)))); (case aL => have := LMc23.out; omega); intro v115 w24 ho hb hg hat; rw [← Ny114.out] at ho; have n0_ := Aside0.mk (hb); have n1_ := Aside0.mk (ho); clear HB; clear HO_3; have HB := n0_; have HO116 := n1_; clear n0_ n1_; clear ho hb hg hat))
                                go_roundg kj16
                                case measure => have := HK1.out; have := HJ6.out; have := HJ11.out; have := HJ16.out; omega
                                case rel => exact ⟨(y114), (wrap64 (x4_1 + 1)), (by first | rfl | (simp; done) | (simp [*]; done) | (simp [xt_ne_nil]; done)), H', ⟨by have := HK1.out; have := HJ6.out; have := HJ11.out; have := HJ16.out; omega⟩, ⟨by (with_reducible repeat (first | apply Kd.R_alloc | apply Kd.R_drewN | apply Kd.R_drew)); exact HO116.out⟩, ⟨by repeat (first | (with_reducible first | exact HB.out | apply below_alloc | apply pw_below_drewN | apply below_drew1) | exact HB.out)⟩⟩
                              · rw [if_neg c23] at H
                                exact absurd H (by simp)
                            · rw [if_neg c22] at H
                              have c22b0 : ((bt a0 x4_1) == 47) = false := beq_eq_false_iff_ne.mpr c22
                              have c22b1 : ((bt a0 x4_1) != 47) = true := bne_iff_ne.mpr c22
                              by_cases c25 : (bt a0 x4_1) = 45
                              · rw [if_pos c25] at H
                                have c25b0 : ((bt a0 x4_1) == 45) = true := beq_iff_eq.mpr c25
                                have c25b1 : ((bt a0 x4_1) != 45) = false := bne_eq_false_iff_eq.mpr c25
                                clear c25
                                by_cases c26 : x3_1.length < 140737488355328
                                · rw [if_pos c26] at H
                                  have LMc26 := Aside0.mk c26
                                  clear c26
                                  obtain ⟨y117, hy117⟩ : ∃ y_ : List Int, y_ = (x3_1 ++ [(bt a0 x4_1)]) := ⟨_, rfl⟩
                                  replace H : (spec_EscapeAll.l0 kj16 a0 y117 (wrap64 (x4_1 + 1))) = some r := by first | (rw [hy117]; with_reducible exact H) | (have H2_ := (Option.bind_some _ _).symm.trans H; rw [hy117]; with_reducible exact H2_) | (have H2_ := (Option.bind_some _ _).symm.trans H; with_reducible exact H2_) | with_reducible exact H | (rw [hy117]; exact H) | exact H
                                  have Ny117 := Aside0.mk hy117
                                  clear hy117
                                  have H' := Aside0.mk H
                                  clear H
                                  go_wp2_with (first | ((with_reducible refine gate_builtin (b := .append) (xs := #[.tmp 54, .tmp 56]) rfl ?_); at_builtin; refine Kd.R_append (Kd.int .u8) (w0 := w) w.heap.size rfl (.tmp 54) (.tmp 56) 30 5 (.int .u8 0) 1 rfl Try.underlying30 info5 rfl (by decide) (by omega) u3 x3_1 (bt a0 x4_1) [.int .u8 (bt a0 x4_1)] (fun _ => True) (fun _ => False) rfl rfl ?aP (fun _ hk => hk.elim) ?aF ?aO ?aB ?aS ?aL ?_; (case aP => exact rfl); (case aB => exact (by repeat (first | (with_reducible first | exact HB.out | apply below_alloc | apply pw_below_drewN | apply below_drew1) | exact HB.out))); (case aF => exact (fun _ _ => trivial)); (case aO => exact (by (with_reducible repeat (first | apply Kd.R_alloc | apply Kd.R_drewN | apply Kd.R_drew)); exact HO_3.out)); (case aS => exact (below_size (by repeat (first | (with_reducible first | exact HB.out | apply below_alloc | apply pw_below_drewN | apply below_drew1) | exact HB.out)))); (case aL => have := LMc26.out; omega); intro v118 w27 ho hb hg hat; rw [← Ny117.out] at ho; have n0_ := Aside0.mk (hb); have n1_ := Aside0.mk (ho); clear HB; clear HO_3; have HB := n0_; have HO119 := n1_; clear n0_ n1_; clear ho hb hg hat))
                                  go_roundg kj16
                                  case measure => have := HK1.out; have := HJ6.out; have := HJ11.out; have := HJ16.out; omega
                                  case rel => exact ⟨(y117), (wrap64 (x4_1 + 1)), (by first | rfl | (simp; done) | (simp [*]; done) | (simp [xt_ne_nil]; done)), H', ⟨by have := HK1.out; have := HJ6.out; have := HJ11.out; have := HJ16.out; omega⟩, ⟨by (with_reducible repeat (first | apply Kd.R_alloc | apply Kd.R_drewN | apply Kd.R_drew)); exact HO119.out⟩, ⟨by repeat (first | (with_reducible first | exact HB.out | apply below_alloc | apply pw_below_drewN | apply below_drew1) | exact HB.out)⟩⟩
                                · rw [if_neg c26] at H
                                  exact absurd H (by simp)
                              · rw [if_neg c25] at H
                                have c25b0 : ((bt a0 x4_1) == 45) = false := beq_eq_false_iff_ne.mpr c25
                                have c25b1 : ((bt a0 x4_1) != 45) = true := bne_iff_ne.mpr c25
                                by_cases c28 : (bt a0 x4_1) = 46
                                · rw [if_pos c28] at H
                                  have c28b0 : ((bt a0 x4_1) == 46) = true := beq_iff_eq.mpr c28
                                  have c28b1 : ((bt a0 x4_1) != 46) = false := bne_eq_false_iff_eq.mpr c28
                                  clear c28
                                  by_cases c29 : x3_1.length < 140737488355328
                                  · rw [if_pos c29] at H
                                    have LMc29 := Aside0.mk c29
                                    clear c29
                                    obtain ⟨y120, hy120⟩ : ∃ y_ : List Int, y_ = (x3_1 ++ [(bt a0 x4_1)]) := ⟨_, rfl⟩
                                    replace H : (spec_EscapeAll.l0 kj16 a0 y120 (wrap64 (x4_1 + 1))) = some r := by first | (rw [hy120]; with_reducible exact H) | (have H2_ := (Option.bind_some _ _).symm.trans H; rw [hy120]; with_reducible exact H2_) | (have H2_ := (Option.bind_some _ _).symm.trans H; with_reducible exact H2_) | with_reducible exact H | (rw [hy120]; exact H) | exact H
                                    have Ny120 := Aside0.mk hy120
                                    clear hy120
                                    have H' := Aside0.mk H
                                    clear H
                                    go_wp2_with (first | ((with_reducible refine gate_builtin (b := .append) (xs := #[.tmp 54, .tmp 56]) rfl ?_); at_builtin; refine Kd.R_append (Kd.int .u8) (w0 := w) w.heap.size rfl (.tmp 54) (.tmp 56) 30 5 (.int .u8 0) 1 rfl Try.underlying30 info5 rfl (by decide) (by omega) u3 x3_1 (bt a0 x4_1) [.int .u8 (bt a0 x4_1)] (fun _ => True) (fun _ => False) rfl rfl ?aP (fun _ hk => hk.elim) ?aF ?aO ?aB ?aS ?aL ?_; (case aP => exact rfl); (case aB => exact (by repeat (first | (with_reducible first | exact HB.out | apply below_alloc | apply pw_below_drewN | apply below_drew1) | exact HB.out))); (case aF => exact (fun _ _ => trivial)); (case aO => exact (by (with_reducible repeat (first | apply Kd.R_alloc | apply Kd.R_drewN | apply Kd.R_drew)); exact HO_3.out)); (case aS => exact (below_size (by repeat (first | (with_reducible first | exact HB.out | apply below_alloc | apply pw_below_drewN | apply below_drew1) | exact HB.out)))); (case aL => have := LMc29.out; omega); intro v121 w30 ho hb hg hat; rw [← Ny120.out] at ho; have n0_ := Aside0.mk (hb); have n1_ := Aside0.mk (ho); clear HB; clear HO_3; have HB := n0_; have HO122 := n1_; clear n0_ n1_; clear ho hb hg hat))
                                    go_roundg kj16
                                    case measure => have := HK1.out; have := HJ6.out; have := HJ11.out; have := HJ16.out; omega
                                    case rel => exact ⟨(y120), (wrap64 (x4_1 + 1)), (by first | rfl | (simp; done) | (simp [*]; done) | (simp [xt_ne_nil]; done)), H', ⟨by have := HK1.out; have := HJ6.out; have := HJ11.out; have := HJ16.out; omega⟩, ⟨by (with_reducible repeat (first | apply Kd.R_alloc | apply Kd.R_drewN | apply Kd.R_drew)); exact HO122.out⟩, ⟨by repeat (first | (with_reducible first | exact HB.out | apply below_alloc | apply pw_below_drewN | apply below_drew1) | exact HB.out)⟩⟩
                                  · rw [if_neg c29] at H
                                    exact absurd H (by simp)
                                · rw [if_neg c28] at H
                                  have c28b0 : ((bt a0 x4_1) == 46) = false := beq_eq_false_iff_ne.mpr c28
                                  have c28b1 : ((bt a0 x4_1) != 46) = true := bne_iff_ne.mpr c28
                                  by_cases c31 : (bt a0 x4_1) = 95
                                  · rw [if_pos c31] at H
                                    have c31b0 : ((bt a0 x4_1) == 95) = true := beq_iff_eq.mpr c31
                                    have c31b1 : ((bt a0 x4_1) != 95) = false := bne_eq_false_iff_eq.mpr c31
                                    clear c31
                                    by_cases c32 : x3_1.length < 140737488355328
                                    · rw [if_pos c32] at H
                                      have LMc32 := Aside0.mk c32
                                      clear c32
                                      obtain ⟨y123, hy123⟩ : ∃ y_ : List Int, y_ = (x3_1 ++ [(bt a0 x4_1)]) := ⟨_, rfl⟩
                                      replace H : (spec_EscapeAll.l0 kj16 a0 y123 (wrap64 (x4_1 + 1))) = some r := by first | (rw [hy123]; with_reducible exact H) | (have H2_ := (Option.bind_some _ _).symm.trans H; rw [hy123]; with_reducible exact H2_) | (have H2_ := (Option.bind_some _ _).symm.trans H; with_reducible exact H2_) | with_reducible exact H | (rw [hy123]; exact H) | exact H
                                      have Ny123 := Aside0.mk hy123
                                      clear hy123
                                      have H' := Aside0.mk H
                                      clear H
                                      go_wp2_with (first | ((with_reducible refine gate_builtin (b := .append) (xs := #[.tmp 54, .tmp 56]) rfl ?_); at_builtin; refine Kd.R_append (Kd.int .u8) (w0 := w) w.heap.size rfl (.tmp 54) (.tmp 56) 30 5 (.int .u8 0) 1 rfl Try.underlying30 info5 rfl (by decide) (by omega) u3 x3_1 (bt a0 x4_1) [.int .u8 (bt a0 x4_1)] (fun _ => True) (fun _ => False) rfl rfl ?aP (fun _ hk => hk.elim) ?aF ?aO ?aB ?aS ?aL ?_; (case aP => exact rfl); (case aB => exact (by repeat (first | (with_reducible first | exact HB.out | apply below_alloc | apply pw_below_drewN | apply below_drew1) | exact HB.out))); (case aF => exact (fun _ _ => trivial)); (case aO => exact (by (with_reducible repeat (first | apply Kd.R_alloc | apply Kd.R_drewN | apply Kd.R_drew)); exact HO_3.out)); (case aS => exact (below_size (by repeat (first | (with_reducible first | exact HB.out | apply below_alloc | apply pw_below_drewN | apply below_drew1) | exact HB.out)))); (case aL => have := LMc32.out; omega); intro v124 w33 ho hb hg hat; rw [← Ny123.out] at ho; have n0_ := Aside0.mk (hb); have n1_ := Aside0.mk (ho); clear HB; clear HO_3; have HB := n0_; have HO125 := n1_; clear n0_ n1_; clear ho hb hg hat))
                                      go_roundg kj16
                                      case measure => have := HK1.out; have := HJ6.out; have := HJ11.out; have := HJ16.out; omega
                                      case rel => exact ⟨(y123), (wrap64 (x4_1 + 1)), (by first | rfl | (simp; done) | (simp [*]; done) | (simp [xt_ne_nil]; done)), H', ⟨by have := HK1.out; have := HJ6.out; have := HJ11.out; have := HJ16.out; omega⟩, ⟨by (with_reducible repeat (first | apply Kd.R_alloc | apply Kd.R_drewN | apply Kd.R_drew)); exact HO125.out⟩, ⟨by repeat (first | (with_reducible first | exact HB.out | apply below_alloc | apply pw_below_drewN | apply below_drew1) | exact HB.out)⟩⟩
                                    · rw [if_neg c32] at H
                                      exact absurd H (by simp)
                                  · rw [if_neg c31] at H
                                    have c31b0 : ((bt a0 x4_1) == 95) = false := beq_eq_false_iff_ne.mpr c31
                                    have c31b1 : ((bt a0 x4_1) != 95) = true := bne_iff_ne.mpr c31
                                    by_cases c34 : (bt a0 x4_1) = 126
                                    · rw [if_pos c34] at H
                                      have c34b0 : ((bt a0 x4_1) == 126) = true := beq_iff_eq.mpr c34
                                      have c34b1 : ((bt a0 x4_1) != 126) = false := bne_eq_false_iff_eq.mpr c34
                                      clear c34
                                      by_cases c35 : x3_1.length < 140737488355328
                                      · rw [if_pos c35] at H
                                        have LMc35 := Aside0.mk c35
                                        clear c35
                                        obtain ⟨y126, hy126⟩ : ∃ y_ : List Int, y_ = (x3_1 ++ [(bt a0 x4_1)]) := ⟨_, rfl⟩
                                        replace H : (spec_EscapeAll.l0 kj16 a0 y126 (wrap64 (x4_1 + 1))) = some r := by first | (rw [hy126]; with_reducible exact H) | (have H2_ := (Option.bind_some _ _).symm.trans H; rw [hy126]; with_reducible exact H2_) | (have H2_ := (Option.bind_some _ _).symm.trans H; with_reducible exact H2_) | with_reducible exact H | (rw [hy126]; exact H) | exact H
                                        have Ny126 := Aside0.mk hy126
                                        clear hy126
                                        have H' := Aside0.mk H
                                        clear H
                                        go_wp2_with (first | ((with_reducible refine gate_builtin (b := .append) (xs := #[.tmp 54, .tmp 56]) rfl ?_); at_builtin; refine Kd.R_append (Kd.int .u8) (w0 := w) w.heap.size rfl (.tmp 54) (.tmp 56) 30 5 (.int .u8 0) 1 rfl Try.underlying30 info5 rfl (by decide) (by omega) u3 x3_1 (bt a0 x4_1) [.int .u8 (bt a0 x4_1)] (fun _ => True) (fun _ => False) rfl rfl ?aP (fun _ hk => hk.elim) ?aF ?aO ?aB ?aS ?aL ?_; (case aP => exact rfl); (case aB => exact (by repeat (first | (with_reducible first | exact HB.out | apply below_alloc | apply pw_below_drewN | apply below_drew1) | exact HB.out))); (case aF => exact (fun _ _ => trivial)); (case aO => exact (by (with_reducible repeat (first | apply Kd.R_alloc | apply Kd.R_drewN | apply Kd.R_drew)); exact HO_3.out)); (case aS => exact (below_size (by repeat (first | (with_reducible first | exact HB.out | apply below_alloc | apply pw_below_drewN | apply below_drew1) | exact HB.out)))); (case aL => have := LMc35.out; omega); intro v127 w36 ho hb hg hat; rw [← Ny126.out] at ho; have n0_ := Aside0.mk (hb); have n1_ := Aside0.mk (ho); clear HB; clear HO_3; have HB := n0_; have HO128 := n1_; clear n0_ n1_; clear ho hb hg hat))
                                        go_roundg kj16
                                        case measure => have := HK1.out; have := HJ6.out; have := HJ11.out; have := HJ16.out; omega
                                        case rel => exact ⟨(y126), (wrap64 (x4_1 + 1)), (by first | rfl | (simp; done) | (simp [*]; done) | (simp [xt_ne_nil]; done)), H', ⟨by have := HK1.out; have := HJ6.out; have := HJ11.out; have := HJ16.out; omega⟩, ⟨by (with_reducible repeat (first | apply Kd.R_alloc | apply Kd.R_drewN | apply Kd.R_drew)); exact HO128.out⟩, ⟨by repeat (first | (with_reducible first | exact HB.out | apply below_alloc | apply pw_below_drewN | apply below_drew1) | exact HB.out)⟩⟩
                                      · rw [if_neg c35] at H
                                        exact absurd H (by simp)
                                    · rw [if_neg c34] at H
                                      have c34b0 : ((bt a0 x4_1) == 126) = false := beq_eq_false_iff_ne.mpr c34
                                      have c34b1 : ((bt a0 x4_1) != 126) = true := bne_iff_ne.mpr c34
                                      obtain ⟨ji37, hji37⟩ : ∃ j_ : Int, ((bt a0 x4_1) / 16) = j_ := ⟨_, rfl⟩
                                      replace H : (if 0 ≤ (ji37) then (if (ji37) < 16 then (if 0 ≤ (Go.bits .and .u8 (bt a0 x4_1) 15) then (if (Go.bits .and .u8 (bt a0 x4_1) 15) < 16 then ((some (([37, bt (⟨#[48, 49, 50, 51, 52, 53, 54, 55, 56, 57, 65, 66, 67, 68, 69, 70]⟩ : ByteArray) (ji37), bt (⟨#[48, 49, 50, 51, 52, 53, 54, 55, 56, 57, 65, 66, 67, 68, 69, 70]⟩ : ByteArray) (Go.bits .and .u8 (bt a0 x4_1) 15)] : List Int) : List Int)).bind fun y129 => (if x3_1.length + y129.length < 140737488355328 then (spec_EscapeAll.l0 kj16 a0 (x3_1 ++ y129) (wrap64 (x4_1 + 1))) else (none))) else (none)) else (none)) else (none)) else (none)) = some r := by first | (rw [hji37] at H; exact H) | (simp only [hji37] at H ⊢; exact H)
                                      by_cases c38 : 0 ≤ (ji37)
                                      · rw [if_pos c38] at H
                                        have c38b0 : decide (0 ≤ (ji37)) = true := decide_eq_true c38
                                        clear c38
                                        by_cases c39 : (ji37) < 16
                                        · rw [if_pos c39] at H
                                          have c39b0 : decide ((ji37) < 16) = true := decide_eq_true c39
                                          clear c39
                                          by_cases c41 : 0 ≤ (Go.bits .and .u8 (bt a0 x4_1) 15)
                                          · rw [if_pos c41] at H
                                            have c41b0 : decide (0 ≤ (Go.bits .and .u8 (bt a0 x4_1) 15)) = true := decide_eq_true c41
                                            clear c41
                                            by_cases c42 : (Go.bits .and .u8 (bt a0 x4_1) 15) < 16
                                            · rw [if_pos c42] at H
                                              have c42b0 : decide ((Go.bits .and .u8 (bt a0 x4_1) 15) < 16) = true := decide_eq_true c42
                                              clear c42
                                              obtain ⟨y129, hy129⟩ : ∃ y_ : List Int, y_ = (([37, bt (⟨#[48, 49, 50, 51, 52, 53, 54, 55, 56, 57, 65, 66, 67, 68, 69, 70]⟩ : ByteArray) (ji37), bt (⟨#[48, 49, 50, 51, 52, 53, 54, 55, 56, 57, 65, 66, 67, 68, 69, 70]⟩ : ByteArray) (Go.bits .and .u8 (bt a0 x4_1) 15)] : List Int)) := ⟨_, rfl⟩
                                              replace H : (if x3_1.length + y129.length < 140737488355328 then (spec_EscapeAll.l0 kj16 a0 (x3_1 ++ y129) (wrap64 (x4_1 + 1))) else (none)) = some r := by first | (rw [hy129]; with_reducible exact H) | (have H2_ := (Option.bind_some _ _).symm.trans H; rw [hy129]; with_reducible exact H2_) | (have H2_ := (Option.bind_some _ _).symm.trans H; with_reducible exact H2_) | with_reducible exact H | (rw [hy129]; exact H) | exact H
                                              have Ny129 := Aside0.mk hy129
                                              clear hy129
                                              by_cases c44 : x3_1.length + y129.length < 140737488355328
                                              · rw [if_pos c44] at H
                                                have LMc44 := Aside0.mk c44
                                                clear c44
                                                obtain ⟨y132, hy132⟩ : ∃ y_ : List Int, y_ = (x3_1 ++ y129) := ⟨_, rfl⟩
                                                replace H : (spec_EscapeAll.l0 kj16 a0 y132 (wrap64 (x4_1 + 1))) = some r := by first | (rw [hy132]; with_reducible exact H) | (have H2_ := (Option.bind_some _ _).symm.trans H; rw [hy132]; with_reducible exact H2_) | (have H2_ := (Option.bind_some _ _).symm.trans H; with_reducible exact H2_) | with_reducible exact H | (rw [hy132]; exact H) | exact H
                                                have Ny132 := Aside0.mk hy132
                                                clear hy132
                                                have H' := Aside0.mk H
                                                clear H
                                                try go_wp2
                                                have n0_ := Aside0.mk (Kd.R_drew HO_3.out)
                                                have n1_ := Aside0.mk (below_drew1 HB.out)
                                                clear HO_3
                                                clear HB
                                                have HO_3 := n0_
                                                have HB := n1_
                                                clear n0_ n1_
                                                have p40 : 0 ≤ ((ji37) : Int) := of_decide_eq_true (by first | (with_reducible assumption) | assumption)
                                                have q40 : (ji37) < (16 : Int) := of_decide_eq_true (by first | (with_reducible assumption) | assumption)
                                                have hx40 := bt_at (⟨#[48, 49, 50, 51, 52, 53, 54, 55, 56, 57, 65, 66, 67, 68, 69, 70]⟩ : ByteArray) (ji37)
                                                replace p40 := eq_true p40
                                                replace q40 := eq_true q40
                                                have p43 : 0 ≤ ((Go.bits .and .u8 (bt a0 x4_1) 15) : Int) := of_decide_eq_true (by first | (with_reducible assumption) | assumption)
                                                have q43 : (Go.bits .and .u8 (bt a0 x4_1) 15) < (16 : Int) := of_decide_eq_true (by first | (with_reducible assumption) | assumption)
                                                have hx43 := bt_at (⟨#[48, 49, 50, 51, 52, 53, 54, 55, 56, 57, 65, 66, 67, 68, 69, 70]⟩ : ByteArray) (Go.bits .and .u8 (bt a0 x4_1) 15)
                                                replace p43 := eq_true p43
                                                replace q43 := eq_true q43
                                                refine start_ (n := 10) (S := fun w' => True) (ds := []) #[false, false, false, false, false, false, false, false, false, false] (by kernel_rfl) rfl rfl trivial (fun hHeld => ?_); refine with_tabW spec_EscapeAll.tab6 spec_EscapeAll.bits6 (fun HT_ HW_ => ?_)
                                                generalize wc.drew = w45 at HO_3 HB hHeld ⊢
                                                refine pure_ (i := 0) (N := some 16) (v := ?_) (a' := ?_) #[true, false, false, false, false, false, false, false, false, false] rfl rfl (any_of HT_.out (by kernel_rfl)) (fun _ _ _ h => h) (Or.inl ⟨by rfl, ?_⟩) ?_ ?_
                                                rotate_left
                                                · intro w'
                                                  go_simp
                                                  with_reducible rfl
                                                rotate_left
                                                · simp only [Act.put, List.setIfInBounds_toArray, List.set_cons_zero, List.set_cons_succ, i64_w, i32_w]
                                                  rfl
                                                refine pure_ (i := 1) (N := some 17) (v := ?_) (a' := ?_) #[true, true, false, false, false, false, false, false, false, false] rfl rfl (any_of HT_.out (by kernel_rfl)) (fun _ _ _ h => h) (Or.inl ⟨by rfl, ?_⟩) ?_ ?_
                                                rotate_left
                                                · intro w'
                                                  go_simp
                                                  with_reducible rfl
                                                rotate_left
                                                · simp only [Act.put, List.setIfInBounds_toArray, List.set_cons_zero, List.set_cons_succ, i64_w, i32_w]
                                                  rfl
                                                refine pure_ (i := 2) (N := some 18) (v := ?_) (a' := ?_) #[true, true, true, false, false, false, false, false, false, false] rfl rfl (any_of HT_.out (by kernel_rfl)) (fun _ _ _ h => h) (Or.inl ⟨by rfl, ?_⟩) ?_ ?_
                                                rotate_left
                                                · intro w'
                                                  go_simp
                                                  with_reducible rfl
                                                rotate_left
                                                · simp only [Act.put, List.setIfInBounds_toArray, List.set_cons_zero, List.set_cons_succ, i64_w, i32_w]
                                                  rfl
                                                refine pure_ (i := 4) (N := some 20) (v := ?_) (a' := ?_) #[true, true, true, false, true, false, false, false, false, false] rfl rfl (any_of HT_.out (by kernel_rfl)) (fun _ _ _ h => h) (Or.inl ⟨by rfl, ?_⟩) ?_ ?_
                                                rotate_left
                                                · intro w'
                                                  go_simp
                                                  with_reducible rfl
                                                rotate_left
                                                · simp only [Act.put, List.setIfInBounds_toArray, List.set_cons_zero, List.set_cons_succ, i64_w, i32_w]
                                                  rfl
                                                refine pure_ (i := 5) (N := some 21) (v := ?_) (a' := ?_) #[true, true, true, false, true, true, false, false, false, false] rfl rfl (any_of HT_.out (by kernel_rfl)) (fun _ _ _ h => h) (Or.inl ⟨by rfl, ?_⟩) ?_ ?_
                                                rotate_left
                                                · intro w'
                                                  go_simp
                                                  with_reducible rfl
                                                rotate_left
                                                · simp only [Act.put, List.setIfInBounds_toArray, List.set_cons_zero, List.set_cons_succ, i64_w, i32_w]
                                                  rfl
                                                refine take_ (i := 3) (N := some 19) (v := ?_) (a' := ?_) #[true, true, true, true, true, true, false, false, false, false] rfl rfl (take_ofW HT_.out HW_.out (by kernel_rfl)) (fun _ _ _ h => h) (Or.inl ⟨by rfl, ?_⟩) hHeld ?_ ?_
                                                rotate_left
                                                · intro w' _
                                                  go_simp
                                                  with_reducible rfl
                                                rotate_left
                                                · simp only [Act.put, List.setIfInBounds_toArray, List.set_cons_zero, List.set_cons_succ, i64_w, i32_w]
                                                  rfl
                                                refine take_ (i := 6) (N := some 22) (v := ?_) (a' := ?_) #[true, true, true, true, true, true, true, false, false, false] rfl rfl (take_ofW HT_.out HW_.out (by kernel_rfl)) (fun _ _ _ h => h) (Or.inl ⟨by rfl, ?_⟩) hHeld ?_ ?_
                                                rotate_left
                                                · intro w' _
                                                  go_simp
                                                  with_reducible rfl
                                                rotate_left
                                                · simp only [Act.put, List.setIfInBounds_toArray, List.set_cons_zero, List.set_cons_succ, i64_w, i32_w]
                                                  rfl
                                                refine one_ (i := 7) (N := some 23) #[true, true, true, true, true, true, true, true, false, false] rfl rfl (one_of HT_.out (by kernel_rfl)) (by decide) (fun K hK => ?_)
                                                refine Kd.R_lit_step (Kd.int .u8) _ 5 ?hg (N := 23) ?hd (xs := ([37, bt (⟨#[48, 49, 50, 51, 52, 53, 54, 55, 56, 57, 65, 66, 67, 68, 69, 70]⟩ : ByteArray) (ji37), bt (⟨#[48, 49, 50, 51, 52, 53, 54, 55, 56, 57, 65, 66, 67, 68, 69, 70]⟩ : ByteArray) (Go.bits .and .u8 (bt a0 x4_1) 15)] : List Int)) (inner := [.int .u8 37, .int .u8 (bt (⟨#[48, 49, 50, 51, 52, 53, 54, 55, 56, 57, 65, 66, 67, 68, 69, 70]⟩ : ByteArray) (ji37)), .int .u8 (bt (⟨#[48, 49, 50, 51, 52, 53, 54, 55, 56, 57, 65, 66, 67, 68, 69, 70]⟩ : ByteArray) (Go.bits .and .u8 (bt a0 x4_1) 15))]) (ok := fun _ => True) (okp := fun _ => True) ?hr ?hp (fun _ hk => hk) trivial (Below.refl _ _) (Nat.le_refl _) (by simp) ?_; (case hd => rfl); (case hg => rfl); (case hr => first | (go_simp; done) | (go_simp; rfl)); (case hp => exact (Reps.one (show Kd.M (Kd.int .u8) _ _ _ 37 [.int .u8 37] from rfl) (Reps.one (show Kd.M (Kd.int .u8) _ _ _ (bt (⟨#[48, 49, 50, 51, 52, 53, 54, 55, 56, 57, 65, 66, 67, 68, 69, 70]⟩ : ByteArray) (ji37)) [.int .u8 (bt (⟨#[48, 49, 50, 51, 52, 53, 54, 55, 56, 57, 65, 66, 67, 68, 69, 70]⟩ : ByteArray) (ji37))] from rfl) (Reps.one (show Kd.M (Kd.int .u8) _ _ _ (bt (⟨#[48, 49, 50, 51, 52, 53, 54, 55, 56, 57, 65, 66, 67, 68, 69, 70]⟩ : ByteArray) (Go.bits .and .u8 (bt a0 x4_1) 15)) [.int .u8 (bt (⟨#[48, 49, 50, 51, 52, 53, 54, 55, 56, 57, 65, 66, 67, 68, 69, 70]⟩ : ByteArray) (Go.bits .and .u8 (bt a0 x4_1) 15))] from rfl) (Reps.none _ _)))))
                                                intro v130 w46 ho47 hb hg_ hnew_
                                                clear hg_ hnew_
                                                (first | rw [← Ny129.out] at ho47 | (simp only [Int.reduceToNat] at ho47; rw [← Ny129.out] at ho47))
                                                have n0_ := Aside0.mk (Kd.R_elder' (by (with_reducible repeat (first | apply Kd.R_alloc | apply Kd.R_drewN | apply Kd.R_drew)); exact HO_3.out) (Kd.R_base ho47) hb)
                                                have n1_ := Aside0.mk (Kd.R_lower (Kd.R_new' ho47 (Kd.R_lt (by (with_reducible repeat (first | apply Kd.R_alloc | apply Kd.R_drewN | apply Kd.R_drew)); exact HO_3.out))) (below_size (by repeat (first | (with_reducible first | exact HB.out | apply below_alloc | apply pw_below_drewN | apply below_drew1) | exact HB.out))))
                                                have n2_ := Aside0.mk (below_step (by repeat (first | (with_reducible first | exact HB.out | apply below_alloc | apply pw_below_drewN | apply below_drew1) | exact HB.out)) hb)
                                                clear HO_3
                                                clear HB
                                                have HO_3 := n0_
                                                have HO131 := n1_
                                                have HB := n2_
                                                clear n0_ n1_ n2_
                                                clear hb ho47
                                                obtain ⟨Ao49, co49, eo49⟩ := Kd.R_slice HO131.out
                                                (first | subst eo49 | (injection eo49 with f1_ f2_ f3_; have f4_ := f1_.symm; have f5_ := f3_.symm; clear f1_ f2_ f3_; subst f4_; subst f5_))
                                                refine hK.out _ _ trivial (fun hHeld => ?_)
                                                clear hK K
                                                refine norm_ (a' := ?_) ?_ ?_
                                                rotate_left
                                                · show Act.put _ (some 23) _ = _
                                                  simp only [Act.put, List.setIfInBounds_toArray, List.set_cons_zero, List.set_cons_succ, i64_w, i32_w]
                                                  rfl
                                                refine one_ (i := 8) (N := some 24) #[true, true, true, true, true, true, true, true, true, false] rfl rfl (one_of HT_.out (by kernel_rfl)) (by decide) (fun K hK => ?_)
                                                refine Kd.R_append_rows_step (Kd.int .u8) (w0 := w) w.heap.size (by rfl) (.tmp 16) (.tmp 23) 30 5 (.int .u8 0) 1 rfl Try.underlying30 info5 rfl (by decide) (by omega) u3 x3_1 y129 _ _ _ (fun k_ => some k_ ≠ (.slice Ao49 y129.length co49 : Value).ownBlock) (fun _ => False) rfl rfl ?aO ?aR (fun _ _ h => h) (fun _ h => h.elim) ?aF ?aB ?aS ?aL ?_
                                                (case aR => repeat (first | exact (Kd.R_reads' HO131.out).2.2 | (with_reducible refine Kd.C_alloc ?_ _) | (with_reducible refine Kd.C_drewN ?_ _) | (with_reducible refine Kd.C_drew ?_)))
                                                (case aB => exact (by repeat (first | (with_reducible first | exact HB.out | apply below_alloc | apply pw_below_drewN | apply below_drew1) | exact HB.out)))
                                                (case aF => exact (fun k_ hk => Kd.fresh' (Kd.R_lt (by (with_reducible repeat (first | apply Kd.R_alloc | apply Kd.R_drewN | apply Kd.R_drew)); exact HO131.out)) k_ hk))
                                                (case aO => exact (by (with_reducible repeat (first | apply Kd.R_alloc | apply Kd.R_drewN | apply Kd.R_drew)); exact Kd.R_mono HO_3.out (fun _ hk => hk.2)))
                                                (case aS => exact (below_size (by repeat (first | (with_reducible first | exact HB.out | apply below_alloc | apply pw_below_drewN | apply below_drew1) | exact HB.out))))
                                                (case aL => have := LMc44.out; omega)
                                                intro v133 w48 ho hb hg hat
                                                rw [← Ny132.out] at ho
                                                have n0_ := Aside0.mk (Kd.R_after (ok := (fun _ => True)) (by (with_reducible repeat (first | apply Kd.R_alloc | apply Kd.R_drewN | apply Kd.R_drew)); exact HO131.out) hg hat)
                                                have n1_ := Aside0.mk (hb)
                                                have n2_ := Aside0.mk (ho)
                                                clear HO131
                                                clear HB
                                                clear HO_3
                                                have HO131 := n0_
                                                have HB := n1_
                                                have HO134 := n2_
                                                clear n0_ n1_ n2_
                                                clear ho hb hg hat
                                                refine hK.out _ _ trivial (fun hHeld => ?_)
                                                clear hK K
                                                refine norm_ (a' := ?_) ?_ ?_
                                                rotate_left
                                                · show Act.put _ (some 24) _ = _
                                                  simp only [Act.put, List.setIfInBounds_toArray, List.set_cons_zero, List.set_cons_succ, i64_w, i32_w]
                                                  rfl
                                                refine pure_ (i := 9) (N := some 3) (v := ?_) (a' := ?_) #[true, true, true, true, true, true, true, true, true, true] rfl rfl (any_of HT_.out (by kernel_rfl)) (fun _ _ _ h => h) (Or.inl ⟨by rfl, ?_⟩) ?_ ?_
                                                rotate_left
                                                · intro w'
                                                  go_simp
                                                  with_reducible rfl
                                                rotate_left
                                                · simp only [Act.put, List.setIfInBounds_toArray, List.set_cons_zero, List.set_cons_succ, i64_w, i32_w]
                                                  rfl
                                                refine done_ (done_of HT_.out (by kernel_rfl)) ?_
                                                try go_wp2
                                                go_roundg kj16
                                                case measure => have := HK1.out; have := HJ6.out; have := HJ11.out; have := HJ16.out; omega
                                                case rel => exact ⟨(y132), (wrap64 (x4_1 + 1)), (by first | rfl | (simp; done) | (simp [*]; done) | (simp [xt_ne_nil]; done)), H', ⟨by have := HK1.out; have := HJ6.out; have := HJ11.out; have := HJ16.out; omega⟩, ⟨by (with_reducible repeat (first | apply Kd.R_alloc | apply Kd.R_drewN | apply Kd.R_drew)); exact Kd.R_mono HO134.out (fun _ hk => trivial)⟩, ⟨by repeat (first | (with_reducible first | exact HB.out | apply below_alloc | apply pw_below_drewN | apply below_drew1) | exact HB.out)⟩⟩
                                              · rw [if_neg c44] at H
                                                exact absurd H (by simp)
                                            · rw [if_neg c42] at H
                                              exact absurd H (by simp)
                                          · rw [if_neg c41] at H
                                            exact absurd H (by simp)
                                        · rw [if_neg c39] at H
                                          exact absurd H (by simp)
                                      · rw [if_neg c38] at H
                                        exact absurd H (by simp)
        · rw [if_neg c5] at H
          exact absurd H (by simp)
      · rw [if_neg c4] at H
        have c4b0 : decide (x4_1 < (a0.size : Int)) = false := decide_eq_false c4
        clear c4
        obtain rfl := Option.some.inj H
        have hcv50 := own_string (P := Try.prog) Try.underlying30 Try.underlying5 Try.underlying9 (Kd.own_of_R HO_3.out)
        go_wp2
        go_ret
        exact ⟨by first | rfl | (simp [errW_none, errW_some] <;> rfl) | (simp [*, errW_none, errW_some] <;> rfl), by repeat (first | (with_reducible first | exact HB.out | apply below_alloc | apply pw_below_drewN | apply below_drew1) | exact HB.out)⟩

-- NOT PRINTED: function 9 (laws_FnEscapeAll)

end Go.Proofs.Ytecfojgamdilnaa.PFnEscapeAll

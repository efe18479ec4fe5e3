-- Written by a program of this session's (over the kit's print), with contracts proved by hand among what it calls.
import Derived.Test.YtecfojgamdilnaaPFnBracketsTrimx0
import Derived.Test.YtecfojgamdilnaaPFnBracketsTrimx1
namespace Go.Proofs.Ytecfojgamdilnaa.PFnBracketsTrim
open Go.RowKit Go.Proofs.YtecfojgamdilnaaW.PrintWords Go.Proofs.YtecfojgamdilnaaW.PrintLast Go.Proofs.YtecfojgamdilnaaW.PrintMore
attribute [local go_sem] max2_int min2_int max_two min_two max_three min_three max_four min_four   -- for this text's walks alone
set_option linter.unusedVariables false
set_option linter.unusedSimpArgs false

/-! ### laws_FnBracketsTrim: function 8 -/
mutual
def laws_FnBracketsTrim.j0 : Nat → Int → Int → ByteArray → Bool → Option (Bool)
  | 0, _, _, _, _ => none
  | k + 1, x0, x1, x2, x20 => if x20 = true then (some true) else (if 0 < (x2.size : Int) then (if 0 ≤ (wrap64 ((x2.size : Int) - 1)) then (if (wrap64 ((x2.size : Int) - 1)) < (x2.size : Int) then ((some (([bt x2 0, bt x2 (wrap64 ((x2.size : Int) - 1))] : List Int) : List Int)).bind fun y105 => (laws_FnBracketsTrim.l0 k x0 x1 x2 y105 (y105.length : Int) 0)) else (none)) else (none)) else (none))
def laws_FnBracketsTrim.l0 : Nat → Int → Int → ByteArray → List Int → Int → Int → Option (Bool)
  | 0, _, _, _, _, _, _ => none
  | k + 1, x0, x1, x2, x28, x29, x30 => if x30 < x29 then (if 0 ≤ x30 then (if x30 < (x28.length : Int) then (if (rd x28 x30) = 123 then (some true) else (if (rd x28 x30) = 125 then (some true) else (laws_FnBracketsTrim.l0 k x0 x1 x2 x28 x29 (wrap64 (x30 + 1))))) else (none)) else (none)) else (laws_FnBracketsTrim.l1 k x1 x2 (⟨#[]⟩ : ByteArray) (⟨#[]⟩ : ByteArray) (Int.tmod x0 8) 0)
def laws_FnBracketsTrim.l1 : Nat → Int → ByteArray → ByteArray → ByteArray → Int → Int → Option (Bool)
  | 0, _, _, _, _, _, _ => none
  | k + 1, x1, x2, x9, x10, x42, x43 => if x43 < x42 then (if x9.size + 1 ≤ 9223372036854775807 then (laws_FnBracketsTrim.l1 k x1 x2 (x9 ++ (⟨#[123]⟩ : ByteArray)) x10 x42 ((x43 + 1) % 256)) else (none)) else (laws_FnBracketsTrim.l2 k x2 x9 x10 (Int.tmod x1 8) 0)
def laws_FnBracketsTrim.l2 : Nat → ByteArray → ByteArray → ByteArray → Int → Int → Option (Bool)
  | 0, _, _, _, _, _ => none
  | k + 1, x2, x9, x10, x49, x50 => if x50 < x49 then (if x10.size + 1 ≤ 9223372036854775807 then (laws_FnBracketsTrim.l2 k x2 x9 (x10 ++ (⟨#[125]⟩ : ByteArray)) x49 ((x50 + 1) % 256)) else (none)) else (if x9.size + x2.size ≤ 9223372036854775807 then (if (x9 ++ x2).size + x10.size ≤ 9223372036854775807 then ((impl_BracketsTrim.f k ((x9 ++ x2) ++ x10)).bind fun t109 => (some (t109.toList == x2.toList))) else (none)) else (none))
end
def laws_FnBracketsTrim.f (k : Nat) (a0 : Int) (a1 : Int) (a2 : ByteArray) : Option (Bool) := if (a2.size : Int) > 2147483647 then (some true) else (if (a2.size : Int) > 5000 then (laws_FnBracketsTrim.j0 k a0 a1 a2 true) else (laws_FnBracketsTrim.j0 k a0 a1 a2 (a2.toList == ([] : List UInt8))))
theorem laws_FnBracketsTrim.mono_l : ∀ k, (∀ y0 y1 y2 y3, LeO (laws_FnBracketsTrim.j0 k y0 y1 y2 y3) (laws_FnBracketsTrim.j0 (k + 1) y0 y1 y2 y3)) ∧ (∀ y0 y1 y2 y3 y4 y5, LeO (laws_FnBracketsTrim.l0 k y0 y1 y2 y3 y4 y5) (laws_FnBracketsTrim.l0 (k + 1) y0 y1 y2 y3 y4 y5)) ∧ (∀ y0 y1 y2 y3 y4 y5, LeO (laws_FnBracketsTrim.l1 k y0 y1 y2 y3 y4 y5) (laws_FnBracketsTrim.l1 (k + 1) y0 y1 y2 y3 y4 y5)) ∧ (∀ y0 y1 y2 y3 y4, LeO (laws_FnBracketsTrim.l2 k y0 y1 y2 y3 y4) (laws_FnBracketsTrim.l2 (k + 1) y0 y1 y2 y3 y4))
  | 0 => ⟨fun _ _ _ _ r h => by simp [laws_FnBracketsTrim.j0] at h, fun _ _ _ _ _ _ r h => by simp [laws_FnBracketsTrim.l0] at h, fun _ _ _ _ _ _ r h => by simp [laws_FnBracketsTrim.l1] at h, fun _ _ _ _ _ r h => by simp [laws_FnBracketsTrim.l2] at h⟩
  | k + 1 => by
    obtain ⟨ih0, ih1, ih2, ih3⟩ := laws_FnBracketsTrim.mono_l k
    refine ⟨?_, ?_, ?_, ?_⟩
    · intro y0 y1 y2 y3
      unfold laws_FnBracketsTrim.j0
      repeat' first
      | (with_reducible exact ih0 _ _ _ _)
      | (with_reducible exact ih1 _ _ _ _ _ _)
      | (with_reducible exact ih2 _ _ _ _ _ _)
      | (with_reducible exact ih3 _ _ _ _ _)
      | (with_reducible exact impl_BracketsTrim.mono _ _)
      | (with_reducible exact LeO.refl _)
      | (with_reducible exact LeO.none _)
      | (with_reducible refine LeO.ite ?_ ?_)
      | (with_reducible refine LeO.bind ?_ (fun _ => ?_))
      | exact ih0 _ _ _ _
      | exact ih1 _ _ _ _ _ _
      | exact ih2 _ _ _ _ _ _
      | exact ih3 _ _ _ _ _
      | exact impl_BracketsTrim.mono _ _
      | exact LeO.none _
      | refine LeO.ite ?_ ?_
      | refine LeO.bind ?_ (fun _ => ?_)
    · intro y0 y1 y2 y3 y4 y5
      unfold laws_FnBracketsTrim.l0
      repeat' first
      | (with_reducible exact ih0 _ _ _ _)
      | (with_reducible exact ih1 _ _ _ _ _ _)
      | (with_reducible exact ih2 _ _ _ _ _ _)
      | (with_reducible exact ih3 _ _ _ _ _)
      | (with_reducible exact impl_BracketsTrim.mono _ _)
      | (with_reducible exact LeO.refl _)
      | (with_reducible exact LeO.none _)
      | (with_reducible refine LeO.ite ?_ ?_)
      | (with_reducible refine LeO.bind ?_ (fun _ => ?_))
      | exact ih0 _ _ _ _
      | exact ih1 _ _ _ _ _ _
      | exact ih2 _ _ _ _ _ _
      | exact ih3 _ _ _ _ _
      | exact impl_BracketsTrim.mono _ _
      | exact LeO.none _
      | refine LeO.ite ?_ ?_
      | refine LeO.bind ?_ (fun _ => ?_)
    · intro y0 y1 y2 y3 y4 y5
      unfold laws_FnBracketsTrim.l1
      repeat' first
      | (with_reducible exact ih0 _ _ _ _)
      | (with_reducible exact ih1 _ _ _ _ _ _)
      | (with_reducible exact ih2 _ _ _ _ _ _)
      | (with_reducible exact ih3 _ _ _ _ _)
      | (with_reducible exact impl_BracketsTrim.mono _ _)
      | (with_reducible exact LeO.refl _)
      | (with_reducible exact LeO.none _)
      | (with_reducible refine LeO.ite ?_ ?_)
      | (with_reducible refine LeO.bind ?_ (fun _ => ?_))
      | exact ih0 _ _ _ _
      | exact ih1 _ _ _ _ _ _
      | exact ih2 _ _ _ _ _ _
      | exact ih3 _ _ _ _ _
      | exact impl_BracketsTrim.mono _ _
      | exact LeO.none _
      | refine LeO.ite ?_ ?_
      | refine LeO.bind ?_ (fun _ => ?_)
    · intro y0 y1 y2 y3 y4
      unfold laws_FnBracketsTrim.l2
      repeat' first
      | (with_reducible exact ih0 _ _ _ _)
      | (with_reducible exact ih1 _ _ _ _ _ _)
      | (with_reducible exact ih2 _ _ _ _ _ _)
      | (with_reducible exact ih3 _ _ _ _ _)
      | (with_reducible exact impl_BracketsTrim.mono _ _)
      | (with_reducible exact LeO.refl _)
      | (with_reducible exact LeO.none _)
      | (with_reducible refine LeO.ite ?_ ?_)
      | (with_reducible refine LeO.bind ?_ (fun _ => ?_))
      | exact ih0 _ _ _ _
      | exact ih1 _ _ _ _ _ _
      | exact ih2 _ _ _ _ _ _
      | exact ih3 _ _ _ _ _
      | exact impl_BracketsTrim.mono _ _
      | exact LeO.none _
      | refine LeO.ite ?_ ?_
      | refine LeO.bind ?_ (fun _ => ?_)
theorem laws_FnBracketsTrim.mono : ∀ a0 a1 a2 k, LeO (laws_FnBracketsTrim.f k a0 a1 a2) (laws_FnBracketsTrim.f (k + 1) a0 a1 a2) := by
  intro a0 a1 a2 k
  obtain ⟨ih0, ih1, ih2, ih3⟩ := laws_FnBracketsTrim.mono_l k
  unfold laws_FnBracketsTrim.f
  repeat' first
      | (with_reducible exact ih0 _ _ _ _)
      | (with_reducible exact ih1 _ _ _ _ _ _)
      | (with_reducible exact ih2 _ _ _ _ _ _)
      | (with_reducible exact ih3 _ _ _ _ _)
      | (with_reducible exact impl_BracketsTrim.mono _ _)
      | (with_reducible exact LeO.refl _)
      | (with_reducible exact LeO.none _)
      | (with_reducible refine LeO.ite ?_ ?_)
      | (with_reducible refine LeO.bind ?_ (fun _ => ?_))
      | exact ih0 _ _ _ _
      | exact ih1 _ _ _ _ _ _
      | exact ih2 _ _ _ _ _ _
      | exact ih3 _ _ _ _ _
      | exact impl_BracketsTrim.mono _ _
      | exact LeO.none _
      | refine LeO.ite ?_ ?_
      | refine LeO.bind ?_ (fun _ => ?_)
def laws_FnBracketsTrim.T5 : Bool × List (List Nat × List Nat) := (true, [([], []), ([0], [0]), ([], []), ([], []), ([3], [3]), ([4], [4]), ([2, 5], [2, 5]), ([1, 6], [1, 6]), ([7], [7]), ([], [])])
def laws_FnBracketsTrim.B5 : List Nat := [0, 1, 0, 0, 8, 24, 60, 127, 255, 0]
theorem laws_FnBracketsTrim.tab5 : rtab .any (opsOf Try.f8 5) = laws_FnBracketsTrim.T5 := by kernel_rfl
theorem laws_FnBracketsTrim.bits5 : waitsOk laws_FnBracketsTrim.T5.2 laws_FnBracketsTrim.B5 = true := by kernel_rfl
set_option maxHeartbeats 8000000 in
set_option maxRecDepth 100000 in
theorem laws_FnBracketsTrim.calls (k : Nat) (a0 : Int) (a1 : Int) (a2 : ByteArray) (r : Bool) (w : World) (h : laws_FnBracketsTrim.f k a0 a1 a2 = some r) :
    Calls Try.prog 8 #[.int .u8 a0, .int .u8 a1, .string a2] w fun e w' => e = .returned (.bool r) ∧ Below w.heap.size w w' := by
  have HB := Aside0.mk (Below.refl w.heap.size w)
  have H : (if (a2.size : Int) > 2147483647 then (some true) else (if (a2.size : Int) > 5000 then (laws_FnBracketsTrim.j0 k a0 a1 a2 true) else (laws_FnBracketsTrim.j0 k a0 a1 a2 (a2.toList == ([] : List UInt8))))) = some r := h
  clear h
  by_cases c4 : (a2.size : Int) > 2147483647
  · rw [if_pos c4] at H
    have c4b0 : decide (2147483647 < (a2.size : Int)) = true := decide_eq_true c4
    have c4b1 : decide (2147483647 < a2.size) = true := decide_eq_true (by omega)
    clear c4
    obtain rfl := Option.some.inj H
    go_enter Try.func8, Try.ntmps8
    go_wp2
    go_ret
    exact ⟨by first | rfl | (simp [errW_none, errW_some] <;> rfl) | (simp [*, errW_none, errW_some] <;> rfl), by repeat (first | (with_reducible first | exact HB.out | apply below_alloc | apply pw_below_drewN | apply below_drew1) | exact HB.out)⟩
  · rw [if_neg c4] at H
    have c4b0 : decide (2147483647 < (a2.size : Int)) = false := decide_eq_false c4
    have c4b1 : decide (2147483647 < a2.size) = false := decide_eq_false (by omega)
    clear c4
    have HC5 := Aside0.mk H
    clear H
    go_enter Try.func8, Try.ntmps8
    go_upto_region 3 with (fail)
    go_cut [20] (fun v20 wc => ∃ (kq : Nat) (x20_4 : Bool), v20 = .bool x20_4 ∧ Aside0 (laws_FnBracketsTrim.j0 kq a0 a1 a2 x20_4 = some r) ∧ Aside0 (kq ≤ k) ∧ Aside0 (Below w.heap.size w wc))
    case first =>
      have H := HC5.out
      clear HC5
      by_cases c6 : (a2.size : Int) > 5000
      · rw [if_pos c6] at H
        have c6b0 : decide (5000 < (a2.size : Int)) = true := decide_eq_true c6
        have c6b1 : decide (5000 < a2.size) = true := decide_eq_true (by omega)
        clear c6
        (first | rw [c6b0] | (simp only [i64_w, i32_w]; rw [c6b0]) | skip)
        have H' := Aside0.mk H
        clear H
        go_wp2
        go_meet
        case rel => exact ⟨_, (true), (by first | rfl | (simp; done) | (simp [*]; done) | (simp [xt_ne_nil]; done)), H', ⟨by first | omega | exact Nat.le_refl _⟩, ⟨by repeat (first | (with_reducible first | exact HB.out | apply below_alloc | apply pw_below_drewN | apply below_drew1) | exact HB.out)⟩⟩
      · rw [if_neg c6] at H
        have c6b0 : decide (5000 < (a2.size : Int)) = false := decide_eq_false c6
        have c6b1 : decide (5000 < a2.size) = false := decide_eq_false (by omega)
        clear c6
        (first | rw [c6b0] | (simp only [i64_w, i32_w]; rw [c6b0]) | skip)
        have H' := Aside0.mk H
        clear H
        go_wp2
        go_meet
        case rel => exact ⟨_, ((a2.toList == ([] : List UInt8))), (by first | rfl | (simp; done) | (simp [*]; done) | (simp [xt_ne_nil]; done)), H', ⟨by first | omega | exact Nat.le_refl _⟩, ⟨by repeat (first | (with_reducible first | exact HB.out | apply below_alloc | apply pw_below_drewN | apply below_drew1) | exact HB.out)⟩⟩
    case rest =>
      clear HC5
      try clear p2
      try clear c4
      try clear c4b0
      try clear c4b1
      try clear c6
      try clear c6b0
      try clear c6b1
      obtain ⟨kq, x20_4, rfl, HA, HJ4, HB⟩ := hcut
      cases kq with
      | zero => exact absurd HA.out (by simp [laws_FnBracketsTrim.j0])
      | succ kj4 =>
        have H := HA.out
        clear HA
        simp only [laws_FnBracketsTrim.j0] at H
        by_cases c7 : x20_4 = true
        · subst c7
          have H1 : (some true) = some r := by rw [if_pos rfl] at H; exact H
          clear H
          have H := H1
          clear H1
          obtain rfl := Option.some.inj H
          go_wp2
          go_ret
          exact ⟨by first | rfl | (simp [errW_none, errW_some] <;> rfl) | (simp [*, errW_none, errW_some] <;> rfl), by repeat (first | (with_reducible first | exact HB.out | apply below_alloc | apply pw_below_drewN | apply below_drew1) | exact HB.out)⟩
        · replace c7 := Bool.eq_false_iff.mpr c7
          subst c7
          have H1 : (if 0 < (a2.size : Int) then (if 0 ≤ (wrap64 ((a2.size : Int) - 1)) then (if (wrap64 ((a2.size : Int) - 1)) < (a2.size : Int) then ((some (([bt a2 0, bt a2 (wrap64 ((a2.size : Int) - 1))] : List Int) : List Int)).bind fun y105 => (laws_FnBracketsTrim.l0 kj4 a0 a1 a2 y105 (y105.length : Int) 0)) else (none)) else (none)) else (none)) = some r := by rw [if_neg (show ¬ (false = true) by decide)] at H; exact H
          clear H
          have H := H1
          clear H1
          by_cases c8 : 0 < (a2.size : Int)
          · rw [if_pos c8] at H
            have c8b0 : decide (0 < (a2.size : Int)) = true := decide_eq_true c8
            have c8b1 : decide (0 < a2.size) = true := decide_eq_true (by omega)
            clear c8
            obtain ⟨ji10, hji10⟩ : ∃ j_ : Int, (wrap64 ((a2.size : Int) - 1)) = j_ := ⟨_, rfl⟩
            replace H : (if 0 ≤ (ji10) then (if (ji10) < (a2.size : Int) then ((some (([bt a2 0, bt a2 (ji10)] : List Int) : List Int)).bind fun y105 => (laws_FnBracketsTrim.l0 kj4 a0 a1 a2 y105 (y105.length : Int) 0)) else (none)) else (none)) = some r := by first | (rw [hji10] at H; exact H) | (simp only [hji10] at H ⊢; exact H)
            have hji10w : (IntKind.i64.wrap ((a2.size : Int) - 1)) = ji10 := (i64_w _).trans hji10
            by_cases c11 : 0 ≤ (ji10)
            · rw [if_pos c11] at H
              have c11b0 : decide (0 ≤ (ji10)) = true := decide_eq_true c11
              clear c11
              by_cases c12 : (ji10) < (a2.size : Int)
              · rw [if_pos c12] at H
                have c12b0 : decide ((ji10) < (a2.size : Int)) = true := decide_eq_true c12
                clear c12
                obtain ⟨y105, hy105⟩ : ∃ y_ : List Int, y_ = (([bt a2 0, bt a2 (ji10)] : List Int)) := ⟨_, rfl⟩
                replace H : (laws_FnBracketsTrim.l0 kj4 a0 a1 a2 y105 (y105.length : Int) 0) = some r := by first | (rw [hy105]; with_reducible exact H) | (have H2_ := (Option.bind_some _ _).symm.trans H; rw [hy105]; with_reducible exact H2_) | (have H2_ := (Option.bind_some _ _).symm.trans H; with_reducible exact H2_) | with_reducible exact H | (rw [hy105]; exact H) | exact H
                have Ny105 := Aside0.mk hy105
                clear hy105
                have H' := Aside0.mk H
                clear H
                try go_wp2
                have n0_ := Aside0.mk (below_drew1 HB.out)
                clear HB
                have HB := n0_
                clear n0_
                have p9 : 0 ≤ (0 : Int) := (by omega)
                have q9 : 0 < a2.size := (by have : (0 : Int) < (a2.size : Int) := of_decide_eq_true (by first | (with_reducible assumption) | assumption); omega)
                have hx9 : ∀ h : 0 < a2.size, ((a2[0]'h).toNat : Int) = bt a2 0 := bt_at a2 0
                clear p9
                have qi9 : (0 < (a2.size : Int)) = True := eq_true (of_decide_eq_true (by first | (with_reducible assumption) | assumption))
                replace q9 := eq_true q9
                have p13 : 0 ≤ ((ji10) : Int) := of_decide_eq_true (by first | (with_reducible assumption) | assumption)
                have q13 : (ji10) < (a2.size : Int) := of_decide_eq_true (by first | (with_reducible assumption) | assumption)
                have hx13 := bt_at a2 (ji10)
                replace p13 := eq_true p13
                replace q13 := eq_true q13
                refine start_ (n := 10) (S := fun w' => True) (ds := []) #[false, false, false, false, false, false, false, false, false, false] (by kernel_rfl) rfl rfl trivial (fun hHeld => ?_); refine with_tabW laws_FnBracketsTrim.tab5 laws_FnBracketsTrim.bits5 (fun HT_ HW_ => ?_)
                generalize wc.drew = w14 at HB hHeld ⊢
                refine pure_ (i := 0) (N := some 21) (v := ?_) (a' := ?_) #[true, false, false, false, false, false, false, false, false, false] rfl rfl (any_of HT_.out (by kernel_rfl)) (fun _ _ _ h => h) (Or.inl ⟨by rfl, ?_⟩) ?_ ?_
                rotate_left
                · intro w'
                  go_simp
                  with_reducible rfl
                rotate_left
                · simp only [Act.put, List.setIfInBounds_toArray, List.set_cons_zero, List.set_cons_succ, i64_w, i32_w]
                  rfl
                refine pure_ (i := 2) (N := some 23) (v := ?_) (a' := ?_) #[true, false, true, false, false, false, false, false, false, false] rfl rfl (any_of HT_.out (by kernel_rfl)) (fun _ _ _ h => h) (Or.inl ⟨by rfl, ?_⟩) ?_ ?_
                rotate_left
                · intro w'
                  go_simp
                  with_reducible rfl
                rotate_left
                · simp only [Act.put, List.setIfInBounds_toArray, List.set_cons_zero, List.set_cons_succ, i64_w, i32_w]
                  rfl
                refine pure_ (i := 3) (N := some 24) (v := ?_) (a' := ?_) #[true, false, true, true, false, false, false, false, false, false] rfl rfl (any_of HT_.out (by kernel_rfl)) (fun _ _ _ h => h) (Or.inl ⟨by rfl, ?_⟩) ?_ ?_
                rotate_left
                · intro w'
                  go_simp
                  with_reducible rfl
                rotate_left
                · simp only [Act.put, List.setIfInBounds_toArray, List.set_cons_zero, List.set_cons_succ, i64_w, i32_w]
                  rfl
                refine pure_ (i := 4) (N := some 25) (v := ?_) (a' := ?_) #[true, false, true, true, true, false, false, false, false, false] rfl rfl (any_of HT_.out (by kernel_rfl)) (fun _ _ _ h => h) (Or.inl ⟨by rfl, ?_⟩) ?_ ?_
                rotate_left
                · intro w'
                  go_simp
                  with_reducible rfl
                rotate_left
                · simp only [Act.put, List.setIfInBounds_toArray, List.set_cons_zero, List.set_cons_succ, i64_w, i32_w]
                  rfl
                refine pure_ (i := 5) (N := some 26) (v := ?_) (a' := ?_) #[true, false, true, true, true, true, false, false, false, false] rfl rfl (any_of HT_.out (by kernel_rfl)) (fun _ _ _ h => h) (Or.inl ⟨by rfl, ?_⟩) ?_ ?_
                rotate_left
                · intro w'
                  go_simp
                  with_reducible rfl
                rotate_left
                · simp only [Act.put, List.setIfInBounds_toArray, List.set_cons_zero, List.set_cons_succ, i64_w, i32_w]
                  rfl
                refine pure_ (i := 9) (N := some 30) (v := ?_) (a' := ?_) #[true, false, true, true, true, true, false, false, false, true] rfl rfl (any_of HT_.out (by kernel_rfl)) (fun _ _ _ h => h) (Or.inl ⟨by rfl, ?_⟩) ?_ ?_
                rotate_left
                · intro w'
                  go_simp
                  with_reducible rfl
                rotate_left
                · simp only [Act.put, List.setIfInBounds_toArray, List.set_cons_zero, List.set_cons_succ, i64_w, i32_w]
                  rfl
                refine take_ (i := 1) (N := some 22) (v := ?_) (a' := ?_) #[true, true, true, true, true, true, false, false, false, true] rfl rfl (take_ofW HT_.out HW_.out (by kernel_rfl)) (fun _ _ _ h => h) (Or.inl ⟨by rfl, ?_⟩) hHeld ?_ ?_
                rotate_left
                · intro w' _
                  go_simp
                  with_reducible rfl
                rotate_left
                · simp only [Act.put, List.setIfInBounds_toArray, List.set_cons_zero, List.set_cons_succ, i64_w, i32_w]
                  rfl
                refine take_ (i := 6) (N := some 27) (v := ?_) (a' := ?_) #[true, true, true, true, true, true, true, false, false, true] rfl rfl (take_ofW HT_.out HW_.out (by kernel_rfl)) (fun _ _ _ h => h) (Or.inl ⟨by rfl, ?_⟩) hHeld ?_ ?_
                rotate_left
                · intro w' _
                  go_simp
                  with_reducible rfl
                rotate_left
                · simp only [Act.put, List.setIfInBounds_toArray, List.set_cons_zero, List.set_cons_succ, i64_w, i32_w]
                  rfl
                refine one_ (i := 7) (N := some 28) #[true, true, true, true, true, true, true, true, false, true] rfl rfl (one_of HT_.out (by kernel_rfl)) (by decide) (fun K hK => ?_)
                refine Kd.R_lit_step (Kd.int .u8) _ 5 ?hg (N := 28) ?hd (xs := ([bt a2 0, bt a2 (ji10)] : List Int)) (inner := [.int .u8 (bt a2 0), .int .u8 (bt a2 (ji10))]) (ok := fun _ => True) (okp := fun _ => True) ?hr ?hp (fun _ hk => hk) trivial (Below.refl _ _) (Nat.le_refl _) (by simp) ?_; (case hd => rfl); (case hg => rfl); (case hr => first | (go_simp; done) | (go_simp; rfl)); (case hp => exact (Reps.one (show Kd.M (Kd.int .u8) _ _ _ (bt a2 0) [.int .u8 (bt a2 0)] from rfl) (Reps.one (show Kd.M (Kd.int .u8) _ _ _ (bt a2 (ji10)) [.int .u8 (bt a2 (ji10))] from rfl) (Reps.none _ _))))
                intro v106 w15 ho16 hb hg_ hnew_
                clear hg_ hnew_
                (first | rw [← Ny105.out] at ho16 | (simp only [Int.reduceToNat] at ho16; rw [← Ny105.out] at ho16))
                have n0_ := Aside0.mk (Kd.R_lower ho16 (below_size (by repeat (first | (with_reducible first | exact HB.out | apply below_alloc | apply pw_below_drewN | apply below_drew1) | exact HB.out))))
                have n1_ := Aside0.mk (below_step (by repeat (first | (with_reducible first | exact HB.out | apply below_alloc | apply pw_below_drewN | apply below_drew1) | exact HB.out)) hb)
                clear HB
                have HO107 := n0_
                have HB := n1_
                clear n0_ n1_
                clear hb ho16
                obtain ⟨Ao17, co17, eo17⟩ := Kd.R_slice HO107.out
                (first | subst eo17 | (injection eo17 with f1_ f2_ f3_; have f4_ := f1_.symm; have f5_ := f3_.symm; clear f1_ f2_ f3_; subst f4_; subst f5_))
                refine hK.out _ _ trivial (fun hHeld => ?_)
                clear hK K
                refine norm_ (a' := ?_) ?_ ?_
                rotate_left
                · show Act.put _ (some 28) _ = _
                  simp only [Act.put, List.setIfInBounds_toArray, List.set_cons_zero, List.set_cons_succ, i64_w, i32_w]
                  rfl
                refine pure_ (i := 8) (N := some 29) (v := ?_) (a' := ?_) #[true, true, true, true, true, true, true, true, true, true] rfl rfl (any_of HT_.out (by kernel_rfl)) (fun _ _ _ h => h) (Or.inl ⟨by rfl, ?_⟩) ?_ ?_
                rotate_left
                · intro w'
                  go_simp
                  with_reducible rfl
                rotate_left
                · simp only [Act.put, List.setIfInBounds_toArray, List.set_cons_zero, List.set_cons_succ, i64_w, i32_w]
                  rfl
                refine done_ (done_of HT_.out (by kernel_rfl)) ?_
                try go_wp2
                go_loopg [30] kj4 (fun kq v30 w' => ∃ (x30_2 : Int), v30 = .int .i64 x30_2 ∧ Aside0 (laws_FnBracketsTrim.l0 kq a0 a1 a2 y105 (y105.length : Int) x30_2 = some r) ∧ Aside0 (kq ≤ kj4) ∧ Aside0 (Kd.R (Kd.int .u8) 5 w' w.heap.size (fun _ => True) (.slice Ao17 y105.length co17) y105) ∧ Aside0 (Below w.heap.size w w'))
                case atStart => exact ⟨(0), (by first | rfl | (simp; done) | (simp [*]; done) | (simp [xt_ne_nil]; done)), H', ⟨Nat.le_refl _⟩, ⟨by (with_reducible repeat (first | apply Kd.R_alloc | apply Kd.R_drewN | apply Kd.R_drew)); exact HO107.out⟩, ⟨by repeat (first | (with_reducible first | exact HB.out | apply below_alloc | apply pw_below_drewN | apply below_drew1) | exact HB.out)⟩⟩
                case round =>
                  clear H'
                  try clear c1
                  try clear p1
                  try clear q1
                  try clear hx1
                  try clear p2
                  try clear c4
                  try clear c4b0
                  try clear c4b1
                  try clear c6
                  try clear c6b0
                  try clear c6b1
                  try clear p6
                  try clear c7
                  try clear c8
                  try clear c8b0
                  try clear c8b1
                  try clear p9
                  try clear q9
                  try clear hx9
                  try clear qi9
                  try clear c11
                  try clear c11b0
                  try clear c12
                  try clear c12b0
                  try clear p13
                  try clear q13
                  try clear hx13
                  try clear p13
                  try clear p2
                  try clear p9
                  try clear q13
                  try clear q9
                  obtain ⟨x30_2, rfl, HA, HK2, HO_28, HB⟩ := hrel
                  cases gk with
                  | zero => exact absurd HA.out (by simp [laws_FnBracketsTrim.l0])
                  | succ k2 =>
                    have H := HA.out
                    clear HA
                    simp only [laws_FnBracketsTrim.l0] at H
                    by_cases c18 : x30_2 < (y105.length : Int)
                    · rw [if_pos c18] at H
                      have c18b0 : decide (x30_2 < (y105.length : Int)) = true := decide_eq_true c18
                      clear c18
                      by_cases c19 : 0 ≤ x30_2
                      · rw [if_pos c19] at H
                        have c19b0 : decide (0 ≤ x30_2) = true := decide_eq_true c19
                        clear c19
                        by_cases c20 : x30_2 < (y105.length : Int)
                        · rw [if_pos c20] at H
                          have c20b0 : decide (x30_2 < (y105.length : Int)) = true := decide_eq_true c20
                          clear c20
                          by_cases c21 : (rd y105 x30_2) = 123
                          · rw [if_pos c21] at H
                            have c21b0 : ((rd y105 x30_2) == 123) = true := beq_iff_eq.mpr c21
                            have c21b1 : ((rd y105 x30_2) != 123) = false := bne_eq_false_iff_eq.mpr c21
                            clear c21
                            obtain rfl := Option.some.inj H
                            have p108 : 0 ≤ (x30_2 : Int) := of_decide_eq_true (by first | (with_reducible assumption) | assumption)
                            have q108 : x30_2 < (y105.length : Int) := of_decide_eq_true (by first | (with_reducible assumption) | assumption)
                            obtain ⟨ad108, e108, hx108_0⟩ := Kd.at_int (Kd.R_reads' HO_28.out).2.2 x30_2 p108 q108
                            cases e108
                            replace p108 := eq_true p108
                            replace q108 := eq_true q108
                            go_wp2
                            go_ret
                            exact ⟨by first | rfl | (simp [errW_none, errW_some] <;> rfl) | (simp only [← hji10]; first | rfl | (simp [errW_none, errW_some] <;> rfl)) | (simp [*, errW_none, errW_some] <;> rfl), by repeat (first | (with_reducible first | exact HB.out | apply below_alloc | apply pw_below_drewN | apply below_drew1) | exact HB.out)⟩
                          · rw [if_neg c21] at H
                            have c21b0 : ((rd y105 x30_2) == 123) = false := beq_eq_false_iff_ne.mpr c21
                            have c21b1 : ((rd y105 x30_2) != 123) = true := bne_iff_ne.mpr c21
                            by_cases c22 : (rd y105 x30_2) = 125
                            · rw [if_pos c22] at H
                              have c22b0 : ((rd y105 x30_2) == 125) = true := beq_iff_eq.mpr c22
                              have c22b1 : ((rd y105 x30_2) != 125) = false := bne_eq_false_iff_eq.mpr c22
                              clear c22
                              obtain rfl := Option.some.inj H
                              have p108 : 0 ≤ (x30_2 : Int) := of_decide_eq_true (by first | (with_reducible assumption) | assumption)
                              have q108 : x30_2 < (y105.length : Int) := of_decide_eq_true (by first | (with_reducible assumption) | assumption)
                              obtain ⟨ad108, e108, hx108_0⟩ := Kd.at_int (Kd.R_reads' HO_28.out).2.2 x30_2 p108 q108
                              cases e108
                              replace p108 := eq_true p108
                              replace q108 := eq_true q108
                              go_wp2
                              go_ret
                              exact ⟨by first | rfl | (simp [errW_none, errW_some] <;> rfl) | (simp only [← hji10]; first | rfl | (simp [errW_none, errW_some] <;> rfl)) | (simp [*, errW_none, errW_some] <;> rfl), by repeat (first | (with_reducible first | exact HB.out | apply below_alloc | apply pw_below_drewN | apply below_drew1) | exact HB.out)⟩
                            · rw [if_neg c22] at H
                              have c22b0 : ((rd y105 x30_2) == 125) = false := beq_eq_false_iff_ne.mpr c22
                              have c22b1 : ((rd y105 x30_2) != 125) = true := bne_iff_ne.mpr c22
                              have H' := Aside0.mk H
                              clear H
                              have p108 : 0 ≤ (x30_2 : Int) := of_decide_eq_true (by first | (with_reducible assumption) | assumption)
                              have q108 : x30_2 < (y105.length : Int) := of_decide_eq_true (by first | (with_reducible assumption) | assumption)
                              obtain ⟨ad108, e108, hx108_0⟩ := Kd.at_int (Kd.R_reads' HO_28.out).2.2 x30_2 p108 q108
                              cases e108
                              replace p108 := eq_true p108
                              replace q108 := eq_true q108
                              go_wp2
                              go_roundg k2
                              case measure => have := HJ4.out; have := HK2.out; omega
                              case rel => exact ⟨(wrap64 (x30_2 + 1)), (by first | rfl | (simp; done) | (simp [*]; done) | (simp [xt_ne_nil]; done)), H', ⟨by have := HJ4.out; have := HK2.out; omega⟩, ⟨by (with_reducible repeat (first | apply Kd.R_alloc | apply Kd.R_drewN | apply Kd.R_drew)); exact HO_28.out⟩, ⟨by repeat (first | (with_reducible first | exact HB.out | apply below_alloc | apply pw_below_drewN | apply below_drew1) | exact HB.out)⟩⟩
                        · rw [if_neg c20] at H
                          exact absurd H (by simp)
                      · rw [if_neg c19] at H
                        exact absurd H (by simp)
                    · rw [if_neg c18] at H
                      have c18b0 : decide (x30_2 < (y105.length : Int)) = false := decide_eq_false c18
                      clear c18
                      have H' := Aside0.mk H
                      clear H
                      go_wp2
                      go_loopg [9, 43] k2 (fun kq v9 v43 w' => ∃ (x9_3 : ByteArray) (x43_3 : Int), v9 = .string x9_3 ∧ v43 = .int .u8 x43_3 ∧ Aside0 (laws_FnBracketsTrim.l1 kq a1 a2 x9_3 (⟨#[]⟩ : ByteArray) (Int.tmod a0 8) x43_3 = some r) ∧ Aside0 (kq ≤ k2) ∧ Aside0 (Below w.heap.size w w'))
                      case atStart => exact ⟨((⟨#[]⟩ : ByteArray)), (0), (by first | rfl | (simp; done) | (simp [*]; done) | (simp [xt_ne_nil]; done)), (by first | rfl | (simp; done) | (simp [*]; done) | (simp [xt_ne_nil]; done)), H', ⟨Nat.le_refl _⟩, ⟨by repeat (first | (with_reducible first | exact HB.out | apply below_alloc | apply pw_below_drewN | apply below_drew1) | exact HB.out)⟩⟩
                      case round =>
                        clear H'
                        try clear c1
                        try clear p1
                        try clear q1
                        try clear hx1
                        try clear c2
                        try clear p2
                        try clear c4
                        try clear c4b0
                        try clear c4b1
                        try clear c6
                        try clear c6b0
                        try clear c6b1
                        try clear p6
                        try clear c7
                        try clear c8
                        try clear c8b0
                        try clear c8b1
                        try clear p9
                        try clear q9
                        try clear hx9
                        try clear qi9
                        try clear p10
                        try clear q10
                        try clear hx10
                        try clear c11
                        try clear c11b0
                        try clear c12
                        try clear c12b0
                        try clear p13
                        try clear q13
                        try clear hx13
                        try clear c18
                        try clear c18b0
                        try clear c19
                        try clear c19b0
                        try clear c20
                        try clear c20b0
                        try clear c21
                        try clear c21b0
                        try clear c21b1
                        try clear c22
                        try clear c22b0
                        try clear c22b1
                        try clear hx108_0
                        try clear p1
                        try clear p108
                        try clear p13
                        try clear p2
                        try clear p6
                        try clear p9
                        try clear q1
                        try clear q108
                        try clear q13
                        try clear q9
                        obtain ⟨x9_3, x43_3, rfl, rfl, HA, HK3, HB⟩ := hrel
                        cases gk with
                        | zero => exact absurd HA.out (by simp [laws_FnBracketsTrim.l1])
                        | succ k3 =>
                          have H := HA.out
                          clear HA
                          simp only [laws_FnBracketsTrim.l1] at H
                          by_cases c23 : x43_3 < (Int.tmod a0 8)
                          · rw [if_pos c23] at H
                            have c23b0 : decide (x43_3 < (Int.tmod a0 8)) = true := decide_eq_true c23
                            clear c23
                            by_cases c24 : x9_3.size + 1 ≤ 9223372036854775807
                            · rw [if_pos c24] at H
                              have c24b0 := eq_true c24
                              have c24b1 : decide (x9_3.size + 1 ≤ 9223372036854775807) = true := decide_eq_true c24
                              try have c24b2 : (9223372036854775807 < x9_3.size + 1) = False := eq_false (Nat.not_lt.2 c24)
                              have H' := Aside0.mk H
                              clear H
                              go_wp2
                              go_roundg k3
                              case measure => have := HJ4.out; have := HK2.out; have := HK3.out; omega
                              case rel => exact ⟨(x9_3 ++ (⟨#[123]⟩ : ByteArray)), ((x43_3 + 1) % 256), (by first | rfl | (simp; done) | (simp [*]; done) | (simp [xt_ne_nil]; done)), (by first | rfl | (simp; done) | (simp [*]; done) | (simp [xt_ne_nil]; done)), H', ⟨by have := HJ4.out; have := HK2.out; have := HK3.out; omega⟩, ⟨by repeat (first | (with_reducible first | exact HB.out | apply below_alloc | apply pw_below_drewN | apply below_drew1) | exact HB.out)⟩⟩
                            · rw [if_neg c24] at H
                              exact absurd H (by simp)
                          · rw [if_neg c23] at H
                            have c23b0 : decide (x43_3 < (Int.tmod a0 8)) = false := decide_eq_false c23
                            clear c23
                            have H' := Aside0.mk H
                            clear H
                            go_wp2
                            go_loopg [10, 50] k3 (fun kq v10 v50 w' => ∃ (x10_4 : ByteArray) (x50_4 : Int), v10 = .string x10_4 ∧ v50 = .int .u8 x50_4 ∧ Aside0 (laws_FnBracketsTrim.l2 kq a2 x9_3 x10_4 (Int.tmod a1 8) x50_4 = some r) ∧ Aside0 (kq ≤ k3) ∧ Aside0 (Below w.heap.size w w'))
                            case atStart => exact ⟨((⟨#[]⟩ : ByteArray)), (0), (by first | rfl | (simp; done) | (simp [*]; done) | (simp [xt_ne_nil]; done)), (by first | rfl | (simp; done) | (simp [*]; done) | (simp [xt_ne_nil]; done)), H', ⟨Nat.le_refl _⟩, ⟨by repeat (first | (with_reducible first | exact HB.out | apply below_alloc | apply pw_below_drewN | apply below_drew1) | exact HB.out)⟩⟩
                            case round =>
                              clear H'
                              try clear c1
                              try clear p1
                              try clear q1
                              try clear hx1
                              try clear c2
                              try clear p2
                              try clear c4
                              try clear c4b0
                              try clear c4b1
                              try clear c6
                              try clear c6b0
                              try clear c6b1
                              try clear p6
                              try clear c7
                              try clear c8
                              try clear c8b0
                              try clear c8b1
                              try clear p9
                              try clear q9
                              try clear hx9
                              try clear qi9
                              try clear p10
                              try clear q10
                              try clear hx10
                              try clear c11
                              try clear c11b0
                              try clear c12
                              try clear c12b0
                              try clear p13
                              try clear q13
                              try clear hx13
                              try clear c18
                              try clear c18b0
                              try clear c19
                              try clear c19b0
                              try clear c20
                              try clear c20b0
                              try clear c21
                              try clear c21b0
                              try clear c21b1
                              try clear c22
                              try clear c22b0
                              try clear c22b1
                              try clear c23
                              try clear c23b0
                              try clear c24
                              try clear c24b0
                              try clear c24b1
                              try clear c24b2
                              try clear hx108_0
                              try clear p1
                              try clear p10
                              try clear p108
                              try clear p13
                              try clear p2
                              try clear p6
                              try clear p9
                              try clear q1
                              try clear q10
                              try clear q108
                              try clear q13
                              try clear q9
                              obtain ⟨x10_4, x50_4, rfl, rfl, HA, HK4, HB⟩ := hrel
                              cases gk with
                              | zero => exact absurd HA.out (by simp [laws_FnBracketsTrim.l2])
                              | succ k4 =>
                                have H := HA.out
                                clear HA
                                simp only [laws_FnBracketsTrim.l2] at H
                                by_cases c25 : x50_4 < (Int.tmod a1 8)
                                · rw [if_pos c25] at H
                                  have c25b0 : decide (x50_4 < (Int.tmod a1 8)) = true := decide_eq_true c25
                                  clear c25
                                  by_cases c26 : x10_4.size + 1 ≤ 9223372036854775807
                                  · rw [if_pos c26] at H
                                    have c26b0 := eq_true c26
                                    have c26b1 : decide (x10_4.size + 1 ≤ 9223372036854775807) = true := decide_eq_true c26
                                    try have c26b2 : (9223372036854775807 < x10_4.size + 1) = False := eq_false (Nat.not_lt.2 c26)
                                    have H' := Aside0.mk H
                                    clear H
                                    go_wp2
                                    go_roundg k4
                                    case measure => have := HJ4.out; have := HK2.out; have := HK3.out; have := HK4.out; omega
                                    case rel => exact ⟨(x10_4 ++ (⟨#[125]⟩ : ByteArray)), ((x50_4 + 1) % 256), (by first | rfl | (simp; done) | (simp [*]; done) | (simp [xt_ne_nil]; done)), (by first | rfl | (simp; done) | (simp [*]; done) | (simp [xt_ne_nil]; done)), H', ⟨by have := HJ4.out; have := HK2.out; have := HK3.out; have := HK4.out; omega⟩, ⟨by repeat (first | (with_reducible first | exact HB.out | apply below_alloc | apply pw_below_drewN | apply below_drew1) | exact HB.out)⟩⟩
                                  · rw [if_neg c26] at H
                                    exact absurd H (by simp)
                                · rw [if_neg c25] at H
                                  have c25b0 : decide (x50_4 < (Int.tmod a1 8)) = false := decide_eq_false c25
                                  clear c25
                                  by_cases c27 : x9_3.size + a2.size ≤ 9223372036854775807
                                  · rw [if_pos c27] at H
                                    have c27b0 := eq_true c27
                                    have c27b1 : decide (x9_3.size + a2.size ≤ 9223372036854775807) = true := decide_eq_true c27
                                    try have c27b2 : (9223372036854775807 < x9_3.size + a2.size) = False := eq_false (Nat.not_lt.2 c27)
                                    by_cases c28 : (x9_3 ++ a2).size + x10_4.size ≤ 9223372036854775807
                                    · rw [if_pos c28] at H
                                      have c28b0 := eq_true c28
                                      have c28b1 : decide ((x9_3 ++ a2).size + x10_4.size ≤ 9223372036854775807) = true := decide_eq_true c28
                                      try have c28b2 : (9223372036854775807 < (x9_3 ++ a2).size + x10_4.size) = False := eq_false (Nat.not_lt.2 c28)
                                      replace H := Option.bind_eq_some_iff.mp H
                                      obtain ⟨t109, A290, H⟩ := H
                                      replace H : (some (t109.toList == a2.toList)) = some r := H
                                      have A29 := Aside0.mk A290
                                      clear A290
                                      obtain rfl := Option.some.inj H
                                      go_wp2_with (first | ((with_reducible refine gate_callee (f := 17) rfl ?_); refine goesL_ (some 60) rfl rfl Try.func17 (by kernel_rfl) rfl #[.string ((x9_3 ++ a2) ++ x10_4)] rfl (by (try simp only [List.map_toArray, List.map_cons, List.map_nil]); first | done | rfl | (simp only [List.length_drop, List.length_take]; rfl)) ?_; (with_reducible refine (impl_BracketsTrim.calls k4 ((x9_3 ++ a2) ++ x10_4) t109 _ A29.out).mono ?_); rintro e w30 ⟨rfl, hb⟩; refine ⟨_, rfl, ?_⟩; have n0_ := Aside0.mk (below_step (by repeat (first | (with_reducible first | exact HB.out | apply below_alloc | apply pw_below_drewN | apply below_drew1) | exact HB.out)) hb); clear HB; have HB := n0_; clear n0_; (try clear hb); (try clear hb2); (try clear hk); (try clear hi)))
                                      go_ret
                                      exact ⟨by first | rfl | (simp [errW_none, errW_some] <;> rfl) | (simp only [← hji10]; first | rfl | (simp [errW_none, errW_some] <;> rfl)) | (simp [*, errW_none, errW_some] <;> rfl), by repeat (first | (with_reducible first | exact HB.out | apply below_alloc | apply pw_below_drewN | apply below_drew1) | exact HB.out)⟩
                                    · rw [if_neg c28] at H
                                      exact absurd H (by simp)
                                  · rw [if_neg c27] at H
                                    exact absurd H (by simp)
              · rw [if_neg c12] at H
                exact absurd H (by simp)
            · rw [if_neg c11] at H
              exact absurd H (by simp)
          · rw [if_neg c8] at H
            exact absurd H (by simp)

/-- THE ONE PURE STATEMENT of laws_FnBracketsTrim: yours. -/
def laws_FnBracketsTrim.Pure : Prop := ∀ (a0 : Int) (a1 : Int) (a2 : ByteArray), (Lit.int .u8 a0).wf = true → (Lit.int .u8 a1).wf = true → a2.size ≤ 140737488351232 → ∃ k, laws_FnBracketsTrim.f k a0 a1 a2 = some true
theorem laws_FnBracketsTrim.walk (P : laws_FnBracketsTrim.Pure) (a0 : Int) (a1 : Int) (a2 : ByteArray) (w : World) (w0 : (Lit.int .u8 a0).wf = true) (w1 : (Lit.int .u8 a1).wf = true) (w2 : a2.size ≤ 140737488351232) :
    Calls Try.prog 8 #[.int .u8 a0, .int .u8 a1, .string a2] w fun e w' => e = .returned (.bool true) ∧ Below w.heap.size w w' := by
  obtain ⟨k, h⟩ := P a0 a1 a2 w0 w1 w2
  refine (laws_FnBracketsTrim.calls k a0 a1 a2 true w h).mono ?_
  rintro e w' ⟨rfl, hd⟩
  exact ⟨rfl, hd⟩

end Go.Proofs.Ytecfojgamdilnaa.PFnBracketsTrim

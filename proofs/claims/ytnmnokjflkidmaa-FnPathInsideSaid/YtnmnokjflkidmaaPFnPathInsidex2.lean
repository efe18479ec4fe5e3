-- Written by a program of this session's (over the kit's print), with contracts proved by hand among what it calls.
import Derived.Test.YtnmnokjflkidmaaPFnPathInsidex0
import Derived.Test.YtnmnokjflkidmaaPFnPathInsidex1
namespace Go.Proofs.Ytnmnokjflkidmaa.PFnPathInside
open Go.RowKit Go.Proofs.YtnmnokjflkidmaaW.PrintWords Go.Proofs.YtnmnokjflkidmaaW.PrintLast Go.Proofs.YtnmnokjflkidmaaW.PrintMore
attribute [local go_sem] max2_int min2_int max_two min_two max_three min_three max_four min_four   -- for this text's walks alone
set_option linter.unusedVariables false
set_option linter.unusedSimpArgs false

/-! ### laws_FnPathInside: function 3 -/
mutual
def laws_FnPathInside.j0 : Nat → ByteArray → ByteArray → Bool → Option (Bool)
  | 0, _, _, _ => none
  | k + 1, x0, x1, x25 => if x25 = true then (some true) else (if (x0.size : Int) > 5000 then (laws_FnPathInside.j1 k x0 x1 true) else (laws_FnPathInside.j1 k x0 x1 (decide ((x1.size : Int) > 5000))))
def laws_FnPathInside.j1 : Nat → ByteArray → ByteArray → Bool → Option (Bool)
  | 0, _, _, _ => none
  | k + 1, x0, x1, x33 => if x33 = true then (some true) else ((impl_PathClean.f k x0).bind fun bt104 => ((impl_PathClean.f k x1).bind fun bt106 => ((impl_PathClean.f k (⟨#[97, 47, 98]⟩ : ByteArray)).bind fun bt108 => (if bt108.2 = true then (laws_FnPathInside.j2 k x0 x1 bt104.1 bt104.2 bt106.1 bt106.2 (bt108.1.toList != ([97, 47, 98] : List UInt8))) else (laws_FnPathInside.j2 k x0 x1 bt104.1 bt104.2 bt106.1 bt106.2 true)))))
def laws_FnPathInside.j2 : Nat → ByteArray → ByteArray → ByteArray → Bool → ByteArray → Bool → Bool → Option (Bool)
  | 0, _, _, _, _, _, _, _ => none
  | k + 1, x0, x1, x5, x6, x7, x8, x53 => if x53 = true then (some false) else (if x6 = true then (laws_FnPathInside.j3 k x0 x1 x5 x7 (!x8)) else (laws_FnPathInside.j3 k x0 x1 x5 x7 true))
def laws_FnPathInside.j3 : Nat → ByteArray → ByteArray → ByteArray → ByteArray → Bool → Option (Bool)
  | 0, _, _, _, _, _ => none
  | k + 1, x0, x1, x5, x7, x59 => if x59 = true then (some true) else (laws_FnPathInside.l0 k x0 x1 x5 x7 0 0)
def laws_FnPathInside.l0 : Nat → ByteArray → ByteArray → ByteArray → ByteArray → Int → Int → Option (Bool)
  | 0, _, _, _, _, _, _ => none
  | k + 1, x0, x1, x5, x7, x11, x12 => if x12 ≤ (x5.size : Int) then (laws_FnPathInside.j5 k x0 x1 x5 x7 x11 x12 (x5.toList != ([] : List UInt8))) else (laws_FnPathInside.j5 k x0 x1 x5 x7 x11 x12 false)
def laws_FnPathInside.j5 : Nat → ByteArray → ByteArray → ByteArray → ByteArray → Int → Int → Bool → Option (Bool)
  | 0, _, _, _, _, _, _, _ => none
  | k + 1, x0, x1, x5, x7, x11, x12, x67 => if x67 = true then (if x12 = (x5.size : Int) then (laws_FnPathInside.j6 k x0 x1 x5 x7 x11 x12 true) else (if 0 ≤ x12 then (if x12 < (x5.size : Int) then (laws_FnPathInside.j6 k x0 x1 x5 x7 x11 x12 ((bt x5 x12) == 47)) else (none)) else (none))) else ((impl_PathClean.f k x5).bind fun bt111 => (if x0.size + 1 ≤ 9223372036854775807 then (if (x0 ++ (⟨#[47]⟩ : ByteArray)).size + x1.size ≤ 9223372036854775807 then ((impl_PathClean.f k ((x0 ++ (⟨#[47]⟩ : ByteArray)) ++ x1)).bind fun bt113 => (if x5.toList = ([] : List UInt8) then (if bt111.2 = true then (if bt111.1.toList = x5.toList then (if bt113.2 = true then (if x5.size + x7.size ≤ 9223372036854775807 then (some (bt113.1.toList == (x5 ++ x7).toList)) else (none)) else (some false)) else (some false)) else (some false)) else (if x7.toList = ([] : List UInt8) then (if bt111.2 = true then (if bt111.1.toList = x5.toList then (if bt113.2 = true then (if x5.size + x7.size ≤ 9223372036854775807 then (some (bt113.1.toList == (x5 ++ x7).toList)) else (none)) else (some false)) else (some false)) else (some false)) else (if x5.size + 1 ≤ 9223372036854775807 then (if bt111.2 = true then (if bt111.1.toList = x5.toList then (if bt113.2 = true then (if (x5 ++ (⟨#[47]⟩ : ByteArray)).size + x7.size ≤ 9223372036854775807 then (some (bt113.1.toList == ((x5 ++ (⟨#[47]⟩ : ByteArray)) ++ x7).toList)) else (none)) else (some false)) else (some false)) else (some false)) else (none))))) else (none)) else (none)))
def laws_FnPathInside.j6 : Nat → ByteArray → ByteArray → ByteArray → ByteArray → Int → Int → Bool → Option (Bool)
  | 0, _, _, _, _, _, _, _ => none
  | k + 1, x0, x1, x5, x7, x11, x12, x79 => if x79 = true then (if 0 ≤ x11 then (if x11 ≤ x12 then (if x12 ≤ (x5.size : Int) then ((impl_LeafCheck.f k (x5.extract (x11 : Int).toNat (x12 : Int).toNat)).bind fun t110 => (if t110 = true then (laws_FnPathInside.l0 k x0 x1 x5 x7 (wrap64 (x12 + 1)) (wrap64 (x12 + 1))) else (some false))) else (none)) else (none)) else (none)) else (laws_FnPathInside.l0 k x0 x1 x5 x7 x11 (wrap64 (x12 + 1)))
end
def laws_FnPathInside.f (k : Nat) (a0 : ByteArray) (a1 : ByteArray) : Option (Bool) := if (a0.size : Int) > 2147483647 then (laws_FnPathInside.j0 k a0 a1 true) else (laws_FnPathInside.j0 k a0 a1 (decide ((a1.size : Int) > 2147483647)))
theorem laws_FnPathInside.mono_l : ∀ k, (∀ y0 y1 y2, LeO (laws_FnPathInside.j0 k y0 y1 y2) (laws_FnPathInside.j0 (k + 1) y0 y1 y2)) ∧ (∀ y0 y1 y2, LeO (laws_FnPathInside.j1 k y0 y1 y2) (laws_FnPathInside.j1 (k + 1) y0 y1 y2)) ∧ (∀ y0 y1 y2 y3 y4 y5 y6, LeO (laws_FnPathInside.j2 k y0 y1 y2 y3 y4 y5 y6) (laws_FnPathInside.j2 (k + 1) y0 y1 y2 y3 y4 y5 y6)) ∧ (∀ y0 y1 y2 y3 y4, LeO (laws_FnPathInside.j3 k y0 y1 y2 y3 y4) (laws_FnPathInside.j3 (k + 1) y0 y1 y2 y3 y4)) ∧ (∀ y0 y1 y2 y3 y4 y5, LeO (laws_FnPathInside.l0 k y0 y1 y2 y3 y4 y5) (laws_FnPathInside.l0 (k + 1) y0 y1 y2 y3 y4 y5)) ∧ (∀ y0 y1 y2 y3 y4 y5 y6, LeO (laws_FnPathInside.j5 k y0 y1 y2 y3 y4 y5 y6) (laws_FnPathInside.j5 (k + 1) y0 y1 y2 y3 y4 y5 y6)) ∧ (∀ y0 y1 y2 y3 y4 y5 y6, LeO (laws_FnPathInside.j6 k y0 y1 y2 y3 y4 y5 y6) (laws_FnPathInside.j6 (k + 1) y0 y1 y2 y3 y4 y5 y6))
  | 0 => ⟨fun _ _ _ r h => by simp [laws_FnPathInside.j0] at h, fun _ _ _ r h => by simp [laws_FnPathInside.j1] at h, fun _ _ _ _ _ _ _ r h => by simp [laws_FnPathInside.j2] at h, fun _ _ _ _ _ r h => by simp [laws_FnPathInside.j3] at h, fun _ _ _ _ _ _ r h => by simp [laws_FnPathInside.l0] at h, fun _ _ _ _ _ _ _ r h => by simp [laws_FnPathInside.j5] at h, fun _ _ _ _ _ _ _ r h => by simp [laws_FnPathInside.j6] at h⟩
  | k + 1 => by
    obtain ⟨ih0, ih1, ih2, ih3, ih4, ih5, ih6⟩ := laws_FnPathInside.mono_l k
    refine ⟨?_, ?_, ?_, ?_, ?_, ?_, ?_⟩
    · intro y0 y1 y2
      unfold laws_FnPathInside.j0
      repeat' first
      | (with_reducible exact ih0 _ _ _)
      | (with_reducible exact ih1 _ _ _)
      | (with_reducible exact ih2 _ _ _ _ _ _ _)
      | (with_reducible exact ih3 _ _ _ _ _)
      | (with_reducible exact ih4 _ _ _ _ _ _)
      | (with_reducible exact ih5 _ _ _ _ _ _ _)
      | (with_reducible exact ih6 _ _ _ _ _ _ _)
      | (with_reducible exact impl_LeafCheck.mono _ _)
      | (with_reducible exact impl_PathClean.mono _ _)
      | (with_reducible exact LeO.refl _)
      | (with_reducible exact LeO.none _)
      | (with_reducible refine LeO.ite ?_ ?_)
      | (with_reducible refine LeO.bind ?_ (fun _ => ?_))
      | exact ih0 _ _ _
      | exact ih1 _ _ _
      | exact ih2 _ _ _ _ _ _ _
      | exact ih3 _ _ _ _ _
      | exact ih4 _ _ _ _ _ _
      | exact ih5 _ _ _ _ _ _ _
      | exact ih6 _ _ _ _ _ _ _
      | exact impl_LeafCheck.mono _ _
      | exact impl_PathClean.mono _ _
      | exact LeO.none _
      | refine LeO.ite ?_ ?_
      | refine LeO.bind ?_ (fun _ => ?_)
    · intro y0 y1 y2
      unfold laws_FnPathInside.j1
      repeat' first
      | (with_reducible exact ih0 _ _ _)
      | (with_reducible exact ih1 _ _ _)
      | (with_reducible exact ih2 _ _ _ _ _ _ _)
      | (with_reducible exact ih3 _ _ _ _ _)
      | (with_reducible exact ih4 _ _ _ _ _ _)
      | (with_reducible exact ih5 _ _ _ _ _ _ _)
      | (with_reducible exact ih6 _ _ _ _ _ _ _)
      | (with_reducible exact impl_LeafCheck.mono _ _)
      | (with_reducible exact impl_PathClean.mono _ _)
      | (with_reducible exact LeO.refl _)
      | (with_reducible exact LeO.none _)
      | (with_reducible refine LeO.ite ?_ ?_)
      | (with_reducible refine LeO.bind ?_ (fun _ => ?_))
      | exact ih0 _ _ _
      | exact ih1 _ _ _
      | exact ih2 _ _ _ _ _ _ _
      | exact ih3 _ _ _ _ _
      | exact ih4 _ _ _ _ _ _
      | exact ih5 _ _ _ _ _ _ _
      | exact ih6 _ _ _ _ _ _ _
      | exact impl_LeafCheck.mono _ _
      | exact impl_PathClean.mono _ _
      | exact LeO.none _
      | refine LeO.ite ?_ ?_
      | refine LeO.bind ?_ (fun _ => ?_)
    · intro y0 y1 y2 y3 y4 y5 y6
      unfold laws_FnPathInside.j2
      repeat' first
      | (with_reducible exact ih0 _ _ _)
      | (with_reducible exact ih1 _ _ _)
      | (with_reducible exact ih2 _ _ _ _ _ _ _)
      | (with_reducible exact ih3 _ _ _ _ _)
      | (with_reducible exact ih4 _ _ _ _ _ _)
      | (with_reducible exact ih5 _ _ _ _ _ _ _)
      | (with_reducible exact ih6 _ _ _ _ _ _ _)
      | (with_reducible exact impl_LeafCheck.mono _ _)
      | (with_reducible exact impl_PathClean.mono _ _)
      | (with_reducible exact LeO.refl _)
      | (with_reducible exact LeO.none _)
      | (with_reducible refine LeO.ite ?_ ?_)
      | (with_reducible refine LeO.bind ?_ (fun _ => ?_))
      | exact ih0 _ _ _
      | exact ih1 _ _ _
      | exact ih2 _ _ _ _ _ _ _
      | exact ih3 _ _ _ _ _
      | exact ih4 _ _ _ _ _ _
      | exact ih5 _ _ _ _ _ _ _
      | exact ih6 _ _ _ _ _ _ _
      | exact impl_LeafCheck.mono _ _
      | exact impl_PathClean.mono _ _
      | exact LeO.none _
      | refine LeO.ite ?_ ?_
      | refine LeO.bind ?_ (fun _ => ?_)
    · intro y0 y1 y2 y3 y4
      unfold laws_FnPathInside.j3
      repeat' first
      | (with_reducible exact ih0 _ _ _)
      | (with_reducible exact ih1 _ _ _)
      | (with_reducible exact ih2 _ _ _ _ _ _ _)
      | (with_reducible exact ih3 _ _ _ _ _)
      | (with_reducible exact ih4 _ _ _ _ _ _)
      | (with_reducible exact ih5 _ _ _ _ _ _ _)
      | (with_reducible exact ih6 _ _ _ _ _ _ _)
      | (with_reducible exact impl_LeafCheck.mono _ _)
      | (with_reducible exact impl_PathClean.mono _ _)
      | (with_reducible exact LeO.refl _)
      | (with_reducible exact LeO.none _)
      | (with_reducible refine LeO.ite ?_ ?_)
      | (with_reducible refine LeO.bind ?_ (fun _ => ?_))
      | exact ih0 _ _ _
      | exact ih1 _ _ _
      | exact ih2 _ _ _ _ _ _ _
      | exact ih3 _ _ _ _ _
      | exact ih4 _ _ _ _ _ _
      | exact ih5 _ _ _ _ _ _ _
      | exact ih6 _ _ _ _ _ _ _
      | exact impl_LeafCheck.mono _ _
      | exact impl_PathClean.mono _ _
      | exact LeO.none _
      | refine LeO.ite ?_ ?_
      | refine LeO.bind ?_ (fun _ => ?_)
    · intro y0 y1 y2 y3 y4 y5
      unfold laws_FnPathInside.l0
      repeat' first
      | (with_reducible exact ih0 _ _ _)
      | (with_reducible exact ih1 _ _ _)
      | (with_reducible exact ih2 _ _ _ _ _ _ _)
      | (with_reducible exact ih3 _ _ _ _ _)
      | (with_reducible exact ih4 _ _ _ _ _ _)
      | (with_reducible exact ih5 _ _ _ _ _ _ _)
      | (with_reducible exact ih6 _ _ _ _ _ _ _)
      | (with_reducible exact impl_LeafCheck.mono _ _)
      | (with_reducible exact impl_PathClean.mono _ _)
      | (with_reducible exact LeO.refl _)
      | (with_reducible exact LeO.none _)
      | (with_reducible refine LeO.ite ?_ ?_)
      | (with_reducible refine LeO.bind ?_ (fun _ => ?_))
      | exact ih0 _ _ _
      | exact ih1 _ _ _
      | exact ih2 _ _ _ _ _ _ _
      | exact ih3 _ _ _ _ _
      | exact ih4 _ _ _ _ _ _
      | exact ih5 _ _ _ _ _ _ _
      | exact ih6 _ _ _ _ _ _ _
      | exact impl_LeafCheck.mono _ _
      | exact impl_PathClean.mono _ _
      | exact LeO.none _
      | refine LeO.ite ?_ ?_
      | refine LeO.bind ?_ (fun _ => ?_)
    · intro y0 y1 y2 y3 y4 y5 y6
      unfold laws_FnPathInside.j5
      repeat' first
      | (with_reducible exact ih0 _ _ _)
      | (with_reducible exact ih1 _ _ _)
      | (with_reducible exact ih2 _ _ _ _ _ _ _)
      | (with_reducible exact ih3 _ _ _ _ _)
      | (with_reducible exact ih4 _ _ _ _ _ _)
      | (with_reducible exact ih5 _ _ _ _ _ _ _)
      | (with_reducible exact ih6 _ _ _ _ _ _ _)
      | (with_reducible exact impl_LeafCheck.mono _ _)
      | (with_reducible exact impl_PathClean.mono _ _)
      | (with_reducible exact LeO.refl _)
      | (with_reducible exact LeO.none _)
      | (with_reducible refine LeO.ite ?_ ?_)
      | (with_reducible refine LeO.bind ?_ (fun _ => ?_))
      | exact ih0 _ _ _
      | exact ih1 _ _ _
      | exact ih2 _ _ _ _ _ _ _
      | exact ih3 _ _ _ _ _
      | exact ih4 _ _ _ _ _ _
      | exact ih5 _ _ _ _ _ _ _
      | exact ih6 _ _ _ _ _ _ _
      | exact impl_LeafCheck.mono _ _
      | exact impl_PathClean.mono _ _
      | exact LeO.none _
      | refine LeO.ite ?_ ?_
      | refine LeO.bind ?_ (fun _ => ?_)
    · intro y0 y1 y2 y3 y4 y5 y6
      unfold laws_FnPathInside.j6
      repeat' first
      | (with_reducible exact ih0 _ _ _)
      | (with_reducible exact ih1 _ _ _)
      | (with_reducible exact ih2 _ _ _ _ _ _ _)
      | (with_reducible exact ih3 _ _ _ _ _)
      | (with_reducible exact ih4 _ _ _ _ _ _)
      | (with_reducible exact ih5 _ _ _ _ _ _ _)
      | (with_reducible exact ih6 _ _ _ _ _ _ _)
      | (with_reducible exact impl_LeafCheck.mono _ _)
      | (with_reducible exact impl_PathClean.mono _ _)
      | (with_reducible exact LeO.refl _)
      | (with_reducible exact LeO.none _)
      | (with_reducible refine LeO.ite ?_ ?_)
      | (with_reducible refine LeO.bind ?_ (fun _ => ?_))
      | exact ih0 _ _ _
      | exact ih1 _ _ _
      | exact ih2 _ _ _ _ _ _ _
      | exact ih3 _ _ _ _ _
      | exact ih4 _ _ _ _ _ _
      | exact ih5 _ _ _ _ _ _ _
      | exact ih6 _ _ _ _ _ _ _
      | exact impl_LeafCheck.mono _ _
      | exact impl_PathClean.mono _ _
      | exact LeO.none _
      | refine LeO.ite ?_ ?_
      | refine LeO.bind ?_ (fun _ => ?_)
theorem laws_FnPathInside.mono : ∀ a0 a1 k, LeO (laws_FnPathInside.f k a0 a1) (laws_FnPathInside.f (k + 1) a0 a1) := by
  intro a0 a1 k
  obtain ⟨ih0, ih1, ih2, ih3, ih4, ih5, ih6⟩ := laws_FnPathInside.mono_l k
  unfold laws_FnPathInside.f
  repeat' first
      | (with_reducible exact ih0 _ _ _)
      | (with_reducible exact ih1 _ _ _)
      | (with_reducible exact ih2 _ _ _ _ _ _ _)
      | (with_reducible exact ih3 _ _ _ _ _)
      | (with_reducible exact ih4 _ _ _ _ _ _)
      | (with_reducible exact ih5 _ _ _ _ _ _ _)
      | (with_reducible exact ih6 _ _ _ _ _ _ _)
      | (with_reducible exact impl_LeafCheck.mono _ _)
      | (with_reducible exact impl_PathClean.mono _ _)
      | (with_reducible exact LeO.refl _)
      | (with_reducible exact LeO.none _)
      | (with_reducible refine LeO.ite ?_ ?_)
      | (with_reducible refine LeO.bind ?_ (fun _ => ?_))
      | exact ih0 _ _ _
      | exact ih1 _ _ _
      | exact ih2 _ _ _ _ _ _ _
      | exact ih3 _ _ _ _ _
      | exact ih4 _ _ _ _ _ _
      | exact ih5 _ _ _ _ _ _ _
      | exact ih6 _ _ _ _ _ _ _
      | exact impl_LeafCheck.mono _ _
      | exact impl_PathClean.mono _ _
      | exact LeO.none _
      | refine LeO.ite ?_ ?_
      | refine LeO.bind ?_ (fun _ => ?_)
set_option maxHeartbeats 8000000 in
set_option maxRecDepth 100000 in
theorem laws_FnPathInside.calls (k : Nat) (a0 : ByteArray) (a1 : ByteArray) (r : Bool) (w : World) (h : laws_FnPathInside.f k a0 a1 = some r) :
    Calls Try.prog 3 #[.string a0, .string a1] w fun e w' => e = .returned (.bool r) ∧ Below w.heap.size w w' := by
  have HB := Aside0.mk (Below.refl w.heap.size w)
  have H : (if (a0.size : Int) > 2147483647 then (laws_FnPathInside.j0 k a0 a1 true) else (laws_FnPathInside.j0 k a0 a1 (decide ((a1.size : Int) > 2147483647)))) = some r := h
  clear h
  have HC3 := Aside0.mk H
  clear H
  go_enter Try.func3, Try.ntmps3
  go_upto_region 1 with (fail)
  go_cut [25] (fun v25 wc => ∃ (kq : Nat) (x25_2 : Bool), v25 = .bool x25_2 ∧ Aside0 (laws_FnPathInside.j0 kq a0 a1 x25_2 = some r) ∧ Aside0 (kq ≤ k) ∧ Aside0 (Below w.heap.size w wc))
  case first =>
    have H := HC3.out
    clear HC3
    by_cases c4 : (a0.size : Int) > 2147483647
    · rw [if_pos c4] at H
      have c4b0 : decide (2147483647 < (a0.size : Int)) = true := decide_eq_true c4
      have c4b1 : decide (2147483647 < a0.size) = true := decide_eq_true (by omega)
      clear c4
      (first | rw [c4b0] | (simp only [i64_w, i32_w]; rw [c4b0]) | skip)
      have H' := Aside0.mk H
      clear H
      go_wp2
      go_meet
      case rel => exact ⟨_, (true), (by first | rfl | (simp; done) | (simp [*]; done) | (simp [xt_ne_nil]; done)), H', ⟨by first | omega | exact Nat.le_refl _⟩, ⟨by repeat (first | (with_reducible first | exact HB.out | apply below_alloc | apply pw_below_drewN | apply below_drew1) | exact HB.out)⟩⟩
    · rw [if_neg c4] at H
      have c4b0 : decide (2147483647 < (a0.size : Int)) = false := decide_eq_false c4
      have c4b1 : decide (2147483647 < a0.size) = false := decide_eq_false (by omega)
      clear c4
      (first | rw [c4b0] | (simp only [i64_w, i32_w]; rw [c4b0]) | skip)
      have H' := Aside0.mk H
      clear H
      go_wp2
      go_meet
      case rel => exact ⟨_, (decide ((a1.size : Int) > 2147483647)), (by first | rfl | (simp; done) | (simp [*]; done) | (simp [xt_ne_nil]; done)), H', ⟨by first | omega | exact Nat.le_refl _⟩, ⟨by repeat (first | (with_reducible first | exact HB.out | apply below_alloc | apply pw_below_drewN | apply below_drew1) | exact HB.out)⟩⟩
  case rest =>
    clear HC3
    try clear p2
    try clear c3
    try clear c4
    try clear c4b0
    try clear c4b1
    obtain ⟨kq, x25_2, rfl, HA, HJ2, HB⟩ := hcut
    cases kq with
    | zero => exact absurd HA.out (by simp [laws_FnPathInside.j0])
    | succ kj2 =>
      have H := HA.out
      clear HA
      simp only [laws_FnPathInside.j0] at H
      by_cases c5 : x25_2 = true
      · subst c5
        have H1 : (some true) = some r := by rw [if_pos rfl] at H; exact H
        clear H
        have H := H1
        clear H1
        obtain rfl := Option.some.inj H
        go_wp2
        go_ret
        exact ⟨by first | rfl | (simp [errW_none, errW_some] <;> rfl) | (simp [*, errW_none, errW_some] <;> rfl), by repeat (first | (with_reducible first | exact HB.out | apply below_alloc | apply pw_below_drewN | apply below_drew1) | exact HB.out)⟩
      · replace c5 := Bool.eq_false_iff.mpr c5
        subst c5
        have H1 : (if (a0.size : Int) > 5000 then (laws_FnPathInside.j1 kj2 a0 a1 true) else (laws_FnPathInside.j1 kj2 a0 a1 (decide ((a1.size : Int) > 5000)))) = some r := by rw [if_neg (show ¬ (false = true) by decide)] at H; exact H
        clear H
        have H := H1
        clear H1
        have HC6 := Aside0.mk H
        clear H
        go_upto_region 3 with (fail)
        go_cut [33] (fun v33 wc => ∃ (kq : Nat) (x33_5 : Bool), v33 = .bool x33_5 ∧ Aside0 (laws_FnPathInside.j1 kq a0 a1 x33_5 = some r) ∧ Aside0 (kq ≤ kj2) ∧ Aside0 (Below w.heap.size w wc))
        case first =>
          have H := HC6.out
          clear HC6
          by_cases c7 : (a0.size : Int) > 5000
          · rw [if_pos c7] at H
            have c7b0 : decide (5000 < (a0.size : Int)) = true := decide_eq_true c7
            have c7b1 : decide (5000 < a0.size) = true := decide_eq_true (by omega)
            clear c7
            (first | rw [c7b0] | (simp only [i64_w, i32_w]; rw [c7b0]) | skip)
            have H' := Aside0.mk H
            clear H
            go_wp2
            go_meet
            case rel => exact ⟨_, (true), (by first | rfl | (simp; done) | (simp [*]; done) | (simp [xt_ne_nil]; done)), H', ⟨by have := HJ2.out; first | omega | exact Nat.le_refl _⟩, ⟨by repeat (first | (with_reducible first | exact HB.out | apply below_alloc | apply pw_below_drewN | apply below_drew1) | exact HB.out)⟩⟩
          · rw [if_neg c7] at H
            have c7b0 : decide (5000 < (a0.size : Int)) = false := decide_eq_false c7
            have c7b1 : decide (5000 < a0.size) = false := decide_eq_false (by omega)
            clear c7
            (first | rw [c7b0] | (simp only [i64_w, i32_w]; rw [c7b0]) | skip)
            have H' := Aside0.mk H
            clear H
            go_wp2
            go_meet
            case rel => exact ⟨_, (decide ((a1.size : Int) > 5000)), (by first | rfl | (simp; done) | (simp [*]; done) | (simp [xt_ne_nil]; done)), H', ⟨by have := HJ2.out; first | omega | exact Nat.le_refl _⟩, ⟨by repeat (first | (with_reducible first | exact HB.out | apply below_alloc | apply pw_below_drewN | apply below_drew1) | exact HB.out)⟩⟩
        case rest =>
          clear HC6
          try clear p2
          try clear c3
          try clear c4
          try clear c4b0
          try clear c4b1
          try clear c5
          try clear c7
          try clear c7b0
          try clear c7b1
          try clear p2
          obtain ⟨kq, x33_5, rfl, HA, HJ5, HB⟩ := hcut
          cases kq with
          | zero => exact absurd HA.out (by simp [laws_FnPathInside.j1])
          | succ kj5 =>
            have H := HA.out
            clear HA
            simp only [laws_FnPathInside.j1] at H
            by_cases c8 : x33_5 = true
            · subst c8
              have H1 : (some true) = some r := by rw [if_pos rfl] at H; exact H
              clear H
              have H := H1
              clear H1
              obtain rfl := Option.some.inj H
              go_wp2
              go_ret
              exact ⟨by first | rfl | (simp [errW_none, errW_some] <;> rfl) | (simp [*, errW_none, errW_some] <;> rfl), by repeat (first | (with_reducible first | exact HB.out | apply below_alloc | apply pw_below_drewN | apply below_drew1) | exact HB.out)⟩
            · replace c8 := Bool.eq_false_iff.mpr c8
              subst c8
              have H1 : ((impl_PathClean.f kj5 a0).bind fun bt104 => ((impl_PathClean.f kj5 a1).bind fun bt106 => ((impl_PathClean.f kj5 (⟨#[97, 47, 98]⟩ : ByteArray)).bind fun bt108 => (if bt108.2 = true then (laws_FnPathInside.j2 kj5 a0 a1 bt104.1 bt104.2 bt106.1 bt106.2 (bt108.1.toList != ([97, 47, 98] : List UInt8))) else (laws_FnPathInside.j2 kj5 a0 a1 bt104.1 bt104.2 bt106.1 bt106.2 true))))) = some r := by rw [if_neg (show ¬ (false = true) by decide)] at H; exact H
              clear H
              have H := H1
              clear H1
              replace H := Option.bind_eq_some_iff.mp H
              obtain ⟨⟨t104, t105⟩, A90, H⟩ := H
              replace H : ((impl_PathClean.f kj5 a1).bind fun bt106 => ((impl_PathClean.f kj5 (⟨#[97, 47, 98]⟩ : ByteArray)).bind fun bt108 => (if bt108.2 = true then (laws_FnPathInside.j2 kj5 a0 a1 t104 t105 bt106.1 bt106.2 (bt108.1.toList != ([97, 47, 98] : List UInt8))) else (laws_FnPathInside.j2 kj5 a0 a1 t104 t105 bt106.1 bt106.2 true)))) = some r := H
              have A9 := Aside0.mk A90
              clear A90
              replace H := Option.bind_eq_some_iff.mp H
              obtain ⟨⟨t106, t107⟩, A100, H⟩ := H
              replace H : ((impl_PathClean.f kj5 (⟨#[97, 47, 98]⟩ : ByteArray)).bind fun bt108 => (if bt108.2 = true then (laws_FnPathInside.j2 kj5 a0 a1 t104 t105 t106 t107 (bt108.1.toList != ([97, 47, 98] : List UInt8))) else (laws_FnPathInside.j2 kj5 a0 a1 t104 t105 t106 t107 true))) = some r := H
              have A10 := Aside0.mk A100
              clear A100
              replace H := Option.bind_eq_some_iff.mp H
              obtain ⟨⟨t108, t109⟩, A110, H⟩ := H
              replace H : (if t109 = true then (laws_FnPathInside.j2 kj5 a0 a1 t104 t105 t106 t107 (t108.toList != ([97, 47, 98] : List UInt8))) else (laws_FnPathInside.j2 kj5 a0 a1 t104 t105 t106 t107 true)) = some r := H
              have A11 := Aside0.mk A110
              clear A110
              have HC12 := Aside0.mk H
              clear H
              go_upto_region 8 with (first | ((with_reducible refine gate_callee (f := 4) rfl ?_); refine goesL_ (some 36) rfl rfl Try.func4 (by kernel_rfl) rfl #[.string a0] rfl (by (try simp only [List.map_toArray, List.map_cons, List.map_nil]); first | done | rfl | (simp only [List.length_drop, List.length_take]; rfl)) ?_; (with_reducible refine (impl_PathClean.calls kj5 a0 t104 t105 _ A9.out).mono ?_); rintro e w13 ⟨rfl, hb⟩; refine ⟨_, rfl, ?_⟩; have n0_ := Aside0.mk (below_step (by repeat (first | (with_reducible first | exact HB.out | apply below_alloc | apply pw_below_drewN | apply below_drew1) | exact HB.out)) hb); clear HB; have HB := n0_; clear n0_; (try clear hb); (try clear hb2); (try clear hk); (try clear hi)) | ((with_reducible refine gate_callee (f := 4) rfl ?_); refine goesL_ (some 41) rfl rfl Try.func4 (by kernel_rfl) rfl #[.string a1] rfl (by (try simp only [List.map_toArray, List.map_cons, List.map_nil]); first | done | rfl | (simp only [List.length_drop, List.length_take]; rfl)) ?_; (with_reducible refine (impl_PathClean.calls kj5 a1 t106 t107 _ A10.out).mono ?_); rintro e w14 ⟨rfl, hb⟩; refine ⟨_, rfl, ?_⟩; have n0_ := Aside0.mk (below_step (by repeat (first | (with_reducible first | exact HB.out | apply below_alloc | apply pw_below_drewN | apply below_drew1) | exact HB.out)) hb); clear HB; have HB := n0_; clear n0_; (try clear hb); (try clear hb2); (try clear hk); (try clear hi)) | ((with_reducible refine gate_callee (f := 4) rfl ?_); refine goesL_ (some 45) rfl rfl Try.func4 (by kernel_rfl) rfl #[.string (⟨#[97, 47, 98]⟩ : ByteArray)] rfl (by (try simp only [List.map_toArray, List.map_cons, List.map_nil]); first | done | rfl | (simp only [List.length_drop, List.length_take]; rfl)) ?_; (with_reducible refine (impl_PathClean.calls kj5 (⟨#[97, 47, 98]⟩ : ByteArray) t108 t109 _ A11.out).mono ?_); rintro e w15 ⟨rfl, hb⟩; refine ⟨_, rfl, ?_⟩; have n0_ := Aside0.mk (below_step (by repeat (first | (with_reducible first | exact HB.out | apply below_alloc | apply pw_below_drewN | apply below_drew1) | exact HB.out)) hb); clear HB; have HB := n0_; clear n0_; (try clear hb); (try clear hb2); (try clear hk); (try clear hi)))
              (try simp only [Act.put, List.setIfInBounds_toArray, List.set_cons_zero, List.set_cons_succ])
              go_cut [53] (fun v53 wc => ∃ (kq : Nat) (x53_11 : Bool), v53 = .bool x53_11 ∧ Aside0 (laws_FnPathInside.j2 kq a0 a1 t104 t105 t106 t107 x53_11 = some r) ∧ Aside0 (kq ≤ kj5) ∧ Aside0 (Below w.heap.size w wc))
              case first =>
                have H := HC12.out
                clear HC12
                by_cases c16 : t109 = true
                · subst c16
                  have H1 : (laws_FnPathInside.j2 kj5 a0 a1 t104 t105 t106 t107 (t108.toList != ([97, 47, 98] : List UInt8))) = some r := by rw [if_pos rfl] at H; exact H
                  clear H
                  have H := H1
                  clear H1
                  have H' := Aside0.mk H
                  clear H
                  go_wp2
                  go_meet
                  case rel => exact ⟨_, ((t108.toList != ([97, 47, 98] : List UInt8))), (by first | rfl | (simp; done) | (simp [*]; done) | (simp [xt_ne_nil]; done)), H', ⟨by have := HJ2.out; have := HJ5.out; first | omega | exact Nat.le_refl _⟩, ⟨by repeat (first | (with_reducible first | exact HB.out | apply below_alloc | apply pw_below_drewN | apply below_drew1) | exact HB.out)⟩⟩
                · replace c16 := Bool.eq_false_iff.mpr c16
                  subst c16
                  have H1 : (laws_FnPathInside.j2 kj5 a0 a1 t104 t105 t106 t107 true) = some r := by rw [if_neg (show ¬ (false = true) by decide)] at H; exact H
                  clear H
                  have H := H1
                  clear H1
                  have H' := Aside0.mk H
                  clear H
                  go_wp2
                  go_meet
                  case rel => exact ⟨_, (true), (by first | rfl | (simp; done) | (simp [*]; done) | (simp [xt_ne_nil]; done)), H', ⟨by have := HJ2.out; have := HJ5.out; first | omega | exact Nat.le_refl _⟩, ⟨by repeat (first | (with_reducible first | exact HB.out | apply below_alloc | apply pw_below_drewN | apply below_drew1) | exact HB.out)⟩⟩
              case rest =>
                clear HC12
                try clear c1
                try clear p2
                try clear c3
                try clear c4
                try clear c4b0
                try clear c4b1
                try clear c5
                try clear c7
                try clear c7b0
                try clear c7b1
                try clear c8
                try clear c16
                try clear p2
                obtain ⟨kq, x53_11, rfl, HA, HJ11, HB⟩ := hcut
                cases kq with
                | zero => exact absurd HA.out (by simp [laws_FnPathInside.j2])
                | succ kj11 =>
                  have H := HA.out
                  clear HA
                  simp only [laws_FnPathInside.j2] at H
                  by_cases c17 : x53_11 = true
                  · subst c17
                    have H1 : (some false) = some r := by rw [if_pos rfl] at H; exact H
                    clear H
                    have H := H1
                    clear H1
                    obtain rfl := Option.some.inj H
                    go_wp2
                    go_ret
                    exact ⟨by first | rfl | (simp [errW_none, errW_some] <;> rfl) | (simp [*, errW_none, errW_some] <;> rfl), by repeat (first | (with_reducible first | exact HB.out | apply below_alloc | apply pw_below_drewN | apply below_drew1) | exact HB.out)⟩
                  · replace c17 := Bool.eq_false_iff.mpr c17
                    subst c17
                    have H1 : (if t105 = true then (laws_FnPathInside.j3 kj11 a0 a1 t104 t106 (!t107)) else (laws_FnPathInside.j3 kj11 a0 a1 t104 t106 true)) = some r := by rw [if_neg (show ¬ (false = true) by decide)] at H; exact H
                    clear H
                    have H := H1
                    clear H1
                    have HC18 := Aside0.mk H
                    clear H
                    go_upto_region 10 with (fail)
                    go_cut [59] (fun v59 wc => ∃ (kq : Nat) (x59_17 : Bool), v59 = .bool x59_17 ∧ Aside0 (laws_FnPathInside.j3 kq a0 a1 t104 t106 x59_17 = some r) ∧ Aside0 (kq ≤ kj11) ∧ Aside0 (Below w.heap.size w wc))
                    case first =>
                      have H := HC18.out
                      clear HC18
                      by_cases c19 : t105 = true
                      · subst c19
                        have H1 : (laws_FnPathInside.j3 kj11 a0 a1 t104 t106 (!t107)) = some r := by rw [if_pos rfl] at H; exact H
                        clear H
                        have H := H1
                        clear H1
                        have H' := Aside0.mk H
                        clear H
                        go_wp2
                        go_meet
                        case rel => exact ⟨_, (!t107), (by first | rfl | (simp; done) | (simp [*]; done) | (simp [xt_ne_nil]; done)), H', ⟨by have := HJ2.out; have := HJ5.out; have := HJ11.out; first | omega | exact Nat.le_refl _⟩, ⟨by repeat (first | (with_reducible first | exact HB.out | apply below_alloc | apply pw_below_drewN | apply below_drew1) | exact HB.out)⟩⟩
                      · replace c19 := Bool.eq_false_iff.mpr c19
                        subst c19
                        have H1 : (laws_FnPathInside.j3 kj11 a0 a1 t104 t106 true) = some r := by rw [if_neg (show ¬ (false = true) by decide)] at H; exact H
                        clear H
                        have H := H1
                        clear H1
                        have H' := Aside0.mk H
                        clear H
                        go_wp2
                        go_meet
                        case rel => exact ⟨_, (true), (by first | rfl | (simp; done) | (simp [*]; done) | (simp [xt_ne_nil]; done)), H', ⟨by have := HJ2.out; have := HJ5.out; have := HJ11.out; first | omega | exact Nat.le_refl _⟩, ⟨by repeat (first | (with_reducible first | exact HB.out | apply below_alloc | apply pw_below_drewN | apply below_drew1) | exact HB.out)⟩⟩
                    case rest =>
                      clear HC18
                      try clear c1
                      try clear p2
                      try clear c3
                      try clear c4
                      try clear c4b0
                      try clear c4b1
                      try clear c5
                      try clear c7
                      try clear c7b0
                      try clear c7b1
                      try clear c8
                      try clear c16
                      try clear c17
                      try clear c19
                      try clear p2
                      obtain ⟨kq, x59_17, rfl, HA, HJ17, HB⟩ := hcut
                      cases kq with
                      | zero => exact absurd HA.out (by simp [laws_FnPathInside.j3])
                      | succ kj17 =>
                        have H := HA.out
                        clear HA
                        simp only [laws_FnPathInside.j3] at H
                        by_cases c20 : x59_17 = true
                        · subst c20
                          have H1 : (some true) = some r := by rw [if_pos rfl] at H; exact H
                          clear H
                          have H := H1
                          clear H1
                          obtain rfl := Option.some.inj H
                          go_wp2
                          go_ret
                          exact ⟨by first | rfl | (simp [errW_none, errW_some] <;> rfl) | (simp [*, errW_none, errW_some] <;> rfl), by repeat (first | (with_reducible first | exact HB.out | apply below_alloc | apply pw_below_drewN | apply below_drew1) | exact HB.out)⟩
                        · replace c20 := Bool.eq_false_iff.mpr c20
                          subst c20
                          have H1 : (laws_FnPathInside.l0 kj17 a0 a1 t104 t106 0 0) = some r := by rw [if_neg (show ¬ (false = true) by decide)] at H; exact H
                          clear H
                          have H := H1
                          clear H1
                          have H' := Aside0.mk H
                          clear H
                          go_wp2
                          go_loopg [11, 12] kj17 (fun kq v11 v12 w' => ∃ (x11_5 : Int) (x12_5 : Int), v11 = .int .i64 x11_5 ∧ v12 = .int .i64 x12_5 ∧ Aside0 (laws_FnPathInside.l0 kq a0 a1 t104 t106 x11_5 x12_5 = some r) ∧ Aside0 (kq ≤ kj17) ∧ Aside0 (Below w.heap.size w w'))
                          case atStart => exact ⟨(0), (0), (by first | rfl | (simp; done) | (simp [*]; done) | (simp [xt_ne_nil]; done)), (by first | rfl | (simp; done) | (simp [*]; done) | (simp [xt_ne_nil]; done)), H', ⟨Nat.le_refl _⟩, ⟨by repeat (first | (with_reducible first | exact HB.out | apply below_alloc | apply pw_below_drewN | apply below_drew1) | exact HB.out)⟩⟩
                          case round =>
                            clear H'
                            try clear c1
                            try clear c2
                            try clear p2
                            try clear c3
                            try clear c4
                            try clear c4b0
                            try clear c4b1
                            try clear c5
                            try clear c7
                            try clear c7b0
                            try clear c7b1
                            try clear c8
                            try clear c16
                            try clear c17
                            try clear c19
                            try clear c20
                            try clear p2
                            obtain ⟨x11_5, x12_5, rfl, rfl, HA, HK5, HB⟩ := hrel
                            cases gk with
                            | zero => exact absurd HA.out (by simp [laws_FnPathInside.l0])
                            | succ k5 =>
                              have H := HA.out
                              clear HA
                              simp only [laws_FnPathInside.l0] at H
                              have HC21 := Aside0.mk H
                              clear H
                              go_upto_region 14 with (fail)
                              go_cut [67] (fun v67 wc => ∃ (kq : Nat) (x67_20 : Bool), v67 = .bool x67_20 ∧ Aside0 (laws_FnPathInside.j5 kq a0 a1 t104 t106 x11_5 x12_5 x67_20 = some r) ∧ Aside0 (kq ≤ k5) ∧ Aside0 (Below w.heap.size w wc))
                              case first =>
                                have H := HC21.out
                                clear HC21
                                by_cases c22 : x12_5 ≤ (t104.size : Int)
                                · rw [if_pos c22] at H
                                  have c22b0 : decide (x12_5 ≤ (t104.size : Int)) = true := decide_eq_true c22
                                  clear c22
                                  (first | rw [c22b0] | (simp only [i64_w, i32_w]; rw [c22b0]) | skip)
                                  have H' := Aside0.mk H
                                  clear H
                                  go_wp2
                                  go_meet
                                  case rel => exact ⟨_, ((t104.toList != ([] : List UInt8))), (by first | rfl | (simp; done) | (simp [*]; done) | (simp [xt_ne_nil]; done)), H', ⟨by have := HJ2.out; have := HJ5.out; have := HJ11.out; have := HJ17.out; have := HK5.out; first | omega | exact Nat.le_refl _⟩, ⟨by repeat (first | (with_reducible first | exact HB.out | apply below_alloc | apply pw_below_drewN | apply below_drew1) | exact HB.out)⟩⟩
                                · rw [if_neg c22] at H
                                  have c22b0 : decide (x12_5 ≤ (t104.size : Int)) = false := decide_eq_false c22
                                  clear c22
                                  (first | rw [c22b0] | (simp only [i64_w, i32_w]; rw [c22b0]) | skip)
                                  have H' := Aside0.mk H
                                  clear H
                                  go_wp2
                                  go_meet
                                  case rel => exact ⟨_, (false), (by first | rfl | (simp; done) | (simp [*]; done) | (simp [xt_ne_nil]; done)), H', ⟨by have := HJ2.out; have := HJ5.out; have := HJ11.out; have := HJ17.out; have := HK5.out; first | omega | exact Nat.le_refl _⟩, ⟨by repeat (first | (with_reducible first | exact HB.out | apply below_alloc | apply pw_below_drewN | apply below_drew1) | exact HB.out)⟩⟩
                              case rest =>
                                clear HC21
                                try clear c1
                                try clear c2
                                try clear p2
                                try clear c3
                                try clear c4
                                try clear c4b0
                                try clear c4b1
                                try clear c5
                                try clear c7
                                try clear c7b0
                                try clear c7b1
                                try clear c8
                                try clear c16
                                try clear c17
                                try clear c19
                                try clear c20
                                try clear c22
                                try clear c22b0
                                try clear p2
                                obtain ⟨kq, x67_20, rfl, HA, HJ20, HB⟩ := hcut
                                cases kq with
                                | zero => exact absurd HA.out (by simp [laws_FnPathInside.j5])
                                | succ kj20 =>
                                  have H := HA.out
                                  clear HA
                                  simp only [laws_FnPathInside.j5] at H
                                  by_cases c23 : x67_20 = true
                                  · subst c23
                                    have H1 : (if x12_5 = (t104.size : Int) then (laws_FnPathInside.j6 kj20 a0 a1 t104 t106 x11_5 x12_5 true) else (if 0 ≤ x12_5 then (if x12_5 < (t104.size : Int) then (laws_FnPathInside.j6 kj20 a0 a1 t104 t106 x11_5 x12_5 ((bt t104 x12_5) == 47)) else (none)) else (none))) = some r := by rw [if_pos rfl] at H; exact H
                                    clear H
                                    have H := H1
                                    clear H1
                                    have HC24 := Aside0.mk H
                                    clear H
                                    go_upto_region 16 with (fail)
                                    go_cut [79] (fun v79 wc => ∃ (kq : Nat) (x79_23 : Bool), v79 = .bool x79_23 ∧ Aside0 (laws_FnPathInside.j6 kq a0 a1 t104 t106 x11_5 x12_5 x79_23 = some r) ∧ Aside0 (kq ≤ kj20) ∧ Aside0 (Below w.heap.size w wc))
                                    case first =>
                                      have H := HC24.out
                                      clear HC24
                                      by_cases c25 : x12_5 = (t104.size : Int)
                                      · rw [if_pos c25] at H
                                        have c25b0 : (x12_5 == (t104.size : Int)) = true := beq_iff_eq.mpr c25
                                        have c25b1 : (x12_5 != (t104.size : Int)) = false := bne_eq_false_iff_eq.mpr c25
                                        clear c25
                                        (first | rw [c25b0] | (simp only [i64_w, i32_w]; rw [c25b0]) | skip)
                                        have H' := Aside0.mk H
                                        clear H
                                        go_wp2
                                        go_meet
                                        case rel => exact ⟨_, (true), (by first | rfl | (simp; done) | (simp [*]; done) | (simp [xt_ne_nil]; done)), H', ⟨by have := HJ2.out; have := HJ5.out; have := HJ11.out; have := HJ17.out; have := HK5.out; have := HJ20.out; first | omega | exact Nat.le_refl _⟩, ⟨by repeat (first | (with_reducible first | exact HB.out | apply below_alloc | apply pw_below_drewN | apply below_drew1) | exact HB.out)⟩⟩
                                      · rw [if_neg c25] at H
                                        have c25b0 : (x12_5 == (t104.size : Int)) = false := beq_eq_false_iff_ne.mpr c25
                                        have c25b1 : (x12_5 != (t104.size : Int)) = true := bne_iff_ne.mpr c25
                                        (first | rw [c25b0] | (simp only [i64_w, i32_w]; rw [c25b0]) | skip)
                                        by_cases c26 : 0 ≤ x12_5
                                        · rw [if_pos c26] at H
                                          have c26b0 : decide (0 ≤ x12_5) = true := decide_eq_true c26
                                          clear c26
                                          by_cases c27 : x12_5 < (t104.size : Int)
                                          · rw [if_pos c27] at H
                                            have c27b0 : decide (x12_5 < (t104.size : Int)) = true := decide_eq_true c27
                                            clear c27
                                            have H' := Aside0.mk H
                                            clear H
                                            have p28 : 0 ≤ (x12_5 : Int) := of_decide_eq_true (by first | (with_reducible assumption) | assumption)
                                            have q28 : x12_5 < (t104.size : Int) := of_decide_eq_true (by first | (with_reducible assumption) | assumption)
                                            have hx28 := bt_at t104 x12_5
                                            replace p28 := eq_true p28
                                            replace q28 := eq_true q28
                                            go_wp2
                                            go_meet
                                            case rel => exact ⟨_, (((bt t104 x12_5) == 47)), (by first | rfl | (simp; done) | (simp [*]; done) | (simp [xt_ne_nil]; done)), H', ⟨by have := HJ2.out; have := HJ5.out; have := HJ11.out; have := HJ17.out; have := HK5.out; have := HJ20.out; first | omega | exact Nat.le_refl _⟩, ⟨by repeat (first | (with_reducible first | exact HB.out | apply below_alloc | apply pw_below_drewN | apply below_drew1) | exact HB.out)⟩⟩
                                          · rw [if_neg c27] at H
                                            exact absurd H (by simp)
                                        · rw [if_neg c26] at H
                                          exact absurd H (by simp)
                                    case rest =>
                                      clear HC24
                                      try clear c1
                                      try clear c2
                                      try clear p2
                                      try clear q2
                                      try clear hx2
                                      try clear c3
                                      try clear c4
                                      try clear c4b0
                                      try clear c4b1
                                      try clear c5
                                      try clear c7
                                      try clear c7b0
                                      try clear c7b1
                                      try clear c8
                                      try clear c16
                                      try clear c17
                                      try clear c19
                                      try clear c20
                                      try clear c22
                                      try clear c22b0
                                      try clear c23
                                      try clear c25
                                      try clear c25b0
                                      try clear c25b1
                                      try clear c26
                                      try clear c26b0
                                      try clear c27
                                      try clear c27b0
                                      try clear p28
                                      try clear q28
                                      try clear hx28
                                      try clear p2
                                      try clear p28
                                      try clear q28
                                      obtain ⟨kq, x79_23, rfl, HA, HJ23, HB⟩ := hcut
                                      cases kq with
                                      | zero => exact absurd HA.out (by simp [laws_FnPathInside.j6])
                                      | succ kj23 =>
                                        have H := HA.out
                                        clear HA
                                        simp only [laws_FnPathInside.j6] at H
                                        by_cases c29 : x79_23 = true
                                        · subst c29
                                          have H1 : (if 0 ≤ x11_5 then (if x11_5 ≤ x12_5 then (if x12_5 ≤ (t104.size : Int) then ((impl_LeafCheck.f kj23 (t104.extract (x11_5 : Int).toNat (x12_5 : Int).toNat)).bind fun t110 => (if t110 = true then (laws_FnPathInside.l0 kj23 a0 a1 t104 t106 (wrap64 (x12_5 + 1)) (wrap64 (x12_5 + 1))) else (some false))) else (none)) else (none)) else (none)) = some r := by rw [if_pos rfl] at H; exact H
                                          clear H
                                          have H := H1
                                          clear H1
                                          by_cases c30 : 0 ≤ x11_5
                                          · rw [if_pos c30] at H
                                            have c30b0 := eq_true c30
                                            have c30b1 : decide (0 ≤ x11_5) = true := decide_eq_true c30
                                            clear c30
                                            by_cases c31 : x11_5 ≤ x12_5
                                            · rw [if_pos c31] at H
                                              have c31b0 := eq_true c31
                                              have c31b1 : decide (x11_5 ≤ x12_5) = true := decide_eq_true c31
                                              clear c31
                                              by_cases c32 : x12_5 ≤ (t104.size : Int)
                                              · rw [if_pos c32] at H
                                                have c32b0 := eq_true c32
                                                have c32b1 : decide (x12_5 ≤ (t104.size : Int)) = true := decide_eq_true c32
                                                clear c32
                                                replace H := Option.bind_eq_some_iff.mp H
                                                obtain ⟨t110, A330, H⟩ := H
                                                replace H : (if t110 = true then (laws_FnPathInside.l0 kj23 a0 a1 t104 t106 (wrap64 (x12_5 + 1)) (wrap64 (x12_5 + 1))) else (some false)) = some r := H
                                                have A33 := Aside0.mk A330
                                                clear A330
                                                by_cases c34 : t110 = true
                                                · subst c34
                                                  have H1 : (laws_FnPathInside.l0 kj23 a0 a1 t104 t106 (wrap64 (x12_5 + 1)) (wrap64 (x12_5 + 1))) = some r := by rw [if_pos rfl] at H; exact H
                                                  clear H
                                                  have H := H1
                                                  clear H1
                                                  have H' := Aside0.mk H
                                                  clear H
                                                  go_wp2_with (first | ((with_reducible refine gate_callee (f := 5) rfl ?_); refine goesL_ (some 84) rfl rfl Try.func5 (by kernel_rfl) rfl #[.string (t104.extract (x11_5 : Int).toNat (x12_5 : Int).toNat)] rfl (by (try simp only [List.map_toArray, List.map_cons, List.map_nil]); first | done | rfl | (simp only [List.length_drop, List.length_take]; rfl)) ?_; (with_reducible refine (impl_LeafCheck.calls kj23 (t104.extract (x11_5 : Int).toNat (x12_5 : Int).toNat) true _ A33.out).mono ?_); rintro e w35 ⟨rfl, hb⟩; refine ⟨_, rfl, ?_⟩; have n0_ := Aside0.mk (below_step (by repeat (first | (with_reducible first | exact HB.out | apply below_alloc | apply pw_below_drewN | apply below_drew1) | exact HB.out)) hb); clear HB; have HB := n0_; clear n0_; (try clear hb); (try clear hb2); (try clear hk); (try clear hi)))
                                                  go_roundg kj23
                                                  case measure => have := HJ2.out; have := HJ5.out; have := HJ11.out; have := HJ17.out; have := HK5.out; have := HJ20.out; have := HJ23.out; omega
                                                  case rel => exact ⟨(wrap64 (x12_5 + 1)), (wrap64 (x12_5 + 1)), (by first | rfl | (simp; done) | (simp [*]; done) | (simp [xt_ne_nil]; done)), (by first | rfl | (simp; done) | (simp [*]; done) | (simp [xt_ne_nil]; done)), H', ⟨by have := HJ2.out; have := HJ5.out; have := HJ11.out; have := HJ17.out; have := HK5.out; have := HJ20.out; have := HJ23.out; omega⟩, ⟨by repeat (first | (with_reducible first | exact HB.out | apply below_alloc | apply pw_below_drewN | apply below_drew1) | exact HB.out)⟩⟩
                                                · replace c34 := Bool.eq_false_iff.mpr c34
                                                  subst c34
                                                  have H1 : (some false) = some r := by rw [if_neg (show ¬ (false = true) by decide)] at H; exact H
                                                  clear H
                                                  have H := H1
                                                  clear H1
                                                  obtain rfl := Option.some.inj H
                                                  go_wp2_with (first | ((with_reducible refine gate_callee (f := 5) rfl ?_); refine goesL_ (some 84) rfl rfl Try.func5 (by kernel_rfl) rfl #[.string (t104.extract (x11_5 : Int).toNat (x12_5 : Int).toNat)] rfl (by (try simp only [List.map_toArray, List.map_cons, List.map_nil]); first | done | rfl | (simp only [List.length_drop, List.length_take]; rfl)) ?_; (with_reducible refine (impl_LeafCheck.calls kj23 (t104.extract (x11_5 : Int).toNat (x12_5 : Int).toNat) false _ A33.out).mono ?_); rintro e w36 ⟨rfl, hb⟩; refine ⟨_, rfl, ?_⟩; have n0_ := Aside0.mk (below_step (by repeat (first | (with_reducible first | exact HB.out | apply below_alloc | apply pw_below_drewN | apply below_drew1) | exact HB.out)) hb); clear HB; have HB := n0_; clear n0_; (try clear hb); (try clear hb2); (try clear hk); (try clear hi)))
                                                  go_ret
                                                  exact ⟨by first | rfl | (simp [errW_none, errW_some] <;> rfl) | (simp [*, errW_none, errW_some] <;> rfl), by repeat (first | (with_reducible first | exact HB.out | apply below_alloc | apply pw_below_drewN | apply below_drew1) | exact HB.out)⟩
                                              · rw [if_neg c32] at H
                                                exact absurd H (by simp)
                                            · rw [if_neg c31] at H
                                              exact absurd H (by simp)
                                          · rw [if_neg c30] at H
                                            exact absurd H (by simp)
                                        · replace c29 := Bool.eq_false_iff.mpr c29
                                          subst c29
                                          have H1 : (laws_FnPathInside.l0 kj23 a0 a1 t104 t106 x11_5 (wrap64 (x12_5 + 1))) = some r := by rw [if_neg (show ¬ (false = true) by decide)] at H; exact H
                                          clear H
                                          have H := H1
                                          clear H1
                                          have H' := Aside0.mk H
                                          clear H
                                          go_wp2
                                          go_roundg kj23
                                          case measure => have := HJ2.out; have := HJ5.out; have := HJ11.out; have := HJ17.out; have := HK5.out; have := HJ20.out; have := HJ23.out; omega
                                          case rel => exact ⟨(x11_5), (wrap64 (x12_5 + 1)), (by first | rfl | (simp; done) | (simp [*]; done) | (simp [xt_ne_nil]; done)), (by first | rfl | (simp; done) | (simp [*]; done) | (simp [xt_ne_nil]; done)), H', ⟨by have := HJ2.out; have := HJ5.out; have := HJ11.out; have := HJ17.out; have := HK5.out; have := HJ20.out; have := HJ23.out; omega⟩, ⟨by repeat (first | (with_reducible first | exact HB.out | apply below_alloc | apply pw_below_drewN | apply below_drew1) | exact HB.out)⟩⟩
                                  · replace c23 := Bool.eq_false_iff.mpr c23
                                    subst c23
                                    have H1 : ((impl_PathClean.f kj20 t104).bind fun bt111 => (if a0.size + 1 ≤ 9223372036854775807 then (if (a0 ++ (⟨#[47]⟩ : ByteArray)).size + a1.size ≤ 9223372036854775807 then ((impl_PathClean.f kj20 ((a0 ++ (⟨#[47]⟩ : ByteArray)) ++ a1)).bind fun bt113 => (if t104.toList = ([] : List UInt8) then (if bt111.2 = true then (if bt111.1.toList = t104.toList then (if bt113.2 = true then (if t104.size + t106.size ≤ 9223372036854775807 then (some (bt113.1.toList == (t104 ++ t106).toList)) else (none)) else (some false)) else (some false)) else (some false)) else (if t106.toList = ([] : List UInt8) then (if bt111.2 = true then (if bt111.1.toList = t104.toList then (if bt113.2 = true then (if t104.size + t106.size ≤ 9223372036854775807 then (some (bt113.1.toList == (t104 ++ t106).toList)) else (none)) else (some false)) else (some false)) else (some false)) else (if t104.size + 1 ≤ 9223372036854775807 then (if bt111.2 = true then (if bt111.1.toList = t104.toList then (if bt113.2 = true then (if (t104 ++ (⟨#[47]⟩ : ByteArray)).size + t106.size ≤ 9223372036854775807 then (some (bt113.1.toList == ((t104 ++ (⟨#[47]⟩ : ByteArray)) ++ t106).toList)) else (none)) else (some false)) else (some false)) else (some false)) else (none))))) else (none)) else (none))) = some r := by rw [if_neg (show ¬ (false = true) by decide)] at H; exact H
                                    clear H
                                    have H := H1
                                    clear H1
                                    replace H := Option.bind_eq_some_iff.mp H
                                    obtain ⟨⟨t111, t112⟩, A370, H⟩ := H
                                    replace H : (if a0.size + 1 ≤ 9223372036854775807 then (if (a0 ++ (⟨#[47]⟩ : ByteArray)).size + a1.size ≤ 9223372036854775807 then ((impl_PathClean.f kj20 ((a0 ++ (⟨#[47]⟩ : ByteArray)) ++ a1)).bind fun bt113 => (if t104.toList = ([] : List UInt8) then (if t112 = true then (if t111.toList = t104.toList then (if bt113.2 = true then (if t104.size + t106.size ≤ 9223372036854775807 then (some (bt113.1.toList == (t104 ++ t106).toList)) else (none)) else (some false)) else (some false)) else (some false)) else (if t106.toList = ([] : List UInt8) then (if t112 = true then (if t111.toList = t104.toList then (if bt113.2 = true then (if t104.size + t106.size ≤ 9223372036854775807 then (some (bt113.1.toList == (t104 ++ t106).toList)) else (none)) else (some false)) else (some false)) else (some false)) else (if t104.size + 1 ≤ 9223372036854775807 then (if t112 = true then (if t111.toList = t104.toList then (if bt113.2 = true then (if (t104 ++ (⟨#[47]⟩ : ByteArray)).size + t106.size ≤ 9223372036854775807 then (some (bt113.1.toList == ((t104 ++ (⟨#[47]⟩ : ByteArray)) ++ t106).toList)) else (none)) else (some false)) else (some false)) else (some false)) else (none))))) else (none)) else (none)) = some r := H
                                    have A37 := Aside0.mk A370
                                    clear A370
                                    by_cases c38 : a0.size + 1 ≤ 9223372036854775807
                                    · rw [if_pos c38] at H
                                      have c38b0 := eq_true c38
                                      have c38b1 : decide (a0.size + 1 ≤ 9223372036854775807) = true := decide_eq_true c38
                                      try have c38b2 : (9223372036854775807 < a0.size + 1) = False := eq_false (Nat.not_lt.2 c38)
                                      by_cases c39 : (a0 ++ (⟨#[47]⟩ : ByteArray)).size + a1.size ≤ 9223372036854775807
                                      · rw [if_pos c39] at H
                                        have c39b0 := eq_true c39
                                        have c39b1 : decide ((a0 ++ (⟨#[47]⟩ : ByteArray)).size + a1.size ≤ 9223372036854775807) = true := decide_eq_true c39
                                        try have c39b2 : (9223372036854775807 < (a0 ++ (⟨#[47]⟩ : ByteArray)).size + a1.size) = False := eq_false (Nat.not_lt.2 c39)
                                        replace H := Option.bind_eq_some_iff.mp H
                                        obtain ⟨⟨t113, t114⟩, A400, H⟩ := H
                                        replace H : (if t104.toList = ([] : List UInt8) then (if t112 = true then (if t111.toList = t104.toList then (if t114 = true then (if t104.size + t106.size ≤ 9223372036854775807 then (some (t113.toList == (t104 ++ t106).toList)) else (none)) else (some false)) else (some false)) else (some false)) else (if t106.toList = ([] : List UInt8) then (if t112 = true then (if t111.toList = t104.toList then (if t114 = true then (if t104.size + t106.size ≤ 9223372036854775807 then (some (t113.toList == (t104 ++ t106).toList)) else (none)) else (some false)) else (some false)) else (some false)) else (if t104.size + 1 ≤ 9223372036854775807 then (if t112 = true then (if t111.toList = t104.toList then (if t114 = true then (if (t104 ++ (⟨#[47]⟩ : ByteArray)).size + t106.size ≤ 9223372036854775807 then (some (t113.toList == ((t104 ++ (⟨#[47]⟩ : ByteArray)) ++ t106).toList)) else (none)) else (some false)) else (some false)) else (some false)) else (none)))) = some r := H
                                        have A40 := Aside0.mk A400
                                        clear A400
                                        by_cases c41 : t104.toList = ([] : List UInt8)
                                        · rw [if_pos c41] at H
                                          have c41b0 : (t104.toList == ([] : List UInt8)) = true := beq_iff_eq.mpr c41
                                          have c41b1 : (t104.toList != ([] : List UInt8)) = false := bne_eq_false_iff_eq.mpr c41
                                          clear c41
                                          by_cases c42 : t112 = true
                                          · subst c42
                                            have H1 : (if t111.toList = t104.toList then (if t114 = true then (if t104.size + t106.size ≤ 9223372036854775807 then (some (t113.toList == (t104 ++ t106).toList)) else (none)) else (some false)) else (some false)) = some r := by rw [if_pos rfl] at H; exact H
                                            clear H
                                            have H := H1
                                            clear H1
                                            by_cases c43 : t111.toList = t104.toList
                                            · rw [if_pos c43] at H
                                              have c43b0 : (t111.toList == t104.toList) = true := beq_iff_eq.mpr c43
                                              have c43b1 : (t111.toList != t104.toList) = false := bne_eq_false_iff_eq.mpr c43
                                              clear c43
                                              by_cases c44 : t114 = true
                                              · subst c44
                                                have H1 : (if t104.size + t106.size ≤ 9223372036854775807 then (some (t113.toList == (t104 ++ t106).toList)) else (none)) = some r := by rw [if_pos rfl] at H; exact H
                                                clear H
                                                have H := H1
                                                clear H1
                                                by_cases c45 : t104.size + t106.size ≤ 9223372036854775807
                                                · rw [if_pos c45] at H
                                                  have c45b0 := eq_true c45
                                                  have c45b1 : decide (t104.size + t106.size ≤ 9223372036854775807) = true := decide_eq_true c45
                                                  try have c45b2 : (9223372036854775807 < t104.size + t106.size) = False := eq_false (Nat.not_lt.2 c45)
                                                  obtain rfl := Option.some.inj H
                                                  go_wp2_with (first | ((with_reducible refine gate_callee (f := 4) rfl ?_); refine goesL_ (some 90) rfl rfl Try.func4 (by kernel_rfl) rfl #[.string t104] rfl (by (try simp only [List.map_toArray, List.map_cons, List.map_nil]); first | done | rfl | (simp only [List.length_drop, List.length_take]; rfl)) ?_; (with_reducible refine (impl_PathClean.calls kj20 t104 t111 true _ A37.out).mono ?_); rintro e w46 ⟨rfl, hb⟩; refine ⟨_, rfl, ?_⟩; have n0_ := Aside0.mk (below_step (by repeat (first | (with_reducible first | exact HB.out | apply below_alloc | apply pw_below_drewN | apply below_drew1) | exact HB.out)) hb); clear HB; have HB := n0_; clear n0_; (try clear hb); (try clear hb2); (try clear hk); (try clear hi)) | ((with_reducible refine gate_callee (f := 4) rfl ?_); refine goesL_ (some 98) rfl rfl Try.func4 (by kernel_rfl) rfl #[.string ((a0 ++ (⟨#[47]⟩ : ByteArray)) ++ a1)] rfl (by (try simp only [List.map_toArray, List.map_cons, List.map_nil]); first | done | rfl | (simp only [List.length_drop, List.length_take]; rfl)) ?_; (with_reducible refine (impl_PathClean.calls kj20 ((a0 ++ (⟨#[47]⟩ : ByteArray)) ++ a1) t113 true _ A40.out).mono ?_); rintro e w47 ⟨rfl, hb⟩; refine ⟨_, rfl, ?_⟩; have n0_ := Aside0.mk (below_step (by repeat (first | (with_reducible first | exact HB.out | apply below_alloc | apply pw_below_drewN | apply below_drew1) | exact HB.out)) hb); clear HB; have HB := n0_; clear n0_; (try clear hb); (try clear hb2); (try clear hk); (try clear hi)))
                                                  go_ret
                                                  exact ⟨by first | rfl | (simp [errW_none, errW_some] <;> rfl) | (simp [*, errW_none, errW_some] <;> rfl), by repeat (first | (with_reducible first | exact HB.out | apply below_alloc | apply pw_below_drewN | apply below_drew1) | exact HB.out)⟩
                                                · rw [if_neg c45] at H
                                                  exact absurd H (by simp)
                                              · replace c44 := Bool.eq_false_iff.mpr c44
                                                subst c44
                                                have H1 : (some false) = some r := by rw [if_neg (show ¬ (false = true) by decide)] at H; exact H
                                                clear H
                                                have H := H1
                                                clear H1
                                                obtain rfl := Option.some.inj H
                                                go_wp2_with (first | ((with_reducible refine gate_callee (f := 4) rfl ?_); refine goesL_ (some 90) rfl rfl Try.func4 (by kernel_rfl) rfl #[.string t104] rfl (by (try simp only [List.map_toArray, List.map_cons, List.map_nil]); first | done | rfl | (simp only [List.length_drop, List.length_take]; rfl)) ?_; (with_reducible refine (impl_PathClean.calls kj20 t104 t111 true _ A37.out).mono ?_); rintro e w48 ⟨rfl, hb⟩; refine ⟨_, rfl, ?_⟩; have n0_ := Aside0.mk (below_step (by repeat (first | (with_reducible first | exact HB.out | apply below_alloc | apply pw_below_drewN | apply below_drew1) | exact HB.out)) hb); clear HB; have HB := n0_; clear n0_; (try clear hb); (try clear hb2); (try clear hk); (try clear hi)) | ((with_reducible refine gate_callee (f := 4) rfl ?_); refine goesL_ (some 98) rfl rfl Try.func4 (by kernel_rfl) rfl #[.string ((a0 ++ (⟨#[47]⟩ : ByteArray)) ++ a1)] rfl (by (try simp only [List.map_toArray, List.map_cons, List.map_nil]); first | done | rfl | (simp only [List.length_drop, List.length_take]; rfl)) ?_; (with_reducible refine (impl_PathClean.calls kj20 ((a0 ++ (⟨#[47]⟩ : ByteArray)) ++ a1) t113 false _ A40.out).mono ?_); rintro e w49 ⟨rfl, hb⟩; refine ⟨_, rfl, ?_⟩; have n0_ := Aside0.mk (below_step (by repeat (first | (with_reducible first | exact HB.out | apply below_alloc | apply pw_below_drewN | apply below_drew1) | exact HB.out)) hb); clear HB; have HB := n0_; clear n0_; (try clear hb); (try clear hb2); (try clear hk); (try clear hi)))
                                                go_ret
                                                exact ⟨by first | rfl | (simp [errW_none, errW_some] <;> rfl) | (simp [*, errW_none, errW_some] <;> rfl), by repeat (first | (with_reducible first | exact HB.out | apply below_alloc | apply pw_below_drewN | apply below_drew1) | exact HB.out)⟩
                                            · rw [if_neg c43] at H
                                              have c43b0 : (t111.toList == t104.toList) = false := beq_eq_false_iff_ne.mpr c43
                                              have c43b1 : (t111.toList != t104.toList) = true := bne_iff_ne.mpr c43
                                              obtain rfl := Option.some.inj H
                                              go_wp2_with (first | ((with_reducible refine gate_callee (f := 4) rfl ?_); refine goesL_ (some 90) rfl rfl Try.func4 (by kernel_rfl) rfl #[.string t104] rfl (by (try simp only [List.map_toArray, List.map_cons, List.map_nil]); first | done | rfl | (simp only [List.length_drop, List.length_take]; rfl)) ?_; (with_reducible refine (impl_PathClean.calls kj20 t104 t111 true _ A37.out).mono ?_); rintro e w50 ⟨rfl, hb⟩; refine ⟨_, rfl, ?_⟩; have n0_ := Aside0.mk (below_step (by repeat (first | (with_reducible first | exact HB.out | apply below_alloc | apply pw_below_drewN | apply below_drew1) | exact HB.out)) hb); clear HB; have HB := n0_; clear n0_; (try clear hb); (try clear hb2); (try clear hk); (try clear hi)) | ((with_reducible refine gate_callee (f := 4) rfl ?_); refine goesL_ (some 98) rfl rfl Try.func4 (by kernel_rfl) rfl #[.string ((a0 ++ (⟨#[47]⟩ : ByteArray)) ++ a1)] rfl (by (try simp only [List.map_toArray, List.map_cons, List.map_nil]); first | done | rfl | (simp only [List.length_drop, List.length_take]; rfl)) ?_; (with_reducible refine (impl_PathClean.calls kj20 ((a0 ++ (⟨#[47]⟩ : ByteArray)) ++ a1) t113 t114 _ A40.out).mono ?_); rintro e w51 ⟨rfl, hb⟩; refine ⟨_, rfl, ?_⟩; have n0_ := Aside0.mk (below_step (by repeat (first | (with_reducible first | exact HB.out | apply below_alloc | apply pw_below_drewN | apply below_drew1) | exact HB.out)) hb); clear HB; have HB := n0_; clear n0_; (try clear hb); (try clear hb2); (try clear hk); (try clear hi)))
                                              go_ret
                                              exact ⟨by first | rfl | (simp [errW_none, errW_some] <;> rfl) | (simp [*, errW_none, errW_some] <;> rfl), by repeat (first | (with_reducible first | exact HB.out | apply below_alloc | apply pw_below_drewN | apply below_drew1) | exact HB.out)⟩
                                          · replace c42 := Bool.eq_false_iff.mpr c42
                                            subst c42
                                            have H1 : (some false) = some r := by rw [if_neg (show ¬ (false = true) by decide)] at H; exact H
                                            clear H
                                            have H := H1
                                            clear H1
                                            obtain rfl := Option.some.inj H
                                            go_wp2_with (first | ((with_reducible refine gate_callee (f := 4) rfl ?_); refine goesL_ (some 90) rfl rfl Try.func4 (by kernel_rfl) rfl #[.string t104] rfl (by (try simp only [List.map_toArray, List.map_cons, List.map_nil]); first | done | rfl | (simp only [List.length_drop, List.length_take]; rfl)) ?_; (with_reducible refine (impl_PathClean.calls kj20 t104 t111 false _ A37.out).mono ?_); rintro e w52 ⟨rfl, hb⟩; refine ⟨_, rfl, ?_⟩; have n0_ := Aside0.mk (below_step (by repeat (first | (with_reducible first | exact HB.out | apply below_alloc | apply pw_below_drewN | apply below_drew1) | exact HB.out)) hb); clear HB; have HB := n0_; clear n0_; (try clear hb); (try clear hb2); (try clear hk); (try clear hi)) | ((with_reducible refine gate_callee (f := 4) rfl ?_); refine goesL_ (some 98) rfl rfl Try.func4 (by kernel_rfl) rfl #[.string ((a0 ++ (⟨#[47]⟩ : ByteArray)) ++ a1)] rfl (by (try simp only [List.map_toArray, List.map_cons, List.map_nil]); first | done | rfl | (simp only [List.length_drop, List.length_take]; rfl)) ?_; (with_reducible refine (impl_PathClean.calls kj20 ((a0 ++ (⟨#[47]⟩ : ByteArray)) ++ a1) t113 t114 _ A40.out).mono ?_); rintro e w53 ⟨rfl, hb⟩; refine ⟨_, rfl, ?_⟩; have n0_ := Aside0.mk (below_step (by repeat (first | (with_reducible first | exact HB.out | apply below_alloc | apply pw_below_drewN | apply below_drew1) | exact HB.out)) hb); clear HB; have HB := n0_; clear n0_; (try clear hb); (try clear hb2); (try clear hk); (try clear hi)))
                                            go_ret
                                            exact ⟨by first | rfl | (simp [errW_none, errW_some] <;> rfl) | (simp [*, errW_none, errW_some] <;> rfl), by repeat (first | (with_reducible first | exact HB.out | apply below_alloc | apply pw_below_drewN | apply below_drew1) | exact HB.out)⟩
                                        · rw [if_neg c41] at H
                                          have c41b0 : (t104.toList == ([] : List UInt8)) = false := beq_eq_false_iff_ne.mpr c41
                                          have c41b1 : (t104.toList != ([] : List UInt8)) = true := bne_iff_ne.mpr c41
                                          by_cases c54 : t106.toList = ([] : List UInt8)
                                          · rw [if_pos c54] at H
                                            have c54b0 : (t106.toList == ([] : List UInt8)) = true := beq_iff_eq.mpr c54
                                            have c54b1 : (t106.toList != ([] : List UInt8)) = false := bne_eq_false_iff_eq.mpr c54
                                            clear c54
                                            by_cases c55 : t112 = true
                                            · subst c55
                                              have H1 : (if t111.toList = t104.toList then (if t114 = true then (if t104.size + t106.size ≤ 9223372036854775807 then (some (t113.toList == (t104 ++ t106).toList)) else (none)) else (some false)) else (some false)) = some r := by rw [if_pos rfl] at H; exact H
                                              clear H
                                              have H := H1
                                              clear H1
                                              by_cases c56 : t111.toList = t104.toList
                                              · rw [if_pos c56] at H
                                                have c56b0 : (t111.toList == t104.toList) = true := beq_iff_eq.mpr c56
                                                have c56b1 : (t111.toList != t104.toList) = false := bne_eq_false_iff_eq.mpr c56
                                                clear c56
                                                by_cases c57 : t114 = true
                                                · subst c57
                                                  have H1 : (if t104.size + t106.size ≤ 9223372036854775807 then (some (t113.toList == (t104 ++ t106).toList)) else (none)) = some r := by rw [if_pos rfl] at H; exact H
                                                  clear H
                                                  have H := H1
                                                  clear H1
                                                  by_cases c58 : t104.size + t106.size ≤ 9223372036854775807
                                                  · rw [if_pos c58] at H
                                                    have c58b0 := eq_true c58
                                                    have c58b1 : decide (t104.size + t106.size ≤ 9223372036854775807) = true := decide_eq_true c58
                                                    try have c58b2 : (9223372036854775807 < t104.size + t106.size) = False := eq_false (Nat.not_lt.2 c58)
                                                    obtain rfl := Option.some.inj H
                                                    go_wp2_with (first | ((with_reducible refine gate_callee (f := 4) rfl ?_); refine goesL_ (some 90) rfl rfl Try.func4 (by kernel_rfl) rfl #[.string t104] rfl (by (try simp only [List.map_toArray, List.map_cons, List.map_nil]); first | done | rfl | (simp only [List.length_drop, List.length_take]; rfl)) ?_; (with_reducible refine (impl_PathClean.calls kj20 t104 t111 true _ A37.out).mono ?_); rintro e w59 ⟨rfl, hb⟩; refine ⟨_, rfl, ?_⟩; have n0_ := Aside0.mk (below_step (by repeat (first | (with_reducible first | exact HB.out | apply below_alloc | apply pw_below_drewN | apply below_drew1) | exact HB.out)) hb); clear HB; have HB := n0_; clear n0_; (try clear hb); (try clear hb2); (try clear hk); (try clear hi)) | ((with_reducible refine gate_callee (f := 4) rfl ?_); refine goesL_ (some 98) rfl rfl Try.func4 (by kernel_rfl) rfl #[.string ((a0 ++ (⟨#[47]⟩ : ByteArray)) ++ a1)] rfl (by (try simp only [List.map_toArray, List.map_cons, List.map_nil]); first | done | rfl | (simp only [List.length_drop, List.length_take]; rfl)) ?_; (with_reducible refine (impl_PathClean.calls kj20 ((a0 ++ (⟨#[47]⟩ : ByteArray)) ++ a1) t113 true _ A40.out).mono ?_); rintro e w60 ⟨rfl, hb⟩; refine ⟨_, rfl, ?_⟩; have n0_ := Aside0.mk (below_step (by repeat (first | (with_reducible first | exact HB.out | apply below_alloc | apply pw_below_drewN | apply below_drew1) | exact HB.out)) hb); clear HB; have HB := n0_; clear n0_; (try clear hb); (try clear hb2); (try clear hk); (try clear hi)))
                                                    go_ret
                                                    exact ⟨by first | rfl | (simp [errW_none, errW_some] <;> rfl) | (simp [*, errW_none, errW_some] <;> rfl), by repeat (first | (with_reducible first | exact HB.out | apply below_alloc | apply pw_below_drewN | apply below_drew1) | exact HB.out)⟩
                                                  · rw [if_neg c58] at H
                                                    exact absurd H (by simp)
                                                · replace c57 := Bool.eq_false_iff.mpr c57
                                                  subst c57
                                                  have H1 : (some false) = some r := by rw [if_neg (show ¬ (false = true) by decide)] at H; exact H
                                                  clear H
                                                  have H := H1
                                                  clear H1
                                                  obtain rfl := Option.some.inj H
                                                  go_wp2_with (first | ((with_reducible refine gate_callee (f := 4) rfl ?_); refine goesL_ (some 90) rfl rfl Try.func4 (by kernel_rfl) rfl #[.string t104] rfl (by (try simp only [List.map_toArray, List.map_cons, List.map_nil]); first | done | rfl | (simp only [List.length_drop, List.length_take]; rfl)) ?_; (with_reducible refine (impl_PathClean.calls kj20 t104 t111 true _ A37.out).mono ?_); rintro e w61 ⟨rfl, hb⟩; refine ⟨_, rfl, ?_⟩; have n0_ := Aside0.mk (below_step (by repeat (first | (with_reducible first | exact HB.out | apply below_alloc | apply pw_below_drewN | apply below_drew1) | exact HB.out)) hb); clear HB; have HB := n0_; clear n0_; (try clear hb); (try clear hb2); (try clear hk); (try clear hi)) | ((with_reducible refine gate_callee (f := 4) rfl ?_); refine goesL_ (some 98) rfl rfl Try.func4 (by kernel_rfl) rfl #[.string ((a0 ++ (⟨#[47]⟩ : ByteArray)) ++ a1)] rfl (by (try simp only [List.map_toArray, List.map_cons, List.map_nil]); first | done | rfl | (simp only [List.length_drop, List.length_take]; rfl)) ?_; (with_reducible refine (impl_PathClean.calls kj20 ((a0 ++ (⟨#[47]⟩ : ByteArray)) ++ a1) t113 false _ A40.out).mono ?_); rintro e w62 ⟨rfl, hb⟩; refine ⟨_, rfl, ?_⟩; have n0_ := Aside0.mk (below_step (by repeat (first | (with_reducible first | exact HB.out | apply below_alloc | apply pw_below_drewN | apply below_drew1) | exact HB.out)) hb); clear HB; have HB := n0_; clear n0_; (try clear hb); (try clear hb2); (try clear hk); (try clear hi)))
                                                  go_ret
                                                  exact ⟨by first | rfl | (simp [errW_none, errW_some] <;> rfl) | (simp [*, errW_none, errW_some] <;> rfl), by repeat (first | (with_reducible first | exact HB.out | apply below_alloc | apply pw_below_drewN | apply below_drew1) | exact HB.out)⟩
                                              · rw [if_neg c56] at H
                                                have c56b0 : (t111.toList == t104.toList) = false := beq_eq_false_iff_ne.mpr c56
                                                have c56b1 : (t111.toList != t104.toList) = true := bne_iff_ne.mpr c56
                                                obtain rfl := Option.some.inj H
                                                go_wp2_with (first | ((with_reducible refine gate_callee (f := 4) rfl ?_); refine goesL_ (some 90) rfl rfl Try.func4 (by kernel_rfl) rfl #[.string t104] rfl (by (try simp only [List.map_toArray, List.map_cons, List.map_nil]); first | done | rfl | (simp only [List.length_drop, List.length_take]; rfl)) ?_; (with_reducible refine (impl_PathClean.calls kj20 t104 t111 true _ A37.out).mono ?_); rintro e w63 ⟨rfl, hb⟩; refine ⟨_, rfl, ?_⟩; have n0_ := Aside0.mk (below_step (by repeat (first | (with_reducible first | exact HB.out | apply below_alloc | apply pw_below_drewN | apply below_drew1) | exact HB.out)) hb); clear HB; have HB := n0_; clear n0_; (try clear hb); (try clear hb2); (try clear hk); (try clear hi)) | ((with_reducible refine gate_callee (f := 4) rfl ?_); refine goesL_ (some 98) rfl rfl Try.func4 (by kernel_rfl) rfl #[.string ((a0 ++ (⟨#[47]⟩ : ByteArray)) ++ a1)] rfl (by (try simp only [List.map_toArray, List.map_cons, List.map_nil]); first | done | rfl | (simp only [List.length_drop, List.length_take]; rfl)) ?_; (with_reducible refine (impl_PathClean.calls kj20 ((a0 ++ (⟨#[47]⟩ : ByteArray)) ++ a1) t113 t114 _ A40.out).mono ?_); rintro e w64 ⟨rfl, hb⟩; refine ⟨_, rfl, ?_⟩; have n0_ := Aside0.mk (below_step (by repeat (first | (with_reducible first | exact HB.out | apply below_alloc | apply pw_below_drewN | apply below_drew1) | exact HB.out)) hb); clear HB; have HB := n0_; clear n0_; (try clear hb); (try clear hb2); (try clear hk); (try clear hi)))
                                                go_ret
                                                exact ⟨by first | rfl | (simp [errW_none, errW_some] <;> rfl) | (simp [*, errW_none, errW_some] <;> rfl), by repeat (first | (with_reducible first | exact HB.out | apply below_alloc | apply pw_below_drewN | apply below_drew1) | exact HB.out)⟩
                                            · replace c55 := Bool.eq_false_iff.mpr c55
                                              subst c55
                                              have H1 : (some false) = some r := by rw [if_neg (show ¬ (false = true) by decide)] at H; exact H
                                              clear H
                                              have H := H1
                                              clear H1
                                              obtain rfl := Option.some.inj H
                                              go_wp2_with (first | ((with_reducible refine gate_callee (f := 4) rfl ?_); refine goesL_ (some 90) rfl rfl Try.func4 (by kernel_rfl) rfl #[.string t104] rfl (by (try simp only [List.map_toArray, List.map_cons, List.map_nil]); first | done | rfl | (simp only [List.length_drop, List.length_take]; rfl)) ?_; (with_reducible refine (impl_PathClean.calls kj20 t104 t111 false _ A37.out).mono ?_); rintro e w65 ⟨rfl, hb⟩; refine ⟨_, rfl, ?_⟩; have n0_ := Aside0.mk (below_step (by repeat (first | (with_reducible first | exact HB.out | apply below_alloc | apply pw_below_drewN | apply below_drew1) | exact HB.out)) hb); clear HB; have HB := n0_; clear n0_; (try clear hb); (try clear hb2); (try clear hk); (try clear hi)) | ((with_reducible refine gate_callee (f := 4) rfl ?_); refine goesL_ (some 98) rfl rfl Try.func4 (by kernel_rfl) rfl #[.string ((a0 ++ (⟨#[47]⟩ : ByteArray)) ++ a1)] rfl (by (try simp only [List.map_toArray, List.map_cons, List.map_nil]); first | done | rfl | (simp only [List.length_drop, List.length_take]; rfl)) ?_; (with_reducible refine (impl_PathClean.calls kj20 ((a0 ++ (⟨#[47]⟩ : ByteArray)) ++ a1) t113 t114 _ A40.out).mono ?_); rintro e w66 ⟨rfl, hb⟩; refine ⟨_, rfl, ?_⟩; have n0_ := Aside0.mk (below_step (by repeat (first | (with_reducible first | exact HB.out | apply below_alloc | apply pw_below_drewN | apply below_drew1) | exact HB.out)) hb); clear HB; have HB := n0_; clear n0_; (try clear hb); (try clear hb2); (try clear hk); (try clear hi)))
                                              go_ret
                                              exact ⟨by first | rfl | (simp [errW_none, errW_some] <;> rfl) | (simp [*, errW_none, errW_some] <;> rfl), by repeat (first | (with_reducible first | exact HB.out | apply below_alloc | apply pw_below_drewN | apply below_drew1) | exact HB.out)⟩
                                          · rw [if_neg c54] at H
                                            have c54b0 : (t106.toList == ([] : List UInt8)) = false := beq_eq_false_iff_ne.mpr c54
                                            have c54b1 : (t106.toList != ([] : List UInt8)) = true := bne_iff_ne.mpr c54
                                            by_cases c67 : t104.size + 1 ≤ 9223372036854775807
                                            · rw [if_pos c67] at H
                                              have c67b0 := eq_true c67
                                              have c67b1 : decide (t104.size + 1 ≤ 9223372036854775807) = true := decide_eq_true c67
                                              try have c67b2 : (9223372036854775807 < t104.size + 1) = False := eq_false (Nat.not_lt.2 c67)
                                              by_cases c68 : t112 = true
                                              · subst c68
                                                have H1 : (if t111.toList = t104.toList then (if t114 = true then (if (t104 ++ (⟨#[47]⟩ : ByteArray)).size + t106.size ≤ 9223372036854775807 then (some (t113.toList == ((t104 ++ (⟨#[47]⟩ : ByteArray)) ++ t106).toList)) else (none)) else (some false)) else (some false)) = some r := by rw [if_pos rfl] at H; exact H
                                                clear H
                                                have H := H1
                                                clear H1
                                                by_cases c69 : t111.toList = t104.toList
                                                · rw [if_pos c69] at H
                                                  have c69b0 : (t111.toList == t104.toList) = true := beq_iff_eq.mpr c69
                                                  have c69b1 : (t111.toList != t104.toList) = false := bne_eq_false_iff_eq.mpr c69
                                                  clear c69
                                                  by_cases c70 : t114 = true
                                                  · subst c70
                                                    have H1 : (if (t104 ++ (⟨#[47]⟩ : ByteArray)).size + t106.size ≤ 9223372036854775807 then (some (t113.toList == ((t104 ++ (⟨#[47]⟩ : ByteArray)) ++ t106).toList)) else (none)) = some r := by rw [if_pos rfl] at H; exact H
                                                    clear H
                                                    have H := H1
                                                    clear H1
                                                    by_cases c71 : (t104 ++ (⟨#[47]⟩ : ByteArray)).size + t106.size ≤ 9223372036854775807
                                                    · rw [if_pos c71] at H
                                                      have c71b0 := eq_true c71
                                                      have c71b1 : decide ((t104 ++ (⟨#[47]⟩ : ByteArray)).size + t106.size ≤ 9223372036854775807) = true := decide_eq_true c71
                                                      try have c71b2 : (9223372036854775807 < (t104 ++ (⟨#[47]⟩ : ByteArray)).size + t106.size) = False := eq_false (Nat.not_lt.2 c71)
                                                      obtain rfl := Option.some.inj H
                                                      go_wp2_with (first | ((with_reducible refine gate_callee (f := 4) rfl ?_); refine goesL_ (some 90) rfl rfl Try.func4 (by kernel_rfl) rfl #[.string t104] rfl (by (try simp only [List.map_toArray, List.map_cons, List.map_nil]); first | done | rfl | (simp only [List.length_drop, List.length_take]; rfl)) ?_; (with_reducible refine (impl_PathClean.calls kj20 t104 t111 true _ A37.out).mono ?_); rintro e w72 ⟨rfl, hb⟩; refine ⟨_, rfl, ?_⟩; have n0_ := Aside0.mk (below_step (by repeat (first | (with_reducible first | exact HB.out | apply below_alloc | apply pw_below_drewN | apply below_drew1) | exact HB.out)) hb); clear HB; have HB := n0_; clear n0_; (try clear hb); (try clear hb2); (try clear hk); (try clear hi)) | ((with_reducible refine gate_callee (f := 4) rfl ?_); refine goesL_ (some 98) rfl rfl Try.func4 (by kernel_rfl) rfl #[.string ((a0 ++ (⟨#[47]⟩ : ByteArray)) ++ a1)] rfl (by (try simp only [List.map_toArray, List.map_cons, List.map_nil]); first | done | rfl | (simp only [List.length_drop, List.length_take]; rfl)) ?_; (with_reducible refine (impl_PathClean.calls kj20 ((a0 ++ (⟨#[47]⟩ : ByteArray)) ++ a1) t113 true _ A40.out).mono ?_); rintro e w73 ⟨rfl, hb⟩; refine ⟨_, rfl, ?_⟩; have n0_ := Aside0.mk (below_step (by repeat (first | (with_reducible first | exact HB.out | apply below_alloc | apply pw_below_drewN | apply below_drew1) | exact HB.out)) hb); clear HB; have HB := n0_; clear n0_; (try clear hb); (try clear hb2); (try clear hk); (try clear hi)))
                                                      go_ret
                                                      exact ⟨by first | rfl | (simp [errW_none, errW_some] <;> rfl) | (simp [*, errW_none, errW_some] <;> rfl), by repeat (first | (with_reducible first | exact HB.out | apply below_alloc | apply pw_below_drewN | apply below_drew1) | exact HB.out)⟩
                                                    · rw [if_neg c71] at H
                                                      exact absurd H (by simp)
                                                  · replace c70 := Bool.eq_false_iff.mpr c70
                                                    subst c70
                                                    have H1 : (some false) = some r := by rw [if_neg (show ¬ (false = true) by decide)] at H; exact H
                                                    clear H
                                                    have H := H1
                                                    clear H1
                                                    obtain rfl := Option.some.inj H
                                                    go_wp2_with (first | ((with_reducible refine gate_callee (f := 4) rfl ?_); refine goesL_ (some 90) rfl rfl Try.func4 (by kernel_rfl) rfl #[.string t104] rfl (by (try simp only [List.map_toArray, List.map_cons, List.map_nil]); first | done | rfl | (simp only [List.length_drop, List.length_take]; rfl)) ?_; (with_reducible refine (impl_PathClean.calls kj20 t104 t111 true _ A37.out).mono ?_); rintro e w74 ⟨rfl, hb⟩; refine ⟨_, rfl, ?_⟩; have n0_ := Aside0.mk (below_step (by repeat (first | (with_reducible first | exact HB.out | apply below_alloc | apply pw_below_drewN | apply below_drew1) | exact HB.out)) hb); clear HB; have HB := n0_; clear n0_; (try clear hb); (try clear hb2); (try clear hk); (try clear hi)) | ((with_reducible refine gate_callee (f := 4) rfl ?_); refine goesL_ (some 98) rfl rfl Try.func4 (by kernel_rfl) rfl #[.string ((a0 ++ (⟨#[47]⟩ : ByteArray)) ++ a1)] rfl (by (try simp only [List.map_toArray, List.map_cons, List.map_nil]); first | done | rfl | (simp only [List.length_drop, List.length_take]; rfl)) ?_; (with_reducible refine (impl_PathClean.calls kj20 ((a0 ++ (⟨#[47]⟩ : ByteArray)) ++ a1) t113 false _ A40.out).mono ?_); rintro e w75 ⟨rfl, hb⟩; refine ⟨_, rfl, ?_⟩; have n0_ := Aside0.mk (below_step (by repeat (first | (with_reducible first | exact HB.out | apply below_alloc | apply pw_below_drewN | apply below_drew1) | exact HB.out)) hb); clear HB; have HB := n0_; clear n0_; (try clear hb); (try clear hb2); (try clear hk); (try clear hi)))
                                                    go_ret
                                                    exact ⟨by first | rfl | (simp [errW_none, errW_some] <;> rfl) | (simp [*, errW_none, errW_some] <;> rfl), by repeat (first | (with_reducible first | exact HB.out | apply below_alloc | apply pw_below_drewN | apply below_drew1) | exact HB.out)⟩
                                                · rw [if_neg c69] at H
                                                  have c69b0 : (t111.toList == t104.toList) = false := beq_eq_false_iff_ne.mpr c69
                                                  have c69b1 : (t111.toList != t104.toList) = true := bne_iff_ne.mpr c69
                                                  obtain rfl := Option.some.inj H
                                                  go_wp2_with (first | ((with_reducible refine gate_callee (f := 4) rfl ?_); refine goesL_ (some 90) rfl rfl Try.func4 (by kernel_rfl) rfl #[.string t104] rfl (by (try simp only [List.map_toArray, List.map_cons, List.map_nil]); first | done | rfl | (simp only [List.length_drop, List.length_take]; rfl)) ?_; (with_reducible refine (impl_PathClean.calls kj20 t104 t111 true _ A37.out).mono ?_); rintro e w76 ⟨rfl, hb⟩; refine ⟨_, rfl, ?_⟩; have n0_ := Aside0.mk (below_step (by repeat (first | (with_reducible first | exact HB.out | apply below_alloc | apply pw_below_drewN | apply below_drew1) | exact HB.out)) hb); clear HB; have HB := n0_; clear n0_; (try clear hb); (try clear hb2); (try clear hk); (try clear hi)) | ((with_reducible refine gate_callee (f := 4) rfl ?_); refine goesL_ (some 98) rfl rfl Try.func4 (by kernel_rfl) rfl #[.string ((a0 ++ (⟨#[47]⟩ : ByteArray)) ++ a1)] rfl (by (try simp only [List.map_toArray, List.map_cons, List.map_nil]); first | done | rfl | (simp only [List.length_drop, List.length_take]; rfl)) ?_; (with_reducible refine (impl_PathClean.calls kj20 ((a0 ++ (⟨#[47]⟩ : ByteArray)) ++ a1) t113 t114 _ A40.out).mono ?_); rintro e w77 ⟨rfl, hb⟩; refine ⟨_, rfl, ?_⟩; have n0_ := Aside0.mk (below_step (by repeat (first | (with_reducible first | exact HB.out | apply below_alloc | apply pw_below_drewN | apply below_drew1) | exact HB.out)) hb); clear HB; have HB := n0_; clear n0_; (try clear hb); (try clear hb2); (try clear hk); (try clear hi)))
                                                  go_ret
                                                  exact ⟨by first | rfl | (simp [errW_none, errW_some] <;> rfl) | (simp [*, errW_none, errW_some] <;> rfl), by repeat (first | (with_reducible first | exact HB.out | apply below_alloc | apply pw_below_drewN | apply below_drew1) | exact HB.out)⟩
                                              · replace c68 := Bool.eq_false_iff.mpr c68
                                                subst c68
                                                have H1 : (some false) = some r := by rw [if_neg (show ¬ (false = true) by decide)] at H; exact H
                                                clear H
                                                have H := H1
                                                clear H1
                                                obtain rfl := Option.some.inj H
                                                go_wp2_with (first | ((with_reducible refine gate_callee (f := 4) rfl ?_); refine goesL_ (some 90) rfl rfl Try.func4 (by kernel_rfl) rfl #[.string t104] rfl (by (try simp only [List.map_toArray, List.map_cons, List.map_nil]); first | done | rfl | (simp only [List.length_drop, List.length_take]; rfl)) ?_; (with_reducible refine (impl_PathClean.calls kj20 t104 t111 false _ A37.out).mono ?_); rintro e w78 ⟨rfl, hb⟩; refine ⟨_, rfl, ?_⟩; have n0_ := Aside0.mk (below_step (by repeat (first | (with_reducible first | exact HB.out | apply below_alloc | apply pw_below_drewN | apply below_drew1) | exact HB.out)) hb); clear HB; have HB := n0_; clear n0_; (try clear hb); (try clear hb2); (try clear hk); (try clear hi)) | ((with_reducible refine gate_callee (f := 4) rfl ?_); refine goesL_ (some 98) rfl rfl Try.func4 (by kernel_rfl) rfl #[.string ((a0 ++ (⟨#[47]⟩ : ByteArray)) ++ a1)] rfl (by (try simp only [List.map_toArray, List.map_cons, List.map_nil]); first | done | rfl | (simp only [List.length_drop, List.length_take]; rfl)) ?_; (with_reducible refine (impl_PathClean.calls kj20 ((a0 ++ (⟨#[47]⟩ : ByteArray)) ++ a1) t113 t114 _ A40.out).mono ?_); rintro e w79 ⟨rfl, hb⟩; refine ⟨_, rfl, ?_⟩; have n0_ := Aside0.mk (below_step (by repeat (first | (with_reducible first | exact HB.out | apply below_alloc | apply pw_below_drewN | apply below_drew1) | exact HB.out)) hb); clear HB; have HB := n0_; clear n0_; (try clear hb); (try clear hb2); (try clear hk); (try clear hi)))
                                                go_ret
                                                exact ⟨by first | rfl | (simp [errW_none, errW_some] <;> rfl) | (simp [*, errW_none, errW_some] <;> rfl), by repeat (first | (with_reducible first | exact HB.out | apply below_alloc | apply pw_below_drewN | apply below_drew1) | exact HB.out)⟩
                                            · rw [if_neg c67] at H
                                              exact absurd H (by simp)
                                      · rw [if_neg c39] at H
                                        exact absurd H (by simp)
                                    · rw [if_neg c38] at H
                                      exact absurd H (by simp)

/-- THE ONE PURE STATEMENT of laws_FnPathInside: yours. -/
def laws_FnPathInside.Pure : Prop := ∀ (a0 : ByteArray) (a1 : ByteArray), a0.size ≤ 140737488351232 → a1.size ≤ 140737488351232 → ∃ k, laws_FnPathInside.f k a0 a1 = some true
theorem laws_FnPathInside.walk (P : laws_FnPathInside.Pure) (a0 : ByteArray) (a1 : ByteArray) (w : World) (w0 : a0.size ≤ 140737488351232) (w1 : a1.size ≤ 140737488351232) :
    Calls Try.prog 3 #[.string a0, .string a1] w fun e w' => e = .returned (.bool true) ∧ Below w.heap.size w w' := by
  obtain ⟨k, h⟩ := P a0 a1 w0 w1
  refine (laws_FnPathInside.calls k a0 a1 true w h).mono ?_
  rintro e w' ⟨rfl, hd⟩
  exact ⟨rfl, hd⟩

end Go.Proofs.Ytnmnokjflkidmaa.PFnPathInside

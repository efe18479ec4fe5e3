-- Written by a program of this session's (over the kit's print), with contracts proved by hand among what it calls.
import Derived.Test.YtlgoghonnnobfaaDoorPFnPathTherex0
namespace Go.Proofs.YtlgoghonnnobfaaDoor.PFnPathThere
open Go.RowKit Go.Proofs.YtlgoghonnnobfaaDoorW.PrintWords Go.Proofs.YtlgoghonnnobfaaDoorW.PrintLast Go.Proofs.YtlgoghonnnobfaaDoorW.PrintMore
attribute [local go_sem] max2_int min2_int max_two min_two max_three min_three max_four min_four   -- for this text's walks alone
set_option linter.unusedVariables false
set_option linter.unusedSimpArgs false

/-! ### laws_encShort: function 12 -/
def laws_encShort.l0 : Nat → Int → List ByteArray → Int → Int → Option (Bool)
  | 0, _, _, _, _ => none
  | k + 1, x3, x6, x7, x8 => if x8 < x7 then (if 0 ≤ x8 then (if x8 < (x6.length : Int) then (laws_encShort.l0 k (wrap64 (x3 + ((rdOf ByteArray.empty x6 x8).size : Int))) x6 x7 (wrap64 (x8 + 1))) else (none)) else (none)) else (some (decide (x3 ≤ 65536)))
def laws_encShort.f (k : Nat) (l0 : List ByteArray) : Option (Bool) := laws_encShort.l0 k 0 l0 (l0.length : Int) 0
theorem laws_encShort.mono_l : ∀ k, (∀ y0 y1 y2 y3, LeO (laws_encShort.l0 k y0 y1 y2 y3) (laws_encShort.l0 (k + 1) y0 y1 y2 y3))
  | 0 => fun _ _ _ _ r h => by simp [laws_encShort.l0] at h
  | k + 1 => by
    have ih0 := laws_encShort.mono_l k
    · intro y0 y1 y2 y3
      unfold laws_encShort.l0
      repeat' first
      | (with_reducible exact ih0 _ _ _ _)
      | (with_reducible exact LeO.refl _)
      | (with_reducible exact LeO.none _)
      | (with_reducible refine LeO.ite ?_ ?_)
      | (with_reducible refine LeO.bind ?_ (fun _ => ?_))
      | exact ih0 _ _ _ _
      | exact LeO.none _
      | refine LeO.ite ?_ ?_
      | refine LeO.bind ?_ (fun _ => ?_)
theorem laws_encShort.mono : ∀ a0 k, LeO (laws_encShort.f k a0) (laws_encShort.f (k + 1) a0) := by
  intro a0 k
  have ih0 := laws_encShort.mono_l k
  unfold laws_encShort.f
  repeat' first
      | (with_reducible exact ih0 _ _ _ _)
      | (with_reducible exact LeO.refl _)
      | (with_reducible exact LeO.none _)
      | (with_reducible refine LeO.ite ?_ ?_)
      | (with_reducible refine LeO.bind ?_ (fun _ => ?_))
      | exact ih0 _ _ _ _
      | exact LeO.none _
      | refine LeO.ite ?_ ?_
      | refine LeO.bind ?_ (fun _ => ?_)
set_option maxHeartbeats 8000000 in
set_option maxRecDepth 100000 in
theorem laws_encShort.calls (k : Nat) (A0 : Option Addr) (c0 : Nat) (l0 : List ByteArray) (r : Bool) (w : World) (hr0 : Kd.C Kd.string w A0 l0.length l0) (hc0 : l0.length ≤ c0) (h : laws_encShort.f k l0 = some r) :
    Calls Tryd.prog 12 #[.slice A0 l0.length c0] w fun e w' => e = .returned (.bool r) ∧ Drawn0 w w' := by
  have HR0 := Aside0.mk hr0
  have HC0 := Aside0.mk hc0
  clear hr0 hc0
  have H : (laws_encShort.l0 k 0 l0 (l0.length : Int) 0) = some r := h
  clear h
  have H' := Aside0.mk H
  clear H
  go_enter Tryd.func12, Tryd.ntmps12
  go_wp2
  go_loopg [3, 8] k (fun kq v3 v8 w' => ∃ (x3_1 : Int) (x8_1 : Int), v3 = .int .i64 x3_1 ∧ v8 = .int .i64 x8_1 ∧ Aside0 (laws_encShort.l0 kq x3_1 l0 (l0.length : Int) x8_1 = some r) ∧ Aside0 (kq ≤ k) ∧ Drawn0 w w')
  case atStart => exact ⟨(0), (0), (by first | rfl | (simp; done) | (simp [*]; done) | (simp [xt_ne_nil]; done)), (by first | rfl | (simp; done) | (simp [*]; done) | (simp [xt_ne_nil]; done)), H', ⟨Nat.le_refl _⟩, by repeat (first | exact Drawn0.refl _ | apply Drawn0.step)⟩
  case round =>
    clear H'
    try clear c1
    obtain ⟨x3_1, x8_1, rfl, rfl, HA, HK1, ⟨m1, rfl⟩⟩ := hrel
    cases gk with
    | zero => exact absurd HA.out (by simp [laws_encShort.l0])
    | succ k1 =>
      have H := HA.out
      clear HA
      simp only [laws_encShort.l0] at H
      by_cases c2 : x8_1 < (l0.length : Int)
      · rw [if_pos c2] at H
        have c2b0 : decide (x8_1 < (l0.length : Int)) = true := decide_eq_true c2
        clear c2
        by_cases c3 : 0 ≤ x8_1
        · rw [if_pos c3] at H
          have c3b0 : decide (0 ≤ x8_1) = true := decide_eq_true c3
          clear c3
          by_cases c4 : x8_1 < (l0.length : Int)
          · rw [if_pos c4] at H
            have c4b0 : decide (x8_1 < (l0.length : Int)) = true := decide_eq_true c4
            clear c4
            have H' := Aside0.mk H
            clear H
            have p101 : 0 ≤ (x8_1 : Int) := of_decide_eq_true (by first | (with_reducible assumption) | assumption)
            have q101 : x8_1 < (l0.length : Int) := of_decide_eq_true (by first | (with_reducible assumption) | assumption)
            obtain ⟨ad101, e101, hx101_0⟩ := Kd.at_string HR0.out x8_1 p101 q101
            cases e101
            replace p101 := eq_true p101
            replace q101 := eq_true q101
            go_wp2
            go_roundg k1
            case measure => have := HK1.out; omega
            case rel => exact ⟨(wrap64 (x3_1 + ((rdOf ByteArray.empty l0 x8_1).size : Int))), (wrap64 (x8_1 + 1)), (by first | rfl | (simp; done) | (simp [*]; done) | (simp [xt_ne_nil]; done)), (by first | rfl | (simp; done) | (simp [*]; done) | (simp [xt_ne_nil]; done)), H', ⟨by have := HK1.out; omega⟩, by repeat (first | exact Drawn0.refl _ | apply Drawn0.step)⟩
          · rw [if_neg c4] at H
            exact absurd H (by simp)
        · rw [if_neg c3] at H
          exact absurd H (by simp)
      · rw [if_neg c2] at H
        have c2b0 : decide (x8_1 < (l0.length : Int)) = false := decide_eq_false c2
        clear c2
        obtain rfl := Option.some.inj H
        go_wp2
        go_ret
        exact ⟨by first | rfl | (simp; done) | (simp [*]; done) | (simp [xt_ne_nil]; done), by repeat (first | exact Drawn0.refl _ | apply Drawn0.step)⟩

/-! ### impl_NameEncode: function 14 -/
/-- What a mask writes of a name. -/
def impl_NameEncode.f (a0 : Int) (a1 : ByteArray) : Option ByteArray := if a1.size ≤ 400000 then some (Enc.encode a0 a1) else none
set_option maxHeartbeats 400000 in
theorem impl_NameEncode.calls (a0 : Int) (a1 : ByteArray) (r : ByteArray) (w : World) (hglob : Glob w) (h : impl_NameEncode.f a0 a1 = some r) :
    Calls Tryd.prog 14 #[.int .u64 a0, .string a1] w fun e w' => e = .returned (.string r) ∧ Below w.heap.size w w' := by
  unfold impl_NameEncode.f at h
  by_cases hc : a1.size ≤ 400000
  · rw [if_pos hc] at h
    obtain rfl := Option.some.inj h
    have HE := Lib.hid (Enc.encode_any a0 a1 w hglob.tabs hc)
    clear h hglob
    go_enter Tryd.func14, Tryd.ntmps14
    go_wp2_with (go_at_call 29; (with_reducible refine HE.out.mono ?_); rintro e w1 ⟨rfl, hb1⟩; have HB := Lib.hid hb1; clear hb1)
    go_ret
    exact ⟨rfl, HB.out⟩
  · rw [if_neg hc] at h; cases h

/-! ### spec_Units: function 25 -/
/-- The characters of a name. -/
def spec_Units.f (a0 : ByteArray) : Option (List S37) := if a0.size ≤ 1000000 then some ((Uts.units a0).map fun x => (⟨x.1, x.2.1, x.2.2⟩ : S37)) else none
theorem spec_Units.calls (a0 : ByteArray) (r : List S37) (w : World) (h : spec_Units.f a0 = some r) :
    Calls Tryd.prog 25 #[.string a0] w fun e w' => ∃ v0_ : Value, e = .returned (v0_) ∧ Kd.R k37 37 w' w.heap.size (fun _ => True) v0_ r ∧ Below w.heap.size w w' := by
  unfold spec_Units.f at h
  by_cases hc : a0.size ≤ 1000000
  · rw [if_pos hc] at h
    obtain rfl := Option.some.inj h
    refine (Uts.units_any a0 hc w).mono ?_
    rintro e w' ⟨v, he, hR, hb⟩
    refine ⟨v, he, ?_, hb⟩
    refine Uts.R_iso (f := fun x : S37 => (x.f0, x.f1, x.f2)) (d := Kd.pair Kd.string (Kd.pair (Kd.int .i32) Kd.bool)) ?_
    rw [List.map_map, show ((fun x : S37 => (x.f0, x.f1, x.f2)) ∘ fun x : ByteArray × Int × Bool => (⟨x.1, x.2.1, x.2.2⟩ : S37)) = id from rfl, List.map_id]
    exact hR
  · rw [if_neg hc] at h; cases h

/-! ### spec_TakesRight: function 28 -/
def spec_TakesRight.f (a0 : Int) (a1 : Int) : Option (Bool) := if a1 = 32 then (some ((Go.bits .and .u64 a0 2097152) != 0)) else (if a1 = 46 then (some ((Go.bits .and .u64 a0 4194304) != 0)) else (if a1 = 13 then (some ((Go.bits .and .u64 a0 8388608) != 0)) else (if a1 = 10 then (some ((Go.bits .and .u64 a0 8388608) != 0)) else (if a1 = 9 then (some ((Go.bits .and .u64 a0 8388608) != 0)) else (if a1 = 11 then (some ((Go.bits .and .u64 a0 8388608) != 0)) else (some false))))))
set_option maxHeartbeats 8000000 in
set_option maxRecDepth 100000 in
theorem spec_TakesRight.calls (a0 : Int) (a1 : Int) (r : Bool) (w : World) (h : spec_TakesRight.f a0 a1 = some r) :
    Calls Tryd.prog 28 #[.int .u64 a0, .int .i32 a1] w fun e w' => e = .returned (.bool r) ∧ Drawn0 w w' := by
  have H : (if a1 = 32 then (some ((Go.bits .and .u64 a0 2097152) != 0)) else (if a1 = 46 then (some ((Go.bits .and .u64 a0 4194304) != 0)) else (if a1 = 13 then (some ((Go.bits .and .u64 a0 8388608) != 0)) else (if a1 = 10 then (some ((Go.bits .and .u64 a0 8388608) != 0)) else (if a1 = 9 then (some ((Go.bits .and .u64 a0 8388608) != 0)) else (if a1 = 11 then (some ((Go.bits .and .u64 a0 8388608) != 0)) else (some false))))))) = some r := h
  clear h
  by_cases c3 : a1 = 32
  · rw [if_pos c3] at H
    have c3b0 : (a1 == 32) = true := beq_iff_eq.mpr c3
    have c3b1 : (a1 != 32) = false := bne_eq_false_iff_eq.mpr c3
    clear c3
    obtain rfl := Option.some.inj H
    go_enter Tryd.func28, Tryd.ntmps28
    go_wp2
    go_ret
    exact ⟨by first | rfl | (simp; done) | (simp [*]; done) | (simp [xt_ne_nil]; done), by repeat (first | exact Drawn0.refl _ | apply Drawn0.step)⟩
  · rw [if_neg c3] at H
    have c3b0 : (a1 == 32) = false := beq_eq_false_iff_ne.mpr c3
    have c3b1 : (a1 != 32) = true := bne_iff_ne.mpr c3
    by_cases c4 : a1 = 46
    · rw [if_pos c4] at H
      have c4b0 : (a1 == 46) = true := beq_iff_eq.mpr c4
      have c4b1 : (a1 != 46) = false := bne_eq_false_iff_eq.mpr c4
      clear c4
      obtain rfl := Option.some.inj H
      go_enter Tryd.func28, Tryd.ntmps28
      go_wp2
      go_ret
      exact ⟨by first | rfl | (simp; done) | (simp [*]; done) | (simp [xt_ne_nil]; done), by repeat (first | exact Drawn0.refl _ | apply Drawn0.step)⟩
    · rw [if_neg c4] at H
      have c4b0 : (a1 == 46) = false := beq_eq_false_iff_ne.mpr c4
      have c4b1 : (a1 != 46) = true := bne_iff_ne.mpr c4
      by_cases c5 : a1 = 13
      · rw [if_pos c5] at H
        have c5b0 : (a1 == 13) = true := beq_iff_eq.mpr c5
        have c5b1 : (a1 != 13) = false := bne_eq_false_iff_eq.mpr c5
        clear c5
        obtain rfl := Option.some.inj H
        go_enter Tryd.func28, Tryd.ntmps28
        go_wp2
        go_ret
        exact ⟨by first | rfl | (simp; done) | (simp [*]; done) | (simp [xt_ne_nil]; done), by repeat (first | exact Drawn0.refl _ | apply Drawn0.step)⟩
      · rw [if_neg c5] at H
        have c5b0 : (a1 == 13) = false := beq_eq_false_iff_ne.mpr c5
        have c5b1 : (a1 != 13) = true := bne_iff_ne.mpr c5
        by_cases c6 : a1 = 10
        · rw [if_pos c6] at H
          have c6b0 : (a1 == 10) = true := beq_iff_eq.mpr c6
          have c6b1 : (a1 != 10) = false := bne_eq_false_iff_eq.mpr c6
          clear c6
          obtain rfl := Option.some.inj H
          go_enter Tryd.func28, Tryd.ntmps28
          go_wp2
          go_ret
          exact ⟨by first | rfl | (simp; done) | (simp [*]; done) | (simp [xt_ne_nil]; done), by repeat (first | exact Drawn0.refl _ | apply Drawn0.step)⟩
        · rw [if_neg c6] at H
          have c6b0 : (a1 == 10) = false := beq_eq_false_iff_ne.mpr c6
          have c6b1 : (a1 != 10) = true := bne_iff_ne.mpr c6
          by_cases c7 : a1 = 9
          · rw [if_pos c7] at H
            have c7b0 : (a1 == 9) = true := beq_iff_eq.mpr c7
            have c7b1 : (a1 != 9) = false := bne_eq_false_iff_eq.mpr c7
            clear c7
            obtain rfl := Option.some.inj H
            go_enter Tryd.func28, Tryd.ntmps28
            go_wp2
            go_ret
            exact ⟨by first | rfl | (simp; done) | (simp [*]; done) | (simp [xt_ne_nil]; done), by repeat (first | exact Drawn0.refl _ | apply Drawn0.step)⟩
          · rw [if_neg c7] at H
            have c7b0 : (a1 == 9) = false := beq_eq_false_iff_ne.mpr c7
            have c7b1 : (a1 != 9) = true := bne_iff_ne.mpr c7
            by_cases c8 : a1 = 11
            · rw [if_pos c8] at H
              have c8b0 : (a1 == 11) = true := beq_iff_eq.mpr c8
              have c8b1 : (a1 != 11) = false := bne_eq_false_iff_eq.mpr c8
              clear c8
              obtain rfl := Option.some.inj H
              go_enter Tryd.func28, Tryd.ntmps28
              go_wp2
              go_ret
              exact ⟨by first | rfl | (simp; done) | (simp [*]; done) | (simp [xt_ne_nil]; done), by repeat (first | exact Drawn0.refl _ | apply Drawn0.step)⟩
            · rw [if_neg c8] at H
              have c8b0 : (a1 == 11) = false := beq_eq_false_iff_ne.mpr c8
              have c8b1 : (a1 != 11) = true := bne_iff_ne.mpr c8
              obtain rfl := Option.some.inj H
              go_enter Tryd.func28, Tryd.ntmps28
              go_wp2
              go_ret
              exact ⟨by first | rfl | (simp; done) | (simp [*]; done) | (simp [xt_ne_nil]; done), by repeat (first | exact Drawn0.refl _ | apply Drawn0.step)⟩

/-! ### spec_NameOpen: function 15 -/
def spec_NameOpen.j0 : Nat → Int → ByteArray → Bool → Option (Bool)
  | 0, _, _, _ => none
  | k + 1, x0, x1, x30 => if x30 = true then (some true) else ((spec_Units.f x1).bind fun t102 => (if (t102.length : Int) > 1 then (if 0 ≤ (wrap64 ((t102.length : Int) - 2)) then (if (wrap64 ((t102.length : Int) - 2)) < (t102.length : Int) then (if ((rd_T37 t102 (wrap64 ((t102.length : Int) - 2))).f1) = 8219 then (if 0 ≤ (wrap64 ((t102.length : Int) - 1)) then (if (wrap64 ((t102.length : Int) - 1)) < (t102.length : Int) then ((spec_TakesRight.f x0 ((rd_T37 t102 (wrap64 ((t102.length : Int) - 1))).f1)).bind fun t107 => (some t107)) else (none)) else (none)) else (some false)) else (none)) else (none)) else (some false)))
def spec_NameOpen.f (k : Nat) (a0 : Int) (a1 : ByteArray) : Option (Bool) := if (Go.bits .and .u64 a0 33554432) = 0 then (spec_NameOpen.j0 k a0 a1 false) else (if (((Go.bits .and .u64 a0 262144) != 0) != ((Go.bits .and .u64 a0 4194304) != 0)) = true then (if a1.toList = ([46, 239, 188, 142] : List UInt8) then (spec_NameOpen.j0 k a0 a1 true) else (spec_NameOpen.j0 k a0 a1 (a1.toList == ([239, 188, 142, 46] : List UInt8)))) else (spec_NameOpen.j0 k a0 a1 false))
theorem spec_NameOpen.mono_l : ∀ k, (∀ y0 y1 y2, LeO (spec_NameOpen.j0 k y0 y1 y2) (spec_NameOpen.j0 (k + 1) y0 y1 y2))
  | 0 => fun _ _ _ r h => by simp [spec_NameOpen.j0] at h
  | k + 1 => by
    have ih0 := spec_NameOpen.mono_l k
    · intro y0 y1 y2
      unfold spec_NameOpen.j0
      repeat' first
      | (with_reducible exact ih0 _ _ _)
      | (with_reducible exact LeO.refl _)
      | (with_reducible exact LeO.none _)
      | (with_reducible refine LeO.ite ?_ ?_)
      | (with_reducible refine LeO.bind ?_ (fun _ => ?_))
      | exact ih0 _ _ _
      | exact LeO.none _
      | refine LeO.ite ?_ ?_
      | refine LeO.bind ?_ (fun _ => ?_)
theorem spec_NameOpen.mono : ∀ a0 a1 k, LeO (spec_NameOpen.f k a0 a1) (spec_NameOpen.f (k + 1) a0 a1) := by
  intro a0 a1 k
  have ih0 := spec_NameOpen.mono_l k
  unfold spec_NameOpen.f
  repeat' first
      | (with_reducible exact ih0 _ _ _)
      | (with_reducible exact LeO.refl _)
      | (with_reducible exact LeO.none _)
      | (with_reducible refine LeO.ite ?_ ?_)
      | (with_reducible refine LeO.bind ?_ (fun _ => ?_))
      | exact ih0 _ _ _
      | exact LeO.none _
      | refine LeO.ite ?_ ?_
      | refine LeO.bind ?_ (fun _ => ?_)
set_option maxHeartbeats 8000000 in
set_option maxRecDepth 100000 in
theorem spec_NameOpen.calls (k : Nat) (a0 : Int) (a1 : ByteArray) (r : Bool) (w : World) (h : spec_NameOpen.f k a0 a1 = some r) :
    Calls Tryd.prog 15 #[.int .u64 a0, .string a1] w fun e w' => e = .returned (.bool r) ∧ Below w.heap.size w w' := by
  have HB := Aside0.mk (Below.refl w.heap.size w)
  have H : (if (Go.bits .and .u64 a0 33554432) = 0 then (spec_NameOpen.j0 k a0 a1 false) else (if (((Go.bits .and .u64 a0 262144) != 0) != ((Go.bits .and .u64 a0 4194304) != 0)) = true then (if a1.toList = ([46, 239, 188, 142] : List UInt8) then (spec_NameOpen.j0 k a0 a1 true) else (spec_NameOpen.j0 k a0 a1 (a1.toList == ([239, 188, 142, 46] : List UInt8)))) else (spec_NameOpen.j0 k a0 a1 false))) = some r := h
  clear h
  have HC3 := Aside0.mk H
  clear H
  go_enter Tryd.func15, Tryd.ntmps15
  go_upto_region 2 with (fail)
  go_cut [30] (fun v30 wc => ∃ (kq : Nat) (x30_2 : Bool), v30 = .bool x30_2 ∧ Aside0 (spec_NameOpen.j0 kq a0 a1 x30_2 = some r) ∧ Aside0 (kq ≤ k) ∧ Aside0 (Below w.heap.size w wc))
  case first =>
    have H := HC3.out
    clear HC3
    by_cases c4 : (Go.bits .and .u64 a0 33554432) = 0
    · rw [if_pos c4] at H
      have c4b0 : ((Go.bits .and .u64 a0 33554432) == 0) = true := beq_iff_eq.mpr c4
      have c4b1 : ((Go.bits .and .u64 a0 33554432) != 0) = false := bne_eq_false_iff_eq.mpr c4
      clear c4
      (first | rw [c4b0] | (simp only [i64_w, i32_w]; rw [c4b0]) | skip)
      have H' := Aside0.mk H
      clear H
      go_wp2
      go_meet
      case rel => exact ⟨_, (false), (by first | rfl | (simp; done) | (simp [*]; done) | (simp [xt_ne_nil]; done)), H', ⟨by first | omega | exact Nat.le_refl _⟩, ⟨by repeat (first | (with_reducible first | exact HB.out | apply below_alloc | apply pw_below_drewN | apply below_drew1) | exact HB.out)⟩⟩
    · rw [if_neg c4] at H
      have c4b0 : ((Go.bits .and .u64 a0 33554432) == 0) = false := beq_eq_false_iff_ne.mpr c4
      have c4b1 : ((Go.bits .and .u64 a0 33554432) != 0) = true := bne_iff_ne.mpr c4
      (first | rw [c4b0] | (simp only [i64_w, i32_w]; rw [c4b0]) | skip)
      by_cases c5 : (((Go.bits .and .u64 a0 262144) != 0) != ((Go.bits .and .u64 a0 4194304) != 0)) = true
      · rw [if_pos c5] at H
        have c5b0 : (((Go.bits .and .u64 a0 262144) != 0) != ((Go.bits .and .u64 a0 4194304) != 0)) = true := c5
        (try (have c5b1 : decide (((Go.bits .and .u64 a0 262144) != 0) = ((Go.bits .and .u64 a0 4194304) != 0)) = false := by simpa using c5))
        (try (have c5b2 : (((Go.bits .and .u64 a0 262144) != 0) == ((Go.bits .and .u64 a0 4194304) != 0)) = false := by simpa using c5))
        (try (have c5b3 : ¬ (((Go.bits .and .u64 a0 262144) != 0) = ((Go.bits .and .u64 a0 4194304) != 0)) := by simpa using c5))
        clear c5
        by_cases c6 : a1.toList = ([46, 239, 188, 142] : List UInt8)
        · rw [if_pos c6] at H
          have c6b0 : (a1.toList == ([46, 239, 188, 142] : List UInt8)) = true := beq_iff_eq.mpr c6
          have c6b1 : (a1.toList != ([46, 239, 188, 142] : List UInt8)) = false := bne_eq_false_iff_eq.mpr c6
          clear c6
          have H' := Aside0.mk H
          clear H
          go_wp2
          go_meet
          case rel => exact ⟨_, (true), (by first | rfl | (simp; done) | (simp [*]; done) | (simp [xt_ne_nil]; done)), H', ⟨by first | omega | exact Nat.le_refl _⟩, ⟨by repeat (first | (with_reducible first | exact HB.out | apply below_alloc | apply pw_below_drewN | apply below_drew1) | exact HB.out)⟩⟩
        · rw [if_neg c6] at H
          have c6b0 : (a1.toList == ([46, 239, 188, 142] : List UInt8)) = false := beq_eq_false_iff_ne.mpr c6
          have c6b1 : (a1.toList != ([46, 239, 188, 142] : List UInt8)) = true := bne_iff_ne.mpr c6
          have H' := Aside0.mk H
          clear H
          go_wp2
          go_meet
          case rel => exact ⟨_, ((a1.toList == ([239, 188, 142, 46] : List UInt8))), (by first | rfl | (simp; done) | (simp [*]; done) | (simp [xt_ne_nil]; done)), H', ⟨by first | omega | exact Nat.le_refl _⟩, ⟨by repeat (first | (with_reducible first | exact HB.out | apply below_alloc | apply pw_below_drewN | apply below_drew1) | exact HB.out)⟩⟩
      · rw [if_neg c5] at H
        have c5b0 : (((Go.bits .and .u64 a0 262144) != 0) != ((Go.bits .and .u64 a0 4194304) != 0)) = false := by simpa using c5
        (try (have c5b1 : decide (((Go.bits .and .u64 a0 262144) != 0) = ((Go.bits .and .u64 a0 4194304) != 0)) = true := by simpa using c5))
        (try (have c5b2 : (((Go.bits .and .u64 a0 262144) != 0) == ((Go.bits .and .u64 a0 4194304) != 0)) = true := by simpa using c5))
        clear c5
        have H' := Aside0.mk H
        clear H
        go_wp2
        go_meet
        case rel => exact ⟨_, (false), (by first | rfl | (simp; done) | (simp [*]; done) | (simp [xt_ne_nil]; done)), H', ⟨by first | omega | exact Nat.le_refl _⟩, ⟨by repeat (first | (with_reducible first | exact HB.out | apply below_alloc | apply pw_below_drewN | apply below_drew1) | exact HB.out)⟩⟩
  case rest =>
    clear HC3
    try clear c1
    try clear p2
    try clear c4
    try clear c4b0
    try clear c4b1
    try clear c5
    try clear c5b0
    try clear c5b1
    try clear c5b2
    try clear c6
    try clear c6b0
    try clear c6b1
    obtain ⟨kq, x30_2, rfl, HA, HJ2, HB⟩ := hcut
    cases kq with
    | zero => exact absurd HA.out (by simp [spec_NameOpen.j0])
    | succ kj2 =>
      have H := HA.out
      clear HA
      simp only [spec_NameOpen.j0] at H
      by_cases c7 : x30_2 = true
      · subst c7
        have H1 : (some true) = some r := by rw [if_pos rfl] at H; exact H
        clear H
        have H := H1
        clear H1
        obtain rfl := Option.some.inj H
        go_wp2
        go_ret
        exact ⟨by first | rfl | (simp [errW_none, errW_some] <;> rfl) | (simp [*, errW_none, errW_some] <;> rfl), by repeat (first | (with_reducible first | exact HB.out | apply below_alloc | apply pw_below_drewN | apply below_drew1) | exact HB.out)⟩
      · replace c7 := Bool.eq_false_iff.mpr c7
        subst c7
        have H1 : ((spec_Units.f a1).bind fun t102 => (if (t102.length : Int) > 1 then (if 0 ≤ (wrap64 ((t102.length : Int) - 2)) then (if (wrap64 ((t102.length : Int) - 2)) < (t102.length : Int) then (if ((rd_T37 t102 (wrap64 ((t102.length : Int) - 2))).f1) = 8219 then (if 0 ≤ (wrap64 ((t102.length : Int) - 1)) then (if (wrap64 ((t102.length : Int) - 1)) < (t102.length : Int) then ((spec_TakesRight.f a0 ((rd_T37 t102 (wrap64 ((t102.length : Int) - 1))).f1)).bind fun t107 => (some t107)) else (none)) else (none)) else (some false)) else (none)) else (none)) else (some false))) = some r := by rw [if_neg (show ¬ (false = true) by decide)] at H; exact H
        clear H
        have H := H1
        clear H1
        replace H := Option.bind_eq_some_iff.mp H
        obtain ⟨t102, A80, H⟩ := H
        replace H : (if (t102.length : Int) > 1 then (if 0 ≤ (wrap64 ((t102.length : Int) - 2)) then (if (wrap64 ((t102.length : Int) - 2)) < (t102.length : Int) then (if ((rd_T37 t102 (wrap64 ((t102.length : Int) - 2))).f1) = 8219 then (if 0 ≤ (wrap64 ((t102.length : Int) - 1)) then (if (wrap64 ((t102.length : Int) - 1)) < (t102.length : Int) then ((spec_TakesRight.f a0 ((rd_T37 t102 (wrap64 ((t102.length : Int) - 1))).f1)).bind fun t107 => (some t107)) else (none)) else (none)) else (some false)) else (none)) else (none)) else (some false)) = some r := H
        have A8 := Aside0.mk A80
        clear A80
        by_cases c9 : (t102.length : Int) > 1
        · rw [if_pos c9] at H
          have c9b0 : decide (1 < (t102.length : Int)) = true := decide_eq_true c9
          have c9b1 : decide (1 < t102.length) = true := decide_eq_true (by omega)
          clear c9
          obtain ⟨ji10, hji10⟩ : ∃ j_ : Int, (wrap64 ((t102.length : Int) - 2)) = j_ := ⟨_, rfl⟩
          replace H : (if 0 ≤ (ji10) then (if (ji10) < (t102.length : Int) then (if ((rd_T37 t102 (ji10)).f1) = 8219 then (if 0 ≤ (wrap64 ((t102.length : Int) - 1)) then (if (wrap64 ((t102.length : Int) - 1)) < (t102.length : Int) then ((spec_TakesRight.f a0 ((rd_T37 t102 (wrap64 ((t102.length : Int) - 1))).f1)).bind fun t107 => (some t107)) else (none)) else (none)) else (some false)) else (none)) else (none)) = some r := by first | (rw [hji10] at H; exact H) | (simp only [hji10] at H ⊢; exact H)
          (try rw [hji10] at A8)
          have hji10w : (IntKind.i64.wrap ((t102.length : Int) - 2)) = ji10 := (i64_w _).trans hji10
          by_cases c11 : 0 ≤ (ji10)
          · rw [if_pos c11] at H
            have c11b0 : decide (0 ≤ (ji10)) = true := decide_eq_true c11
            clear c11
            by_cases c12 : (ji10) < (t102.length : Int)
            · rw [if_pos c12] at H
              have c12b0 : decide ((ji10) < (t102.length : Int)) = true := decide_eq_true c12
              clear c12
              by_cases c13 : ((rd_T37 t102 (ji10)).f1) = 8219
              · rw [if_pos c13] at H
                have c13b0 : (((rd_T37 t102 (ji10)).f1) == 8219) = true := beq_iff_eq.mpr c13
                have c13b1 : (((rd_T37 t102 (ji10)).f1) != 8219) = false := bne_eq_false_iff_eq.mpr c13
                clear c13
                obtain ⟨ji14, hji14⟩ : ∃ j_ : Int, (wrap64 ((t102.length : Int) - 1)) = j_ := ⟨_, rfl⟩
                replace H : (if 0 ≤ (ji14) then (if (ji14) < (t102.length : Int) then ((spec_TakesRight.f a0 ((rd_T37 t102 (ji14)).f1)).bind fun t107 => (some t107)) else (none)) else (none)) = some r := by first | (rw [hji14] at H; exact H) | (simp only [hji14] at H ⊢; exact H)
                (try rw [hji14] at A8)
                have hji14w : (IntKind.i64.wrap ((t102.length : Int) - 1)) = ji14 := (i64_w _).trans hji14
                by_cases c15 : 0 ≤ (ji14)
                · rw [if_pos c15] at H
                  have c15b0 : decide (0 ≤ (ji14)) = true := decide_eq_true c15
                  clear c15
                  by_cases c16 : (ji14) < (t102.length : Int)
                  · rw [if_pos c16] at H
                    have c16b0 : decide ((ji14) < (t102.length : Int)) = true := decide_eq_true c16
                    clear c16
                    replace H := Option.bind_eq_some_iff.mp H
                    obtain ⟨t107, A170, H⟩ := H
                    replace H : (some t107) = some r := H
                    have A17 := Aside0.mk A170
                    clear A170
                    obtain rfl := Option.some.inj H
                    go_wp2_with (first | ((with_reducible refine gate_callee (f := 25) rfl ?_); refine goesL_ (some 32) rfl rfl Tryd.func25 (by kernel_rfl) rfl #[.string a1] rfl (by (try simp only [List.map_toArray, List.map_cons, List.map_nil]); first | done | rfl | (simp only [List.length_drop, List.length_take]; rfl)) ?_; (with_reducible refine (spec_Units.calls a1 t102 _ A8.out).mono ?_); rintro e w18 ⟨v103, rfl, ho0, hb⟩; refine ⟨_, rfl, ?_⟩; have n0_ := Aside0.mk (Kd.R_lower ho0 (below_size (by repeat (first | (with_reducible first | exact HB.out | apply below_alloc | apply pw_below_drewN | apply below_drew1) | exact HB.out)))); have n1_ := Aside0.mk (below_step (by repeat (first | (with_reducible first | exact HB.out | apply below_alloc | apply pw_below_drewN | apply below_drew1) | exact HB.out)) hb); clear HB; have HO104 := n0_; have HB := n1_; clear n0_ n1_; (try clear hb); (try clear hb2); (try clear hk); (try clear hi); (try clear ho0); obtain ⟨Ao19, co19, eo19⟩ := Kd.R_slice HO104.out; subst eo19; have p105 : 0 ≤ ((ji10) : Int) := of_decide_eq_true (by first | (with_reducible assumption) | assumption); have q105 : (ji10) < (t102.length : Int) := of_decide_eq_true (by first | (with_reducible assumption) | assumption); obtain ⟨ad105, e105, hx105_0, hx105_1, hx105_2⟩ := at_T37 (Kd.R_reads' HO104.out).2.2 (ji10) p105 q105; cases e105; replace p105 := eq_true p105; replace q105 := eq_true q105; have p106 : 0 ≤ ((ji14) : Int) := of_decide_eq_true (by first | (with_reducible assumption) | assumption); have q106 : (ji14) < (t102.length : Int) := of_decide_eq_true (by first | (with_reducible assumption) | assumption); obtain ⟨ad106, e106, hx106_0, hx106_1, hx106_2⟩ := at_T37 (Kd.R_reads' HO104.out).2.2 (ji14) p106 q106; obtain rfl : ad105 = ad106 := (by injection e106); replace p106 := eq_true p106; replace q106 := eq_true q106) | (go_at_call 28; (with_reducible refine (spec_TakesRight.calls a0 ((rd_T37 t102 (ji14)).f1) t107 _ A17.out).mono ?_); rintro e w' ⟨rfl, ⟨nd, rfl⟩⟩))
                    go_ret
                    exact ⟨by first | rfl | (simp [errW_none, errW_some] <;> rfl) | (simp only [← hji10, ← hji14]; first | rfl | (simp [errW_none, errW_some] <;> rfl)) | (simp [*, errW_none, errW_some] <;> rfl), by repeat (first | (with_reducible first | exact HB.out | apply below_alloc | apply pw_below_drewN | apply below_drew1) | exact HB.out)⟩
                  · rw [if_neg c16] at H
                    exact absurd H (by simp)
                · rw [if_neg c15] at H
                  exact absurd H (by simp)
              · rw [if_neg c13] at H
                have c13b0 : (((rd_T37 t102 (ji10)).f1) == 8219) = false := beq_eq_false_iff_ne.mpr c13
                have c13b1 : (((rd_T37 t102 (ji10)).f1) != 8219) = true := bne_iff_ne.mpr c13
                obtain rfl := Option.some.inj H
                go_wp2_with (first | ((with_reducible refine gate_callee (f := 25) rfl ?_); refine goesL_ (some 32) rfl rfl Tryd.func25 (by kernel_rfl) rfl #[.string a1] rfl (by (try simp only [List.map_toArray, List.map_cons, List.map_nil]); first | done | rfl | (simp only [List.length_drop, List.length_take]; rfl)) ?_; (with_reducible refine (spec_Units.calls a1 t102 _ A8.out).mono ?_); rintro e w20 ⟨v103, rfl, ho0, hb⟩; refine ⟨_, rfl, ?_⟩; have n0_ := Aside0.mk (Kd.R_lower ho0 (below_size (by repeat (first | (with_reducible first | exact HB.out | apply below_alloc | apply pw_below_drewN | apply below_drew1) | exact HB.out)))); have n1_ := Aside0.mk (below_step (by repeat (first | (with_reducible first | exact HB.out | apply below_alloc | apply pw_below_drewN | apply below_drew1) | exact HB.out)) hb); clear HB; have HO104 := n0_; have HB := n1_; clear n0_ n1_; (try clear hb); (try clear hb2); (try clear hk); (try clear hi); (try clear ho0); obtain ⟨Ao21, co21, eo21⟩ := Kd.R_slice HO104.out; subst eo21; have p105 : 0 ≤ ((ji10) : Int) := of_decide_eq_true (by first | (with_reducible assumption) | assumption); have q105 : (ji10) < (t102.length : Int) := of_decide_eq_true (by first | (with_reducible assumption) | assumption); obtain ⟨ad105, e105, hx105_0, hx105_1, hx105_2⟩ := at_T37 (Kd.R_reads' HO104.out).2.2 (ji10) p105 q105; cases e105; replace p105 := eq_true p105; replace q105 := eq_true q105))
                go_ret
                exact ⟨by first | rfl | (simp [errW_none, errW_some] <;> rfl) | (simp only [← hji10]; first | rfl | (simp [errW_none, errW_some] <;> rfl)) | (simp [*, errW_none, errW_some] <;> rfl), by repeat (first | (with_reducible first | exact HB.out | apply below_alloc | apply pw_below_drewN | apply below_drew1) | exact HB.out)⟩
            · rw [if_neg c12] at H
              exact absurd H (by simp)
          · rw [if_neg c11] at H
            exact absurd H (by simp)
        · rw [if_neg c9] at H
          have c9b0 : decide (1 < (t102.length : Int)) = false := decide_eq_false c9
          have c9b1 : decide (1 < t102.length) = false := decide_eq_false (by omega)
          clear c9
          obtain rfl := Option.some.inj H
          go_wp2_with (first | ((with_reducible refine gate_callee (f := 25) rfl ?_); refine goesL_ (some 32) rfl rfl Tryd.func25 (by kernel_rfl) rfl #[.string a1] rfl (by (try simp only [List.map_toArray, List.map_cons, List.map_nil]); first | done | rfl | (simp only [List.length_drop, List.length_take]; rfl)) ?_; (with_reducible refine (spec_Units.calls a1 t102 _ A8.out).mono ?_); rintro e w22 ⟨v103, rfl, ho0, hb⟩; refine ⟨_, rfl, ?_⟩; have n0_ := Aside0.mk (Kd.R_lower ho0 (below_size (by repeat (first | (with_reducible first | exact HB.out | apply below_alloc | apply pw_below_drewN | apply below_drew1) | exact HB.out)))); have n1_ := Aside0.mk (below_step (by repeat (first | (with_reducible first | exact HB.out | apply below_alloc | apply pw_below_drewN | apply below_drew1) | exact HB.out)) hb); clear HB; have HO104 := n0_; have HB := n1_; clear n0_ n1_; (try clear hb); (try clear hb2); (try clear hk); (try clear hi); (try clear ho0); obtain ⟨Ao23, co23, eo23⟩ := Kd.R_slice HO104.out; subst eo23))
          go_ret
          exact ⟨by first | rfl | (simp [errW_none, errW_some] <;> rfl) | (simp [*, errW_none, errW_some] <;> rfl), by repeat (first | (with_reducible first | exact HB.out | apply below_alloc | apply pw_below_drewN | apply below_drew1) | exact HB.out)⟩

/-! ### laws_zzFits3: function 18 -/
def laws_zzFits3.l0 : Nat → List ByteArray → Int → Int → Option (Bool)
  | 0, _, _, _ => none
  | k + 1, x8, x9, x10 => if x10 < x9 then (if 0 ≤ x10 then (if x10 < (x8.length : Int) then (if ((rdOf ByteArray.empty x8 x10).size : Int) > 2147483647 then (some false) else (laws_zzFits3.l0 k x8 x9 (wrap64 (x10 + 1)))) else (none)) else (none)) else (some true)
def laws_zzFits3.f (k : Nat) (l0 : List ByteArray) : Option (Bool) := if (l0.length : Int) > 2147483647 then (some false) else (laws_zzFits3.l0 k l0 (l0.length : Int) 0)
theorem laws_zzFits3.mono_l : ∀ k, (∀ y0 y1 y2, LeO (laws_zzFits3.l0 k y0 y1 y2) (laws_zzFits3.l0 (k + 1) y0 y1 y2))
  | 0 => fun _ _ _ r h => by simp [laws_zzFits3.l0] at h
  | k + 1 => by
    have ih0 := laws_zzFits3.mono_l k
    · intro y0 y1 y2
      unfold laws_zzFits3.l0
      repeat' first
      | (with_reducible exact ih0 _ _ _)
      | (with_reducible exact LeO.refl _)
      | (with_reducible exact LeO.none _)
      | (with_reducible refine LeO.ite ?_ ?_)
      | (with_reducible refine LeO.bind ?_ (fun _ => ?_))
      | exact ih0 _ _ _
      | exact LeO.none _
      | refine LeO.ite ?_ ?_
      | refine LeO.bind ?_ (fun _ => ?_)
theorem laws_zzFits3.mono : ∀ a0 k, LeO (laws_zzFits3.f k a0) (laws_zzFits3.f (k + 1) a0) := by
  intro a0 k
  have ih0 := laws_zzFits3.mono_l k
  unfold laws_zzFits3.f
  repeat' first
      | (with_reducible exact ih0 _ _ _)
      | (with_reducible exact LeO.refl _)
      | (with_reducible exact LeO.none _)
      | (with_reducible refine LeO.ite ?_ ?_)
      | (with_reducible refine LeO.bind ?_ (fun _ => ?_))
      | exact ih0 _ _ _
      | exact LeO.none _
      | refine LeO.ite ?_ ?_
      | refine LeO.bind ?_ (fun _ => ?_)
set_option maxHeartbeats 8000000 in
set_option maxRecDepth 100000 in
theorem laws_zzFits3.calls (k : Nat) (A0 : Option Addr) (c0 : Nat) (l0 : List ByteArray) (r : Bool) (w : World) (hr0 : Kd.C Kd.string w A0 l0.length l0) (hc0 : l0.length ≤ c0) (h : laws_zzFits3.f k l0 = some r) :
    Calls Tryd.prog 18 #[.slice A0 l0.length c0] w fun e w' => e = .returned (.bool r) ∧ Drawn0 w w' := by
  have HR0 := Aside0.mk hr0
  have HC0 := Aside0.mk hc0
  clear hr0 hc0
  have H : (if (l0.length : Int) > 2147483647 then (some false) else (laws_zzFits3.l0 k l0 (l0.length : Int) 0)) = some r := h
  clear h
  by_cases c2 : (l0.length : Int) > 2147483647
  · rw [if_pos c2] at H
    have c2b0 : decide (2147483647 < (l0.length : Int)) = true := decide_eq_true c2
    have c2b1 : decide (2147483647 < l0.length) = true := decide_eq_true (by omega)
    clear c2
    obtain rfl := Option.some.inj H
    go_enter Tryd.func18, Tryd.ntmps18
    go_wp2
    go_ret
    exact ⟨by first | rfl | (simp; done) | (simp [*]; done) | (simp [xt_ne_nil]; done), by repeat (first | exact Drawn0.refl _ | apply Drawn0.step)⟩
  · rw [if_neg c2] at H
    have c2b0 : decide (2147483647 < (l0.length : Int)) = false := decide_eq_false c2
    have c2b1 : decide (2147483647 < l0.length) = false := decide_eq_false (by omega)
    clear c2
    have H' := Aside0.mk H
    clear H
    go_enter Tryd.func18, Tryd.ntmps18
    go_wp2
    go_loopg [10] k (fun kq v10 w' => ∃ (x10_1 : Int), v10 = .int .i64 x10_1 ∧ Aside0 (laws_zzFits3.l0 kq l0 (l0.length : Int) x10_1 = some r) ∧ Aside0 (kq ≤ k) ∧ Drawn0 w w')
    case atStart => exact ⟨(0), (by first | rfl | (simp; done) | (simp [*]; done) | (simp [xt_ne_nil]; done)), H', ⟨Nat.le_refl _⟩, by repeat (first | exact Drawn0.refl _ | apply Drawn0.step)⟩
    case round =>
      clear H'
      try clear c1
      try clear c2
      try clear c2b0
      try clear c2b1
      try clear p2
      obtain ⟨x10_1, rfl, HA, HK1, ⟨m1, rfl⟩⟩ := hrel
      cases gk with
      | zero => exact absurd HA.out (by simp [laws_zzFits3.l0])
      | succ k1 =>
        have H := HA.out
        clear HA
        simp only [laws_zzFits3.l0] at H
        by_cases c3 : x10_1 < (l0.length : Int)
        · rw [if_pos c3] at H
          have c3b0 : decide (x10_1 < (l0.length : Int)) = true := decide_eq_true c3
          clear c3
          by_cases c4 : 0 ≤ x10_1
          · rw [if_pos c4] at H
            have c4b0 : decide (0 ≤ x10_1) = true := decide_eq_true c4
            clear c4
            by_cases c5 : x10_1 < (l0.length : Int)
            · rw [if_pos c5] at H
              have c5b0 : decide (x10_1 < (l0.length : Int)) = true := decide_eq_true c5
              clear c5
              by_cases c6 : ((rdOf ByteArray.empty l0 x10_1).size : Int) > 2147483647
              · rw [if_pos c6] at H
                have c6b0 : decide (2147483647 < ((rdOf ByteArray.empty l0 x10_1).size : Int)) = true := decide_eq_true c6
                have c6b1 : decide (2147483647 < (rdOf ByteArray.empty l0 x10_1).size) = true := decide_eq_true (by omega)
                clear c6
                obtain rfl := Option.some.inj H
                have p108 : 0 ≤ (x10_1 : Int) := of_decide_eq_true (by first | (with_reducible assumption) | assumption)
                have q108 : x10_1 < (l0.length : Int) := of_decide_eq_true (by first | (with_reducible assumption) | assumption)
                obtain ⟨ad108, e108, hx108_0⟩ := Kd.at_string HR0.out x10_1 p108 q108
                cases e108
                replace p108 := eq_true p108
                replace q108 := eq_true q108
                go_wp2
                go_ret
                exact ⟨by first | rfl | (simp; done) | (simp [*]; done) | (simp [xt_ne_nil]; done), by repeat (first | exact Drawn0.refl _ | apply Drawn0.step)⟩
              · rw [if_neg c6] at H
                have c6b0 : decide (2147483647 < ((rdOf ByteArray.empty l0 x10_1).size : Int)) = false := decide_eq_false c6
                have c6b1 : decide (2147483647 < (rdOf ByteArray.empty l0 x10_1).size) = false := decide_eq_false (by omega)
                clear c6
                have H' := Aside0.mk H
                clear H
                have p108 : 0 ≤ (x10_1 : Int) := of_decide_eq_true (by first | (with_reducible assumption) | assumption)
                have q108 : x10_1 < (l0.length : Int) := of_decide_eq_true (by first | (with_reducible assumption) | assumption)
                obtain ⟨ad108, e108, hx108_0⟩ := Kd.at_string HR0.out x10_1 p108 q108
                cases e108
                replace p108 := eq_true p108
                replace q108 := eq_true q108
                go_wp2
                go_roundg k1
                case measure => have := HK1.out; omega
                case rel => exact ⟨(wrap64 (x10_1 + 1)), (by first | rfl | (simp; done) | (simp [*]; done) | (simp [xt_ne_nil]; done)), H', ⟨by have := HK1.out; omega⟩, by repeat (first | exact Drawn0.refl _ | apply Drawn0.step)⟩
            · rw [if_neg c5] at H
              exact absurd H (by simp)
          · rw [if_neg c4] at H
            exact absurd H (by simp)
        · rw [if_neg c3] at H
          have c3b0 : decide (x10_1 < (l0.length : Int)) = false := decide_eq_false c3
          clear c3
          obtain rfl := Option.some.inj H
          go_wp2
          go_ret
          exact ⟨by first | rfl | (simp; done) | (simp [*]; done) | (simp [xt_ne_nil]; done), by repeat (first | exact Drawn0.refl _ | apply Drawn0.step)⟩

/-! ### impl_PathTo: function 22 -/
/-- A path, piece by piece. -/
def impl_PathTo.f (a0 : Int) (a1 : ByteArray) : Option ByteArray := if a1.size ≤ 400000 ∧ (Pth.mapped (Nto.toName a0) a1).size ≤ 100000000000 then some (if a0 = 33652738 then a1 else Pth.mapped (Nto.toName a0) a1) else none
theorem impl_PathTo.calls (a0 : Int) (a1 : ByteArray) (r : ByteArray) (w : World) (hglob : Glob w) (h : impl_PathTo.f a0 a1 = some r) :
    Calls Tryd.prog 22 #[.int .u64 a0, .string a1] w fun e w' => e = .returned (.string r) ∧ Below w.heap.size w w' := by
  unfold impl_PathTo.f at h
  by_cases hc : a1.size ≤ 400000 ∧ (Pth.mapped (Nto.toName a0) a1).size ≤ 100000000000
  · rw [if_pos hc] at h
    obtain rfl := Option.some.inj h
    exact Pth.impl_to_path a0 a1 w hglob hc.1 hc.2
  · rw [if_neg hc] at h; cases h

/-! ### impl_PathFrom: function 24 -/
/-- A path, piece by piece. -/
def impl_PathFrom.f (a0 : Int) (a1 : ByteArray) : Option ByteArray := if a1.size ≤ 400000 ∧ (Pth.mapped (Nto.fromName a0) a1).size ≤ 100000000000 then some (if a0 = 33652738 then a1 else Pth.mapped (Nto.fromName a0) a1) else none
theorem impl_PathFrom.calls (a0 : Int) (a1 : ByteArray) (r : ByteArray) (w : World) (hglob : Glob w) (h : impl_PathFrom.f a0 a1 = some r) :
    Calls Tryd.prog 24 #[.int .u64 a0, .string a1] w fun e w' => e = .returned (.string r) ∧ Below w.heap.size w w' := by
  unfold impl_PathFrom.f at h
  by_cases hc : a1.size ≤ 400000 ∧ (Pth.mapped (Nto.fromName a0) a1).size ≤ 100000000000
  · rw [if_pos hc] at h
    obtain rfl := Option.some.inj h
    exact Pth.impl_from_path a0 a1 w hglob hc.1 hc.2
  · rw [if_neg hc] at h; cases h

end Go.Proofs.YtlgoghonnnobfaaDoor.PFnPathThere

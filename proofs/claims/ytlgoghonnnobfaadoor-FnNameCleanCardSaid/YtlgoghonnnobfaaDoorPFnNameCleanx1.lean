-- Written by a program of this session's (over the kit's print), with contracts proved by hand among what it calls.
import Derived.Test.YtlgoghonnnobfaaDoorPFnNameCleanx0
namespace Go.Proofs.YtlgoghonnnobfaaDoor.PFnNameClean
open Go.RowKit Go.Proofs.YtlgoghonnnobfaaDoorW.PrintWords Go.Proofs.YtlgoghonnnobfaaDoorW.PrintLast Go.Proofs.YtlgoghonnnobfaaDoorW.PrintMore
attribute [local go_sem] max2_int min2_int max_two min_two max_three min_three max_four min_four   -- for this text's walks alone
set_option linter.unusedVariables false
set_option linter.unusedSimpArgs false

/-! ### laws_encShort: function 12 -/
def laws_encShort.l0 : Nat → Int → List ByteArray → Int → Int → Option (Bool)
  | 0, _, _, _, _ => none
  | k + 1, x3, x6, x7, x8 => if x8 < x7 then (if 0 ≤ x8 then (if x8 < (x6.length : Int) then (laws_encShort.l0 k (wrap64 (x3 + ((rdOf ByteArray.empty x6 x8).size : Int))) x6 x7 (wrap64 (x8 + 1))) else (none)) else (none)) else (some (decide (x3 ≤ 65536)))
def laws_encShort.f (k : Nat) (l0 : List ByteArray) : Option (Bool) := laws_encShort.l0 k 0 l0 (l0.length : Int) 0
theorem laws_encShort.mono_l : ∀ k, (∀ y0 y1 y2 y3, LeO (laws_encShort.l0 k y0 y1 y2 y3) (laws_encShort.l0 (k + 1) y0 y1 y2 y3))
  | 0 => fun _ _ _ _ r h => by simp [laws_encShort.l0] at h
  | k + 1 => by
    have ih0 := laws_encShort.mono_l k
    · intro y0 y1 y2 y3
      unfold laws_encShort.l0
      repeat' first
      | (with_reducible exact ih0 _ _ _ _)
      | (with_reducible exact LeO.refl _)
      | (with_reducible exact LeO.none _)
      | (with_reducible refine LeO.ite ?_ ?_)
      | (with_reducible refine LeO.bind ?_ (fun _ => ?_))
      | exact ih0 _ _ _ _
      | exact LeO.none _
      | refine LeO.ite ?_ ?_
      | refine LeO.bind ?_ (fun _ => ?_)
theorem laws_encShort.mono : ∀ a0 k, LeO (laws_encShort.f k a0) (laws_encShort.f (k + 1) a0) := by
  intro a0 k
  have ih0 := laws_encShort.mono_l k
  unfold laws_encShort.f
  repeat' first
      | (with_reducible exact ih0 _ _ _ _)
      | (with_reducible exact LeO.refl _)
      | (with_reducible exact LeO.none _)
      | (with_reducible refine LeO.ite ?_ ?_)
      | (with_reducible refine LeO.bind ?_ (fun _ => ?_))
      | exact ih0 _ _ _ _
      | exact LeO.none _
      | refine LeO.ite ?_ ?_
      | refine LeO.bind ?_ (fun _ => ?_)
set_option maxHeartbeats 8000000 in
set_option maxRecDepth 100000 in
theorem laws_encShort.calls (k : Nat) (A0 : Option Addr) (c0 : Nat) (l0 : List ByteArray) (r : Bool) (w : World) (hr0 : Kd.C Kd.string w A0 l0.length l0) (hc0 : l0.length ≤ c0) (h : laws_encShort.f k l0 = some r) :
    Calls Tryd.prog 12 #[.slice A0 l0.length c0] w fun e w' => e = .returned (.bool r) ∧ Drawn0 w w' := by
  have HR0 := Aside0.mk hr0
  have HC0 := Aside0.mk hc0
  clear hr0 hc0
  have H : (laws_encShort.l0 k 0 l0 (l0.length : Int) 0) = some r := h
  clear h
  have H' := Aside0.mk H
  clear H
  go_enter Tryd.func12, Tryd.ntmps12
  go_wp2
  go_loopg [3, 8] k (fun kq v3 v8 w' => ∃ (x3_1 : Int) (x8_1 : Int), v3 = .int .i64 x3_1 ∧ v8 = .int .i64 x8_1 ∧ Aside0 (laws_encShort.l0 kq x3_1 l0 (l0.length : Int) x8_1 = some r) ∧ Aside0 (kq ≤ k) ∧ Drawn0 w w')
  case atStart => exact ⟨(0), (0), (by first | rfl | (simp; done) | (simp [*]; done) | (simp [xt_ne_nil]; done)), (by first | rfl | (simp; done) | (simp [*]; done) | (simp [xt_ne_nil]; done)), H', ⟨Nat.le_refl _⟩, by repeat (first | exact Drawn0.refl _ | apply Drawn0.step)⟩
  case round =>
    clear H'
    try clear c1
    obtain ⟨x3_1, x8_1, rfl, rfl, HA, HK1, ⟨m1, rfl⟩⟩ := hrel
    cases gk with
    | zero => exact absurd HA.out (by simp [laws_encShort.l0])
    | succ k1 =>
      have H := HA.out
      clear HA
      simp only [laws_encShort.l0] at H
      by_cases c2 : x8_1 < (l0.length : Int)
      · rw [if_pos c2] at H
        have c2b0 : decide (x8_1 < (l0.length : Int)) = true := decide_eq_true c2
        clear c2
        by_cases c3 : 0 ≤ x8_1
        · rw [if_pos c3] at H
          have c3b0 : decide (0 ≤ x8_1) = true := decide_eq_true c3
          clear c3
          by_cases c4 : x8_1 < (l0.length : Int)
          · rw [if_pos c4] at H
            have c4b0 : decide (x8_1 < (l0.length : Int)) = true := decide_eq_true c4
            clear c4
            have H' := Aside0.mk H
            clear H
            have p101 : 0 ≤ (x8_1 : Int) := of_decide_eq_true (by first | (with_reducible assumption) | assumption)
            have q101 : x8_1 < (l0.length : Int) := of_decide_eq_true (by first | (with_reducible assumption) | assumption)
            obtain ⟨ad101, e101, hx101_0⟩ := Kd.at_string HR0.out x8_1 p101 q101
            cases e101
            replace p101 := eq_true p101
            replace q101 := eq_true q101
            go_wp2
            go_roundg k1
            case measure => have := HK1.out; omega
            case rel => exact ⟨(wrap64 (x3_1 + ((rdOf ByteArray.empty l0 x8_1).size : Int))), (wrap64 (x8_1 + 1)), (by first | rfl | (simp; done) | (simp [*]; done) | (simp [xt_ne_nil]; done)), (by first | rfl | (simp; done) | (simp [*]; done) | (simp [xt_ne_nil]; done)), H', ⟨by have := HK1.out; omega⟩, by repeat (first | exact Drawn0.refl _ | apply Drawn0.step)⟩
          · rw [if_neg c4] at H
            exact absurd H (by simp)
        · rw [if_neg c3] at H
          exact absurd H (by simp)
      · rw [if_neg c2] at H
        have c2b0 : decide (x8_1 < (l0.length : Int)) = false := decide_eq_false c2
        clear c2
        obtain rfl := Option.some.inj H
        go_wp2
        go_ret
        exact ⟨by first | rfl | (simp; done) | (simp [*]; done) | (simp [xt_ne_nil]; done), by repeat (first | exact Drawn0.refl _ | apply Drawn0.step)⟩

/-! ### spec_Units: function 25 -/
/-- The characters of a name. -/
def spec_Units.f (a0 : ByteArray) : Option (List S37) := if a0.size ≤ 1000000 then some ((Uts.units a0).map fun x => (⟨x.1, x.2.1, x.2.2⟩ : S37)) else none
theorem spec_Units.calls (a0 : ByteArray) (r : List S37) (w : World) (h : spec_Units.f a0 = some r) :
    Calls Tryd.prog 25 #[.string a0] w fun e w' => ∃ v0_ : Value, e = .returned (v0_) ∧ Kd.R k37 37 w' w.heap.size (fun _ => True) v0_ r ∧ Below w.heap.size w w' := by
  unfold spec_Units.f at h
  by_cases hc : a0.size ≤ 1000000
  · rw [if_pos hc] at h
    obtain rfl := Option.some.inj h
    refine (Uts.units_any a0 hc w).mono ?_
    rintro e w' ⟨v, he, hR, hb⟩
    refine ⟨v, he, ?_, hb⟩
    refine Uts.R_iso (f := fun x : S37 => (x.f0, x.f1, x.f2)) (d := Kd.pair Kd.string (Kd.pair (Kd.int .i32) Kd.bool)) ?_
    rw [List.map_map, show ((fun x : S37 => (x.f0, x.f1, x.f2)) ∘ fun x : ByteArray × Int × Bool => (⟨x.1, x.2.1, x.2.2⟩ : S37)) = id from rfl, List.map_id]
    exact hR
  · rw [if_neg hc] at h; cases h

/-! ### spec_bit: function 39 -/
mutual
def spec_bit.j0 : Nat → Int → Int → Bool → Option (Int)
  | 0, _, _, _ => none
  | k + 1, x0, x3, x6 => if x6 = true then (some 4) else (if x3 = 34 then (some 8) else (if x3 = 39 then (some 16) else (if x3 = 96 then (some 32) else (if x3 = 36 then (some 64) else (if x3 = 58 then (some 128) else (if x3 = 63 then (some 256) else (if x3 = 42 then (some 512) else (if x3 = 124 then (some 1024) else (if x3 = 35 then (some 2048) else (if x3 = 37 then (some 4096) else (if x3 = 92 then (some 8192) else (if x3 = 91 then (spec_bit.j1 k x0 x3 (x3 == 91)) else (spec_bit.j1 k x0 x3 (x3 == 93))))))))))))))
def spec_bit.j1 : Nat → Int → Int → Bool → Option (Int)
  | 0, _, _, _ => none
  | k + 1, x0, x3, x31 => if x31 = true then (some 67108864) else (if x3 = 59 then (some 134217728) else (if x3 = 33 then (some 268435456) else (if x3 = 127 then (some 32768) else (if x3 = 13 then (spec_bit.j2 k x0 (x3 == 13)) else (spec_bit.j2 k x0 (x3 == 10))))))
def spec_bit.j2 : Nat → Int → Bool → Option (Int)
  | 0, _, _ => none
  | k + 1, x0, x40 => if x40 = true then (some 81920) else (if 0 < x0 then (if x0 < 32 then (some 65536) else (some 0)) else (some 0))
end
def spec_bit.f (k : Nat) (a0 : Int) : Option (Int) := if a0 = 47 then (some 2) else (if a0 = 60 then (spec_bit.j0 k a0 a0 (a0 == 60)) else (spec_bit.j0 k a0 a0 (a0 == 62)))
theorem spec_bit.mono_l : ∀ k, (∀ y0 y1 y2, LeO (spec_bit.j0 k y0 y1 y2) (spec_bit.j0 (k + 1) y0 y1 y2)) ∧ (∀ y0 y1 y2, LeO (spec_bit.j1 k y0 y1 y2) (spec_bit.j1 (k + 1) y0 y1 y2)) ∧ (∀ y0 y1, LeO (spec_bit.j2 k y0 y1) (spec_bit.j2 (k + 1) y0 y1))
  | 0 => ⟨fun _ _ _ r h => by simp [spec_bit.j0] at h, fun _ _ _ r h => by simp [spec_bit.j1] at h, fun _ _ r h => by simp [spec_bit.j2] at h⟩
  | k + 1 => by
    obtain ⟨ih0, ih1, ih2⟩ := spec_bit.mono_l k
    refine ⟨?_, ?_, ?_⟩
    · intro y0 y1 y2
      unfold spec_bit.j0
      repeat' first
      | (with_reducible exact ih0 _ _ _)
      | (with_reducible exact ih1 _ _ _)
      | (with_reducible exact ih2 _ _)
      | (with_reducible exact LeO.refl _)
      | (with_reducible exact LeO.none _)
      | (with_reducible refine LeO.ite ?_ ?_)
      | (with_reducible refine LeO.bind ?_ (fun _ => ?_))
      | exact ih0 _ _ _
      | exact ih1 _ _ _
      | exact ih2 _ _
      | exact LeO.none _
      | refine LeO.ite ?_ ?_
      | refine LeO.bind ?_ (fun _ => ?_)
    · intro y0 y1 y2
      unfold spec_bit.j1
      repeat' first
      | (with_reducible exact ih0 _ _ _)
      | (with_reducible exact ih1 _ _ _)
      | (with_reducible exact ih2 _ _)
      | (with_reducible exact LeO.refl _)
      | (with_reducible exact LeO.none _)
      | (with_reducible refine LeO.ite ?_ ?_)
      | (with_reducible refine LeO.bind ?_ (fun _ => ?_))
      | exact ih0 _ _ _
      | exact ih1 _ _ _
      | exact ih2 _ _
      | exact LeO.none _
      | refine LeO.ite ?_ ?_
      | refine LeO.bind ?_ (fun _ => ?_)
    · intro y0 y1
      unfold spec_bit.j2
      repeat' first
      | (with_reducible exact ih0 _ _ _)
      | (with_reducible exact ih1 _ _ _)
      | (with_reducible exact ih2 _ _)
      | (with_reducible exact LeO.refl _)
      | (with_reducible exact LeO.none _)
      | (with_reducible refine LeO.ite ?_ ?_)
      | (with_reducible refine LeO.bind ?_ (fun _ => ?_))
      | exact ih0 _ _ _
      | exact ih1 _ _ _
      | exact ih2 _ _
      | exact LeO.none _
      | refine LeO.ite ?_ ?_
      | refine LeO.bind ?_ (fun _ => ?_)
theorem spec_bit.mono : ∀ a0 k, LeO (spec_bit.f k a0) (spec_bit.f (k + 1) a0) := by
  intro a0 k
  obtain ⟨ih0, ih1, ih2⟩ := spec_bit.mono_l k
  unfold spec_bit.f
  repeat' first
      | (with_reducible exact ih0 _ _ _)
      | (with_reducible exact ih1 _ _ _)
      | (with_reducible exact ih2 _ _)
      | (with_reducible exact LeO.refl _)
      | (with_reducible exact LeO.none _)
      | (with_reducible refine LeO.ite ?_ ?_)
      | (with_reducible refine LeO.bind ?_ (fun _ => ?_))
      | exact ih0 _ _ _
      | exact ih1 _ _ _
      | exact ih2 _ _
      | exact LeO.none _
      | refine LeO.ite ?_ ?_
      | refine LeO.bind ?_ (fun _ => ?_)
set_option maxHeartbeats 8000000 in
set_option maxRecDepth 100000 in
theorem spec_bit.calls (k : Nat) (a0 : Int) (r : Int) (w : World) (h : spec_bit.f k a0 = some r) :
    Calls Tryd.prog 39 #[.int .i32 a0] w fun e w' => e = .returned (.int .u64 r) ∧ Drawn0 w w' := by
  have H : (if a0 = 47 then (some 2) else (if a0 = 60 then (spec_bit.j0 k a0 a0 (a0 == 60)) else (spec_bit.j0 k a0 a0 (a0 == 62)))) = some r := h
  clear h
  by_cases c2 : a0 = 47
  · rw [if_pos c2] at H
    have c2b0 : (a0 == 47) = true := beq_iff_eq.mpr c2
    have c2b1 : (a0 != 47) = false := bne_eq_false_iff_eq.mpr c2
    clear c2
    obtain rfl := Option.some.inj H
    go_enter Tryd.func39, Tryd.ntmps39
    go_wp2
    go_ret
    exact ⟨by first | rfl | (simp; done) | (simp [*]; done) | (simp [xt_ne_nil]; done), by repeat (first | exact Drawn0.refl _ | apply Drawn0.step)⟩
  · rw [if_neg c2] at H
    have c2b0 : (a0 == 47) = false := beq_eq_false_iff_ne.mpr c2
    have c2b1 : (a0 != 47) = true := bne_iff_ne.mpr c2
    have HC3 := Aside0.mk H
    clear H
    go_enter Tryd.func39, Tryd.ntmps39
    go_upto_if 6 with (fail)
    go_cut [6] (fun v6 wc => ∃ (kq : Nat) (x6_2 : Bool), v6 = .bool x6_2 ∧ Aside0 (spec_bit.j0 kq a0 a0 x6_2 = some r) ∧ Aside0 (kq ≤ k) ∧ Drawn0 w wc)
    case first =>
      have H := HC3.out
      clear HC3
      by_cases c4 : a0 = 60
      · rw [if_pos c4] at H
        have c4b0 : (a0 == 60) = true := beq_iff_eq.mpr c4
        have c4b1 : (a0 != 60) = false := bne_eq_false_iff_eq.mpr c4
        clear c4
        (first | rw [c4b0] | (simp only [i64_w, i32_w]; rw [c4b0]) | skip)
        have H' := Aside0.mk H
        clear H
        go_wp2
        go_meet
        case rel => exact ⟨_, ((a0 == 60)), (by first | rfl | (simp; done) | (simp [*]; done) | (simp [xt_ne_nil]; done)), H', ⟨by first | omega | exact Nat.le_refl _⟩, by repeat (first | exact Drawn0.refl _ | apply Drawn0.step)⟩
      · rw [if_neg c4] at H
        have c4b0 : (a0 == 60) = false := beq_eq_false_iff_ne.mpr c4
        have c4b1 : (a0 != 60) = true := bne_iff_ne.mpr c4
        (first | rw [c4b0] | (simp only [i64_w, i32_w]; rw [c4b0]) | skip)
        have H' := Aside0.mk H
        clear H
        go_wp2
        go_meet
        case rel => exact ⟨_, ((a0 == 62)), (by first | rfl | (simp; done) | (simp [*]; done) | (simp [xt_ne_nil]; done)), H', ⟨by first | omega | exact Nat.le_refl _⟩, by repeat (first | exact Drawn0.refl _ | apply Drawn0.step)⟩
    case rest =>
      clear HC3
      try clear c2
      try clear c2b0
      try clear c2b1
      try clear p2
      try clear c3
      try clear c4
      try clear c4b0
      try clear c4b1
      obtain ⟨kq, x6_2, rfl, HA, HJ2, ⟨mc2, rfl⟩⟩ := hcut
      cases kq with
      | zero => exact absurd HA.out (by simp [spec_bit.j0])
      | succ kj2 =>
        have H := HA.out
        clear HA
        simp only [spec_bit.j0] at H
        by_cases c5 : x6_2 = true
        · subst c5
          have H1 : (some 4) = some r := by rw [if_pos rfl] at H; exact H
          clear H
          have H := H1
          clear H1
          obtain rfl := Option.some.inj H
          go_wp2
          go_ret
          exact ⟨by first | rfl | (simp; done) | (simp [*]; done) | (simp [xt_ne_nil]; done), by repeat (first | exact Drawn0.refl _ | apply Drawn0.step)⟩
        · replace c5 := Bool.eq_false_iff.mpr c5
          subst c5
          have H1 : (if a0 = 34 then (some 8) else (if a0 = 39 then (some 16) else (if a0 = 96 then (some 32) else (if a0 = 36 then (some 64) else (if a0 = 58 then (some 128) else (if a0 = 63 then (some 256) else (if a0 = 42 then (some 512) else (if a0 = 124 then (some 1024) else (if a0 = 35 then (some 2048) else (if a0 = 37 then (some 4096) else (if a0 = 92 then (some 8192) else (if a0 = 91 then (spec_bit.j1 kj2 a0 a0 (a0 == 91)) else (spec_bit.j1 kj2 a0 a0 (a0 == 93)))))))))))))) = some r := by rw [if_neg (show ¬ (false = true) by decide)] at H; exact H
          clear H
          have H := H1
          clear H1
          by_cases c6 : a0 = 34
          · rw [if_pos c6] at H
            have c6b0 : (a0 == 34) = true := beq_iff_eq.mpr c6
            have c6b1 : (a0 != 34) = false := bne_eq_false_iff_eq.mpr c6
            clear c6
            obtain rfl := Option.some.inj H
            go_wp2
            go_ret
            exact ⟨by first | rfl | (simp; done) | (simp [*]; done) | (simp [xt_ne_nil]; done), by repeat (first | exact Drawn0.refl _ | apply Drawn0.step)⟩
          · rw [if_neg c6] at H
            have c6b0 : (a0 == 34) = false := beq_eq_false_iff_ne.mpr c6
            have c6b1 : (a0 != 34) = true := bne_iff_ne.mpr c6
            by_cases c7 : a0 = 39
            · rw [if_pos c7] at H
              have c7b0 : (a0 == 39) = true := beq_iff_eq.mpr c7
              have c7b1 : (a0 != 39) = false := bne_eq_false_iff_eq.mpr c7
              clear c7
              obtain rfl := Option.some.inj H
              go_wp2
              go_ret
              exact ⟨by first | rfl | (simp; done) | (simp [*]; done) | (simp [xt_ne_nil]; done), by repeat (first | exact Drawn0.refl _ | apply Drawn0.step)⟩
            · rw [if_neg c7] at H
              have c7b0 : (a0 == 39) = false := beq_eq_false_iff_ne.mpr c7
              have c7b1 : (a0 != 39) = true := bne_iff_ne.mpr c7
              by_cases c8 : a0 = 96
              · rw [if_pos c8] at H
                have c8b0 : (a0 == 96) = true := beq_iff_eq.mpr c8
                have c8b1 : (a0 != 96) = false := bne_eq_false_iff_eq.mpr c8
                clear c8
                obtain rfl := Option.some.inj H
                go_wp2
                go_ret
                exact ⟨by first | rfl | (simp; done) | (simp [*]; done) | (simp [xt_ne_nil]; done), by repeat (first | exact Drawn0.refl _ | apply Drawn0.step)⟩
              · rw [if_neg c8] at H
                have c8b0 : (a0 == 96) = false := beq_eq_false_iff_ne.mpr c8
                have c8b1 : (a0 != 96) = true := bne_iff_ne.mpr c8
                by_cases c9 : a0 = 36
                · rw [if_pos c9] at H
                  have c9b0 : (a0 == 36) = true := beq_iff_eq.mpr c9
                  have c9b1 : (a0 != 36) = false := bne_eq_false_iff_eq.mpr c9
                  clear c9
                  obtain rfl := Option.some.inj H
                  go_wp2
                  go_ret
                  exact ⟨by first | rfl | (simp; done) | (simp [*]; done) | (simp [xt_ne_nil]; done), by repeat (first | exact Drawn0.refl _ | apply Drawn0.step)⟩
                · rw [if_neg c9] at H
                  have c9b0 : (a0 == 36) = false := beq_eq_false_iff_ne.mpr c9
                  have c9b1 : (a0 != 36) = true := bne_iff_ne.mpr c9
                  by_cases c10 : a0 = 58
                  · rw [if_pos c10] at H
                    have c10b0 : (a0 == 58) = true := beq_iff_eq.mpr c10
                    have c10b1 : (a0 != 58) = false := bne_eq_false_iff_eq.mpr c10
                    clear c10
                    obtain rfl := Option.some.inj H
                    go_wp2
                    go_ret
                    exact ⟨by first | rfl | (simp; done) | (simp [*]; done) | (simp [xt_ne_nil]; done), by repeat (first | exact Drawn0.refl _ | apply Drawn0.step)⟩
                  · rw [if_neg c10] at H
                    have c10b0 : (a0 == 58) = false := beq_eq_false_iff_ne.mpr c10
                    have c10b1 : (a0 != 58) = true := bne_iff_ne.mpr c10
                    by_cases c11 : a0 = 63
                    · rw [if_pos c11] at H
                      have c11b0 : (a0 == 63) = true := beq_iff_eq.mpr c11
                      have c11b1 : (a0 != 63) = false := bne_eq_false_iff_eq.mpr c11
                      clear c11
                      obtain rfl := Option.some.inj H
                      go_wp2
                      go_ret
                      exact ⟨by first | rfl | (simp; done) | (simp [*]; done) | (simp [xt_ne_nil]; done), by repeat (first | exact Drawn0.refl _ | apply Drawn0.step)⟩
                    · rw [if_neg c11] at H
                      have c11b0 : (a0 == 63) = false := beq_eq_false_iff_ne.mpr c11
                      have c11b1 : (a0 != 63) = true := bne_iff_ne.mpr c11
                      by_cases c12 : a0 = 42
                      · rw [if_pos c12] at H
                        have c12b0 : (a0 == 42) = true := beq_iff_eq.mpr c12
                        have c12b1 : (a0 != 42) = false := bne_eq_false_iff_eq.mpr c12
                        clear c12
                        obtain rfl := Option.some.inj H
                        go_wp2
                        go_ret
                        exact ⟨by first | rfl | (simp; done) | (simp [*]; done) | (simp [xt_ne_nil]; done), by repeat (first | exact Drawn0.refl _ | apply Drawn0.step)⟩
                      · rw [if_neg c12] at H
                        have c12b0 : (a0 == 42) = false := beq_eq_false_iff_ne.mpr c12
                        have c12b1 : (a0 != 42) = true := bne_iff_ne.mpr c12
                        by_cases c13 : a0 = 124
                        · rw [if_pos c13] at H
                          have c13b0 : (a0 == 124) = true := beq_iff_eq.mpr c13
                          have c13b1 : (a0 != 124) = false := bne_eq_false_iff_eq.mpr c13
                          clear c13
                          obtain rfl := Option.some.inj H
                          go_wp2
                          go_ret
                          exact ⟨by first | rfl | (simp; done) | (simp [*]; done) | (simp [xt_ne_nil]; done), by repeat (first | exact Drawn0.refl _ | apply Drawn0.step)⟩
                        · rw [if_neg c13] at H
                          have c13b0 : (a0 == 124) = false := beq_eq_false_iff_ne.mpr c13
                          have c13b1 : (a0 != 124) = true := bne_iff_ne.mpr c13
                          by_cases c14 : a0 = 35
                          · rw [if_pos c14] at H
                            have c14b0 : (a0 == 35) = true := beq_iff_eq.mpr c14
                            have c14b1 : (a0 != 35) = false := bne_eq_false_iff_eq.mpr c14
                            clear c14
                            obtain rfl := Option.some.inj H
                            go_wp2
                            go_ret
                            exact ⟨by first | rfl | (simp; done) | (simp [*]; done) | (simp [xt_ne_nil]; done), by repeat (first | exact Drawn0.refl _ | apply Drawn0.step)⟩
                          · rw [if_neg c14] at H
                            have c14b0 : (a0 == 35) = false := beq_eq_false_iff_ne.mpr c14
                            have c14b1 : (a0 != 35) = true := bne_iff_ne.mpr c14
                            by_cases c15 : a0 = 37
                            · rw [if_pos c15] at H
                              have c15b0 : (a0 == 37) = true := beq_iff_eq.mpr c15
                              have c15b1 : (a0 != 37) = false := bne_eq_false_iff_eq.mpr c15
                              clear c15
                              obtain rfl := Option.some.inj H
                              go_wp2
                              go_ret
                              exact ⟨by first | rfl | (simp; done) | (simp [*]; done) | (simp [xt_ne_nil]; done), by repeat (first | exact Drawn0.refl _ | apply Drawn0.step)⟩
                            · rw [if_neg c15] at H
                              have c15b0 : (a0 == 37) = false := beq_eq_false_iff_ne.mpr c15
                              have c15b1 : (a0 != 37) = true := bne_iff_ne.mpr c15
                              by_cases c16 : a0 = 92
                              · rw [if_pos c16] at H
                                have c16b0 : (a0 == 92) = true := beq_iff_eq.mpr c16
                                have c16b1 : (a0 != 92) = false := bne_eq_false_iff_eq.mpr c16
                                clear c16
                                obtain rfl := Option.some.inj H
                                go_wp2
                                go_ret
                                exact ⟨by first | rfl | (simp; done) | (simp [*]; done) | (simp [xt_ne_nil]; done), by repeat (first | exact Drawn0.refl _ | apply Drawn0.step)⟩
                              · rw [if_neg c16] at H
                                have c16b0 : (a0 == 92) = false := beq_eq_false_iff_ne.mpr c16
                                have c16b1 : (a0 != 92) = true := bne_iff_ne.mpr c16
                                have HC17 := Aside0.mk H
                                clear H
                                go_upto_if 31 with (fail)
                                go_cut [31] (fun v31 wc => ∃ (kq : Nat) (x31_16 : Bool), v31 = .bool x31_16 ∧ Aside0 (spec_bit.j1 kq a0 a0 x31_16 = some r) ∧ Aside0 (kq ≤ kj2) ∧ Drawn0 w wc)
                                case first =>
                                  have H := HC17.out
                                  clear HC17
                                  by_cases c18 : a0 = 91
                                  · rw [if_pos c18] at H
                                    have c18b0 : (a0 == 91) = true := beq_iff_eq.mpr c18
                                    have c18b1 : (a0 != 91) = false := bne_eq_false_iff_eq.mpr c18
                                    clear c18
                                    (first | rw [c18b0] | (simp only [i64_w, i32_w]; rw [c18b0]) | skip)
                                    have H' := Aside0.mk H
                                    clear H
                                    go_wp2
                                    go_meet
                                    case rel => exact ⟨_, ((a0 == 91)), (by first | rfl | (simp; done) | (simp [*]; done) | (simp [xt_ne_nil]; done)), H', ⟨by have := HJ2.out; first | omega | exact Nat.le_refl _⟩, by repeat (first | exact Drawn0.refl _ | apply Drawn0.step)⟩
                                  · rw [if_neg c18] at H
                                    have c18b0 : (a0 == 91) = false := beq_eq_false_iff_ne.mpr c18
                                    have c18b1 : (a0 != 91) = true := bne_iff_ne.mpr c18
                                    (first | rw [c18b0] | (simp only [i64_w, i32_w]; rw [c18b0]) | skip)
                                    have H' := Aside0.mk H
                                    clear H
                                    go_wp2
                                    go_meet
                                    case rel => exact ⟨_, ((a0 == 93)), (by first | rfl | (simp; done) | (simp [*]; done) | (simp [xt_ne_nil]; done)), H', ⟨by have := HJ2.out; first | omega | exact Nat.le_refl _⟩, by repeat (first | exact Drawn0.refl _ | apply Drawn0.step)⟩
                                case rest =>
                                  clear HC17
                                  try clear c1
                                  try clear c2
                                  try clear c2b0
                                  try clear c2b1
                                  try clear p2
                                  try clear c3
                                  try clear c4
                                  try clear c4b0
                                  try clear c4b1
                                  try clear c5
                                  try clear c6
                                  try clear c6b0
                                  try clear c6b1
                                  try clear c7
                                  try clear c7b0
                                  try clear c7b1
                                  try clear c8
                                  try clear c8b0
                                  try clear c8b1
                                  try clear c9
                                  try clear c9b0
                                  try clear c9b1
                                  try clear c10
                                  try clear c10b0
                                  try clear c10b1
                                  try clear c11
                                  try clear c11b0
                                  try clear c11b1
                                  try clear c12
                                  try clear c12b0
                                  try clear c12b1
                                  try clear c13
                                  try clear c13b0
                                  try clear c13b1
                                  try clear c14
                                  try clear c14b0
                                  try clear c14b1
                                  try clear c15
                                  try clear c15b0
                                  try clear c15b1
                                  try clear c16
                                  try clear c16b0
                                  try clear c16b1
                                  try clear c18
                                  try clear c18b0
                                  try clear c18b1
                                  try clear p2
                                  obtain ⟨kq, x31_16, rfl, HA, HJ16, ⟨mc16, rfl⟩⟩ := hcut
                                  cases kq with
                                  | zero => exact absurd HA.out (by simp [spec_bit.j1])
                                  | succ kj16 =>
                                    have H := HA.out
                                    clear HA
                                    simp only [spec_bit.j1] at H
                                    by_cases c19 : x31_16 = true
                                    · subst c19
                                      have H1 : (some 67108864) = some r := by rw [if_pos rfl] at H; exact H
                                      clear H
                                      have H := H1
                                      clear H1
                                      obtain rfl := Option.some.inj H
                                      go_wp2
                                      go_ret
                                      exact ⟨by first | rfl | (simp; done) | (simp [*]; done) | (simp [xt_ne_nil]; done), by repeat (first | exact Drawn0.refl _ | apply Drawn0.step)⟩
                                    · replace c19 := Bool.eq_false_iff.mpr c19
                                      subst c19
                                      have H1 : (if a0 = 59 then (some 134217728) else (if a0 = 33 then (some 268435456) else (if a0 = 127 then (some 32768) else (if a0 = 13 then (spec_bit.j2 kj16 a0 (a0 == 13)) else (spec_bit.j2 kj16 a0 (a0 == 10)))))) = some r := by rw [if_neg (show ¬ (false = true) by decide)] at H; exact H
                                      clear H
                                      have H := H1
                                      clear H1
                                      by_cases c20 : a0 = 59
                                      · rw [if_pos c20] at H
                                        have c20b0 : (a0 == 59) = true := beq_iff_eq.mpr c20
                                        have c20b1 : (a0 != 59) = false := bne_eq_false_iff_eq.mpr c20
                                        clear c20
                                        obtain rfl := Option.some.inj H
                                        go_wp2
                                        go_ret
                                        exact ⟨by first | rfl | (simp; done) | (simp [*]; done) | (simp [xt_ne_nil]; done), by repeat (first | exact Drawn0.refl _ | apply Drawn0.step)⟩
                                      · rw [if_neg c20] at H
                                        have c20b0 : (a0 == 59) = false := beq_eq_false_iff_ne.mpr c20
                                        have c20b1 : (a0 != 59) = true := bne_iff_ne.mpr c20
                                        by_cases c21 : a0 = 33
                                        · rw [if_pos c21] at H
                                          have c21b0 : (a0 == 33) = true := beq_iff_eq.mpr c21
                                          have c21b1 : (a0 != 33) = false := bne_eq_false_iff_eq.mpr c21
                                          clear c21
                                          obtain rfl := Option.some.inj H
                                          go_wp2
                                          go_ret
                                          exact ⟨by first | rfl | (simp; done) | (simp [*]; done) | (simp [xt_ne_nil]; done), by repeat (first | exact Drawn0.refl _ | apply Drawn0.step)⟩
                                        · rw [if_neg c21] at H
                                          have c21b0 : (a0 == 33) = false := beq_eq_false_iff_ne.mpr c21
                                          have c21b1 : (a0 != 33) = true := bne_iff_ne.mpr c21
                                          by_cases c22 : a0 = 127
                                          · rw [if_pos c22] at H
                                            have c22b0 : (a0 == 127) = true := beq_iff_eq.mpr c22
                                            have c22b1 : (a0 != 127) = false := bne_eq_false_iff_eq.mpr c22
                                            clear c22
                                            obtain rfl := Option.some.inj H
                                            go_wp2
                                            go_ret
                                            exact ⟨by first | rfl | (simp; done) | (simp [*]; done) | (simp [xt_ne_nil]; done), by repeat (first | exact Drawn0.refl _ | apply Drawn0.step)⟩
                                          · rw [if_neg c22] at H
                                            have c22b0 : (a0 == 127) = false := beq_eq_false_iff_ne.mpr c22
                                            have c22b1 : (a0 != 127) = true := bne_iff_ne.mpr c22
                                            have HC23 := Aside0.mk H
                                            clear H
                                            go_upto_if 40 with (fail)
                                            go_cut [40] (fun v40 wc => ∃ (kq : Nat) (x40_22 : Bool), v40 = .bool x40_22 ∧ Aside0 (spec_bit.j2 kq a0 x40_22 = some r) ∧ Aside0 (kq ≤ kj16) ∧ Drawn0 w wc)
                                            case first =>
                                              have H := HC23.out
                                              clear HC23
                                              by_cases c24 : a0 = 13
                                              · rw [if_pos c24] at H
                                                have c24b0 : (a0 == 13) = true := beq_iff_eq.mpr c24
                                                have c24b1 : (a0 != 13) = false := bne_eq_false_iff_eq.mpr c24
                                                clear c24
                                                (first | rw [c24b0] | (simp only [i64_w, i32_w]; rw [c24b0]) | skip)
                                                have H' := Aside0.mk H
                                                clear H
                                                go_wp2
                                                go_meet
                                                case rel => exact ⟨_, ((a0 == 13)), (by first | rfl | (simp; done) | (simp [*]; done) | (simp [xt_ne_nil]; done)), H', ⟨by have := HJ2.out; have := HJ16.out; first | omega | exact Nat.le_refl _⟩, by repeat (first | exact Drawn0.refl _ | apply Drawn0.step)⟩
                                              · rw [if_neg c24] at H
                                                have c24b0 : (a0 == 13) = false := beq_eq_false_iff_ne.mpr c24
                                                have c24b1 : (a0 != 13) = true := bne_iff_ne.mpr c24
                                                (first | rw [c24b0] | (simp only [i64_w, i32_w]; rw [c24b0]) | skip)
                                                have H' := Aside0.mk H
                                                clear H
                                                go_wp2
                                                go_meet
                                                case rel => exact ⟨_, ((a0 == 10)), (by first | rfl | (simp; done) | (simp [*]; done) | (simp [xt_ne_nil]; done)), H', ⟨by have := HJ2.out; have := HJ16.out; first | omega | exact Nat.le_refl _⟩, by repeat (first | exact Drawn0.refl _ | apply Drawn0.step)⟩
                                            case rest =>
                                              clear HC23
                                              try clear c1
                                              try clear c2
                                              try clear c2b0
                                              try clear c2b1
                                              try clear p2
                                              try clear c3
                                              try clear c4
                                              try clear c4b0
                                              try clear c4b1
                                              try clear c5
                                              try clear c6
                                              try clear c6b0
                                              try clear c6b1
                                              try clear c7
                                              try clear c7b0
                                              try clear c7b1
                                              try clear c8
                                              try clear c8b0
                                              try clear c8b1
                                              try clear c9
                                              try clear c9b0
                                              try clear c9b1
                                              try clear c10
                                              try clear c10b0
                                              try clear c10b1
                                              try clear c11
                                              try clear c11b0
                                              try clear c11b1
                                              try clear c12
                                              try clear c12b0
                                              try clear c12b1
                                              try clear c13
                                              try clear c13b0
                                              try clear c13b1
                                              try clear c14
                                              try clear c14b0
                                              try clear c14b1
                                              try clear c15
                                              try clear c15b0
                                              try clear c15b1
                                              try clear c16
                                              try clear c16b0
                                              try clear c16b1
                                              try clear c18
                                              try clear c18b0
                                              try clear c18b1
                                              try clear c19
                                              try clear c20
                                              try clear c20b0
                                              try clear c20b1
                                              try clear c21
                                              try clear c21b0
                                              try clear c21b1
                                              try clear c22
                                              try clear c22b0
                                              try clear c22b1
                                              try clear c24
                                              try clear c24b0
                                              try clear c24b1
                                              try clear p2
                                              obtain ⟨kq, x40_22, rfl, HA, HJ22, ⟨mc22, rfl⟩⟩ := hcut
                                              cases kq with
                                              | zero => exact absurd HA.out (by simp [spec_bit.j2])
                                              | succ kj22 =>
                                                have H := HA.out
                                                clear HA
                                                simp only [spec_bit.j2] at H
                                                by_cases c25 : x40_22 = true
                                                · subst c25
                                                  have H1 : (some 81920) = some r := by rw [if_pos rfl] at H; exact H
                                                  clear H
                                                  have H := H1
                                                  clear H1
                                                  obtain rfl := Option.some.inj H
                                                  go_wp2
                                                  go_ret
                                                  exact ⟨by first | rfl | (simp; done) | (simp [*]; done) | (simp [xt_ne_nil]; done), by repeat (first | exact Drawn0.refl _ | apply Drawn0.step)⟩
                                                · replace c25 := Bool.eq_false_iff.mpr c25
                                                  subst c25
                                                  have H1 : (if 0 < a0 then (if a0 < 32 then (some 65536) else (some 0)) else (some 0)) = some r := by rw [if_neg (show ¬ (false = true) by decide)] at H; exact H
                                                  clear H
                                                  have H := H1
                                                  clear H1
                                                  by_cases c26 : 0 < a0
                                                  · rw [if_pos c26] at H
                                                    have c26b0 : decide (0 < a0) = true := decide_eq_true c26
                                                    clear c26
                                                    by_cases c27 : a0 < 32
                                                    · rw [if_pos c27] at H
                                                      have c27b0 : decide (a0 < 32) = true := decide_eq_true c27
                                                      clear c27
                                                      obtain rfl := Option.some.inj H
                                                      go_wp2
                                                      go_ret
                                                      exact ⟨by first | rfl | (simp; done) | (simp [*]; done) | (simp [xt_ne_nil]; done), by repeat (first | exact Drawn0.refl _ | apply Drawn0.step)⟩
                                                    · rw [if_neg c27] at H
                                                      have c27b0 : decide (a0 < 32) = false := decide_eq_false c27
                                                      clear c27
                                                      obtain rfl := Option.some.inj H
                                                      go_wp2
                                                      go_ret
                                                      exact ⟨by first | rfl | (simp; done) | (simp [*]; done) | (simp [xt_ne_nil]; done), by repeat (first | exact Drawn0.refl _ | apply Drawn0.step)⟩
                                                  · rw [if_neg c26] at H
                                                    have c26b0 : decide (0 < a0) = false := decide_eq_false c26
                                                    clear c26
                                                    obtain rfl := Option.some.inj H
                                                    go_wp2
                                                    go_ret
                                                    exact ⟨by first | rfl | (simp; done) | (simp [*]; done) | (simp [xt_ne_nil]; done), by repeat (first | exact Drawn0.refl _ | apply Drawn0.step)⟩

/-! ### spec_Takes: function 26 -/
def spec_Takes.f (k : Nat) (a0 : Int) (a1 : Int) : Option (Bool) := if a1 = 0 then (some true) else (if a1 > 0 then ((spec_bit.f k a1).bind fun t102 => (some ((Go.bits .and .u64 a0 t102) != 0))) else (some false))
theorem spec_Takes.mono : ∀ a0 a1 k, LeO (spec_Takes.f k a0 a1) (spec_Takes.f (k + 1) a0 a1) := by
  intro a0 a1 k
  unfold spec_Takes.f
  repeat' first
      | (with_reducible exact spec_bit.mono _ _)
      | (with_reducible exact LeO.refl _)
      | (with_reducible exact LeO.none _)
      | (with_reducible refine LeO.ite ?_ ?_)
      | (with_reducible refine LeO.bind ?_ (fun _ => ?_))
      | exact spec_bit.mono _ _
      | exact LeO.none _
      | refine LeO.ite ?_ ?_
      | refine LeO.bind ?_ (fun _ => ?_)
set_option maxHeartbeats 8000000 in
set_option maxRecDepth 100000 in
theorem spec_Takes.calls (k : Nat) (a0 : Int) (a1 : Int) (r : Bool) (w : World) (h : spec_Takes.f k a0 a1 = some r) :
    Calls Tryd.prog 26 #[.int .u64 a0, .int .i32 a1] w fun e w' => e = .returned (.bool r) ∧ Drawn0 w w' := by
  have H : (if a1 = 0 then (some true) else (if a1 > 0 then ((spec_bit.f k a1).bind fun t102 => (some ((Go.bits .and .u64 a0 t102) != 0))) else (some false))) = some r := h
  clear h
  by_cases c3 : a1 = 0
  · rw [if_pos c3] at H
    have c3b0 : (a1 == 0) = true := beq_iff_eq.mpr c3
    have c3b1 : (a1 != 0) = false := bne_eq_false_iff_eq.mpr c3
    clear c3
    obtain rfl := Option.some.inj H
    go_enter Tryd.func26, Tryd.ntmps26
    go_wp2
    go_ret
    exact ⟨by first | rfl | (simp; done) | (simp [*]; done) | (simp [xt_ne_nil]; done), by repeat (first | exact Drawn0.refl _ | apply Drawn0.step)⟩
  · rw [if_neg c3] at H
    have c3b0 : (a1 == 0) = false := beq_eq_false_iff_ne.mpr c3
    have c3b1 : (a1 != 0) = true := bne_iff_ne.mpr c3
    by_cases c4 : a1 > 0
    · rw [if_pos c4] at H
      have c4b0 : decide (0 < a1) = true := decide_eq_true c4
      clear c4
      replace H := Option.bind_eq_some_iff.mp H
      obtain ⟨t102, A50, H⟩ := H
      replace H : (some ((Go.bits .and .u64 a0 t102) != 0)) = some r := H
      have A5 := Aside0.mk A50
      clear A50
      obtain rfl := Option.some.inj H
      go_enter Tryd.func26, Tryd.ntmps26
      go_wp2_with (first | (go_at_call 39; (with_reducible refine (spec_bit.calls k a1 t102 _ A5.out).mono ?_); rintro e w' ⟨rfl, ⟨nd, rfl⟩⟩))
      go_ret
      exact ⟨by first | rfl | (simp; done) | (simp [*]; done) | (simp [xt_ne_nil]; done), by repeat (first | exact Drawn0.refl _ | apply Drawn0.step)⟩
    · rw [if_neg c4] at H
      have c4b0 : decide (0 < a1) = false := decide_eq_false c4
      clear c4
      obtain rfl := Option.some.inj H
      go_enter Tryd.func26, Tryd.ntmps26
      go_wp2
      go_ret
      exact ⟨by first | rfl | (simp; done) | (simp [*]; done) | (simp [xt_ne_nil]; done), by repeat (first | exact Drawn0.refl _ | apply Drawn0.step)⟩

/-! ### spec_TakesLeft: function 27 -/
def spec_TakesLeft.f (a0 : Int) (a1 : Int) : Option (Bool) := if a1 = 32 then (some ((Go.bits .and .u64 a0 131072) != 0)) else (if a1 = 46 then (some ((Go.bits .and .u64 a0 262144) != 0)) else (if a1 = 126 then (some ((Go.bits .and .u64 a0 524288) != 0)) else (if a1 = 13 then (some ((Go.bits .and .u64 a0 1048576) != 0)) else (if a1 = 10 then (some ((Go.bits .and .u64 a0 1048576) != 0)) else (if a1 = 9 then (some ((Go.bits .and .u64 a0 1048576) != 0)) else (if a1 = 11 then (some ((Go.bits .and .u64 a0 1048576) != 0)) else (some false)))))))
set_option maxHeartbeats 8000000 in
set_option maxRecDepth 100000 in
theorem spec_TakesLeft.calls (a0 : Int) (a1 : Int) (r : Bool) (w : World) (h : spec_TakesLeft.f a0 a1 = some r) :
    Calls Tryd.prog 27 #[.int .u64 a0, .int .i32 a1] w fun e w' => e = .returned (.bool r) ∧ Drawn0 w w' := by
  have H : (if a1 = 32 then (some ((Go.bits .and .u64 a0 131072) != 0)) else (if a1 = 46 then (some ((Go.bits .and .u64 a0 262144) != 0)) else (if a1 = 126 then (some ((Go.bits .and .u64 a0 524288) != 0)) else (if a1 = 13 then (some ((Go.bits .and .u64 a0 1048576) != 0)) else (if a1 = 10 then (some ((Go.bits .and .u64 a0 1048576) != 0)) else (if a1 = 9 then (some ((Go.bits .and .u64 a0 1048576) != 0)) else (if a1 = 11 then (some ((Go.bits .and .u64 a0 1048576) != 0)) else (some false)))))))) = some r := h
  clear h
  by_cases c3 : a1 = 32
  · rw [if_pos c3] at H
    have c3b0 : (a1 == 32) = true := beq_iff_eq.mpr c3
    have c3b1 : (a1 != 32) = false := bne_eq_false_iff_eq.mpr c3
    clear c3
    obtain rfl := Option.some.inj H
    go_enter Tryd.func27, Tryd.ntmps27
    go_wp2
    go_ret
    exact ⟨by first | rfl | (simp; done) | (simp [*]; done) | (simp [xt_ne_nil]; done), by repeat (first | exact Drawn0.refl _ | apply Drawn0.step)⟩
  · rw [if_neg c3] at H
    have c3b0 : (a1 == 32) = false := beq_eq_false_iff_ne.mpr c3
    have c3b1 : (a1 != 32) = true := bne_iff_ne.mpr c3
    by_cases c4 : a1 = 46
    · rw [if_pos c4] at H
      have c4b0 : (a1 == 46) = true := beq_iff_eq.mpr c4
      have c4b1 : (a1 != 46) = false := bne_eq_false_iff_eq.mpr c4
      clear c4
      obtain rfl := Option.some.inj H
      go_enter Tryd.func27, Tryd.ntmps27
      go_wp2
      go_ret
      exact ⟨by first | rfl | (simp; done) | (simp [*]; done) | (simp [xt_ne_nil]; done), by repeat (first | exact Drawn0.refl _ | apply Drawn0.step)⟩
    · rw [if_neg c4] at H
      have c4b0 : (a1 == 46) = false := beq_eq_false_iff_ne.mpr c4
      have c4b1 : (a1 != 46) = true := bne_iff_ne.mpr c4
      by_cases c5 : a1 = 126
      · rw [if_pos c5] at H
        have c5b0 : (a1 == 126) = true := beq_iff_eq.mpr c5
        have c5b1 : (a1 != 126) = false := bne_eq_false_iff_eq.mpr c5
        clear c5
        obtain rfl := Option.some.inj H
        go_enter Tryd.func27, Tryd.ntmps27
        go_wp2
        go_ret
        exact ⟨by first | rfl | (simp; done) | (simp [*]; done) | (simp [xt_ne_nil]; done), by repeat (first | exact Drawn0.refl _ | apply Drawn0.step)⟩
      · rw [if_neg c5] at H
        have c5b0 : (a1 == 126) = false := beq_eq_false_iff_ne.mpr c5
        have c5b1 : (a1 != 126) = true := bne_iff_ne.mpr c5
        by_cases c6 : a1 = 13
        · rw [if_pos c6] at H
          have c6b0 : (a1 == 13) = true := beq_iff_eq.mpr c6
          have c6b1 : (a1 != 13) = false := bne_eq_false_iff_eq.mpr c6
          clear c6
          obtain rfl := Option.some.inj H
          go_enter Tryd.func27, Tryd.ntmps27
          go_wp2
          go_ret
          exact ⟨by first | rfl | (simp; done) | (simp [*]; done) | (simp [xt_ne_nil]; done), by repeat (first | exact Drawn0.refl _ | apply Drawn0.step)⟩
        · rw [if_neg c6] at H
          have c6b0 : (a1 == 13) = false := beq_eq_false_iff_ne.mpr c6
          have c6b1 : (a1 != 13) = true := bne_iff_ne.mpr c6
          by_cases c7 : a1 = 10
          · rw [if_pos c7] at H
            have c7b0 : (a1 == 10) = true := beq_iff_eq.mpr c7
            have c7b1 : (a1 != 10) = false := bne_eq_false_iff_eq.mpr c7
            clear c7
            obtain rfl := Option.some.inj H
            go_enter Tryd.func27, Tryd.ntmps27
            go_wp2
            go_ret
            exact ⟨by first | rfl | (simp; done) | (simp [*]; done) | (simp [xt_ne_nil]; done), by repeat (first | exact Drawn0.refl _ | apply Drawn0.step)⟩
          · rw [if_neg c7] at H
            have c7b0 : (a1 == 10) = false := beq_eq_false_iff_ne.mpr c7
            have c7b1 : (a1 != 10) = true := bne_iff_ne.mpr c7
            by_cases c8 : a1 = 9
            · rw [if_pos c8] at H
              have c8b0 : (a1 == 9) = true := beq_iff_eq.mpr c8
              have c8b1 : (a1 != 9) = false := bne_eq_false_iff_eq.mpr c8
              clear c8
              obtain rfl := Option.some.inj H
              go_enter Tryd.func27, Tryd.ntmps27
              go_wp2
              go_ret
              exact ⟨by first | rfl | (simp; done) | (simp [*]; done) | (simp [xt_ne_nil]; done), by repeat (first | exact Drawn0.refl _ | apply Drawn0.step)⟩
            · rw [if_neg c8] at H
              have c8b0 : (a1 == 9) = false := beq_eq_false_iff_ne.mpr c8
              have c8b1 : (a1 != 9) = true := bne_iff_ne.mpr c8
              by_cases c9 : a1 = 11
              · rw [if_pos c9] at H
                have c9b0 : (a1 == 11) = true := beq_iff_eq.mpr c9
                have c9b1 : (a1 != 11) = false := bne_eq_false_iff_eq.mpr c9
                clear c9
                obtain rfl := Option.some.inj H
                go_enter Tryd.func27, Tryd.ntmps27
                go_wp2
                go_ret
                exact ⟨by first | rfl | (simp; done) | (simp [*]; done) | (simp [xt_ne_nil]; done), by repeat (first | exact Drawn0.refl _ | apply Drawn0.step)⟩
              · rw [if_neg c9] at H
                have c9b0 : (a1 == 11) = false := beq_eq_false_iff_ne.mpr c9
                have c9b1 : (a1 != 11) = true := bne_iff_ne.mpr c9
                obtain rfl := Option.some.inj H
                go_enter Tryd.func27, Tryd.ntmps27
                go_wp2
                go_ret
                exact ⟨by first | rfl | (simp; done) | (simp [*]; done) | (simp [xt_ne_nil]; done), by repeat (first | exact Drawn0.refl _ | apply Drawn0.step)⟩

end Go.Proofs.YtlgoghonnnobfaaDoor.PFnNameClean

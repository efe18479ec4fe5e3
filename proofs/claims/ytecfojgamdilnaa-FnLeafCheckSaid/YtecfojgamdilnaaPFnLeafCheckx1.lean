-- Written by a program of this session's (over the kit's print), with contracts proved by hand among what it calls.
import Derived.Test.YtecfojgamdilnaaPFnLeafCheckx0
namespace Go.Proofs.Ytecfojgamdilnaa.PFnLeafCheck
open Go.RowKit Go.Proofs.YtecfojgamdilnaaW.PrintWords Go.Proofs.YtecfojgamdilnaaW.PrintLast Go.Proofs.YtecfojgamdilnaaW.PrintMore
attribute [local go_sem] max2_int min2_int max_two min_two max_three min_three max_four min_four   -- for this text's walks alone
set_option linter.unusedVariables false
set_option linter.unusedSimpArgs false

/-! ### sanitize_zzIndex: function 37 -/
def sanitize_zzIndex.l0 : Nat → ByteArray → ByteArray → Int → Option (Int)
  | 0, _, _, _ => none
  | k + 1, x0, x1, x5 => if (wrap64 (x5 + (x1.size : Int))) ≤ (x0.size : Int) then (if 0 ≤ x5 then (if x5 ≤ (wrap64 (x5 + (x1.size : Int))) then (if (x0.extract (x5 : Int).toNat ((wrap64 (x5 + (x1.size : Int))) : Int).toNat).toList = x1.toList then (some x5) else (sanitize_zzIndex.l0 k x0 x1 (wrap64 (x5 + 1)))) else (none)) else (none)) else (some (-1))
def sanitize_zzIndex.f (k : Nat) (a0 : ByteArray) (a1 : ByteArray) : Option (Int) := sanitize_zzIndex.l0 k a0 a1 0
theorem sanitize_zzIndex.mono_l : ∀ k, (∀ y0 y1 y2, LeO (sanitize_zzIndex.l0 k y0 y1 y2) (sanitize_zzIndex.l0 (k + 1) y0 y1 y2))
  | 0 => fun _ _ _ r h => by simp [sanitize_zzIndex.l0] at h
  | k + 1 => by
    have ih0 := sanitize_zzIndex.mono_l k
    · intro y0 y1 y2
      unfold sanitize_zzIndex.l0
      repeat' first
      | (with_reducible exact ih0 _ _ _)
      | (with_reducible exact LeO.refl _)
      | (with_reducible exact LeO.none _)
      | (with_reducible refine LeO.ite ?_ ?_)
      | (with_reducible refine LeO.bind ?_ (fun _ => ?_))
      | exact ih0 _ _ _
      | exact LeO.none _
      | refine LeO.ite ?_ ?_
      | refine LeO.bind ?_ (fun _ => ?_)
theorem sanitize_zzIndex.mono : ∀ a0 a1 k, LeO (sanitize_zzIndex.f k a0 a1) (sanitize_zzIndex.f (k + 1) a0 a1) := by
  intro a0 a1 k
  have ih0 := sanitize_zzIndex.mono_l k
  unfold sanitize_zzIndex.f
  repeat' first
      | (with_reducible exact ih0 _ _ _)
      | (with_reducible exact LeO.refl _)
      | (with_reducible exact LeO.none _)
      | (with_reducible refine LeO.ite ?_ ?_)
      | (with_reducible refine LeO.bind ?_ (fun _ => ?_))
      | exact ih0 _ _ _
      | exact LeO.none _
      | refine LeO.ite ?_ ?_
      | refine LeO.bind ?_ (fun _ => ?_)
set_option maxHeartbeats 8000000 in
set_option maxRecDepth 100000 in
theorem sanitize_zzIndex.calls (k : Nat) (a0 : ByteArray) (a1 : ByteArray) (r : Int) (w : World) (h : sanitize_zzIndex.f k a0 a1 = some r) :
    Calls Try.prog 37 #[.string a0, .string a1] w fun e w' => e = .returned (.int .i64 r) ∧ Drawn0 w w' := by
  have H : (sanitize_zzIndex.l0 k a0 a1 0) = some r := h
  clear h
  have H' := Aside0.mk H
  clear H
  go_enter Try.func37, Try.ntmps37
  go_wp2
  go_loopg [5] k (fun kq v5 w' => ∃ (x5_1 : Int), v5 = .int .i64 x5_1 ∧ Aside0 (sanitize_zzIndex.l0 kq a0 a1 x5_1 = some r) ∧ Aside0 (kq ≤ k) ∧ Drawn0 w w')
  case atStart => exact ⟨(0), (by first | rfl | (simp; done) | (simp [*]; done) | (simp [xt_ne_nil]; done)), H', ⟨Nat.le_refl _⟩, by repeat (first | exact Drawn0.refl _ | apply Drawn0.step)⟩
  case round =>
    clear H'
    try clear p2
    obtain ⟨x5_1, rfl, HA, HK1, ⟨m1, rfl⟩⟩ := hrel
    cases gk with
    | zero => exact absurd HA.out (by simp [sanitize_zzIndex.l0])
    | succ k1 =>
      have H := HA.out
      clear HA
      simp only [sanitize_zzIndex.l0] at H
      by_cases c3 : (wrap64 (x5_1 + (a1.size : Int))) ≤ (a0.size : Int)
      · rw [if_pos c3] at H
        have c3b0 : decide ((wrap64 (x5_1 + (a1.size : Int))) ≤ (a0.size : Int)) = true := decide_eq_true c3
        clear c3
        by_cases c4 : 0 ≤ x5_1
        · rw [if_pos c4] at H
          have c4b0 := eq_true c4
          have c4b1 : decide (0 ≤ x5_1) = true := decide_eq_true c4
          clear c4
          by_cases c5 : x5_1 ≤ (wrap64 (x5_1 + (a1.size : Int)))
          · rw [if_pos c5] at H
            have c5b0 := eq_true c5
            have c5b1 : decide (x5_1 ≤ (wrap64 (x5_1 + (a1.size : Int)))) = true := decide_eq_true c5
            have c6b0 := eq_true (of_decide_eq_true (by first | (with_reducible assumption) | assumption) : (wrap64 (x5_1 + (a1.size : Int))) ≤ (a0.size : Int))
            by_cases c7 : (a0.extract (x5_1 : Int).toNat ((wrap64 (x5_1 + (a1.size : Int))) : Int).toNat).toList = a1.toList
            · rw [if_pos c7] at H
              have c7b0 : ((a0.extract (x5_1 : Int).toNat ((wrap64 (x5_1 + (a1.size : Int))) : Int).toNat).toList == a1.toList) = true := beq_iff_eq.mpr c7
              have c7b1 : ((a0.extract (x5_1 : Int).toNat ((wrap64 (x5_1 + (a1.size : Int))) : Int).toNat).toList != a1.toList) = false := bne_eq_false_iff_eq.mpr c7
              clear c7
              obtain rfl := Option.some.inj H
              go_wp2
              go_ret
              exact ⟨by first | rfl | (simp; done) | (simp [*]; done) | (simp [xt_ne_nil]; done), by repeat (first | exact Drawn0.refl _ | apply Drawn0.step)⟩
            · rw [if_neg c7] at H
              have c7b0 : ((a0.extract (x5_1 : Int).toNat ((wrap64 (x5_1 + (a1.size : Int))) : Int).toNat).toList == a1.toList) = false := beq_eq_false_iff_ne.mpr c7
              have c7b1 : ((a0.extract (x5_1 : Int).toNat ((wrap64 (x5_1 + (a1.size : Int))) : Int).toNat).toList != a1.toList) = true := bne_iff_ne.mpr c7
              have H' := Aside0.mk H
              clear H
              go_wp2
              go_roundg k1
              case measure => have := HK1.out; omega
              case rel => exact ⟨(wrap64 (x5_1 + 1)), (by first | rfl | (simp; done) | (simp [*]; done) | (simp [xt_ne_nil]; done)), H', ⟨by have := HK1.out; omega⟩, by repeat (first | exact Drawn0.refl _ | apply Drawn0.step)⟩
          · rw [if_neg c5] at H
            exact absurd H (by simp)
        · rw [if_neg c4] at H
          exact absurd H (by simp)
      · rw [if_neg c3] at H
        have c3b0 : decide ((wrap64 (x5_1 + (a1.size : Int))) ≤ (a0.size : Int)) = false := decide_eq_false c3
        clear c3
        obtain rfl := Option.some.inj H
        go_wp2
        go_ret
        exact ⟨by first | rfl | (simp; done) | (simp [*]; done) | (simp [xt_ne_nil]; done), by repeat (first | exact Drawn0.refl _ | apply Drawn0.step)⟩

/-! ### sanitize_zzContains: function 31 -/
def sanitize_zzContains.f (k : Nat) (a0 : ByteArray) (a1 : ByteArray) : Option (Bool) := (sanitize_zzIndex.f k a0 a1).bind fun t101 => (some (decide (t101 ≥ 0)))
theorem sanitize_zzContains.mono : ∀ a0 a1 k, LeO (sanitize_zzContains.f k a0 a1) (sanitize_zzContains.f (k + 1) a0 a1) := by
  intro a0 a1 k
  unfold sanitize_zzContains.f
  repeat' first
      | (with_reducible exact sanitize_zzIndex.mono _ _ _)
      | (with_reducible exact LeO.refl _)
      | (with_reducible exact LeO.none _)
      | (with_reducible refine LeO.ite ?_ ?_)
      | (with_reducible refine LeO.bind ?_ (fun _ => ?_))
      | exact sanitize_zzIndex.mono _ _ _
      | exact LeO.none _
      | refine LeO.ite ?_ ?_
      | refine LeO.bind ?_ (fun _ => ?_)
set_option maxHeartbeats 8000000 in
set_option maxRecDepth 100000 in
theorem sanitize_zzContains.calls (k : Nat) (a0 : ByteArray) (a1 : ByteArray) (r : Bool) (w : World) (h : sanitize_zzContains.f k a0 a1 = some r) :
    Calls Try.prog 31 #[.string a0, .string a1] w fun e w' => e = .returned (.bool r) ∧ Drawn0 w w' := by
  have H : ((sanitize_zzIndex.f k a0 a1).bind fun t101 => (some (decide (t101 ≥ 0)))) = some r := h
  clear h
  replace H := Option.bind_eq_some_iff.mp H
  obtain ⟨t101, A30, H⟩ := H
  replace H : (some (decide (t101 ≥ 0))) = some r := H
  have A3 := Aside0.mk A30
  clear A30
  obtain rfl := Option.some.inj H
  go_enter Try.func31, Try.ntmps31
  go_wp2_with (first | ((with_reducible refine gate_callee (f := 37) rfl ?_); refine goesL_ (some 7) rfl rfl Try.func37 (by kernel_rfl) rfl #[.string a0, .string a1] rfl (by (try simp only [List.map_toArray, List.map_cons, List.map_nil]); first | done | rfl | (simp only [List.length_drop, List.length_take]; rfl)) ?_; (with_reducible refine (sanitize_zzIndex.calls k a0 a1 t101 _ A3.out).mono ?_); rintro e w' ⟨rfl, ⟨nd, rfl⟩⟩; refine ⟨_, rfl, ?_⟩))
  go_ret
  exact ⟨by first | rfl | (simp; done) | (simp [*]; done) | (simp [xt_ne_nil]; done), by repeat (first | exact Drawn0.refl _ | apply Drawn0.step)⟩

/-! ### errors.New: an interface value over a pointer to a new block -/
abbrev errAt (b : Nat) : Value := .iface 48 (.pointer (some ⟨b, 0, none⟩))
/-- A new error is handed back. -/
def NewErr (e : Ending) : Prop := ∃ b, e = .returned (errAt b)
set_option maxHeartbeats 400000 in
theorem errors_New_any (a0 : ByteArray) (w : World) :
    Calls Try.prog 30 #[.string a0] w fun e w' => NewErr e ∧ Below w.heap.size w w' := by
  go_enter Try.func30, Try.ntmps30
  go_wp2
  go_ret
  exact ⟨⟨_, rfl⟩, (Below.refl _ _).alloc (Nat.le_refl _) _⟩

/-! ### impl_LeafCheck: function 14 -/
def impl_LeafCheck.f (k : Nat) (a0 : ByteArray) : Option Bool :=
  if a0.toList = ([] : List UInt8) then some false else if a0.toList = ([46] : List UInt8) then some false else if a0.toList = ([46, 46] : List UInt8) then some false
  else (sanitize_zzContains.f k a0 (⟨#[47]⟩ : ByteArray)).bind fun b => some (!b)
theorem impl_LeafCheck.mono : ∀ a0 k, LeO (impl_LeafCheck.f k a0) (impl_LeafCheck.f (k + 1) a0) := by
  intro a0 k
  unfold impl_LeafCheck.f
  exact LeO.ite (LeO.refl _) (LeO.ite (LeO.refl _) (LeO.ite (LeO.refl _) (LeO.bind (sanitize_zzContains.mono _ _ _) (fun _ => LeO.refl _))))

/-- What Leaf tells: no error, or a new one. -/
def impl_LeafCheck.Post (b : Bool) (w : World) (e : Ending) (w' : World) : Prop := (if b = true then e = .returned .nilIface else NewErr e) ∧ Below w.heap.size w w'
theorem impl_LeafCheck.Post.bad {w w' : World} {e : Ending} (h : NewErr e) (hb : Below w.heap.size w w') : impl_LeafCheck.Post false w e w' := ⟨by simpa using h, hb⟩
theorem impl_LeafCheck.Post.good {w w' : World} (hb : Below w.heap.size w w') : impl_LeafCheck.Post true w (.returned .nilIface) w' := ⟨by simp, hb⟩

set_option maxHeartbeats 800000 in
theorem impl_LeafCheck.leaf (k : Nat) (a0 : ByteArray) (r : Bool) (w : World) (h : impl_LeafCheck.f k a0 = some r) :
    Calls Try.prog 23 #[.string a0] w (impl_LeafCheck.Post r w) := by
  unfold impl_LeafCheck.f at h
  by_cases c1 : a0.toList = ([] : List UInt8)
  · rw [if_pos c1] at h
    obtain rfl := Option.some.inj h
    have c1b := beq_iff_eq.mpr c1
    clear h
    go_enter Try.func23, Try.ntmps23
    go_wp2_with (go_at_call 30; (with_reducible refine (errors_New_any _ _).mono ?_); rintro e w1 ⟨⟨b, rfl⟩, hb1⟩)
    go_ret
    exact impl_LeafCheck.Post.bad ⟨b, rfl⟩ hb1
  rw [if_neg c1] at h
  have c1b : (a0.toList == ([] : List UInt8)) = false := beq_eq_false_iff_ne.mpr c1
  have c1n : (a0.toList != ([] : List UInt8)) = true := bne_iff_ne.mpr c1
  by_cases c2 : a0.toList = ([46] : List UInt8)
  · rw [if_pos c2] at h
    obtain rfl := Option.some.inj h
    have c2b := beq_iff_eq.mpr c2
    clear h
    go_enter Try.func23, Try.ntmps23
    go_wp2_with (go_at_call 30; (with_reducible refine (errors_New_any _ _).mono ?_); rintro e w1 ⟨⟨b, rfl⟩, hb1⟩)
    go_ret
    exact impl_LeafCheck.Post.bad ⟨b, rfl⟩ hb1
  rw [if_neg c2] at h
  have c2b : (a0.toList == ([46] : List UInt8)) = false := beq_eq_false_iff_ne.mpr c2
  by_cases c3 : a0.toList = ([46, 46] : List UInt8)
  · rw [if_pos c3] at h
    obtain rfl := Option.some.inj h
    have c3b := beq_iff_eq.mpr c3
    clear h
    go_enter Try.func23, Try.ntmps23
    go_wp2_with (go_at_call 30; (with_reducible refine (errors_New_any _ _).mono ?_); rintro e w1 ⟨⟨b, rfl⟩, hb1⟩)
    go_ret
    exact impl_LeafCheck.Post.bad ⟨b, rfl⟩ hb1
  rw [if_neg c3] at h
  have c3b : (a0.toList == ([46, 46] : List UInt8)) = false := beq_eq_false_iff_ne.mpr c3
  obtain ⟨b, hb, h2⟩ := Option.bind_eq_some_iff.mp h
  have HF := Lib.hid hb
  clear h hb
  cases b with
  | true =>
    obtain rfl : r = false := by simpa using (Option.some.inj h2).symm
    clear h2
    go_enter Try.func23, Try.ntmps23
    go_wp2_with (first | (go_at_call 31; (with_reducible refine (sanitize_zzContains.calls k _ _ true _ HF.out).mono ?_); rintro e w2 ⟨rfl, hd⟩) | (go_at_call 30; (with_reducible refine (errors_New_any _ _).mono ?_); rintro e w1 ⟨⟨b, rfl⟩, hb1⟩))
    go_ret
    exact impl_LeafCheck.Post.bad ⟨b, rfl⟩ (hd.below.trans (hb1.mono hd.below.size))
  | false =>
    obtain rfl : r = true := by simpa using (Option.some.inj h2).symm
    clear h2
    go_enter Try.func23, Try.ntmps23
    go_wp2_with (first | (go_at_call 31; (with_reducible refine (sanitize_zzContains.calls k _ _ false _ HF.out).mono ?_); rintro e w2 ⟨rfl, hd⟩) | (go_at_call 30; (with_reducible refine (errors_New_any _ _).mono ?_); rintro e w1 ⟨⟨b, rfl⟩, hb1⟩))
    go_ret
    exact impl_LeafCheck.Post.good hd.below

set_option maxHeartbeats 400000 in
theorem impl_LeafCheck.calls (k : Nat) (a0 : ByteArray) (r : Bool) (w : World) (h : impl_LeafCheck.f k a0 = some r) :
    Calls Try.prog 14 #[.string a0] w fun e w' => e = .returned (.bool r) ∧ Below w.heap.size w w' := by
  have HF := Lib.hid h
  clear h
  cases r with
  | true =>
    go_enter Try.func14, Try.ntmps14
    go_wp2_with (go_at_call 23; (with_reducible refine (impl_LeafCheck.leaf k _ true _ HF.out).mono ?_); rintro e w1 ⟨he, hb1⟩; rw [if_pos rfl] at he; subst he)
    go_ret
    exact ⟨rfl, hb1⟩
  | false =>
    go_enter Try.func14, Try.ntmps14
    go_wp2_with (go_at_call 23; (with_reducible refine (impl_LeafCheck.leaf k _ false _ HF.out).mono ?_); rintro e w1 ⟨he, hb1⟩; rw [if_neg (by simp)] at he; obtain ⟨b, rfl⟩ := he)
    go_ret
    exact ⟨rfl, hb1⟩

/-! ### spec_LastSlash: function 24 -/
def spec_LastSlash.l0 : Nat → ByteArray → Int → Option (Int)
  | 0, _, _ => none
  | k + 1, x0, x3 => if x3 ≥ 0 then (if 0 ≤ x3 then (if x3 < (x0.size : Int) then (if (bt x0 x3) = 47 then (some x3) else (spec_LastSlash.l0 k x0 (wrap64 (x3 - 1)))) else (none)) else (none)) else (some (-1))
def spec_LastSlash.f (k : Nat) (a0 : ByteArray) : Option (Int) := spec_LastSlash.l0 k a0 (wrap64 ((a0.size : Int) - 1))
theorem spec_LastSlash.mono_l : ∀ k, (∀ y0 y1, LeO (spec_LastSlash.l0 k y0 y1) (spec_LastSlash.l0 (k + 1) y0 y1))
  | 0 => fun _ _ r h => by simp [spec_LastSlash.l0] at h
  | k + 1 => by
    have ih0 := spec_LastSlash.mono_l k
    · intro y0 y1
      unfold spec_LastSlash.l0
      repeat' first
      | (with_reducible exact ih0 _ _)
      | (with_reducible exact LeO.refl _)
      | (with_reducible exact LeO.none _)
      | (with_reducible refine LeO.ite ?_ ?_)
      | (with_reducible refine LeO.bind ?_ (fun _ => ?_))
      | exact ih0 _ _
      | exact LeO.none _
      | refine LeO.ite ?_ ?_
      | refine LeO.bind ?_ (fun _ => ?_)
theorem spec_LastSlash.mono : ∀ a0 k, LeO (spec_LastSlash.f k a0) (spec_LastSlash.f (k + 1) a0) := by
  intro a0 k
  have ih0 := spec_LastSlash.mono_l k
  unfold spec_LastSlash.f
  repeat' first
      | (with_reducible exact ih0 _ _)
      | (with_reducible exact LeO.refl _)
      | (with_reducible exact LeO.none _)
      | (with_reducible refine LeO.ite ?_ ?_)
      | (with_reducible refine LeO.bind ?_ (fun _ => ?_))
      | exact ih0 _ _
      | exact LeO.none _
      | refine LeO.ite ?_ ?_
      | refine LeO.bind ?_ (fun _ => ?_)
set_option maxHeartbeats 8000000 in
set_option maxRecDepth 100000 in
theorem spec_LastSlash.calls (k : Nat) (a0 : ByteArray) (r : Int) (w : World) (h : spec_LastSlash.f k a0 = some r) :
    Calls Try.prog 24 #[.string a0] w fun e w' => e = .returned (.int .i64 r) ∧ Drawn0 w w' := by
  have H : (spec_LastSlash.l0 k a0 (wrap64 ((a0.size : Int) - 1))) = some r := h
  clear h
  have H' := Aside0.mk H
  clear H
  go_enter Try.func24, Try.ntmps24
  go_wp2
  go_loopg [3] k (fun kq v3 w' => ∃ (x3_1 : Int), v3 = .int .i64 x3_1 ∧ Aside0 (spec_LastSlash.l0 kq a0 x3_1 = some r) ∧ Aside0 (kq ≤ k) ∧ Drawn0 w w')
  case atStart => exact ⟨(wrap64 ((a0.size : Int) - 1)), (by first | rfl | (simp; done) | (simp [*]; done) | (simp [xt_ne_nil]; done)), H', ⟨Nat.le_refl _⟩, by repeat (first | exact Drawn0.refl _ | apply Drawn0.step)⟩
  case round =>
    clear H'
    obtain ⟨x3_1, rfl, HA, HK1, ⟨m1, rfl⟩⟩ := hrel
    cases gk with
    | zero => exact absurd HA.out (by simp [spec_LastSlash.l0])
    | succ k1 =>
      have H := HA.out
      clear HA
      simp only [spec_LastSlash.l0] at H
      by_cases c2 : x3_1 ≥ 0
      · rw [if_pos c2] at H
        have c2b0 : decide (0 ≤ x3_1) = true := decide_eq_true c2
        clear c2
        by_cases c3 : 0 ≤ x3_1
        · rw [if_pos c3] at H
          have c3b0 : decide (0 ≤ x3_1) = true := decide_eq_true c3
          clear c3
          by_cases c4 : x3_1 < (a0.size : Int)
          · rw [if_pos c4] at H
            have c4b0 : decide (x3_1 < (a0.size : Int)) = true := decide_eq_true c4
            clear c4
            by_cases c6 : (bt a0 x3_1) = 47
            · rw [if_pos c6] at H
              have c6b0 : ((bt a0 x3_1) == 47) = true := beq_iff_eq.mpr c6
              have c6b1 : ((bt a0 x3_1) != 47) = false := bne_eq_false_iff_eq.mpr c6
              clear c6
              obtain rfl := Option.some.inj H
              have p5 : 0 ≤ (x3_1 : Int) := of_decide_eq_true (by first | (with_reducible assumption) | assumption)
              have q5 : x3_1 < (a0.size : Int) := of_decide_eq_true (by first | (with_reducible assumption) | assumption)
              have hx5 := bt_at a0 x3_1
              replace p5 := eq_true p5
              replace q5 := eq_true q5
              go_wp2
              go_ret
              exact ⟨by first | rfl | (simp; done) | (simp [*]; done) | (simp [xt_ne_nil]; done), by repeat (first | exact Drawn0.refl _ | apply Drawn0.step)⟩
            · rw [if_neg c6] at H
              have c6b0 : ((bt a0 x3_1) == 47) = false := beq_eq_false_iff_ne.mpr c6
              have c6b1 : ((bt a0 x3_1) != 47) = true := bne_iff_ne.mpr c6
              have H' := Aside0.mk H
              clear H
              have p5 : 0 ≤ (x3_1 : Int) := of_decide_eq_true (by first | (with_reducible assumption) | assumption)
              have q5 : x3_1 < (a0.size : Int) := of_decide_eq_true (by first | (with_reducible assumption) | assumption)
              have hx5 := bt_at a0 x3_1
              replace p5 := eq_true p5
              replace q5 := eq_true q5
              go_wp2
              go_roundg k1
              case measure => have := HK1.out; omega
              case rel => exact ⟨(wrap64 (x3_1 - 1)), (by first | rfl | (simp; done) | (simp [*]; done) | (simp [xt_ne_nil]; done)), H', ⟨by have := HK1.out; omega⟩, by repeat (first | exact Drawn0.refl _ | apply Drawn0.step)⟩
          · rw [if_neg c4] at H
            exact absurd H (by simp)
        · rw [if_neg c3] at H
          exact absurd H (by simp)
      · rw [if_neg c2] at H
        have c2b0 : decide (0 ≤ x3_1) = false := decide_eq_false c2
        clear c2
        obtain rfl := Option.some.inj H
        go_wp2
        go_ret
        exact ⟨by first | rfl | (simp; done) | (simp [*]; done) | (simp [xt_ne_nil]; done), by repeat (first | exact Drawn0.refl _ | apply Drawn0.step)⟩

/-! ### spec_LeafSafe: function 15 -/
def spec_LeafSafe.f (k : Nat) (a0 : ByteArray) : Option (Bool) := if a0.toList = ([] : List UInt8) then (some false) else (if a0.toList = ([46] : List UInt8) then (some false) else (if a0.toList = ([46, 46] : List UInt8) then (some false) else ((spec_LastSlash.f k a0).bind fun t102 => (some (decide (t102 < 0))))))
theorem spec_LeafSafe.mono : ∀ a0 k, LeO (spec_LeafSafe.f k a0) (spec_LeafSafe.f (k + 1) a0) := by
  intro a0 k
  unfold spec_LeafSafe.f
  repeat' first
      | (with_reducible exact spec_LastSlash.mono _ _)
      | (with_reducible exact LeO.refl _)
      | (with_reducible exact LeO.none _)
      | (with_reducible refine LeO.ite ?_ ?_)
      | (with_reducible refine LeO.bind ?_ (fun _ => ?_))
      | exact spec_LastSlash.mono _ _
      | exact LeO.none _
      | refine LeO.ite ?_ ?_
      | refine LeO.bind ?_ (fun _ => ?_)
set_option maxHeartbeats 8000000 in
set_option maxRecDepth 100000 in
theorem spec_LeafSafe.calls (k : Nat) (a0 : ByteArray) (r : Bool) (w : World) (h : spec_LeafSafe.f k a0 = some r) :
    Calls Try.prog 15 #[.string a0] w fun e w' => e = .returned (.bool r) ∧ Drawn0 w w' := by
  have H : (if a0.toList = ([] : List UInt8) then (some false) else (if a0.toList = ([46] : List UInt8) then (some false) else (if a0.toList = ([46, 46] : List UInt8) then (some false) else ((spec_LastSlash.f k a0).bind fun t102 => (some (decide (t102 < 0))))))) = some r := h
  clear h
  by_cases c2 : a0.toList = ([] : List UInt8)
  · rw [if_pos c2] at H
    have c2b0 : (a0.toList == ([] : List UInt8)) = true := beq_iff_eq.mpr c2
    have c2b1 : (a0.toList != ([] : List UInt8)) = false := bne_eq_false_iff_eq.mpr c2
    clear c2
    obtain rfl := Option.some.inj H
    go_enter Try.func15, Try.ntmps15
    go_wp2
    go_ret
    exact ⟨by first | rfl | (simp; done) | (simp [*]; done) | (simp [xt_ne_nil]; done), by repeat (first | exact Drawn0.refl _ | apply Drawn0.step)⟩
  · rw [if_neg c2] at H
    have c2b0 : (a0.toList == ([] : List UInt8)) = false := beq_eq_false_iff_ne.mpr c2
    have c2b1 : (a0.toList != ([] : List UInt8)) = true := bne_iff_ne.mpr c2
    by_cases c3 : a0.toList = ([46] : List UInt8)
    · rw [if_pos c3] at H
      have c3b0 : (a0.toList == ([46] : List UInt8)) = true := beq_iff_eq.mpr c3
      have c3b1 : (a0.toList != ([46] : List UInt8)) = false := bne_eq_false_iff_eq.mpr c3
      clear c3
      obtain rfl := Option.some.inj H
      go_enter Try.func15, Try.ntmps15
      go_wp2
      go_ret
      exact ⟨by first | rfl | (simp; done) | (simp [*]; done) | (simp [xt_ne_nil]; done), by repeat (first | exact Drawn0.refl _ | apply Drawn0.step)⟩
    · rw [if_neg c3] at H
      have c3b0 : (a0.toList == ([46] : List UInt8)) = false := beq_eq_false_iff_ne.mpr c3
      have c3b1 : (a0.toList != ([46] : List UInt8)) = true := bne_iff_ne.mpr c3
      by_cases c4 : a0.toList = ([46, 46] : List UInt8)
      · rw [if_pos c4] at H
        have c4b0 : (a0.toList == ([46, 46] : List UInt8)) = true := beq_iff_eq.mpr c4
        have c4b1 : (a0.toList != ([46, 46] : List UInt8)) = false := bne_eq_false_iff_eq.mpr c4
        clear c4
        obtain rfl := Option.some.inj H
        go_enter Try.func15, Try.ntmps15
        go_wp2
        go_ret
        exact ⟨by first | rfl | (simp; done) | (simp [*]; done) | (simp [xt_ne_nil]; done), by repeat (first | exact Drawn0.refl _ | apply Drawn0.step)⟩
      · rw [if_neg c4] at H
        have c4b0 : (a0.toList == ([46, 46] : List UInt8)) = false := beq_eq_false_iff_ne.mpr c4
        have c4b1 : (a0.toList != ([46, 46] : List UInt8)) = true := bne_iff_ne.mpr c4
        replace H := Option.bind_eq_some_iff.mp H
        obtain ⟨t102, A50, H⟩ := H
        replace H : (some (decide (t102 < 0))) = some r := H
        have A5 := Aside0.mk A50
        clear A50
        obtain rfl := Option.some.inj H
        go_enter Try.func15, Try.ntmps15
        go_wp2_with (first | (go_at_call 24; (with_reducible refine (spec_LastSlash.calls k a0 t102 _ A5.out).mono ?_); rintro e w' ⟨rfl, ⟨nd, rfl⟩⟩))
        go_ret
        exact ⟨by first | rfl | (simp; done) | (simp [*]; done) | (simp [xt_ne_nil]; done), by repeat (first | exact Drawn0.refl _ | apply Drawn0.step)⟩

/-! ### laws_FnLeafCheck: function 6 -/
def laws_FnLeafCheck.f (k : Nat) (a0 : ByteArray) : Option (Bool) := if (a0.size : Int) > 2147483647 then (some true) else (if (a0.size : Int) > 5000 then (some true) else ((impl_LeafCheck.f k a0).bind fun t103 => ((spec_LeafSafe.f k a0).bind fun t104 => (if (t103 == t104) = true then ((impl_LeafCheck.f k (⟨#[97]⟩ : ByteArray)).bind fun t105 => (if t105 = true then ((impl_LeafCheck.f k (⟨#[46, 46]⟩ : ByteArray)).bind fun t106 => (some (!t106))) else (some false))) else (some false)))))
theorem laws_FnLeafCheck.mono : ∀ a0 k, LeO (laws_FnLeafCheck.f k a0) (laws_FnLeafCheck.f (k + 1) a0) := by
  intro a0 k
  unfold laws_FnLeafCheck.f
  repeat' first
      | (with_reducible exact impl_LeafCheck.mono _ _)
      | (with_reducible exact spec_LeafSafe.mono _ _)
      | (with_reducible exact LeO.refl _)
      | (with_reducible exact LeO.none _)
      | (with_reducible refine LeO.ite ?_ ?_)
      | (with_reducible refine LeO.bind ?_ (fun _ => ?_))
      | exact impl_LeafCheck.mono _ _
      | exact spec_LeafSafe.mono _ _
      | exact LeO.none _
      | refine LeO.ite ?_ ?_
      | refine LeO.bind ?_ (fun _ => ?_)
set_option maxHeartbeats 8000000 in
set_option maxRecDepth 100000 in
theorem laws_FnLeafCheck.calls (k : Nat) (a0 : ByteArray) (r : Bool) (w : World) (h : laws_FnLeafCheck.f k a0 = some r) :
    Calls Try.prog 6 #[.string a0] w fun e w' => e = .returned (.bool r) ∧ Below w.heap.size w w' := by
  have HB := Aside0.mk (Below.refl w.heap.size w)
  have H : (if (a0.size : Int) > 2147483647 then (some true) else (if (a0.size : Int) > 5000 then (some true) else ((impl_LeafCheck.f k a0).bind fun t103 => ((spec_LeafSafe.f k a0).bind fun t104 => (if (t103 == t104) = true then ((impl_LeafCheck.f k (⟨#[97]⟩ : ByteArray)).bind fun t105 => (if t105 = true then ((impl_LeafCheck.f k (⟨#[46, 46]⟩ : ByteArray)).bind fun t106 => (some (!t106))) else (some false))) else (some false)))))) = some r := h
  clear h
  by_cases c2 : (a0.size : Int) > 2147483647
  · rw [if_pos c2] at H
    have c2b0 : decide (2147483647 < (a0.size : Int)) = true := decide_eq_true c2
    have c2b1 : decide (2147483647 < a0.size) = true := decide_eq_true (by omega)
    clear c2
    obtain rfl := Option.some.inj H
    go_enter Try.func6, Try.ntmps6
    go_wp2
    go_ret
    exact ⟨by first | rfl | (simp [errW_none, errW_some] <;> rfl) | (simp [*, errW_none, errW_some] <;> rfl), by repeat (first | (with_reducible first | exact HB.out | apply below_alloc | apply pw_below_drewN | apply below_drew1) | exact HB.out)⟩
  · rw [if_neg c2] at H
    have c2b0 : decide (2147483647 < (a0.size : Int)) = false := decide_eq_false c2
    have c2b1 : decide (2147483647 < a0.size) = false := decide_eq_false (by omega)
    clear c2
    by_cases c3 : (a0.size : Int) > 5000
    · rw [if_pos c3] at H
      have c3b0 : decide (5000 < (a0.size : Int)) = true := decide_eq_true c3
      have c3b1 : decide (5000 < a0.size) = true := decide_eq_true (by omega)
      clear c3
      obtain rfl := Option.some.inj H
      go_enter Try.func6, Try.ntmps6
      go_wp2
      go_ret
      exact ⟨by first | rfl | (simp [errW_none, errW_some] <;> rfl) | (simp [*, errW_none, errW_some] <;> rfl), by repeat (first | (with_reducible first | exact HB.out | apply below_alloc | apply pw_below_drewN | apply below_drew1) | exact HB.out)⟩
    · rw [if_neg c3] at H
      have c3b0 : decide (5000 < (a0.size : Int)) = false := decide_eq_false c3
      have c3b1 : decide (5000 < a0.size) = false := decide_eq_false (by omega)
      clear c3
      replace H := Option.bind_eq_some_iff.mp H
      obtain ⟨t103, A40, H⟩ := H
      replace H : ((spec_LeafSafe.f k a0).bind fun t104 => (if (t103 == t104) = true then ((impl_LeafCheck.f k (⟨#[97]⟩ : ByteArray)).bind fun t105 => (if t105 = true then ((impl_LeafCheck.f k (⟨#[46, 46]⟩ : ByteArray)).bind fun t106 => (some (!t106))) else (some false))) else (some false))) = some r := H
      have A4 := Aside0.mk A40
      clear A40
      replace H := Option.bind_eq_some_iff.mp H
      obtain ⟨t104, A50, H⟩ := H
      replace H : (if (t103 == t104) = true then ((impl_LeafCheck.f k (⟨#[97]⟩ : ByteArray)).bind fun t105 => (if t105 = true then ((impl_LeafCheck.f k (⟨#[46, 46]⟩ : ByteArray)).bind fun t106 => (some (!t106))) else (some false))) else (some false)) = some r := H
      have A5 := Aside0.mk A50
      clear A50
      by_cases c6 : (t103 == t104) = true
      · rw [if_pos c6] at H
        have c6b0 : (t103 == t104) = true := c6
        (try (have c6b1 : decide (t103 = t104) = true := by simpa using c6))
        (try (have c6b2 : (t103 == t104) = true := by simpa using c6))
        clear c6
        replace H := Option.bind_eq_some_iff.mp H
        obtain ⟨t105, A70, H⟩ := H
        replace H : (if t105 = true then ((impl_LeafCheck.f k (⟨#[46, 46]⟩ : ByteArray)).bind fun t106 => (some (!t106))) else (some false)) = some r := H
        have A7 := Aside0.mk A70
        clear A70
        by_cases c8 : t105 = true
        · subst c8
          have H1 : ((impl_LeafCheck.f k (⟨#[46, 46]⟩ : ByteArray)).bind fun t106 => (some (!t106))) = some r := by rw [if_pos rfl] at H; exact H
          clear H
          have H := H1
          clear H1
          replace H := Option.bind_eq_some_iff.mp H
          obtain ⟨t106, A90, H⟩ := H
          replace H : (some (!t106)) = some r := H
          have A9 := Aside0.mk A90
          clear A90
          obtain rfl := Option.some.inj H
          go_enter Try.func6, Try.ntmps6
          go_wp2_with (first | ((with_reducible refine gate_callee (f := 14) rfl ?_); refine goesL_ (some 10) rfl rfl Try.func14 (by kernel_rfl) rfl #[.string a0] rfl (by (try simp only [List.map_toArray, List.map_cons, List.map_nil]); first | done | rfl | (simp only [List.length_drop, List.length_take]; rfl)) ?_; (with_reducible refine (impl_LeafCheck.calls k a0 t103 _ A4.out).mono ?_); rintro e w10 ⟨rfl, hb⟩; refine ⟨_, rfl, ?_⟩; have n0_ := Aside0.mk (below_step (by repeat (first | (with_reducible first | exact HB.out | apply below_alloc | apply pw_below_drewN | apply below_drew1) | exact HB.out)) hb); clear HB; have HB := n0_; clear n0_; (try clear hb); (try clear hb2); (try clear hk); (try clear hi)) | ((with_reducible refine gate_callee (f := 15) rfl ?_); refine goesL_ (some 12) rfl rfl Try.func15 (by kernel_rfl) rfl #[.string a0] rfl (by (try simp only [List.map_toArray, List.map_cons, List.map_nil]); first | done | rfl | (simp only [List.length_drop, List.length_take]; rfl)) ?_; (with_reducible refine (spec_LeafSafe.calls k a0 t104 _ A5.out).mono ?_); rintro e w' ⟨rfl, ⟨nd, rfl⟩⟩; refine ⟨_, rfl, ?_⟩) | (go_at_call 14; (with_reducible refine (impl_LeafCheck.calls k (⟨#[97]⟩ : ByteArray) true _ A7.out).mono ?_); rintro e w11 ⟨rfl, hb⟩; have n0_ := Aside0.mk (below_step (by repeat (first | (with_reducible first | exact HB.out | apply below_alloc | apply pw_below_drewN | apply below_drew1) | exact HB.out)) hb); clear HB; have HB := n0_; clear n0_; (try clear hb); (try clear hb2); (try clear hk); (try clear hi)) | (go_at_call 14; (with_reducible refine (impl_LeafCheck.calls k (⟨#[46, 46]⟩ : ByteArray) t106 _ A9.out).mono ?_); rintro e w12 ⟨rfl, hb⟩; have n0_ := Aside0.mk (below_step (by repeat (first | (with_reducible first | exact HB.out | apply below_alloc | apply pw_below_drewN | apply below_drew1) | exact HB.out)) hb); clear HB; have HB := n0_; clear n0_; (try clear hb); (try clear hb2); (try clear hk); (try clear hi)))
          go_ret
          exact ⟨by first | rfl | (simp [errW_none, errW_some] <;> rfl) | (simp [*, errW_none, errW_some] <;> rfl), by repeat (first | (with_reducible first | exact HB.out | apply below_alloc | apply pw_below_drewN | apply below_drew1) | exact HB.out)⟩
        · replace c8 := Bool.eq_false_iff.mpr c8
          subst c8
          have H1 : (some false) = some r := by rw [if_neg (show ¬ (false = true) by decide)] at H; exact H
          clear H
          have H := H1
          clear H1
          obtain rfl := Option.some.inj H
          go_enter Try.func6, Try.ntmps6
          go_wp2_with (first | ((with_reducible refine gate_callee (f := 14) rfl ?_); refine goesL_ (some 10) rfl rfl Try.func14 (by kernel_rfl) rfl #[.string a0] rfl (by (try simp only [List.map_toArray, List.map_cons, List.map_nil]); first | done | rfl | (simp only [List.length_drop, List.length_take]; rfl)) ?_; (with_reducible refine (impl_LeafCheck.calls k a0 t103 _ A4.out).mono ?_); rintro e w13 ⟨rfl, hb⟩; refine ⟨_, rfl, ?_⟩; have n0_ := Aside0.mk (below_step (by repeat (first | (with_reducible first | exact HB.out | apply below_alloc | apply pw_below_drewN | apply below_drew1) | exact HB.out)) hb); clear HB; have HB := n0_; clear n0_; (try clear hb); (try clear hb2); (try clear hk); (try clear hi)) | ((with_reducible refine gate_callee (f := 15) rfl ?_); refine goesL_ (some 12) rfl rfl Try.func15 (by kernel_rfl) rfl #[.string a0] rfl (by (try simp only [List.map_toArray, List.map_cons, List.map_nil]); first | done | rfl | (simp only [List.length_drop, List.length_take]; rfl)) ?_; (with_reducible refine (spec_LeafSafe.calls k a0 t104 _ A5.out).mono ?_); rintro e w' ⟨rfl, ⟨nd, rfl⟩⟩; refine ⟨_, rfl, ?_⟩) | (go_at_call 14; (with_reducible refine (impl_LeafCheck.calls k (⟨#[97]⟩ : ByteArray) false _ A7.out).mono ?_); rintro e w14 ⟨rfl, hb⟩; have n0_ := Aside0.mk (below_step (by repeat (first | (with_reducible first | exact HB.out | apply below_alloc | apply pw_below_drewN | apply below_drew1) | exact HB.out)) hb); clear HB; have HB := n0_; clear n0_; (try clear hb); (try clear hb2); (try clear hk); (try clear hi)))
          go_ret
          exact ⟨by first | rfl | (simp [errW_none, errW_some] <;> rfl) | (simp [*, errW_none, errW_some] <;> rfl), by repeat (first | (with_reducible first | exact HB.out | apply below_alloc | apply pw_below_drewN | apply below_drew1) | exact HB.out)⟩
      · rw [if_neg c6] at H
        have c6b0 : (t103 == t104) = false := by simpa using c6
        (try (have c6b1 : decide (t103 = t104) = false := by simpa using c6))
        (try (have c6b2 : (t103 == t104) = false := by simpa using c6))
        (try (have c6b3 : ¬ (t103 = t104) := by simpa using c6))
        clear c6
        obtain rfl := Option.some.inj H
        go_enter Try.func6, Try.ntmps6
        go_wp2_with (first | ((with_reducible refine gate_callee (f := 14) rfl ?_); refine goesL_ (some 10) rfl rfl Try.func14 (by kernel_rfl) rfl #[.string a0] rfl (by (try simp only [List.map_toArray, List.map_cons, List.map_nil]); first | done | rfl | (simp only [List.length_drop, List.length_take]; rfl)) ?_; (with_reducible refine (impl_LeafCheck.calls k a0 t103 _ A4.out).mono ?_); rintro e w15 ⟨rfl, hb⟩; refine ⟨_, rfl, ?_⟩; have n0_ := Aside0.mk (below_step (by repeat (first | (with_reducible first | exact HB.out | apply below_alloc | apply pw_below_drewN | apply below_drew1) | exact HB.out)) hb); clear HB; have HB := n0_; clear n0_; (try clear hb); (try clear hb2); (try clear hk); (try clear hi)) | ((with_reducible refine gate_callee (f := 15) rfl ?_); refine goesL_ (some 12) rfl rfl Try.func15 (by kernel_rfl) rfl #[.string a0] rfl (by (try simp only [List.map_toArray, List.map_cons, List.map_nil]); first | done | rfl | (simp only [List.length_drop, List.length_take]; rfl)) ?_; (with_reducible refine (spec_LeafSafe.calls k a0 t104 _ A5.out).mono ?_); rintro e w' ⟨rfl, ⟨nd, rfl⟩⟩; refine ⟨_, rfl, ?_⟩))
        go_ret
        exact ⟨by first | rfl | (simp [errW_none, errW_some] <;> rfl) | (simp [*, errW_none, errW_some] <;> rfl), by repeat (first | (with_reducible first | exact HB.out | apply below_alloc | apply pw_below_drewN | apply below_drew1) | exact HB.out)⟩

/-- THE ONE PURE STATEMENT of laws_FnLeafCheck: yours. -/
def laws_FnLeafCheck.Pure : Prop := ∀ (a0 : ByteArray), a0.size ≤ 140737488351232 → ∃ k, laws_FnLeafCheck.f k a0 = some true
theorem laws_FnLeafCheck.walk (P : laws_FnLeafCheck.Pure) (a0 : ByteArray) (w : World) (w0 : a0.size ≤ 140737488351232) :
    Calls Try.prog 6 #[.string a0] w fun e w' => e = .returned (.bool true) ∧ Below w.heap.size w w' := by
  obtain ⟨k, h⟩ := P a0 w0
  refine (laws_FnLeafCheck.calls k a0 true w h).mono ?_
  rintro e w' ⟨rfl, hd⟩
  exact ⟨rfl, hd⟩

end Go.Proofs.Ytecfojgamdilnaa.PFnLeafCheck

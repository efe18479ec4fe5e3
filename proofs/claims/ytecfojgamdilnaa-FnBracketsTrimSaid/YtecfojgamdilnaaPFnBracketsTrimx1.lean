-- Written by a program of this session's (over the kit's print), with contracts proved by hand among what it calls.
import Derived.Test.YtecfojgamdilnaaPFnBracketsTrimx0
namespace Go.Proofs.Ytecfojgamdilnaa.PFnBracketsTrim
open Go.RowKit Go.Proofs.YtecfojgamdilnaaW.PrintWords Go.Proofs.YtecfojgamdilnaaW.PrintLast Go.Proofs.YtecfojgamdilnaaW.PrintMore
attribute [local go_sem] max2_int min2_int max_two min_two max_three min_three max_four min_four   -- for this text's walks alone
set_option linter.unusedVariables false
set_option linter.unusedSimpArgs false

/-! ### transform_zzTrimRight: function 39 -/
mutual
def transform_zzTrimRight.l0 : Nat → ByteArray → ByteArray → Int → Option (ByteArray)
  | 0, _, _, _ => none
  | k + 1, x0, x1, x5 => if x5 > 0 then (transform_zzTrimRight.l1 k x0 x1 x5 false 0) else (if 0 ≤ x5 then (if x5 ≤ (x0.size : Int) then (some (x0.extract 0 (x5 : Int).toNat)) else (none)) else (none))
def transform_zzTrimRight.l1 : Nat → ByteArray → ByteArray → Int → Bool → Int → Option (ByteArray)
  | 0, _, _, _, _, _ => none
  | k + 1, x0, x1, x5, x6, x7 => if x7 < (x1.size : Int) then (if 0 ≤ x7 then (if 0 ≤ (wrap64 (x5 - 1)) then (if (wrap64 (x5 - 1)) < (x0.size : Int) then (if (bt x1 x7) = (bt x0 (wrap64 (x5 - 1))) then (transform_zzTrimRight.l1 k x0 x1 x5 true (wrap64 (x7 + 1))) else (transform_zzTrimRight.l1 k x0 x1 x5 x6 (wrap64 (x7 + 1)))) else (none)) else (none)) else (none)) else (if x6 = true then (transform_zzTrimRight.l0 k x0 x1 (wrap64 (x5 - 1))) else (if 0 ≤ x5 then (if x5 ≤ (x0.size : Int) then (some (x0.extract 0 (x5 : Int).toNat)) else (none)) else (none)))
end
def transform_zzTrimRight.f (k : Nat) (a0 : ByteArray) (a1 : ByteArray) : Option (ByteArray) := transform_zzTrimRight.l0 k a0 a1 (a0.size : Int)
theorem transform_zzTrimRight.mono_l : ∀ k, (∀ y0 y1 y2, LeO (transform_zzTrimRight.l0 k y0 y1 y2) (transform_zzTrimRight.l0 (k + 1) y0 y1 y2)) ∧ (∀ y0 y1 y2 y3 y4, LeO (transform_zzTrimRight.l1 k y0 y1 y2 y3 y4) (transform_zzTrimRight.l1 (k + 1) y0 y1 y2 y3 y4))
  | 0 => ⟨fun _ _ _ r h => by simp [transform_zzTrimRight.l0] at h, fun _ _ _ _ _ r h => by simp [transform_zzTrimRight.l1] at h⟩
  | k + 1 => by
    obtain ⟨ih0, ih1⟩ := transform_zzTrimRight.mono_l k
    refine ⟨?_, ?_⟩
    · intro y0 y1 y2
      unfold transform_zzTrimRight.l0
      repeat' first
      | (with_reducible exact ih0 _ _ _)
      | (with_reducible exact ih1 _ _ _ _ _)
      | (with_reducible exact LeO.refl _)
      | (with_reducible exact LeO.none _)
      | (with_reducible refine LeO.ite ?_ ?_)
      | (with_reducible refine LeO.bind ?_ (fun _ => ?_))
      | exact ih0 _ _ _
      | exact ih1 _ _ _ _ _
      | exact LeO.none _
      | refine LeO.ite ?_ ?_
      | refine LeO.bind ?_ (fun _ => ?_)
    · intro y0 y1 y2 y3 y4
      unfold transform_zzTrimRight.l1
      repeat' first
      | (with_reducible exact ih0 _ _ _)
      | (with_reducible exact ih1 _ _ _ _ _)
      | (with_reducible exact LeO.refl _)
      | (with_reducible exact LeO.none _)
      | (with_reducible refine LeO.ite ?_ ?_)
      | (with_reducible refine LeO.bind ?_ (fun _ => ?_))
      | exact ih0 _ _ _
      | exact ih1 _ _ _ _ _
      | exact LeO.none _
      | refine LeO.ite ?_ ?_
      | refine LeO.bind ?_ (fun _ => ?_)
theorem transform_zzTrimRight.mono : ∀ a0 a1 k, LeO (transform_zzTrimRight.f k a0 a1) (transform_zzTrimRight.f (k + 1) a0 a1) := by
  intro a0 a1 k
  obtain ⟨ih0, ih1⟩ := transform_zzTrimRight.mono_l k
  unfold transform_zzTrimRight.f
  repeat' first
      | (with_reducible exact ih0 _ _ _)
      | (with_reducible exact ih1 _ _ _ _ _)
      | (with_reducible exact LeO.refl _)
      | (with_reducible exact LeO.none _)
      | (with_reducible refine LeO.ite ?_ ?_)
      | (with_reducible refine LeO.bind ?_ (fun _ => ?_))
      | exact ih0 _ _ _
      | exact ih1 _ _ _ _ _
      | exact LeO.none _
      | refine LeO.ite ?_ ?_
      | refine LeO.bind ?_ (fun _ => ?_)
set_option maxHeartbeats 8000000 in
set_option maxRecDepth 100000 in
theorem transform_zzTrimRight.calls (k : Nat) (a0 : ByteArray) (a1 : ByteArray) (r : ByteArray) (w : World) (h : transform_zzTrimRight.f k a0 a1 = some r) :
    Calls Try.prog 39 #[.string a0, .string a1] w fun e w' => e = .returned (.string r) ∧ Drawn0 w w' := by
  have H : (transform_zzTrimRight.l0 k a0 a1 (a0.size : Int)) = some r := h
  clear h
  have H' := Aside0.mk H
  clear H
  go_enter Try.func39, Try.ntmps39
  go_wp2
  repeat (go_quiet (fail); try go_wp2)
  go_loopg [5] k (fun kq v5 w' => ∃ (x5_1 : Int), v5 = .int .i64 x5_1 ∧ Aside0 (transform_zzTrimRight.l0 kq a0 a1 x5_1 = some r) ∧ Aside0 (kq ≤ k) ∧ Drawn0 w w')
  case atStart => exact ⟨((a0.size : Int)), (by first | rfl | (simp; done) | (simp [*]; done) | (simp [xt_ne_nil]; done)), H', ⟨Nat.le_refl _⟩, by repeat (first | exact Drawn0.refl _ | apply Drawn0.step)⟩
  case round =>
    clear H'
    try clear p2
    obtain ⟨x5_1, rfl, HA, HK1, ⟨m1, rfl⟩⟩ := hrel
    cases gk with
    | zero => exact absurd HA.out (by simp [transform_zzTrimRight.l0])
    | succ k1 =>
      have H := HA.out
      clear HA
      simp only [transform_zzTrimRight.l0] at H
      by_cases c3 : x5_1 > 0
      · rw [if_pos c3] at H
        have c3b0 : decide (0 < x5_1) = true := decide_eq_true c3
        clear c3
        have H' := Aside0.mk H
        clear H
        go_wp2
        repeat (go_quiet (fail); try go_wp2)
        go_loopg [6, 7] k1 (fun kq v6 v7 w' => ∃ (x6_2 : Bool) (x7_2 : Int), v6 = .bool x6_2 ∧ v7 = .int .i64 x7_2 ∧ Aside0 (transform_zzTrimRight.l1 kq a0 a1 x5_1 x6_2 x7_2 = some r) ∧ Aside0 (kq ≤ k1) ∧ Drawn0 w w')
        case atStart => exact ⟨(false), (0), (by first | rfl | (simp; done) | (simp [*]; done) | (simp [xt_ne_nil]; done)), (by first | rfl | (simp; done) | (simp [*]; done) | (simp [xt_ne_nil]; done)), H', ⟨Nat.le_refl _⟩, by repeat (first | exact Drawn0.refl _ | apply Drawn0.step)⟩
        case round =>
          clear H'
          try clear p2
          try clear c3
          try clear c3b0
          try clear p2
          obtain ⟨x6_2, x7_2, rfl, rfl, HA, HK2, ⟨m2, rfl⟩⟩ := hrel
          cases gk with
          | zero => exact absurd HA.out (by simp [transform_zzTrimRight.l1])
          | succ k2 =>
            have H := HA.out
            clear HA
            simp only [transform_zzTrimRight.l1] at H
            by_cases c4 : x7_2 < (a1.size : Int)
            · rw [if_pos c4] at H
              have c4b0 : decide (x7_2 < (a1.size : Int)) = true := decide_eq_true c4
              clear c4
              by_cases c5 : 0 ≤ x7_2
              · rw [if_pos c5] at H
                have c5b0 : decide (0 ≤ x7_2) = true := decide_eq_true c5
                clear c5
                obtain ⟨ji7, hji7⟩ : ∃ j_ : Int, (wrap64 (x5_1 - 1)) = j_ := ⟨_, rfl⟩
                replace H : (if 0 ≤ (ji7) then (if (ji7) < (a0.size : Int) then (if (bt a1 x7_2) = (bt a0 (ji7)) then (transform_zzTrimRight.l1 k2 a0 a1 x5_1 true (wrap64 (x7_2 + 1))) else (transform_zzTrimRight.l1 k2 a0 a1 x5_1 x6_2 (wrap64 (x7_2 + 1)))) else (none)) else (none)) = some r := by first | (rw [hji7] at H; exact H) | (simp only [hji7] at H ⊢; exact H)
                have hji7w : (IntKind.i64.wrap (x5_1 - 1)) = ji7 := (i64_w _).trans hji7
                by_cases c8 : 0 ≤ (ji7)
                · rw [if_pos c8] at H
                  have c8b0 : decide (0 ≤ (ji7)) = true := decide_eq_true c8
                  clear c8
                  by_cases c9 : (ji7) < (a0.size : Int)
                  · rw [if_pos c9] at H
                    have c9b0 : decide ((ji7) < (a0.size : Int)) = true := decide_eq_true c9
                    clear c9
                    by_cases c11 : (bt a1 x7_2) = (bt a0 (ji7))
                    · rw [if_pos c11] at H
                      have c11b0 : ((bt a1 x7_2) == (bt a0 (ji7))) = true := beq_iff_eq.mpr c11
                      have c11b1 : ((bt a1 x7_2) != (bt a0 (ji7))) = false := bne_eq_false_iff_eq.mpr c11
                      clear c11
                      have H' := Aside0.mk H
                      clear H
                      have p6 : 0 ≤ (x7_2 : Int) := of_decide_eq_true (by first | (with_reducible assumption) | assumption)
                      have q6 : x7_2 < (a1.size : Int) := of_decide_eq_true (by first | (with_reducible assumption) | assumption)
                      have hx6 := bt_at a1 x7_2
                      replace p6 := eq_true p6
                      replace q6 := eq_true q6
                      have p10 : 0 ≤ ((ji7) : Int) := of_decide_eq_true (by first | (with_reducible assumption) | assumption)
                      have q10 : (ji7) < (a0.size : Int) := of_decide_eq_true (by first | (with_reducible assumption) | assumption)
                      have hx10 := bt_at a0 (ji7)
                      replace p10 := eq_true p10
                      replace q10 := eq_true q10
                      go_wp2
                      repeat (go_quiet (fail); try go_wp2)
                      go_roundg k2
                      case measure => have := HK1.out; have := HK2.out; omega
                      case rel => exact ⟨(true), (wrap64 (x7_2 + 1)), (by first | rfl | (simp; done) | (simp [*]; done) | (simp [xt_ne_nil]; done)), (by first | rfl | (simp; done) | (simp [*]; done) | (simp [xt_ne_nil]; done)), H', ⟨by have := HK1.out; have := HK2.out; omega⟩, by repeat (first | exact Drawn0.refl _ | apply Drawn0.step)⟩
                    · rw [if_neg c11] at H
                      have c11b0 : ((bt a1 x7_2) == (bt a0 (ji7))) = false := beq_eq_false_iff_ne.mpr c11
                      have c11b1 : ((bt a1 x7_2) != (bt a0 (ji7))) = true := bne_iff_ne.mpr c11
                      have H' := Aside0.mk H
                      clear H
                      have p6 : 0 ≤ (x7_2 : Int) := of_decide_eq_true (by first | (with_reducible assumption) | assumption)
                      have q6 : x7_2 < (a1.size : Int) := of_decide_eq_true (by first | (with_reducible assumption) | assumption)
                      have hx6 := bt_at a1 x7_2
                      replace p6 := eq_true p6
                      replace q6 := eq_true q6
                      have p10 : 0 ≤ ((ji7) : Int) := of_decide_eq_true (by first | (with_reducible assumption) | assumption)
                      have q10 : (ji7) < (a0.size : Int) := of_decide_eq_true (by first | (with_reducible assumption) | assumption)
                      have hx10 := bt_at a0 (ji7)
                      replace p10 := eq_true p10
                      replace q10 := eq_true q10
                      go_wp2
                      repeat (go_quiet (fail); try go_wp2)
                      go_roundg k2
                      case measure => have := HK1.out; have := HK2.out; omega
                      case rel => exact ⟨(x6_2), (wrap64 (x7_2 + 1)), (by first | rfl | (simp; done) | (simp [*]; done) | (simp [xt_ne_nil]; done)), (by first | rfl | (simp; done) | (simp [*]; done) | (simp [xt_ne_nil]; done)), H', ⟨by have := HK1.out; have := HK2.out; omega⟩, by repeat (first | exact Drawn0.refl _ | apply Drawn0.step)⟩
                  · rw [if_neg c9] at H
                    exact absurd H (by simp)
                · rw [if_neg c8] at H
                  exact absurd H (by simp)
              · rw [if_neg c5] at H
                exact absurd H (by simp)
            · rw [if_neg c4] at H
              have c4b0 : decide (x7_2 < (a1.size : Int)) = false := decide_eq_false c4
              clear c4
              by_cases c12 : x6_2 = true
              · subst c12
                have H1 : (transform_zzTrimRight.l0 k2 a0 a1 (wrap64 (x5_1 - 1))) = some r := by rw [if_pos rfl] at H; exact H
                clear H
                have H := H1
                clear H1
                have H' := Aside0.mk H
                clear H
                go_wp2
                repeat (go_quiet (fail); try go_wp2)
                go_roundg k2
                case measure => have := HK1.out; have := HK2.out; omega
                case rel => exact ⟨(wrap64 (x5_1 - 1)), (by first | rfl | (simp; done) | (simp [*]; done) | (simp [xt_ne_nil]; done)), H', ⟨by have := HK1.out; have := HK2.out; omega⟩, by repeat (first | exact Drawn0.refl _ | apply Drawn0.step)⟩
              · replace c12 := Bool.eq_false_iff.mpr c12
                subst c12
                have H1 : (if 0 ≤ x5_1 then (if x5_1 ≤ (a0.size : Int) then (some (a0.extract 0 (x5_1 : Int).toNat)) else (none)) else (none)) = some r := by rw [if_neg (show ¬ (false = true) by decide)] at H; exact H
                clear H
                have H := H1
                clear H1
                by_cases c13 : 0 ≤ x5_1
                · rw [if_pos c13] at H
                  have c13b0 := eq_true c13
                  have c13b1 : decide (0 ≤ x5_1) = true := decide_eq_true c13
                  clear c13
                  by_cases c14 : x5_1 ≤ (a0.size : Int)
                  · rw [if_pos c14] at H
                    have c14b0 := eq_true c14
                    have c14b1 : decide (x5_1 ≤ (a0.size : Int)) = true := decide_eq_true c14
                    clear c14
                    obtain rfl := Option.some.inj H
                    go_wp2
                    repeat (go_quiet (fail); try go_wp2)
                    go_ret
                    exact ⟨by first | rfl | (simp; done) | (simp [*]; done) | (simp [xt_ne_nil]; done), by repeat (first | exact Drawn0.refl _ | apply Drawn0.step)⟩
                  · rw [if_neg c14] at H
                    exact absurd H (by simp)
                · rw [if_neg c13] at H
                  exact absurd H (by simp)
      · rw [if_neg c3] at H
        have c3b0 : decide (0 < x5_1) = false := decide_eq_false c3
        clear c3
        by_cases c15 : 0 ≤ x5_1
        · rw [if_pos c15] at H
          have c15b0 := eq_true c15
          have c15b1 : decide (0 ≤ x5_1) = true := decide_eq_true c15
          clear c15
          by_cases c16 : x5_1 ≤ (a0.size : Int)
          · rw [if_pos c16] at H
            have c16b0 := eq_true c16
            have c16b1 : decide (x5_1 ≤ (a0.size : Int)) = true := decide_eq_true c16
            clear c16
            obtain rfl := Option.some.inj H
            go_wp2
            repeat (go_quiet (fail); try go_wp2)
            go_ret
            exact ⟨by first | rfl | (simp; done) | (simp [*]; done) | (simp [xt_ne_nil]; done), by repeat (first | exact Drawn0.refl _ | apply Drawn0.step)⟩
          · rw [if_neg c16] at H
            exact absurd H (by simp)
        · rw [if_neg c15] at H
          exact absurd H (by simp)

/-! ### sets of characters of ASCII, and what a text begins with of them -/
def asciiSet (s : ByteArray) : Bool := decide (∀ i (h : i < s.size), (s[i]'h).toNat < 128)
theorem asciiSet_at {s : ByteArray} (h : asciiSet s = true) (i : Nat) (hi : i < s.size) : (s[i]'hi).toNat < 128 := by
  simp only [asciiSet, decide_eq_true_eq] at h; exact h i hi
def inSet (c : Int) (s : ByteArray) : Bool := decide (∃ i, ∃ h : i < s.size, ((s[i]'h).toNat : Int) = c)
theorem inSet_true {c : Int} {s : ByteArray} (i : Nat) (h : i < s.size) (e : ((s[i]'h).toNat : Int) = c) : inSet c s = true := by
  simp only [inSet, decide_eq_true_eq]; exact ⟨i, h, e⟩
theorem inSet_false {c : Int} {s : ByteArray} (h : ∀ i (h : i < s.size), ((s[i]'h).toNat : Int) ≠ c) : inSet c s = false := by
  simp only [inSet, decide_eq_false_iff_not]; rintro ⟨i, hi, e⟩; exact h i hi e
/-- Is a byte one of a set's? -/
def inB (s : ByteArray) (c : UInt8) : Bool := inSet (c.toNat : Int) s
theorem inSet_byte {s set : ByteArray} (ha : asciiSet set = true) (pos : Nat) (hp : pos < s.size) (h : inSet ((Utf8.decode s pos).1 : Int) set = true) :
    (s[pos]'hp).toNat < 128 ∧ inB set (s[pos]'hp) = true := by
  have hl : (Utf8.decode s pos).1 < 128 := by
    simp only [inSet, decide_eq_true_eq] at h
    obtain ⟨i, hi, e⟩ := h
    have := asciiSet_at ha i hi
    omega
  have hb : (s[pos]'hp).toNat < 128 := by
    rcases Nat.lt_or_ge (s[pos]'hp).toNat 128 with h1 | h1
    · exact h1
    · have := (decode_high s pos hp h1).1; omega
  refine ⟨hb, ?_⟩
  rw [decode_ascii s pos hp hb] at h
  exact h
theorem inB_false {s set : ByteArray} (pos : Nat) (hp : pos < s.size) (ha : asciiSet set = true) (h : inSet ((Utf8.decode s pos).1 : Int) set = false) : inB set (s[pos]'hp) = false := by
  rcases Nat.lt_or_ge (s[pos]'hp).toNat 128 with h1 | h1
  · rw [decode_ascii s pos hp h1] at h; exact h
  · refine inSet_false fun i hi e => ?_
    have := asciiSet_at ha i hi
    omega
theorem takeWhile_len {α : Type} (p : α → Bool) : ∀ (l : List α) (n : Nat), (∀ i (h : i < l.length), i < n → p l[i] = true) → (n = l.length ∨ ∃ h : n < l.length, p l[n] = false) → (l.takeWhile p).length = n
  | [], n, _, h2 => by
    rcases h2 with h | ⟨h, _⟩
    · simp at h; simp [h]
    · exact absurd h (Nat.not_lt_zero _)
  | a :: l, 0, _, h2 => by
    rcases h2 with h | ⟨_, h⟩
    · simp at h
    · simp at h; simp [List.takeWhile_cons, h]
  | a :: l, n + 1, h1, h2 => by
    have ha : p a = true := h1 0 (by simp) (by omega)
    rw [List.takeWhile_cons, if_pos ha, List.length_cons]
    congr 1
    refine takeWhile_len p l n (fun i h hi => h1 (i + 1) (by simp; omega) (by omega)) ?_
    rcases h2 with h | ⟨h, e⟩
    · exact .inl (by simpa using h)
    · exact .inr ⟨by simpa using h, by simpa using e⟩
/-- What stays of a text behind all bytes of a set that it begins with. -/
def trimL (s set : ByteArray) : ByteArray := s.extract (s.data.toList.takeWhile (inB set)).length s.size
theorem trimL_at {s set : ByteArray} (n : Nat) (h1 : ∀ i (h : i < s.size), i < n → inB set (s[i]'h) = true) (h2 : n = s.size ∨ ∃ h : n < s.size, inB set (s[n]'h) = false) : trimL s set = s.extract n s.size := by
  unfold trimL
  rw [takeWhile_len (inB set) s.data.toList n (fun i h hi => h1 i h hi) h2]
theorem extract_none (s : ByteArray) : s.extract s.size s.size = (⟨#[]⟩ : ByteArray) := by
  apply ByteArray.ext
  simp [ByteArray.data_extract]

/-! ### transform_zzInSet: function 44 -/
def transform_zzInSet.f (a0 : Int) (a1 : ByteArray) : Option Bool := if asciiSet a1 = true then some (inSet a0 a1) else none

set_option maxHeartbeats 400000 in
theorem transform_zzInSet.calls (a0 : Int) (a1 : ByteArray) (r : Bool) (w : World) (h : transform_zzInSet.f a0 a1 = some r) :
    Calls Try.prog 44 #[.int .i32 a0, .string a1] w fun e w' => e = .returned (.bool r) ∧ Below w.heap.size w w' := by
  have ha : asciiSet a1 = true := by
    unfold transform_zzInSet.f at h; split at h
    · assumption
    · cases h
  have hr : inSet a0 a1 = r := by unfold transform_zzInSet.f at h; rw [if_pos ha] at h; exact Option.some.inj h
  clear h
  go_enter Try.func44, Try.ntmps44
  go_wp2
  go_loopw [4] (fun u wr => ∃ pos, wr = w.iter a1 pos ∧ u = .bool false ∧ ∀ i (h : i < a1.size), i < pos → ((a1[i]'h).toNat : Int) ≠ a0) (fun _ wr => a1.size - wr.iterPos w.heap.size)
  case atStart => exact ⟨0, rfl, rfl, fun i _ h => absurd h (by omega)⟩
  case round =>
    obtain ⟨pos, rfl, rfl, hall⟩ := hrel
    have HA := Lib.hid hall; clear hall
    by_cases hp : pos < a1.size
    · have hl := asciiSet_at ha pos hp
      have hd := decode_ascii a1 pos hp hl
      have hn := run_next_any (P := Try.prog) w a1 pos 0 hp
      rw [hd] at hn
      by_cases hb : ((a1[pos]'hp).toNat : Int) = a0
      · have hb' : (a0 == ((a1[pos]'hp).toNat : Int)) = true := by rw [hb]; simp
        obtain rfl : r = true := by rw [← hr]; exact inSet_true pos hp hb
        clear hr ha hd hl hb
        go_wp2
        go_ret
        exact ⟨rfl, (Below.refl _ _).alloc (Nat.le_refl _) _⟩
      · have hb' : (a0 == ((a1[pos]'hp).toNat : Int)) = false := by simp; exact fun e => hb e.symm
        have HR := Lib.hid hr; clear hr hd
        have HB := Lib.hid hb; clear hb
        go_wp2
        go_roundw
        case rel =>
          refine ⟨pos + 1, rfl, rfl, fun i h hi => ?_⟩
          by_cases hi' : i < pos
          · exact HA.out i h hi'
          · obtain rfl : i = pos := by omega
            exact HB.out
        case measure => simp; omega
    · have hn := run_next_end (P := Try.prog) w a1 pos 0 hp
      obtain rfl : r = false := by rw [← hr]; exact inSet_false (fun i h => HA.out i h (by omega))
      clear hr
      go_wp2
      go_ret
      exact ⟨rfl, (Below.refl _ _).alloc (Nat.le_refl _) _⟩

/-! ### transform_zzTrimLeft: function 40 -/
def transform_zzTrimLeft.f (a0 a1 : ByteArray) : Option ByteArray := if asciiSet a1 = true then (if a0.size ≤ 140737488351232 then some (trimL a0 a1) else none) else none

set_option maxHeartbeats 400000 in
theorem transform_zzTrimLeft.calls (a0 a1 : ByteArray) (r : ByteArray) (w : World) (h : transform_zzTrimLeft.f a0 a1 = some r) :
    Calls Try.prog 40 #[.string a0, .string a1] w fun e w' => e = .returned (.string r) ∧ Below w.heap.size w w' := by
  have ha : asciiSet a1 = true := by
    unfold transform_zzTrimLeft.f at h; split at h
    · assumption
    · cases h
  have hz : a0.size ≤ 140737488351232 := by
    unfold transform_zzTrimLeft.f at h; rw [if_pos ha] at h; split at h
    · assumption
    · cases h
  have hr : trimL a0 a1 = r := by unfold transform_zzTrimLeft.f at h; rw [if_pos ha, if_pos hz] at h; exact Option.some.inj h
  have HR := Lib.hid hr; clear hr
  have HZ := Lib.hid ha; clear ha
  clear h
  go_enter Try.func40, Try.ntmps40
  go_wp2
  go_loopw [4] (fun u wr => ∃ pos, wr.heap[w.heap.size]? = some (.stringIter a0 pos) ∧ Below w.heap.size w wr ∧ u = .string ⟨#[]⟩ ∧ ∀ i (h : i < a0.size), i < pos → inB a1 (a0[i]'h) = true) (fun _ wr => a0.size - wr.iterPos w.heap.size)
  case atStart => exact ⟨0, World.iter_heap _ _ _, (Below.refl _ _).alloc (Nat.le_refl _) _, rfl, fun i _ h => absurd h (by omega)⟩
  case round =>
    obtain ⟨pos, hk, hb, rfl, hall⟩ := hrel
    have HA := Lib.hid hall; clear hall
    have HB := Lib.hid hb; clear hb
    have hsz : w.heap.size < wr.heap.size := (Array.getElem?_eq_some_iff.1 hk).1
    by_cases hp : pos < a0.size
    · have hn := Lib.run_next_any_at (P := Try.prog) wr w.heap.size a0 pos 0 hk hp
      have hk2 := fun p => Lib.iterAt_heap wr w.heap.size a0 pos p hk
      have HK := Lib.hid hk2; clear hk2
      have HK0 := Lib.hid hk; clear hk
      by_cases hin : inSet ((Utf8.decode a0 pos).1 : Int) a1 = true
      · obtain ⟨hlow, hcon⟩ := inSet_byte HZ.out pos hp hin
        have hd := decode_ascii a0 pos hp hlow
        rw [hd] at hn hin
        have hf : transform_zzInSet.f ((a0[pos]'hp).toNat : Int) a1 = some true := by unfold transform_zzInSet.f; rw [if_pos HZ.out]; exact congrArg some hin
        have HC := Lib.hid hcon; clear hcon
        have HF := Lib.hid hf; clear hf hin hd
        go_wp2_with (go_at_call 44; (with_reducible refine (transform_zzInSet.calls _ _ true _ HF.out).mono ?_); rintro e w1 ⟨rfl, hb1⟩)
        have e1 : w1.heap[w.heap.size]? = some (.stringIter a0 (pos + 1)) := by rw [hb1.block _ (by rw [Lib.iterAt_size]; exact hsz)]; exact HK.out _
        have E1 := Lib.hid e1; clear e1
        go_roundw
        case rel =>
          refine ⟨pos + 1, E1.out, HB.out.trans ((Lib.below_iterAt (Below.refl _ wr) (Nat.le_refl _) _ _).trans (hb1.mono (by rw [Lib.iterAt_size]; omega))), rfl, fun i h hi => ?_⟩
          by_cases hi' : i < pos
          · exact HA.out i h hi'
          · obtain rfl : i = pos := by omega
            exact HC.out
        case measure => simp only [World.iterPos, E1.out, HK0.out]; omega
      · have hin' : inSet ((Utf8.decode a0 pos).1 : Int) a1 = false := by simpa using hin
        have hout := inB_false pos hp HZ.out hin'
        have hf : transform_zzInSet.f ((Utf8.decode a0 pos).1 : Int) a1 = some false := by unfold transform_zzInSet.f; rw [if_pos HZ.out]; exact congrArg some hin'
        have ht := trimL_at pos HA.out (.inr ⟨hp, hout⟩)
        obtain rfl : r = a0.extract pos a0.size := by rw [← HR.out, ht]
        have HF := Lib.hid hf; clear hf hin hin' hout ht
        generalize Utf8.decode a0 pos = q at hn HF
        go_wp2_with (go_at_call 44; (with_reducible refine (transform_zzInSet.calls _ _ false _ HF.out).mono ?_); rintro e w1 ⟨rfl, hb1⟩)
        go_ret
        exact ⟨rfl, HB.out.trans ((Lib.below_iterAt (Below.refl _ wr) (Nat.le_refl _) _ _).trans (hb1.mono (by rw [Lib.iterAt_size]; omega)))⟩
    · have hn := Lib.run_next_end_at (P := Try.prog) wr w.heap.size a0 pos 0 hk hp
      have ht : trimL a0 a1 = (⟨#[]⟩ : ByteArray) := (trimL_at a0.size (fun i h _ => HA.out i h (by omega)) (.inl rfl)).trans (extract_none a0)
      obtain rfl : r = (⟨#[]⟩ : ByteArray) := by rw [← HR.out, ht]
      clear hk ht
      go_wp2
      go_ret
      exact ⟨rfl, HB.out⟩

/-! ### transform_zzTrim: function 33 -/
def transform_zzTrim.f (k : Nat) (a0 : ByteArray) (a1 : ByteArray) : Option (ByteArray) := (transform_zzTrimLeft.f a0 a1).bind fun t101 => ((transform_zzTrimRight.f k t101 a1).bind fun t102 => (some t102))
theorem transform_zzTrim.mono : ∀ a0 a1 k, LeO (transform_zzTrim.f k a0 a1) (transform_zzTrim.f (k + 1) a0 a1) := by
  intro a0 a1 k
  unfold transform_zzTrim.f
  repeat' first
      | (with_reducible exact transform_zzTrimRight.mono _ _ _)
      | (with_reducible exact LeO.refl _)
      | (with_reducible exact LeO.none _)
      | (with_reducible refine LeO.ite ?_ ?_)
      | (with_reducible refine LeO.bind ?_ (fun _ => ?_))
      | exact transform_zzTrimRight.mono _ _ _
      | exact LeO.none _
      | refine LeO.ite ?_ ?_
      | refine LeO.bind ?_ (fun _ => ?_)
set_option maxHeartbeats 8000000 in
set_option maxRecDepth 100000 in
theorem transform_zzTrim.calls (k : Nat) (a0 : ByteArray) (a1 : ByteArray) (r : ByteArray) (w : World) (h : transform_zzTrim.f k a0 a1 = some r) :
    Calls Try.prog 33 #[.string a0, .string a1] w fun e w' => e = .returned (.string r) ∧ Below w.heap.size w w' := by
  have HB := Aside0.mk (Below.refl w.heap.size w)
  have H : ((transform_zzTrimLeft.f a0 a1).bind fun t101 => ((transform_zzTrimRight.f k t101 a1).bind fun t102 => (some t102))) = some r := h
  clear h
  replace H := Option.bind_eq_some_iff.mp H
  obtain ⟨t101, A30, H⟩ := H
  replace H : ((transform_zzTrimRight.f k t101 a1).bind fun t102 => (some t102)) = some r := H
  have A3 := Aside0.mk A30
  clear A30
  replace H := Option.bind_eq_some_iff.mp H
  obtain ⟨t102, A40, H⟩ := H
  replace H : (some t102) = some r := H
  have A4 := Aside0.mk A40
  clear A40
  obtain rfl := Option.some.inj H
  go_enter Try.func33, Try.ntmps33
  go_wp2_with (first | ((with_reducible refine gate_callee (f := 40) rfl ?_); refine goesL_ (some 7) rfl rfl Try.func40 (by kernel_rfl) rfl #[.string a0, .string a1] rfl (by (try simp only [List.map_toArray, List.map_cons, List.map_nil]); first | done | rfl | (simp only [List.length_drop, List.length_take]; rfl)) ?_; (with_reducible refine (transform_zzTrimLeft.calls a0 a1 t101 _ A3.out).mono ?_); rintro e w5 ⟨rfl, hb⟩; refine ⟨_, rfl, ?_⟩; have n0_ := Aside0.mk (below_step (by repeat (first | (with_reducible first | exact HB.out | apply below_alloc | apply pw_below_drewN | apply below_drew1) | exact HB.out)) hb); clear HB; have HB := n0_; clear n0_; (try clear hb); (try clear hb2); (try clear hk); (try clear hi)) | ((with_reducible refine gate_callee (f := 39) rfl ?_); refine goesL_ (some 9) rfl rfl Try.func39 (by kernel_rfl) rfl #[.string t101, .string a1] rfl (by (try simp only [List.map_toArray, List.map_cons, List.map_nil]); first | done | rfl | (simp only [List.length_drop, List.length_take]; rfl)) ?_; (with_reducible refine (transform_zzTrimRight.calls k t101 a1 t102 _ A4.out).mono ?_); rintro e w' ⟨rfl, ⟨nd, rfl⟩⟩; refine ⟨_, rfl, ?_⟩))
  go_ret
  exact ⟨by first | rfl | (simp [errW_none, errW_some] <;> rfl) | (simp [*, errW_none, errW_some] <;> rfl), by repeat (first | (with_reducible first | exact HB.out | apply below_alloc | apply pw_below_drewN | apply below_drew1) | exact HB.out)⟩

/-! ### transform_TrimBrackets: function 28 -/
def transform_TrimBrackets.f (k : Nat) (a0 : ByteArray) : Option (ByteArray) := (transform_zzTrim.f k a0 (⟨#[123, 125]⟩ : ByteArray)).bind fun t103 => (some t103)
theorem transform_TrimBrackets.mono : ∀ a0 k, LeO (transform_TrimBrackets.f k a0) (transform_TrimBrackets.f (k + 1) a0) := by
  intro a0 k
  unfold transform_TrimBrackets.f
  repeat' first
      | (with_reducible exact transform_zzTrim.mono _ _ _)
      | (with_reducible exact LeO.refl _)
      | (with_reducible exact LeO.none _)
      | (with_reducible refine LeO.ite ?_ ?_)
      | (with_reducible refine LeO.bind ?_ (fun _ => ?_))
      | exact transform_zzTrim.mono _ _ _
      | exact LeO.none _
      | refine LeO.ite ?_ ?_
      | refine LeO.bind ?_ (fun _ => ?_)
set_option maxHeartbeats 8000000 in
set_option maxRecDepth 100000 in
theorem transform_TrimBrackets.calls (k : Nat) (a0 : ByteArray) (r : ByteArray) (w : World) (h : transform_TrimBrackets.f k a0 = some r) :
    Calls Try.prog 28 #[.string a0] w fun e w' => e = .returned (.string r) ∧ Below w.heap.size w w' := by
  have HB := Aside0.mk (Below.refl w.heap.size w)
  have H : ((transform_zzTrim.f k a0 (⟨#[123, 125]⟩ : ByteArray)).bind fun t103 => (some t103)) = some r := h
  clear h
  replace H := Option.bind_eq_some_iff.mp H
  obtain ⟨t103, A20, H⟩ := H
  replace H : (some t103) = some r := H
  have A2 := Aside0.mk A20
  clear A20
  obtain rfl := Option.some.inj H
  go_enter Try.func28, Try.ntmps28
  go_wp2_with (first | ((with_reducible refine gate_callee (f := 33) rfl ?_); refine goesL_ (some 4) rfl rfl Try.func33 (by kernel_rfl) rfl #[.string a0, .string (⟨#[123, 125]⟩ : ByteArray)] rfl (by (try simp only [List.map_toArray, List.map_cons, List.map_nil]); first | done | rfl | (simp only [List.length_drop, List.length_take]; rfl)) ?_; (with_reducible refine (transform_zzTrim.calls k a0 (⟨#[123, 125]⟩ : ByteArray) t103 _ A2.out).mono ?_); rintro e w3 ⟨rfl, hb⟩; refine ⟨_, rfl, ?_⟩; have n0_ := Aside0.mk (below_step (by repeat (first | (with_reducible first | exact HB.out | apply below_alloc | apply pw_below_drewN | apply below_drew1) | exact HB.out)) hb); clear HB; have HB := n0_; clear n0_; (try clear hb); (try clear hb2); (try clear hk); (try clear hi)))
  go_ret
  exact ⟨by first | rfl | (simp [errW_none, errW_some] <;> rfl) | (simp [*, errW_none, errW_some] <;> rfl), by repeat (first | (with_reducible first | exact HB.out | apply below_alloc | apply pw_below_drewN | apply below_drew1) | exact HB.out)⟩

/-! ### impl_BracketsTrim: function 17 -/
def impl_BracketsTrim.f (k : Nat) (a0 : ByteArray) : Option (ByteArray) := (transform_TrimBrackets.f k a0).bind fun t104 => (some t104)
theorem impl_BracketsTrim.mono : ∀ a0 k, LeO (impl_BracketsTrim.f k a0) (impl_BracketsTrim.f (k + 1) a0) := by
  intro a0 k
  unfold impl_BracketsTrim.f
  repeat' first
      | (with_reducible exact transform_TrimBrackets.mono _ _)
      | (with_reducible exact LeO.refl _)
      | (with_reducible exact LeO.none _)
      | (with_reducible refine LeO.ite ?_ ?_)
      | (with_reducible refine LeO.bind ?_ (fun _ => ?_))
      | exact transform_TrimBrackets.mono _ _
      | exact LeO.none _
      | refine LeO.ite ?_ ?_
      | refine LeO.bind ?_ (fun _ => ?_)
set_option maxHeartbeats 8000000 in
set_option maxRecDepth 100000 in
theorem impl_BracketsTrim.calls (k : Nat) (a0 : ByteArray) (r : ByteArray) (w : World) (h : impl_BracketsTrim.f k a0 = some r) :
    Calls Try.prog 17 #[.string a0] w fun e w' => e = .returned (.string r) ∧ Below w.heap.size w w' := by
  have HB := Aside0.mk (Below.refl w.heap.size w)
  have H : ((transform_TrimBrackets.f k a0).bind fun t104 => (some t104)) = some r := h
  clear h
  replace H := Option.bind_eq_some_iff.mp H
  obtain ⟨t104, A20, H⟩ := H
  replace H : (some t104) = some r := H
  have A2 := Aside0.mk A20
  clear A20
  obtain rfl := Option.some.inj H
  go_enter Try.func17, Try.ntmps17
  go_wp2_with (first | ((with_reducible refine gate_callee (f := 28) rfl ?_); refine goesL_ (some 4) rfl rfl Try.func28 (by kernel_rfl) rfl #[.string a0] rfl (by (try simp only [List.map_toArray, List.map_cons, List.map_nil]); first | done | rfl | (simp only [List.length_drop, List.length_take]; rfl)) ?_; (with_reducible refine (transform_TrimBrackets.calls k a0 t104 _ A2.out).mono ?_); rintro e w3 ⟨rfl, hb⟩; refine ⟨_, rfl, ?_⟩; have n0_ := Aside0.mk (below_step (by repeat (first | (with_reducible first | exact HB.out | apply below_alloc | apply pw_below_drewN | apply below_drew1) | exact HB.out)) hb); clear HB; have HB := n0_; clear n0_; (try clear hb); (try clear hb2); (try clear hk); (try clear hi)))
  go_ret
  exact ⟨by first | rfl | (simp [errW_none, errW_some] <;> rfl) | (simp [*, errW_none, errW_some] <;> rfl), by repeat (first | (with_reducible first | exact HB.out | apply below_alloc | apply pw_below_drewN | apply below_drew1) | exact HB.out)⟩

end Go.Proofs.Ytecfojgamdilnaa.PFnBracketsTrim

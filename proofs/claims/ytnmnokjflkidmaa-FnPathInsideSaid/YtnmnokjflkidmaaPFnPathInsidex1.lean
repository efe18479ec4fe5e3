-- Written by a program of this session's (over the kit's print), with contracts proved by hand among what it calls.
import Derived.Test.YtnmnokjflkidmaaPFnPathInsidex0
namespace Go.Proofs.Ytnmnokjflkidmaa.PFnPathInside
open Go.RowKit Go.Proofs.YtnmnokjflkidmaaW.PrintWords Go.Proofs.YtnmnokjflkidmaaW.PrintLast Go.Proofs.YtnmnokjflkidmaaW.PrintMore
attribute [local go_sem] max2_int min2_int max_two min_two max_three min_three max_four min_four   -- for this text's walks alone
set_option linter.unusedVariables false
set_option linter.unusedSimpArgs false

/-! ### sanitize_zzTrimRight: function 16 -/
mutual
def sanitize_zzTrimRight.l0 : Nat → ByteArray → ByteArray → Int → Option (ByteArray)
  | 0, _, _, _ => none
  | k + 1, x0, x1, x5 => if x5 > 0 then (sanitize_zzTrimRight.l1 k x0 x1 x5 false 0) else (if 0 ≤ x5 then (if x5 ≤ (x0.size : Int) then (some (x0.extract 0 (x5 : Int).toNat)) else (none)) else (none))
def sanitize_zzTrimRight.l1 : Nat → ByteArray → ByteArray → Int → Bool → Int → Option (ByteArray)
  | 0, _, _, _, _, _ => none
  | k + 1, x0, x1, x5, x6, x7 => if x7 < (x1.size : Int) then (if 0 ≤ x7 then (if 0 ≤ (wrap64 (x5 - 1)) then (if (wrap64 (x5 - 1)) < (x0.size : Int) then (if (bt x1 x7) = (bt x0 (wrap64 (x5 - 1))) then (sanitize_zzTrimRight.l1 k x0 x1 x5 true (wrap64 (x7 + 1))) else (sanitize_zzTrimRight.l1 k x0 x1 x5 x6 (wrap64 (x7 + 1)))) else (none)) else (none)) else (none)) else (if x6 = true then (sanitize_zzTrimRight.l0 k x0 x1 (wrap64 (x5 - 1))) else (if 0 ≤ x5 then (if x5 ≤ (x0.size : Int) then (some (x0.extract 0 (x5 : Int).toNat)) else (none)) else (none)))
end
def sanitize_zzTrimRight.f (k : Nat) (a0 : ByteArray) (a1 : ByteArray) : Option (ByteArray) := sanitize_zzTrimRight.l0 k a0 a1 (a0.size : Int)
theorem sanitize_zzTrimRight.mono_l : ∀ k, (∀ y0 y1 y2, LeO (sanitize_zzTrimRight.l0 k y0 y1 y2) (sanitize_zzTrimRight.l0 (k + 1) y0 y1 y2)) ∧ (∀ y0 y1 y2 y3 y4, LeO (sanitize_zzTrimRight.l1 k y0 y1 y2 y3 y4) (sanitize_zzTrimRight.l1 (k + 1) y0 y1 y2 y3 y4))
  | 0 => ⟨fun _ _ _ r h => by simp [sanitize_zzTrimRight.l0] at h, fun _ _ _ _ _ r h => by simp [sanitize_zzTrimRight.l1] at h⟩
  | k + 1 => by
    obtain ⟨ih0, ih1⟩ := sanitize_zzTrimRight.mono_l k
    refine ⟨?_, ?_⟩
    · intro y0 y1 y2
      unfold sanitize_zzTrimRight.l0
      repeat' first
      | (with_reducible exact ih0 _ _ _)
      | (with_reducible exact ih1 _ _ _ _ _)
      | (with_reducible exact LeO.refl _)
      | (with_reducible exact LeO.none _)
      | (with_reducible refine LeO.ite ?_ ?_)
      | (with_reducible refine LeO.bind ?_ (fun _ => ?_))
      | exact ih0 _ _ _
      | exact ih1 _ _ _ _ _
      | exact LeO.none _
      | refine LeO.ite ?_ ?_
      | refine LeO.bind ?_ (fun _ => ?_)
    · intro y0 y1 y2 y3 y4
      unfold sanitize_zzTrimRight.l1
      repeat' first
      | (with_reducible exact ih0 _ _ _)
      | (with_reducible exact ih1 _ _ _ _ _)
      | (with_reducible exact LeO.refl _)
      | (with_reducible exact LeO.none _)
      | (with_reducible refine LeO.ite ?_ ?_)
      | (with_reducible refine LeO.bind ?_ (fun _ => ?_))
      | exact ih0 _ _ _
      | exact ih1 _ _ _ _ _
      | exact LeO.none _
      | refine LeO.ite ?_ ?_
      | refine LeO.bind ?_ (fun _ => ?_)
theorem sanitize_zzTrimRight.mono : ∀ a0 a1 k, LeO (sanitize_zzTrimRight.f k a0 a1) (sanitize_zzTrimRight.f (k + 1) a0 a1) := by
  intro a0 a1 k
  obtain ⟨ih0, ih1⟩ := sanitize_zzTrimRight.mono_l k
  unfold sanitize_zzTrimRight.f
  repeat' first
      | (with_reducible exact ih0 _ _ _)
      | (with_reducible exact ih1 _ _ _ _ _)
      | (with_reducible exact LeO.refl _)
      | (with_reducible exact LeO.none _)
      | (with_reducible refine LeO.ite ?_ ?_)
      | (with_reducible refine LeO.bind ?_ (fun _ => ?_))
      | exact ih0 _ _ _
      | exact ih1 _ _ _ _ _
      | exact LeO.none _
      | refine LeO.ite ?_ ?_
      | refine LeO.bind ?_ (fun _ => ?_)
set_option maxHeartbeats 8000000 in
set_option maxRecDepth 100000 in
theorem sanitize_zzTrimRight.calls (k : Nat) (a0 : ByteArray) (a1 : ByteArray) (r : ByteArray) (w : World) (h : sanitize_zzTrimRight.f k a0 a1 = some r) :
    Calls Try.prog 16 #[.string a0, .string a1] w fun e w' => e = .returned (.string r) ∧ Drawn0 w w' := by
  have H : (sanitize_zzTrimRight.l0 k a0 a1 (a0.size : Int)) = some r := h
  clear h
  have H' := Aside0.mk H
  clear H
  go_enter Try.func16, Try.ntmps16
  go_wp2
  repeat (go_quiet (fail); try go_wp2)
  go_loopg [5] k (fun kq v5 w' => ∃ (x5_1 : Int), v5 = .int .i64 x5_1 ∧ Aside0 (sanitize_zzTrimRight.l0 kq a0 a1 x5_1 = some r) ∧ Aside0 (kq ≤ k) ∧ Drawn0 w w')
  case atStart => exact ⟨((a0.size : Int)), (by first | rfl | (simp; done) | (simp [*]; done) | (simp [xt_ne_nil]; done)), H', ⟨Nat.le_refl _⟩, by repeat (first | exact Drawn0.refl _ | apply Drawn0.step)⟩
  case round =>
    clear H'
    try clear c1
    try clear p2
    obtain ⟨x5_1, rfl, HA, HK1, ⟨m1, rfl⟩⟩ := hrel
    cases gk with
    | zero => exact absurd HA.out (by simp [sanitize_zzTrimRight.l0])
    | succ k1 =>
      have H := HA.out
      clear HA
      simp only [sanitize_zzTrimRight.l0] at H
      by_cases c3 : x5_1 > 0
      · rw [if_pos c3] at H
        have c3b0 : decide (0 < x5_1) = true := decide_eq_true c3
        clear c3
        have H' := Aside0.mk H
        clear H
        go_wp2
        repeat (go_quiet (fail); try go_wp2)
        go_loopg [6, 7] k1 (fun kq v6 v7 w' => ∃ (x6_2 : Bool) (x7_2 : Int), v6 = .bool x6_2 ∧ v7 = .int .i64 x7_2 ∧ Aside0 (sanitize_zzTrimRight.l1 kq a0 a1 x5_1 x6_2 x7_2 = some r) ∧ Aside0 (kq ≤ k1) ∧ Drawn0 w w')
        case atStart => exact ⟨(false), (0), (by first | rfl | (simp; done) | (simp [*]; done) | (simp [xt_ne_nil]; done)), (by first | rfl | (simp; done) | (simp [*]; done) | (simp [xt_ne_nil]; done)), H', ⟨Nat.le_refl _⟩, by repeat (first | exact Drawn0.refl _ | apply Drawn0.step)⟩
        case round =>
          clear H'
          try clear c1
          try clear p2
          try clear c3
          try clear c3b0
          try clear p2
          obtain ⟨x6_2, x7_2, rfl, rfl, HA, HK2, ⟨m2, rfl⟩⟩ := hrel
          cases gk with
          | zero => exact absurd HA.out (by simp [sanitize_zzTrimRight.l1])
          | succ k2 =>
            have H := HA.out
            clear HA
            simp only [sanitize_zzTrimRight.l1] at H
            by_cases c4 : x7_2 < (a1.size : Int)
            · rw [if_pos c4] at H
              have c4b0 : decide (x7_2 < (a1.size : Int)) = true := decide_eq_true c4
              clear c4
              by_cases c5 : 0 ≤ x7_2
              · rw [if_pos c5] at H
                have c5b0 : decide (0 ≤ x7_2) = true := decide_eq_true c5
                clear c5
                obtain ⟨ji7, hji7⟩ : ∃ j_ : Int, (wrap64 (x5_1 - 1)) = j_ := ⟨_, rfl⟩
                replace H : (if 0 ≤ (ji7) then (if (ji7) < (a0.size : Int) then (if (bt a1 x7_2) = (bt a0 (ji7)) then (sanitize_zzTrimRight.l1 k2 a0 a1 x5_1 true (wrap64 (x7_2 + 1))) else (sanitize_zzTrimRight.l1 k2 a0 a1 x5_1 x6_2 (wrap64 (x7_2 + 1)))) else (none)) else (none)) = some r := by first | (rw [hji7] at H; exact H) | (simp only [hji7] at H ⊢; exact H)
                have hji7w : (IntKind.i64.wrap (x5_1 - 1)) = ji7 := (i64_w _).trans hji7
                by_cases c8 : 0 ≤ (ji7)
                · rw [if_pos c8] at H
                  have c8b0 : decide (0 ≤ (ji7)) = true := decide_eq_true c8
                  clear c8
                  by_cases c9 : (ji7) < (a0.size : Int)
                  · rw [if_pos c9] at H
                    have c9b0 : decide ((ji7) < (a0.size : Int)) = true := decide_eq_true c9
                    clear c9
                    by_cases c11 : (bt a1 x7_2) = (bt a0 (ji7))
                    · rw [if_pos c11] at H
                      have c11b0 : ((bt a1 x7_2) == (bt a0 (ji7))) = true := beq_iff_eq.mpr c11
                      have c11b1 : ((bt a1 x7_2) != (bt a0 (ji7))) = false := bne_eq_false_iff_eq.mpr c11
                      clear c11
                      have H' := Aside0.mk H
                      clear H
                      have p6 : 0 ≤ (x7_2 : Int) := of_decide_eq_true (by first | (with_reducible assumption) | assumption)
                      have q6 : x7_2 < (a1.size : Int) := of_decide_eq_true (by first | (with_reducible assumption) | assumption)
                      have hx6 := bt_at a1 x7_2
                      replace p6 := eq_true p6
                      replace q6 := eq_true q6
                      have p10 : 0 ≤ ((ji7) : Int) := of_decide_eq_true (by first | (with_reducible assumption) | assumption)
                      have q10 : (ji7) < (a0.size : Int) := of_decide_eq_true (by first | (with_reducible assumption) | assumption)
                      have hx10 := bt_at a0 (ji7)
                      replace p10 := eq_true p10
                      replace q10 := eq_true q10
                      go_wp2
                      repeat (go_quiet (fail); try go_wp2)
                      go_roundg k2
                      case measure => have := HK1.out; have := HK2.out; omega
                      case rel => exact ⟨(true), (wrap64 (x7_2 + 1)), (by first | rfl | (simp; done) | (simp [*]; done) | (simp [xt_ne_nil]; done)), (by first | rfl | (simp; done) | (simp [*]; done) | (simp [xt_ne_nil]; done)), H', ⟨by have := HK1.out; have := HK2.out; omega⟩, by repeat (first | exact Drawn0.refl _ | apply Drawn0.step)⟩
                    · rw [if_neg c11] at H
                      have c11b0 : ((bt a1 x7_2) == (bt a0 (ji7))) = false := beq_eq_false_iff_ne.mpr c11
                      have c11b1 : ((bt a1 x7_2) != (bt a0 (ji7))) = true := bne_iff_ne.mpr c11
                      have H' := Aside0.mk H
                      clear H
                      have p6 : 0 ≤ (x7_2 : Int) := of_decide_eq_true (by first | (with_reducible assumption) | assumption)
                      have q6 : x7_2 < (a1.size : Int) := of_decide_eq_true (by first | (with_reducible assumption) | assumption)
                      have hx6 := bt_at a1 x7_2
                      replace p6 := eq_true p6
                      replace q6 := eq_true q6
                      have p10 : 0 ≤ ((ji7) : Int) := of_decide_eq_true (by first | (with_reducible assumption) | assumption)
                      have q10 : (ji7) < (a0.size : Int) := of_decide_eq_true (by first | (with_reducible assumption) | assumption)
                      have hx10 := bt_at a0 (ji7)
                      replace p10 := eq_true p10
                      replace q10 := eq_true q10
                      go_wp2
                      repeat (go_quiet (fail); try go_wp2)
                      go_roundg k2
                      case measure => have := HK1.out; have := HK2.out; omega
                      case rel => exact ⟨(x6_2), (wrap64 (x7_2 + 1)), (by first | rfl | (simp; done) | (simp [*]; done) | (simp [xt_ne_nil]; done)), (by first | rfl | (simp; done) | (simp [*]; done) | (simp [xt_ne_nil]; done)), H', ⟨by have := HK1.out; have := HK2.out; omega⟩, by repeat (first | exact Drawn0.refl _ | apply Drawn0.step)⟩
                  · rw [if_neg c9] at H
                    exact absurd H (by simp)
                · rw [if_neg c8] at H
                  exact absurd H (by simp)
              · rw [if_neg c5] at H
                exact absurd H (by simp)
            · rw [if_neg c4] at H
              have c4b0 : decide (x7_2 < (a1.size : Int)) = false := decide_eq_false c4
              clear c4
              by_cases c12 : x6_2 = true
              · subst c12
                have H1 : (sanitize_zzTrimRight.l0 k2 a0 a1 (wrap64 (x5_1 - 1))) = some r := by rw [if_pos rfl] at H; exact H
                clear H
                have H := H1
                clear H1
                have H' := Aside0.mk H
                clear H
                go_wp2
                repeat (go_quiet (fail); try go_wp2)
                go_roundg k2
                case measure => have := HK1.out; have := HK2.out; omega
                case rel => exact ⟨(wrap64 (x5_1 - 1)), (by first | rfl | (simp; done) | (simp [*]; done) | (simp [xt_ne_nil]; done)), H', ⟨by have := HK1.out; have := HK2.out; omega⟩, by repeat (first | exact Drawn0.refl _ | apply Drawn0.step)⟩
              · replace c12 := Bool.eq_false_iff.mpr c12
                subst c12
                have H1 : (if 0 ≤ x5_1 then (if x5_1 ≤ (a0.size : Int) then (some (a0.extract 0 (x5_1 : Int).toNat)) else (none)) else (none)) = some r := by rw [if_neg (show ¬ (false = true) by decide)] at H; exact H
                clear H
                have H := H1
                clear H1
                by_cases c13 : 0 ≤ x5_1
                · rw [if_pos c13] at H
                  have c13b0 := eq_true c13
                  have c13b1 : decide (0 ≤ x5_1) = true := decide_eq_true c13
                  clear c13
                  by_cases c14 : x5_1 ≤ (a0.size : Int)
                  · rw [if_pos c14] at H
                    have c14b0 := eq_true c14
                    have c14b1 : decide (x5_1 ≤ (a0.size : Int)) = true := decide_eq_true c14
                    clear c14
                    obtain rfl := Option.some.inj H
                    go_wp2
                    repeat (go_quiet (fail); try go_wp2)
                    go_ret
                    exact ⟨by first | rfl | (simp; done) | (simp [*]; done) | (simp [xt_ne_nil]; done), by repeat (first | exact Drawn0.refl _ | apply Drawn0.step)⟩
                  · rw [if_neg c14] at H
                    exact absurd H (by simp)
                · rw [if_neg c13] at H
                  exact absurd H (by simp)
      · rw [if_neg c3] at H
        have c3b0 : decide (0 < x5_1) = false := decide_eq_false c3
        clear c3
        by_cases c15 : 0 ≤ x5_1
        · rw [if_pos c15] at H
          have c15b0 := eq_true c15
          have c15b1 : decide (0 ≤ x5_1) = true := decide_eq_true c15
          clear c15
          by_cases c16 : x5_1 ≤ (a0.size : Int)
          · rw [if_pos c16] at H
            have c16b0 := eq_true c16
            have c16b1 : decide (x5_1 ≤ (a0.size : Int)) = true := decide_eq_true c16
            clear c16
            obtain rfl := Option.some.inj H
            go_wp2
            repeat (go_quiet (fail); try go_wp2)
            go_ret
            exact ⟨by first | rfl | (simp; done) | (simp [*]; done) | (simp [xt_ne_nil]; done), by repeat (first | exact Drawn0.refl _ | apply Drawn0.step)⟩
          · rw [if_neg c16] at H
            exact absurd H (by simp)
        · rw [if_neg c15] at H
          exact absurd H (by simp)

/-! ### sets of characters of ASCII, and what a text begins with of them -/
def asciiSet (s : ByteArray) : Bool := decide (∀ i (h : i < s.size), (s[i]'h).toNat < 128)
theorem asciiSet_at {s : ByteArray} (h : asciiSet s = true) (i : Nat) (hi : i < s.size) : (s[i]'hi).toNat < 128 := by
  simp only [asciiSet, decide_eq_true_eq] at h; exact h i hi
def inSet (c : Int) (s : ByteArray) : Bool := decide (∃ i, ∃ h : i < s.size, ((s[i]'h).toNat : Int) = c)
theorem inSet_true {c : Int} {s : ByteArray} (i : Nat) (h : i < s.size) (e : ((s[i]'h).toNat : Int) = c) : inSet c s = true := by
  simp only [inSet, decide_eq_true_eq]; exact ⟨i, h, e⟩
theorem inSet_false {c : Int} {s : ByteArray} (h : ∀ i (h : i < s.size), ((s[i]'h).toNat : Int) ≠ c) : inSet c s = false := by
  simp only [inSet, decide_eq_false_iff_not]; rintro ⟨i, hi, e⟩; exact h i hi e
/-- Is a byte one of a set's? -/
def inB (s : ByteArray) (c : UInt8) : Bool := inSet (c.toNat : Int) s
theorem inSet_byte {s set : ByteArray} (ha : asciiSet set = true) (pos : Nat) (hp : pos < s.size) (h : inSet ((Utf8.decode s pos).1 : Int) set = true) :
    (s[pos]'hp).toNat < 128 ∧ inB set (s[pos]'hp) = true := by
  have hl : (Utf8.decode s pos).1 < 128 := by
    simp only [inSet, decide_eq_true_eq] at h
    obtain ⟨i, hi, e⟩ := h
    have := asciiSet_at ha i hi
    omega
  have hb : (s[pos]'hp).toNat < 128 := by
    rcases Nat.lt_or_ge (s[pos]'hp).toNat 128 with h1 | h1
    · exact h1
    · have := (decode_high s pos hp h1).1; omega
  refine ⟨hb, ?_⟩
  rw [decode_ascii s pos hp hb] at h
  exact h
theorem inB_false {s set : ByteArray} (pos : Nat) (hp : pos < s.size) (ha : asciiSet set = true) (h : inSet ((Utf8.decode s pos).1 : Int) set = false) : inB set (s[pos]'hp) = false := by
  rcases Nat.lt_or_ge (s[pos]'hp).toNat 128 with h1 | h1
  · rw [decode_ascii s pos hp h1] at h; exact h
  · refine inSet_false fun i hi e => ?_
    have := asciiSet_at ha i hi
    omega
theorem takeWhile_len {α : Type} (p : α → Bool) : ∀ (l : List α) (n : Nat), (∀ i (h : i < l.length), i < n → p l[i] = true) → (n = l.length ∨ ∃ h : n < l.length, p l[n] = false) → (l.takeWhile p).length = n
  | [], n, _, h2 => by
    rcases h2 with h | ⟨h, _⟩
    · simp at h; simp [h]
    · exact absurd h (Nat.not_lt_zero _)
  | a :: l, 0, _, h2 => by
    rcases h2 with h | ⟨_, h⟩
    · simp at h
    · simp at h; simp [List.takeWhile_cons, h]
  | a :: l, n + 1, h1, h2 => by
    have ha : p a = true := h1 0 (by simp) (by omega)
    rw [List.takeWhile_cons, if_pos ha, List.length_cons]
    congr 1
    refine takeWhile_len p l n (fun i h hi => h1 (i + 1) (by simp; omega) (by omega)) ?_
    rcases h2 with h | ⟨h, e⟩
    · exact .inl (by simpa using h)
    · exact .inr ⟨by simpa using h, by simpa using e⟩
/-- What stays of a text behind all bytes of a set that it begins with. -/
def trimL (s set : ByteArray) : ByteArray := s.extract (s.data.toList.takeWhile (inB set)).length s.size
theorem trimL_at {s set : ByteArray} (n : Nat) (h1 : ∀ i (h : i < s.size), i < n → inB set (s[i]'h) = true) (h2 : n = s.size ∨ ∃ h : n < s.size, inB set (s[n]'h) = false) : trimL s set = s.extract n s.size := by
  unfold trimL
  rw [takeWhile_len (inB set) s.data.toList n (fun i h hi => h1 i h hi) h2]
theorem extract_none (s : ByteArray) : s.extract s.size s.size = (⟨#[]⟩ : ByteArray) := by
  apply ByteArray.ext
  simp [ByteArray.data_extract]

/-! ### sanitize_zzInSet: function 22 -/
def sanitize_zzInSet.f (a0 : Int) (a1 : ByteArray) : Option Bool := if asciiSet a1 = true then some (inSet a0 a1) else none

set_option maxHeartbeats 400000 in
theorem sanitize_zzInSet.calls (a0 : Int) (a1 : ByteArray) (r : Bool) (w : World) (h : sanitize_zzInSet.f a0 a1 = some r) :
    Calls Try.prog 22 #[.int .i32 a0, .string a1] w fun e w' => e = .returned (.bool r) ∧ Below w.heap.size w w' := by
  have ha : asciiSet a1 = true := by
    unfold sanitize_zzInSet.f at h; split at h
    · assumption
    · cases h
  have hr : inSet a0 a1 = r := by unfold sanitize_zzInSet.f at h; rw [if_pos ha] at h; exact Option.some.inj h
  clear h
  go_enter Try.func22, Try.ntmps22
  go_wp2
  go_loopw [4] (fun u wr => ∃ pos, wr = w.iter a1 pos ∧ u = .bool false ∧ ∀ i (h : i < a1.size), i < pos → ((a1[i]'h).toNat : Int) ≠ a0) (fun _ wr => a1.size - wr.iterPos w.heap.size)
  case atStart => exact ⟨0, rfl, rfl, fun i _ h => absurd h (by omega)⟩
  case round =>
    obtain ⟨pos, rfl, rfl, hall⟩ := hrel
    have HA := Lib.hid hall; clear hall
    by_cases hp : pos < a1.size
    · have hl := asciiSet_at ha pos hp
      have hd := decode_ascii a1 pos hp hl
      have hn := run_next_any (P := Try.prog) w a1 pos 0 hp
      rw [hd] at hn
      by_cases hb : ((a1[pos]'hp).toNat : Int) = a0
      · have hb' : (a0 == ((a1[pos]'hp).toNat : Int)) = true := by rw [hb]; simp
        obtain rfl : r = true := by rw [← hr]; exact inSet_true pos hp hb
        clear hr ha hd hl hb
        go_wp2
        go_ret
        exact ⟨rfl, (Below.refl _ _).alloc (Nat.le_refl _) _⟩
      · have hb' : (a0 == ((a1[pos]'hp).toNat : Int)) = false := by simp; exact fun e => hb e.symm
        have HR := Lib.hid hr; clear hr hd
        have HB := Lib.hid hb; clear hb
        go_wp2
        go_roundw
        case rel =>
          refine ⟨pos + 1, rfl, rfl, fun i h hi => ?_⟩
          by_cases hi' : i < pos
          · exact HA.out i h hi'
          · obtain rfl : i = pos := by omega
            exact HB.out
        case measure => simp; omega
    · have hn := run_next_end (P := Try.prog) w a1 pos 0 hp
      obtain rfl : r = false := by rw [← hr]; exact inSet_false (fun i h => HA.out i h (by omega))
      clear hr
      go_wp2
      go_ret
      exact ⟨rfl, (Below.refl _ _).alloc (Nat.le_refl _) _⟩

/-! ### sanitize_zzTrimLeft: function 17 -/
def sanitize_zzTrimLeft.f (a0 a1 : ByteArray) : Option ByteArray := if asciiSet a1 = true then (if a0.size ≤ 140737488351232 then some (trimL a0 a1) else none) else none

set_option maxHeartbeats 400000 in
theorem sanitize_zzTrimLeft.calls (a0 a1 : ByteArray) (r : ByteArray) (w : World) (h : sanitize_zzTrimLeft.f a0 a1 = some r) :
    Calls Try.prog 17 #[.string a0, .string a1] w fun e w' => e = .returned (.string r) ∧ Below w.heap.size w w' := by
  have ha : asciiSet a1 = true := by
    unfold sanitize_zzTrimLeft.f at h; split at h
    · assumption
    · cases h
  have hz : a0.size ≤ 140737488351232 := by
    unfold sanitize_zzTrimLeft.f at h; rw [if_pos ha] at h; split at h
    · assumption
    · cases h
  have hr : trimL a0 a1 = r := by unfold sanitize_zzTrimLeft.f at h; rw [if_pos ha, if_pos hz] at h; exact Option.some.inj h
  have HR := Lib.hid hr; clear hr
  have HZ := Lib.hid ha; clear ha
  clear h
  go_enter Try.func17, Try.ntmps17
  go_wp2
  go_loopw [4] (fun u wr => ∃ pos, wr.heap[w.heap.size]? = some (.stringIter a0 pos) ∧ Below w.heap.size w wr ∧ u = .string ⟨#[]⟩ ∧ ∀ i (h : i < a0.size), i < pos → inB a1 (a0[i]'h) = true) (fun _ wr => a0.size - wr.iterPos w.heap.size)
  case atStart => exact ⟨0, World.iter_heap _ _ _, (Below.refl _ _).alloc (Nat.le_refl _) _, rfl, fun i _ h => absurd h (by omega)⟩
  case round =>
    obtain ⟨pos, hk, hb, rfl, hall⟩ := hrel
    have HA := Lib.hid hall; clear hall
    have HB := Lib.hid hb; clear hb
    have hsz : w.heap.size < wr.heap.size := (Array.getElem?_eq_some_iff.1 hk).1
    by_cases hp : pos < a0.size
    · have hn := Lib.run_next_any_at (P := Try.prog) wr w.heap.size a0 pos 0 hk hp
      have hk2 := fun p => Lib.iterAt_heap wr w.heap.size a0 pos p hk
      have HK := Lib.hid hk2; clear hk2
      have HK0 := Lib.hid hk; clear hk
      by_cases hin : inSet ((Utf8.decode a0 pos).1 : Int) a1 = true
      · obtain ⟨hlow, hcon⟩ := inSet_byte HZ.out pos hp hin
        have hd := decode_ascii a0 pos hp hlow
        rw [hd] at hn hin
        have hf : sanitize_zzInSet.f ((a0[pos]'hp).toNat : Int) a1 = some true := by unfold sanitize_zzInSet.f; rw [if_pos HZ.out]; exact congrArg some hin
        have HC := Lib.hid hcon; clear hcon
        have HF := Lib.hid hf; clear hf hin hd
        go_wp2_with (go_at_call 22; (with_reducible refine (sanitize_zzInSet.calls _ _ true _ HF.out).mono ?_); rintro e w1 ⟨rfl, hb1⟩)
        have e1 : w1.heap[w.heap.size]? = some (.stringIter a0 (pos + 1)) := by rw [hb1.block _ (by rw [Lib.iterAt_size]; exact hsz)]; exact HK.out _
        have E1 := Lib.hid e1; clear e1
        go_roundw
        case rel =>
          refine ⟨pos + 1, E1.out, HB.out.trans ((Lib.below_iterAt (Below.refl _ wr) (Nat.le_refl _) _ _).trans (hb1.mono (by rw [Lib.iterAt_size]; omega))), rfl, fun i h hi => ?_⟩
          by_cases hi' : i < pos
          · exact HA.out i h hi'
          · obtain rfl : i = pos := by omega
            exact HC.out
        case measure => simp only [World.iterPos, E1.out, HK0.out]; omega
      · have hin' : inSet ((Utf8.decode a0 pos).1 : Int) a1 = false := by simpa using hin
        have hout := inB_false pos hp HZ.out hin'
        have hf : sanitize_zzInSet.f ((Utf8.decode a0 pos).1 : Int) a1 = some false := by unfold sanitize_zzInSet.f; rw [if_pos HZ.out]; exact congrArg some hin'
        have ht := trimL_at pos HA.out (.inr ⟨hp, hout⟩)
        obtain rfl : r = a0.extract pos a0.size := by rw [← HR.out, ht]
        have HF := Lib.hid hf; clear hf hin hin' hout ht
        generalize Utf8.decode a0 pos = q at hn HF
        go_wp2_with (go_at_call 22; (with_reducible refine (sanitize_zzInSet.calls _ _ false _ HF.out).mono ?_); rintro e w1 ⟨rfl, hb1⟩)
        go_ret
        exact ⟨rfl, HB.out.trans ((Lib.below_iterAt (Below.refl _ wr) (Nat.le_refl _) _ _).trans (hb1.mono (by rw [Lib.iterAt_size]; omega)))⟩
    · have hn := Lib.run_next_end_at (P := Try.prog) wr w.heap.size a0 pos 0 hk hp
      have ht : trimL a0 a1 = (⟨#[]⟩ : ByteArray) := (trimL_at a0.size (fun i h _ => HA.out i h (by omega)) (.inl rfl)).trans (extract_none a0)
      obtain rfl : r = (⟨#[]⟩ : ByteArray) := by rw [← HR.out, ht]
      clear hk ht
      go_wp2
      go_ret
      exact ⟨rfl, HB.out⟩

/-! ### sanitize_zzTrim: function 12 -/
def sanitize_zzTrim.f (k : Nat) (a0 : ByteArray) (a1 : ByteArray) : Option (ByteArray) := (sanitize_zzTrimLeft.f a0 a1).bind fun t101 => ((sanitize_zzTrimRight.f k t101 a1).bind fun t102 => (some t102))
theorem sanitize_zzTrim.mono : ∀ a0 a1 k, LeO (sanitize_zzTrim.f k a0 a1) (sanitize_zzTrim.f (k + 1) a0 a1) := by
  intro a0 a1 k
  unfold sanitize_zzTrim.f
  repeat' first
      | (with_reducible exact sanitize_zzTrimRight.mono _ _ _)
      | (with_reducible exact LeO.refl _)
      | (with_reducible exact LeO.none _)
      | (with_reducible refine LeO.ite ?_ ?_)
      | (with_reducible refine LeO.bind ?_ (fun _ => ?_))
      | exact sanitize_zzTrimRight.mono _ _ _
      | exact LeO.none _
      | refine LeO.ite ?_ ?_
      | refine LeO.bind ?_ (fun _ => ?_)
set_option maxHeartbeats 8000000 in
set_option maxRecDepth 100000 in
theorem sanitize_zzTrim.calls (k : Nat) (a0 : ByteArray) (a1 : ByteArray) (r : ByteArray) (w : World) (h : sanitize_zzTrim.f k a0 a1 = some r) :
    Calls Try.prog 12 #[.string a0, .string a1] w fun e w' => e = .returned (.string r) ∧ Below w.heap.size w w' := by
  have HB := Aside0.mk (Below.refl w.heap.size w)
  have H : ((sanitize_zzTrimLeft.f a0 a1).bind fun t101 => ((sanitize_zzTrimRight.f k t101 a1).bind fun t102 => (some t102))) = some r := h
  clear h
  replace H := Option.bind_eq_some_iff.mp H
  obtain ⟨t101, A30, H⟩ := H
  replace H : ((sanitize_zzTrimRight.f k t101 a1).bind fun t102 => (some t102)) = some r := H
  have A3 := Aside0.mk A30
  clear A30
  replace H := Option.bind_eq_some_iff.mp H
  obtain ⟨t102, A40, H⟩ := H
  replace H : (some t102) = some r := H
  have A4 := Aside0.mk A40
  clear A40
  obtain rfl := Option.some.inj H
  go_enter Try.func12, Try.ntmps12
  go_wp2_with (first | ((with_reducible refine gate_callee (f := 17) rfl ?_); refine goesL_ (some 7) rfl rfl Try.func17 (by kernel_rfl) rfl #[.string a0, .string a1] rfl (by (try simp only [List.map_toArray, List.map_cons, List.map_nil]); first | done | rfl | (simp only [List.length_drop, List.length_take]; rfl)) ?_; (with_reducible refine (sanitize_zzTrimLeft.calls a0 a1 t101 _ A3.out).mono ?_); rintro e w5 ⟨rfl, hb⟩; refine ⟨_, rfl, ?_⟩; have n0_ := Aside0.mk (below_step (by repeat (first | (with_reducible first | exact HB.out | apply below_alloc | apply pw_below_drewN | apply below_drew1) | exact HB.out)) hb); clear HB; have HB := n0_; clear n0_; (try clear hb); (try clear hb2); (try clear hk); (try clear hi)) | ((with_reducible refine gate_callee (f := 16) rfl ?_); refine goesL_ (some 9) rfl rfl Try.func16 (by kernel_rfl) rfl #[.string t101, .string a1] rfl (by (try simp only [List.map_toArray, List.map_cons, List.map_nil]); first | done | rfl | (simp only [List.length_drop, List.length_take]; rfl)) ?_; (with_reducible refine (sanitize_zzTrimRight.calls k t101 a1 t102 _ A4.out).mono ?_); rintro e w' ⟨rfl, ⟨nd, rfl⟩⟩; refine ⟨_, rfl, ?_⟩))
  go_ret
  exact ⟨by first | rfl | (simp [errW_none, errW_some] <;> rfl) | (simp [*, errW_none, errW_some] <;> rfl), by repeat (first | (with_reducible first | exact HB.out | apply below_alloc | apply pw_below_drewN | apply below_drew1) | exact HB.out)⟩

/-! ### errors.New: an interface value over a pointer to a new block -/
abbrev errAt (b : Nat) : Value := .iface 41 (.pointer (some ⟨b, 0, none⟩))
/-- A new error is handed back. -/
def NewErr (e : Ending) : Prop := ∃ b, e = .returned (errAt b)
set_option maxHeartbeats 400000 in
theorem errors_New_any (a0 : ByteArray) (w : World) :
    Calls Try.prog 11 #[.string a0] w fun e w' => NewErr e ∧ Below w.heap.size w w' := by
  go_enter Try.func11, Try.ntmps11
  go_wp2
  go_ret
  exact ⟨⟨_, rfl⟩, (Below.refl _ _).alloc (Nat.le_refl _) _⟩

/-! ### impl_PathClean: function 4 -/
def impl_PathClean.f (k : Nat) (a0 : ByteArray) : Option (ByteArray × Bool) :=
  if a0.size ≤ 4294967296 then
    (if Sane.dotDot a0 = true then some (⟨#[]⟩, false) else (sanitize_zzTrim.f k (Sane.cleaned a0) (⟨#[47]⟩ : ByteArray)).bind fun t => if t.toList = ([46] : List UInt8) then some (⟨#[]⟩, true) else some (t, true))
  else none
theorem impl_PathClean.mono : ∀ a0 k, LeO (impl_PathClean.f k a0) (impl_PathClean.f (k + 1) a0) := by
  intro a0 k
  unfold impl_PathClean.f
  exact LeO.ite (LeO.ite (LeO.refl _) (LeO.bind (sanitize_zzTrim.mono _ _ _) (fun _ => LeO.refl _))) (LeO.refl _)
/-- What Path tells: a path and no error, or no path and a new one. -/
def impl_PathClean.Post (p : ByteArray) (b : Bool) (w : World) (e : Ending) (w' : World) : Prop := (∃ v, e = .returned (.tuple #[.string p, v]) ∧ (if b = true then v = .nilIface else ∃ g, v = errAt g)) ∧ Below w.heap.size w w'

set_option maxHeartbeats 2000000 in
theorem impl_PathClean.path (k : Nat) (a0 : ByteArray) (p : ByteArray) (b : Bool) (w : World) (h : impl_PathClean.f k a0 = some (p, b)) :
    Calls Try.prog 6 #[.string a0] w (impl_PathClean.Post p b w) := by
  unfold impl_PathClean.f at h
  by_cases hs : a0.size ≤ 4294967296
  · rw [if_pos hs] at h
    by_cases hd : Sane.dotDot a0 = true
    · rw [if_pos hd] at h
      obtain ⟨rfl, rfl⟩ := Prod.mk.inj (Option.some.inj h)
      clear h
      have HD := Lib.hid hd
      clear hd
      go_enter Try.func6, Try.ntmps6
      go_wp2_with (first | (go_at_call 10; (with_reducible refine (Sane.fields a0 _ hs).mono ?_); rintro e w1 ⟨A1, rfl, ho1, hb1⟩; have HO := Lib.hid ho1; have HB := Lib.hid hb1; clear ho1 hb1) | (go_at_call 9; (with_reducible refine (Sane.contains_yes a0 A1 _ _ hs HD.out HO.out).mono ?_); rintro e w2 ⟨rfl, hw2⟩; subst hw2) | (go_at_call 11; (with_reducible refine (errors_New_any _ _).mono ?_); rintro e w3 ⟨⟨g3, rfl⟩, hb3⟩; have HB3 := Lib.hid hb3; clear hb3))
      go_ret2
      exact ⟨⟨_, rfl, g3, rfl⟩, HB.out.trans (HB3.out.mono HB.out.size)⟩
    · rw [if_neg hd] at h
      have hdf : Sane.dotDot a0 = false := by simpa using hd
      obtain ⟨t, ht, h⟩ := Option.bind_eq_some_iff.1 h
      have HD := Lib.hid hdf
      have HT := Lib.hid ht
      clear hd hdf ht
      by_cases h46 : t.toList = ([46] : List UInt8)
      · rw [if_pos h46] at h
        obtain ⟨rfl, rfl⟩ := Prod.mk.inj (Option.some.inj h)
        clear h
        have c1 := beq_iff_eq.mpr h46
        clear h46
        go_enter Try.func6, Try.ntmps6
        go_wp2_with (first | (go_at_call 10; (with_reducible refine (Sane.fields a0 _ hs).mono ?_); rintro e w1 ⟨A1, rfl, ho1, hb1⟩; have HO := Lib.hid ho1; have HB := Lib.hid hb1; clear ho1 hb1) | (go_at_call 9; (with_reducible refine (Sane.contains_no a0 A1 _ _ hs HD.out HO.out).mono ?_); rintro e w2 ⟨rfl, hw2⟩; subst hw2) | (go_at_call 13; (with_reducible refine (Sane.clean_is a0 _ hs).mono ?_); rintro e w3 ⟨rfl, hb3⟩; have HB3 := Lib.hid hb3; clear hb3) | (go_at_call 12; (with_reducible refine (sanitize_zzTrim.calls k _ _ t _ HT.out).mono ?_); rintro e w4 ⟨rfl, hb4⟩; have HB4 := Lib.hid hb4; clear hb4))
        go_ret2
        exact ⟨⟨_, rfl, rfl⟩, (HB.out.trans (HB3.out.mono HB.out.size)).trans (HB4.out.mono (HB.out.trans (HB3.out.mono HB.out.size)).size)⟩
      · rw [if_neg h46] at h
        obtain ⟨rfl, rfl⟩ := Prod.mk.inj (Option.some.inj h)
        clear h
        have c1 : (t.toList == ([46] : List UInt8)) = false := beq_eq_false_iff_ne.mpr h46
        clear h46
        go_enter Try.func6, Try.ntmps6
        go_wp2_with (first | (go_at_call 10; (with_reducible refine (Sane.fields a0 _ hs).mono ?_); rintro e w1 ⟨A1, rfl, ho1, hb1⟩; have HO := Lib.hid ho1; have HB := Lib.hid hb1; clear ho1 hb1) | (go_at_call 9; (with_reducible refine (Sane.contains_no a0 A1 _ _ hs HD.out HO.out).mono ?_); rintro e w2 ⟨rfl, hw2⟩; subst hw2) | (go_at_call 13; (with_reducible refine (Sane.clean_is a0 _ hs).mono ?_); rintro e w3 ⟨rfl, hb3⟩; have HB3 := Lib.hid hb3; clear hb3) | (go_at_call 12; (with_reducible refine (sanitize_zzTrim.calls k _ _ t _ HT.out).mono ?_); rintro e w4 ⟨rfl, hb4⟩; have HB4 := Lib.hid hb4; clear hb4))
        go_ret2
        exact ⟨⟨_, rfl, rfl⟩, (HB.out.trans (HB3.out.mono HB.out.size)).trans (HB4.out.mono (HB.out.trans (HB3.out.mono HB.out.size)).size)⟩
  · rw [if_neg hs] at h; cases h

set_option maxHeartbeats 400000 in
theorem impl_PathClean.calls (k : Nat) (a0 : ByteArray) (r1 : ByteArray) (r2 : Bool) (w : World) (h : impl_PathClean.f k a0 = some (r1, r2)) :
    Calls Try.prog 4 #[.string a0] w fun e w' => e = .returned (.tuple #[.string r1, .bool r2]) ∧ Below w.heap.size w w' := by
  have HF := Lib.hid h
  clear h
  cases r2 with
  | true =>
    go_enter Try.func4, Try.ntmps4
    go_wp2_with (go_at_call 6; (with_reducible refine (impl_PathClean.path k _ _ true _ HF.out).mono ?_); rintro e w1 ⟨⟨v, rfl, hv⟩, hb1⟩; rw [if_pos rfl] at hv; subst hv)
    go_region
    go_wp2
    go_ret2
    exact ⟨rfl, hb1.drew⟩
  | false =>
    go_enter Try.func4, Try.ntmps4
    go_wp2_with (go_at_call 6; (with_reducible refine (impl_PathClean.path k _ _ false _ HF.out).mono ?_); rintro e w1 ⟨⟨v, rfl, hv⟩, hb1⟩; rw [if_neg (by simp)] at hv; obtain ⟨g, rfl⟩ := hv)
    go_region
    go_wp2
    go_ret2
    exact ⟨rfl, hb1.drew⟩

/-! ### sanitize_zzIndex: function 21 -/
def sanitize_zzIndex.l0 : Nat → ByteArray → ByteArray → Int → Option (Int)
  | 0, _, _, _ => none
  | k + 1, x0, x1, x5 => if (wrap64 (x5 + (x1.size : Int))) ≤ (x0.size : Int) then (if 0 ≤ x5 then (if x5 ≤ (wrap64 (x5 + (x1.size : Int))) then (if (x0.extract (x5 : Int).toNat ((wrap64 (x5 + (x1.size : Int))) : Int).toNat).toList = x1.toList then (some x5) else (sanitize_zzIndex.l0 k x0 x1 (wrap64 (x5 + 1)))) else (none)) else (none)) else (some (-1))
def sanitize_zzIndex.f (k : Nat) (a0 : ByteArray) (a1 : ByteArray) : Option (Int) := sanitize_zzIndex.l0 k a0 a1 0
theorem sanitize_zzIndex.mono_l : ∀ k, (∀ y0 y1 y2, LeO (sanitize_zzIndex.l0 k y0 y1 y2) (sanitize_zzIndex.l0 (k + 1) y0 y1 y2))
  | 0 => fun _ _ _ r h => by simp [sanitize_zzIndex.l0] at h
  | k + 1 => by
    have ih0 := sanitize_zzIndex.mono_l k
    · intro y0 y1 y2
      unfold sanitize_zzIndex.l0
      repeat' first
      | (with_reducible exact ih0 _ _ _)
      | (with_reducible exact LeO.refl _)
      | (with_reducible exact LeO.none _)
      | (with_reducible refine LeO.ite ?_ ?_)
      | (with_reducible refine LeO.bind ?_ (fun _ => ?_))
      | exact ih0 _ _ _
      | exact LeO.none _
      | refine LeO.ite ?_ ?_
      | refine LeO.bind ?_ (fun _ => ?_)
theorem sanitize_zzIndex.mono : ∀ a0 a1 k, LeO (sanitize_zzIndex.f k a0 a1) (sanitize_zzIndex.f (k + 1) a0 a1) := by
  intro a0 a1 k
  have ih0 := sanitize_zzIndex.mono_l k
  unfold sanitize_zzIndex.f
  repeat' first
      | (with_reducible exact ih0 _ _ _)
      | (with_reducible exact LeO.refl _)
      | (with_reducible exact LeO.none _)
      | (with_reducible refine LeO.ite ?_ ?_)
      | (with_reducible refine LeO.bind ?_ (fun _ => ?_))
      | exact ih0 _ _ _
      | exact LeO.none _
      | refine LeO.ite ?_ ?_
      | refine LeO.bind ?_ (fun _ => ?_)
set_option maxHeartbeats 8000000 in
set_option maxRecDepth 100000 in
theorem sanitize_zzIndex.calls (k : Nat) (a0 : ByteArray) (a1 : ByteArray) (r : Int) (w : World) (h : sanitize_zzIndex.f k a0 a1 = some r) :
    Calls Try.prog 21 #[.string a0, .string a1] w fun e w' => e = .returned (.int .i64 r) ∧ Drawn0 w w' := by
  have H : (sanitize_zzIndex.l0 k a0 a1 0) = some r := h
  clear h
  have H' := Aside0.mk H
  clear H
  go_enter Try.func21, Try.ntmps21
  go_wp2
  go_loopg [5] k (fun kq v5 w' => ∃ (x5_1 : Int), v5 = .int .i64 x5_1 ∧ Aside0 (sanitize_zzIndex.l0 kq a0 a1 x5_1 = some r) ∧ Aside0 (kq ≤ k) ∧ Drawn0 w w')
  case atStart => exact ⟨(0), (by first | rfl | (simp; done) | (simp [*]; done) | (simp [xt_ne_nil]; done)), H', ⟨Nat.le_refl _⟩, by repeat (first | exact Drawn0.refl _ | apply Drawn0.step)⟩
  case round =>
    clear H'
    try clear c2
    try clear p2
    obtain ⟨x5_1, rfl, HA, HK1, ⟨m1, rfl⟩⟩ := hrel
    cases gk with
    | zero => exact absurd HA.out (by simp [sanitize_zzIndex.l0])
    | succ k1 =>
      have H := HA.out
      clear HA
      simp only [sanitize_zzIndex.l0] at H
      by_cases c3 : (wrap64 (x5_1 + (a1.size : Int))) ≤ (a0.size : Int)
      · rw [if_pos c3] at H
        have c3b0 : decide ((wrap64 (x5_1 + (a1.size : Int))) ≤ (a0.size : Int)) = true := decide_eq_true c3
        clear c3
        by_cases c4 : 0 ≤ x5_1
        · rw [if_pos c4] at H
          have c4b0 := eq_true c4
          have c4b1 : decide (0 ≤ x5_1) = true := decide_eq_true c4
          clear c4
          by_cases c5 : x5_1 ≤ (wrap64 (x5_1 + (a1.size : Int)))
          · rw [if_pos c5] at H
            have c5b0 := eq_true c5
            have c5b1 : decide (x5_1 ≤ (wrap64 (x5_1 + (a1.size : Int)))) = true := decide_eq_true c5
            have c6b0 := eq_true (of_decide_eq_true (by first | (with_reducible assumption) | assumption) : (wrap64 (x5_1 + (a1.size : Int))) ≤ (a0.size : Int))
            by_cases c7 : (a0.extract (x5_1 : Int).toNat ((wrap64 (x5_1 + (a1.size : Int))) : Int).toNat).toList = a1.toList
            · rw [if_pos c7] at H
              have c7b0 : ((a0.extract (x5_1 : Int).toNat ((wrap64 (x5_1 + (a1.size : Int))) : Int).toNat).toList == a1.toList) = true := beq_iff_eq.mpr c7
              have c7b1 : ((a0.extract (x5_1 : Int).toNat ((wrap64 (x5_1 + (a1.size : Int))) : Int).toNat).toList != a1.toList) = false := bne_eq_false_iff_eq.mpr c7
              clear c7
              obtain rfl := Option.some.inj H
              go_wp2
              go_ret
              exact ⟨by first | rfl | (simp; done) | (simp [*]; done) | (simp [xt_ne_nil]; done), by repeat (first | exact Drawn0.refl _ | apply Drawn0.step)⟩
            · rw [if_neg c7] at H
              have c7b0 : ((a0.extract (x5_1 : Int).toNat ((wrap64 (x5_1 + (a1.size : Int))) : Int).toNat).toList == a1.toList) = false := beq_eq_false_iff_ne.mpr c7
              have c7b1 : ((a0.extract (x5_1 : Int).toNat ((wrap64 (x5_1 + (a1.size : Int))) : Int).toNat).toList != a1.toList) = true := bne_iff_ne.mpr c7
              have H' := Aside0.mk H
              clear H
              go_wp2
              go_roundg k1
              case measure => have := HK1.out; omega
              case rel => exact ⟨(wrap64 (x5_1 + 1)), (by first | rfl | (simp; done) | (simp [*]; done) | (simp [xt_ne_nil]; done)), H', ⟨by have := HK1.out; omega⟩, by repeat (first | exact Drawn0.refl _ | apply Drawn0.step)⟩
          · rw [if_neg c5] at H
            exact absurd H (by simp)
        · rw [if_neg c4] at H
          exact absurd H (by simp)
      · rw [if_neg c3] at H
        have c3b0 : decide ((wrap64 (x5_1 + (a1.size : Int))) ≤ (a0.size : Int)) = false := decide_eq_false c3
        clear c3
        obtain rfl := Option.some.inj H
        go_wp2
        go_ret
        exact ⟨by first | rfl | (simp; done) | (simp [*]; done) | (simp [xt_ne_nil]; done), by repeat (first | exact Drawn0.refl _ | apply Drawn0.step)⟩

/-! ### sanitize_zzContains: function 14 -/
def sanitize_zzContains.f (k : Nat) (a0 : ByteArray) (a1 : ByteArray) : Option (Bool) := (sanitize_zzIndex.f k a0 a1).bind fun t103 => (some (decide (t103 ≥ 0)))
theorem sanitize_zzContains.mono : ∀ a0 a1 k, LeO (sanitize_zzContains.f k a0 a1) (sanitize_zzContains.f (k + 1) a0 a1) := by
  intro a0 a1 k
  unfold sanitize_zzContains.f
  repeat' first
      | (with_reducible exact sanitize_zzIndex.mono _ _ _)
      | (with_reducible exact LeO.refl _)
      | (with_reducible exact LeO.none _)
      | (with_reducible refine LeO.ite ?_ ?_)
      | (with_reducible refine LeO.bind ?_ (fun _ => ?_))
      | exact sanitize_zzIndex.mono _ _ _
      | exact LeO.none _
      | refine LeO.ite ?_ ?_
      | refine LeO.bind ?_ (fun _ => ?_)
set_option maxHeartbeats 8000000 in
set_option maxRecDepth 100000 in
theorem sanitize_zzContains.calls (k : Nat) (a0 : ByteArray) (a1 : ByteArray) (r : Bool) (w : World) (h : sanitize_zzContains.f k a0 a1 = some r) :
    Calls Try.prog 14 #[.string a0, .string a1] w fun e w' => e = .returned (.bool r) ∧ Drawn0 w w' := by
  have H : ((sanitize_zzIndex.f k a0 a1).bind fun t103 => (some (decide (t103 ≥ 0)))) = some r := h
  clear h
  replace H := Option.bind_eq_some_iff.mp H
  obtain ⟨t103, A30, H⟩ := H
  replace H : (some (decide (t103 ≥ 0))) = some r := H
  have A3 := Aside0.mk A30
  clear A30
  obtain rfl := Option.some.inj H
  go_enter Try.func14, Try.ntmps14
  go_wp2_with (first | ((with_reducible refine gate_callee (f := 21) rfl ?_); refine goesL_ (some 7) rfl rfl Try.func21 (by kernel_rfl) rfl #[.string a0, .string a1] rfl (by (try simp only [List.map_toArray, List.map_cons, List.map_nil]); first | done | rfl | (simp only [List.length_drop, List.length_take]; rfl)) ?_; (with_reducible refine (sanitize_zzIndex.calls k a0 a1 t103 _ A3.out).mono ?_); rintro e w' ⟨rfl, ⟨nd, rfl⟩⟩; refine ⟨_, rfl, ?_⟩))
  go_ret
  exact ⟨by first | rfl | (simp; done) | (simp [*]; done) | (simp [xt_ne_nil]; done), by repeat (first | exact Drawn0.refl _ | apply Drawn0.step)⟩

/-! ### impl_LeafCheck: function 5 -/
def impl_LeafCheck.f (k : Nat) (a0 : ByteArray) : Option Bool :=
  if a0.toList = ([] : List UInt8) then some false else if a0.toList = ([46] : List UInt8) then some false else if a0.toList = ([46, 46] : List UInt8) then some false
  else (sanitize_zzContains.f k a0 (⟨#[47]⟩ : ByteArray)).bind fun b => some (!b)
theorem impl_LeafCheck.mono : ∀ a0 k, LeO (impl_LeafCheck.f k a0) (impl_LeafCheck.f (k + 1) a0) := by
  intro a0 k
  unfold impl_LeafCheck.f
  exact LeO.ite (LeO.refl _) (LeO.ite (LeO.refl _) (LeO.ite (LeO.refl _) (LeO.bind (sanitize_zzContains.mono _ _ _) (fun _ => LeO.refl _))))

/-- What Leaf tells: no error, or a new one. -/
def impl_LeafCheck.Post (b : Bool) (w : World) (e : Ending) (w' : World) : Prop := (if b = true then e = .returned .nilIface else NewErr e) ∧ Below w.heap.size w w'
theorem impl_LeafCheck.Post.bad {w w' : World} {e : Ending} (h : NewErr e) (hb : Below w.heap.size w w') : impl_LeafCheck.Post false w e w' := ⟨by simpa using h, hb⟩
theorem impl_LeafCheck.Post.good {w w' : World} (hb : Below w.heap.size w w') : impl_LeafCheck.Post true w (.returned .nilIface) w' := ⟨by simp, hb⟩

set_option maxHeartbeats 800000 in
theorem impl_LeafCheck.leaf (k : Nat) (a0 : ByteArray) (r : Bool) (w : World) (h : impl_LeafCheck.f k a0 = some r) :
    Calls Try.prog 7 #[.string a0] w (impl_LeafCheck.Post r w) := by
  unfold impl_LeafCheck.f at h
  by_cases c1 : a0.toList = ([] : List UInt8)
  · rw [if_pos c1] at h
    obtain rfl := Option.some.inj h
    have c1b := beq_iff_eq.mpr c1
    clear h
    go_enter Try.func7, Try.ntmps7
    go_wp2_with (go_at_call 11; (with_reducible refine (errors_New_any _ _).mono ?_); rintro e w1 ⟨⟨b, rfl⟩, hb1⟩)
    go_ret
    exact impl_LeafCheck.Post.bad ⟨b, rfl⟩ hb1
  rw [if_neg c1] at h
  have c1b : (a0.toList == ([] : List UInt8)) = false := beq_eq_false_iff_ne.mpr c1
  have c1n : (a0.toList != ([] : List UInt8)) = true := bne_iff_ne.mpr c1
  by_cases c2 : a0.toList = ([46] : List UInt8)
  · rw [if_pos c2] at h
    obtain rfl := Option.some.inj h
    have c2b := beq_iff_eq.mpr c2
    clear h
    go_enter Try.func7, Try.ntmps7
    go_wp2_with (go_at_call 11; (with_reducible refine (errors_New_any _ _).mono ?_); rintro e w1 ⟨⟨b, rfl⟩, hb1⟩)
    go_ret
    exact impl_LeafCheck.Post.bad ⟨b, rfl⟩ hb1
  rw [if_neg c2] at h
  have c2b : (a0.toList == ([46] : List UInt8)) = false := beq_eq_false_iff_ne.mpr c2
  by_cases c3 : a0.toList = ([46, 46] : List UInt8)
  · rw [if_pos c3] at h
    obtain rfl := Option.some.inj h
    have c3b := beq_iff_eq.mpr c3
    clear h
    go_enter Try.func7, Try.ntmps7
    go_wp2_with (go_at_call 11; (with_reducible refine (errors_New_any _ _).mono ?_); rintro e w1 ⟨⟨b, rfl⟩, hb1⟩)
    go_ret
    exact impl_LeafCheck.Post.bad ⟨b, rfl⟩ hb1
  rw [if_neg c3] at h
  have c3b : (a0.toList == ([46, 46] : List UInt8)) = false := beq_eq_false_iff_ne.mpr c3
  obtain ⟨b, hb, h2⟩ := Option.bind_eq_some_iff.mp h
  have HF := Lib.hid hb
  clear h hb
  cases b with
  | true =>
    obtain rfl : r = false := by simpa using (Option.some.inj h2).symm
    clear h2
    go_enter Try.func7, Try.ntmps7
    go_wp2_with (first | (go_at_call 14; (with_reducible refine (sanitize_zzContains.calls k _ _ true _ HF.out).mono ?_); rintro e w2 ⟨rfl, hd⟩) | (go_at_call 11; (with_reducible refine (errors_New_any _ _).mono ?_); rintro e w1 ⟨⟨b, rfl⟩, hb1⟩))
    go_ret
    exact impl_LeafCheck.Post.bad ⟨b, rfl⟩ (hd.below.trans (hb1.mono hd.below.size))
  | false =>
    obtain rfl : r = true := by simpa using (Option.some.inj h2).symm
    clear h2
    go_enter Try.func7, Try.ntmps7
    go_wp2_with (first | (go_at_call 14; (with_reducible refine (sanitize_zzContains.calls k _ _ false _ HF.out).mono ?_); rintro e w2 ⟨rfl, hd⟩) | (go_at_call 11; (with_reducible refine (errors_New_any _ _).mono ?_); rintro e w1 ⟨⟨b, rfl⟩, hb1⟩))
    go_ret
    exact impl_LeafCheck.Post.good hd.below

set_option maxHeartbeats 400000 in
theorem impl_LeafCheck.calls (k : Nat) (a0 : ByteArray) (r : Bool) (w : World) (h : impl_LeafCheck.f k a0 = some r) :
    Calls Try.prog 5 #[.string a0] w fun e w' => e = .returned (.bool r) ∧ Below w.heap.size w w' := by
  have HF := Lib.hid h
  clear h
  cases r with
  | true =>
    go_enter Try.func5, Try.ntmps5
    go_wp2_with (go_at_call 7; (with_reducible refine (impl_LeafCheck.leaf k _ true _ HF.out).mono ?_); rintro e w1 ⟨he, hb1⟩; rw [if_pos rfl] at he; subst he)
    go_ret
    exact ⟨rfl, hb1⟩
  | false =>
    go_enter Try.func5, Try.ntmps5
    go_wp2_with (go_at_call 7; (with_reducible refine (impl_LeafCheck.leaf k _ false _ HF.out).mono ?_); rintro e w1 ⟨he, hb1⟩; rw [if_neg (by simp)] at he; obtain ⟨b, rfl⟩ := he)
    go_ret
    exact ⟨rfl, hb1⟩

end Go.Proofs.Ytnmnokjflkidmaa.PFnPathInside

-- Written by a program of this session's (over the kit's print), with contracts proved by hand among what it calls.
import Derived.Test.YtecfojgamdilnaaPFnSlashesx0
namespace Go.Proofs.Ytecfojgamdilnaa.PFnSlashes
open Go.RowKit Go.Proofs.YtecfojgamdilnaaW.PrintWords Go.Proofs.YtecfojgamdilnaaW.PrintLast Go.Proofs.YtecfojgamdilnaaW.PrintMore
attribute [local go_sem] max2_int min2_int max_two min_two max_three min_three max_four min_four   -- for this text's walks alone
set_option linter.unusedVariables false
set_option linter.unusedSimpArgs false

/-! ### bucket_IsAllSlashes: function 22 -/
/-- All bytes are slashes, and there is one. -/
def bucket_IsAllSlashes.all (s : ByteArray) : Bool := decide (0 < s.size) && decide (∀ i (h : i < s.size), (s[i]'h) = 47)
def bucket_IsAllSlashes.f (a0 : ByteArray) : Option Bool := some (bucket_IsAllSlashes.all a0)

theorem bucket_IsAllSlashes.all_false {s : ByteArray} (i : Nat) (h : i < s.size) (hi : (s[i]'h) ≠ 47) : bucket_IsAllSlashes.all s = false := by
  simp [bucket_IsAllSlashes.all]; intro _; exact ⟨i, h, hi⟩
theorem bucket_IsAllSlashes.all_true {s : ByteArray} (h0 : 0 < s.size) (h : ∀ i (h : i < s.size), (s[i]'h) = 47) : bucket_IsAllSlashes.all s = true := by
  simp only [bucket_IsAllSlashes.all, Bool.and_eq_true, decide_eq_true_eq]; exact ⟨h0, h⟩
theorem bucket_IsAllSlashes.wneq {n : Nat} (h : n ≠ 47) : ((n : Int) != 47) = true := by simp; omega

set_option maxHeartbeats 400000 in
theorem bucket_IsAllSlashes.calls (a0 : ByteArray) (r : Bool) (w : World) (h : bucket_IsAllSlashes.f a0 = some r) :
    Calls Try.prog 22 #[.string a0] w fun e w' => e = .returned (.bool r) ∧ Below w.heap.size w w' := by
  have hr : bucket_IsAllSlashes.all a0 = r := Option.some.inj h
  clear h
  by_cases h0 : a0.size = 0
  · have h1 : ((a0.size : Int) == 0) = true := by simpa using h0
    obtain rfl : r = false := by rw [← hr]; simp [bucket_IsAllSlashes.all, h0]
    go_enter Try.func22, Try.ntmps22
    go_wp2
    go_ret
    exact ⟨rfl, Below.refl _ _⟩
  · have h1 : ((a0.size : Int) == 0) = false := by simpa using h0
    go_enter Try.func22, Try.ntmps22
    go_wp2
    go_loopw [2] (fun u wr => ∃ pos, wr = w.iter a0 pos ∧ u = .bool false ∧ ∀ i (h : i < a0.size), i < pos → (a0[i]'h) = 47) (fun _ wr => a0.size - wr.iterPos w.heap.size)
    case atStart => exact ⟨0, rfl, rfl, fun i _ h => absurd h (by omega)⟩
    case round =>
      obtain ⟨pos, rfl, rfl, hall⟩ := hrel
      by_cases hp : pos < a0.size
      · by_cases hb : (a0[pos]'hp).toNat = 47
        · have hd := decode_ascii a0 pos hp (by omega)
          have hn := run_next_any (P := Try.prog) w a0 pos 0 hp
          rw [hd, hb] at hn
          have HA := Lib.hid hall; clear hall
          go_wp2
          go_roundw
          case rel =>
            refine ⟨pos + 1, rfl, rfl, fun i h hi => ?_⟩
            by_cases hi' : i < pos
            · exact HA.out i h hi'
            · obtain rfl : i = pos := by omega
              exact UInt8.toNat_inj.1 hb
          case measure => simp; omega
        · have hn := run_next_any (P := Try.prog) w a0 pos 0 hp
          have hd : (Utf8.decode a0 pos).1 ≠ 47 := by
            by_cases hx : (a0[pos]'hp).toNat < 128
            · rw [decode_ascii a0 pos hp hx]; exact hb
            · have := (decode_high a0 pos hp (by omega)).1
              omega
          generalize Utf8.decode a0 pos = q at hn hd
          have hd' := bucket_IsAllSlashes.wneq hd
          have hf : bucket_IsAllSlashes.all a0 = false := bucket_IsAllSlashes.all_false pos hp (fun e => hb (by rw [e]; rfl))
          obtain rfl : r = false := by rw [← hr, hf]
          clear hall hd hf hr
          go_wp2
          go_ret
          exact ⟨rfl, (Below.refl _ _).alloc (Nat.le_refl _) _⟩
      · have hn := run_next_end (P := Try.prog) w a0 pos 0 hp
        have hf : bucket_IsAllSlashes.all a0 = true := bucket_IsAllSlashes.all_true (by omega) (fun i h => hall i h (by omega))
        obtain rfl : r = true := by rw [← hr, hf]
        clear hall hf hr
        go_wp2
        go_ret
        exact ⟨rfl, (Below.refl _ _).alloc (Nat.le_refl _) _⟩

/-! ### impl_Slashes: function 13 -/
def impl_Slashes.f (a0 : ByteArray) : Option (Bool) := (bucket_IsAllSlashes.f a0).bind fun t101 => (some t101)
set_option maxHeartbeats 8000000 in
set_option maxRecDepth 100000 in
theorem impl_Slashes.calls (a0 : ByteArray) (r : Bool) (w : World) (h : impl_Slashes.f a0 = some r) :
    Calls Try.prog 13 #[.string a0] w fun e w' => e = .returned (.bool r) ∧ Below w.heap.size w w' := by
  have HB := Aside0.mk (Below.refl w.heap.size w)
  have H : ((bucket_IsAllSlashes.f a0).bind fun t101 => (some t101)) = some r := h
  clear h
  replace H := Option.bind_eq_some_iff.mp H
  obtain ⟨t101, A20, H⟩ := H
  replace H : (some t101) = some r := H
  have A2 := Aside0.mk A20
  clear A20
  obtain rfl := Option.some.inj H
  go_enter Try.func13, Try.ntmps13
  go_wp2_with (first | ((with_reducible refine gate_callee (f := 22) rfl ?_); refine goesL_ (some 4) rfl rfl Try.func22 (by kernel_rfl) rfl #[.string a0] rfl (by (try simp only [List.map_toArray, List.map_cons, List.map_nil]); first | done | rfl | (simp only [List.length_drop, List.length_take]; rfl)) ?_; (with_reducible refine (bucket_IsAllSlashes.calls a0 t101 _ A2.out).mono ?_); rintro e w3 ⟨rfl, hb⟩; refine ⟨_, rfl, ?_⟩; have n0_ := Aside0.mk (below_step (by repeat (first | (with_reducible first | exact HB.out | apply below_alloc | apply pw_below_drewN | apply below_drew1) | exact HB.out)) hb); clear HB; have HB := n0_; clear n0_; (try clear hb); (try clear hb2); (try clear hk); (try clear hi)))
  go_ret
  exact ⟨by first | rfl | (simp [errW_none, errW_some] <;> rfl) | (simp [*, errW_none, errW_some] <;> rfl), by repeat (first | (with_reducible first | exact HB.out | apply below_alloc | apply pw_below_drewN | apply below_drew1) | exact HB.out)⟩

/-! ### laws_FnSlashes: function 5 -/
def laws_FnSlashes.l0 : Nat → ByteArray → Bool → Int → Int → Option (Bool)
  | 0, _, _, _, _ => none
  | k + 1, x0, x3, x14, x15 => if x15 < x14 then (if x3 = true then (if 0 ≤ x15 then (if x15 < (x0.size : Int) then (laws_FnSlashes.l0 k x0 ((bt x0 x15) == 47) x14 (wrap64 (x15 + 1))) else (none)) else (none)) else (laws_FnSlashes.l0 k x0 false x14 (wrap64 (x15 + 1)))) else ((impl_Slashes.f x0).bind fun t102 => (if (t102 == x3) = true then ((impl_Slashes.f (⟨#[47, 47]⟩ : ByteArray)).bind fun t103 => (if t103 = true then ((impl_Slashes.f (⟨#[]⟩ : ByteArray)).bind fun t104 => (some (!t104))) else (some false))) else (some false)))
def laws_FnSlashes.f (k : Nat) (a0 : ByteArray) : Option (Bool) := if (a0.size : Int) > 2147483647 then (some true) else (if (a0.size : Int) > 5000 then (some true) else (laws_FnSlashes.l0 k a0 (a0.toList != ([] : List UInt8)) (a0.size : Int) 0))
theorem laws_FnSlashes.mono_l : ∀ k, (∀ y0 y1 y2 y3, LeO (laws_FnSlashes.l0 k y0 y1 y2 y3) (laws_FnSlashes.l0 (k + 1) y0 y1 y2 y3))
  | 0 => fun _ _ _ _ r h => by simp [laws_FnSlashes.l0] at h
  | k + 1 => by
    have ih0 := laws_FnSlashes.mono_l k
    · intro y0 y1 y2 y3
      unfold laws_FnSlashes.l0
      repeat' first
      | (with_reducible exact ih0 _ _ _ _)
      | (with_reducible exact LeO.refl _)
      | (with_reducible exact LeO.none _)
      | (with_reducible refine LeO.ite ?_ ?_)
      | (with_reducible refine LeO.bind ?_ (fun _ => ?_))
      | exact ih0 _ _ _ _
      | exact LeO.none _
      | refine LeO.ite ?_ ?_
      | refine LeO.bind ?_ (fun _ => ?_)
theorem laws_FnSlashes.mono : ∀ a0 k, LeO (laws_FnSlashes.f k a0) (laws_FnSlashes.f (k + 1) a0) := by
  intro a0 k
  have ih0 := laws_FnSlashes.mono_l k
  unfold laws_FnSlashes.f
  repeat' first
      | (with_reducible exact ih0 _ _ _ _)
      | (with_reducible exact LeO.refl _)
      | (with_reducible exact LeO.none _)
      | (with_reducible refine LeO.ite ?_ ?_)
      | (with_reducible refine LeO.bind ?_ (fun _ => ?_))
      | exact ih0 _ _ _ _
      | exact LeO.none _
      | refine LeO.ite ?_ ?_
      | refine LeO.bind ?_ (fun _ => ?_)
set_option maxHeartbeats 8000000 in
set_option maxRecDepth 100000 in
theorem laws_FnSlashes.calls (k : Nat) (a0 : ByteArray) (r : Bool) (w : World) (h : laws_FnSlashes.f k a0 = some r) :
    Calls Try.prog 5 #[.string a0] w fun e w' => e = .returned (.bool r) ∧ Below w.heap.size w w' := by
  have HB := Aside0.mk (Below.refl w.heap.size w)
  have H : (if (a0.size : Int) > 2147483647 then (some true) else (if (a0.size : Int) > 5000 then (some true) else (laws_FnSlashes.l0 k a0 (a0.toList != ([] : List UInt8)) (a0.size : Int) 0))) = some r := h
  clear h
  by_cases c2 : (a0.size : Int) > 2147483647
  · rw [if_pos c2] at H
    have c2b0 : decide (2147483647 < (a0.size : Int)) = true := decide_eq_true c2
    have c2b1 : decide (2147483647 < a0.size) = true := decide_eq_true (by omega)
    clear c2
    obtain rfl := Option.some.inj H
    go_enter Try.func5, Try.ntmps5
    go_wp2
    go_ret
    exact ⟨by first | rfl | (simp [errW_none, errW_some] <;> rfl) | (simp [*, errW_none, errW_some] <;> rfl), by repeat (first | (with_reducible first | exact HB.out | apply below_alloc | apply pw_below_drewN | apply below_drew1) | exact HB.out)⟩
  · rw [if_neg c2] at H
    have c2b0 : decide (2147483647 < (a0.size : Int)) = false := decide_eq_false c2
    have c2b1 : decide (2147483647 < a0.size) = false := decide_eq_false (by omega)
    clear c2
    by_cases c3 : (a0.size : Int) > 5000
    · rw [if_pos c3] at H
      have c3b0 : decide (5000 < (a0.size : Int)) = true := decide_eq_true c3
      have c3b1 : decide (5000 < a0.size) = true := decide_eq_true (by omega)
      clear c3
      obtain rfl := Option.some.inj H
      go_enter Try.func5, Try.ntmps5
      go_wp2
      go_ret
      exact ⟨by first | rfl | (simp [errW_none, errW_some] <;> rfl) | (simp [*, errW_none, errW_some] <;> rfl), by repeat (first | (with_reducible first | exact HB.out | apply below_alloc | apply pw_below_drewN | apply below_drew1) | exact HB.out)⟩
    · rw [if_neg c3] at H
      have c3b0 : decide (5000 < (a0.size : Int)) = false := decide_eq_false c3
      have c3b1 : decide (5000 < a0.size) = false := decide_eq_false (by omega)
      clear c3
      have H' := Aside0.mk H
      clear H
      go_enter Try.func5, Try.ntmps5
      go_wp2
      go_loopg [3, 15] k (fun kq v3 v15 w' => ∃ (x3_1 : Bool) (x15_1 : Int), v3 = .bool x3_1 ∧ v15 = .int .i64 x15_1 ∧ Aside0 (laws_FnSlashes.l0 kq a0 x3_1 (a0.size : Int) x15_1 = some r) ∧ Aside0 (kq ≤ k) ∧ Aside0 (Below w.heap.size w w'))
      case atStart => exact ⟨((a0.toList != ([] : List UInt8))), (0), (by first | rfl | (simp; done) | (simp [*]; done) | (simp [xt_ne_nil]; done)), (by first | rfl | (simp; done) | (simp [*]; done) | (simp [xt_ne_nil]; done)), H', ⟨Nat.le_refl _⟩, ⟨by repeat (first | (with_reducible first | exact HB.out | apply below_alloc | apply pw_below_drewN | apply below_drew1) | exact HB.out)⟩⟩
      case round =>
        clear H'
        try clear c2
        try clear c2b0
        try clear c2b1
        try clear p2
        try clear c3
        try clear c3b0
        try clear c3b1
        obtain ⟨x3_1, x15_1, rfl, rfl, HA, HK1, HB⟩ := hrel
        cases gk with
        | zero => exact absurd HA.out (by simp [laws_FnSlashes.l0])
        | succ k1 =>
          have H := HA.out
          clear HA
          simp only [laws_FnSlashes.l0] at H
          by_cases c4 : x15_1 < (a0.size : Int)
          · rw [if_pos c4] at H
            have c4b0 : decide (x15_1 < (a0.size : Int)) = true := decide_eq_true c4
            clear c4
            by_cases c5 : x3_1 = true
            · subst c5
              have H1 : (if 0 ≤ x15_1 then (if x15_1 < (a0.size : Int) then (laws_FnSlashes.l0 k1 a0 ((bt a0 x15_1) == 47) (a0.size : Int) (wrap64 (x15_1 + 1))) else (none)) else (none)) = some r := by rw [if_pos rfl] at H; exact H
              clear H
              have H := H1
              clear H1
              by_cases c6 : 0 ≤ x15_1
              · rw [if_pos c6] at H
                have c6b0 : decide (0 ≤ x15_1) = true := decide_eq_true c6
                clear c6
                by_cases c7 : x15_1 < (a0.size : Int)
                · rw [if_pos c7] at H
                  have c7b0 : decide (x15_1 < (a0.size : Int)) = true := decide_eq_true c7
                  clear c7
                  have H' := Aside0.mk H
                  clear H
                  have p8 : 0 ≤ (x15_1 : Int) := of_decide_eq_true (by first | (with_reducible assumption) | assumption)
                  have q8 : x15_1 < (a0.size : Int) := of_decide_eq_true (by first | (with_reducible assumption) | assumption)
                  have hx8 := bt_at a0 x15_1
                  replace p8 := eq_true p8
                  replace q8 := eq_true q8
                  go_wp2
                  go_roundg k1
                  case measure => have := HK1.out; omega
                  case rel => exact ⟨(((bt a0 x15_1) == 47)), (wrap64 (x15_1 + 1)), (by first | rfl | (simp; done) | (simp [*]; done) | (simp [xt_ne_nil]; done)), (by first | rfl | (simp; done) | (simp [*]; done) | (simp [xt_ne_nil]; done)), H', ⟨by have := HK1.out; omega⟩, ⟨by repeat (first | (with_reducible first | exact HB.out | apply below_alloc | apply pw_below_drewN | apply below_drew1) | exact HB.out)⟩⟩
                · rw [if_neg c7] at H
                  exact absurd H (by simp)
              · rw [if_neg c6] at H
                exact absurd H (by simp)
            · replace c5 := Bool.eq_false_iff.mpr c5
              subst c5
              have H1 : (laws_FnSlashes.l0 k1 a0 false (a0.size : Int) (wrap64 (x15_1 + 1))) = some r := by rw [if_neg (show ¬ (false = true) by decide)] at H; exact H
              clear H
              have H := H1
              clear H1
              have H' := Aside0.mk H
              clear H
              go_wp2
              go_roundg k1
              case measure => have := HK1.out; omega
              case rel => exact ⟨(false), (wrap64 (x15_1 + 1)), (by first | rfl | (simp; done) | (simp [*]; done) | (simp [xt_ne_nil]; done)), (by first | rfl | (simp; done) | (simp [*]; done) | (simp [xt_ne_nil]; done)), H', ⟨by have := HK1.out; omega⟩, ⟨by repeat (first | (with_reducible first | exact HB.out | apply below_alloc | apply pw_below_drewN | apply below_drew1) | exact HB.out)⟩⟩
          · rw [if_neg c4] at H
            have c4b0 : decide (x15_1 < (a0.size : Int)) = false := decide_eq_false c4
            clear c4
            replace H := Option.bind_eq_some_iff.mp H
            obtain ⟨t102, A90, H⟩ := H
            replace H : (if (t102 == x3_1) = true then ((impl_Slashes.f (⟨#[47, 47]⟩ : ByteArray)).bind fun t103 => (if t103 = true then ((impl_Slashes.f (⟨#[]⟩ : ByteArray)).bind fun t104 => (some (!t104))) else (some false))) else (some false)) = some r := H
            have A9 := Aside0.mk A90
            clear A90
            by_cases c10 : (t102 == x3_1) = true
            · rw [if_pos c10] at H
              have c10b0 : (t102 == x3_1) = true := c10
              (try (have c10b1 : decide (t102 = x3_1) = true := by simpa using c10))
              (try (have c10b2 : (t102 == x3_1) = true := by simpa using c10))
              clear c10
              replace H := Option.bind_eq_some_iff.mp H
              obtain ⟨t103, A110, H⟩ := H
              replace H : (if t103 = true then ((impl_Slashes.f (⟨#[]⟩ : ByteArray)).bind fun t104 => (some (!t104))) else (some false)) = some r := H
              have A11 := Aside0.mk A110
              clear A110
              by_cases c12 : t103 = true
              · subst c12
                have H1 : ((impl_Slashes.f (⟨#[]⟩ : ByteArray)).bind fun t104 => (some (!t104))) = some r := by rw [if_pos rfl] at H; exact H
                clear H
                have H := H1
                clear H1
                replace H := Option.bind_eq_some_iff.mp H
                obtain ⟨t104, A130, H⟩ := H
                replace H : (some (!t104)) = some r := H
                have A13 := Aside0.mk A130
                clear A130
                obtain rfl := Option.some.inj H
                go_wp2_with (first | ((with_reducible refine gate_callee (f := 13) rfl ?_); refine goesL_ (some 27) rfl rfl Try.func13 (by kernel_rfl) rfl #[.string a0] rfl (by (try simp only [List.map_toArray, List.map_cons, List.map_nil]); first | done | rfl | (simp only [List.length_drop, List.length_take]; rfl)) ?_; (with_reducible refine (impl_Slashes.calls a0 t102 _ A9.out).mono ?_); rintro e w14 ⟨rfl, hb⟩; refine ⟨_, rfl, ?_⟩; have n0_ := Aside0.mk (below_step (by repeat (first | (with_reducible first | exact HB.out | apply below_alloc | apply pw_below_drewN | apply below_drew1) | exact HB.out)) hb); clear HB; have HB := n0_; clear n0_; (try clear hb); (try clear hb2); (try clear hk); (try clear hi)) | (go_at_call 13; (with_reducible refine (impl_Slashes.calls (⟨#[47, 47]⟩ : ByteArray) true _ A11.out).mono ?_); rintro e w15 ⟨rfl, hb⟩; have n0_ := Aside0.mk (below_step (by repeat (first | (with_reducible first | exact HB.out | apply below_alloc | apply pw_below_drewN | apply below_drew1) | exact HB.out)) hb); clear HB; have HB := n0_; clear n0_; (try clear hb); (try clear hb2); (try clear hk); (try clear hi)) | (go_at_call 13; (with_reducible refine (impl_Slashes.calls (⟨#[]⟩ : ByteArray) t104 _ A13.out).mono ?_); rintro e w16 ⟨rfl, hb⟩; have n0_ := Aside0.mk (below_step (by repeat (first | (with_reducible first | exact HB.out | apply below_alloc | apply pw_below_drewN | apply below_drew1) | exact HB.out)) hb); clear HB; have HB := n0_; clear n0_; (try clear hb); (try clear hb2); (try clear hk); (try clear hi)))
                go_ret
                exact ⟨by first | rfl | (simp [errW_none, errW_some] <;> rfl) | (simp [*, errW_none, errW_some] <;> rfl), by repeat (first | (with_reducible first | exact HB.out | apply below_alloc | apply pw_below_drewN | apply below_drew1) | exact HB.out)⟩
              · replace c12 := Bool.eq_false_iff.mpr c12
                subst c12
                have H1 : (some false) = some r := by rw [if_neg (show ¬ (false = true) by decide)] at H; exact H
                clear H
                have H := H1
                clear H1
                obtain rfl := Option.some.inj H
                go_wp2_with (first | ((with_reducible refine gate_callee (f := 13) rfl ?_); refine goesL_ (some 27) rfl rfl Try.func13 (by kernel_rfl) rfl #[.string a0] rfl (by (try simp only [List.map_toArray, List.map_cons, List.map_nil]); first | done | rfl | (simp only [List.length_drop, List.length_take]; rfl)) ?_; (with_reducible refine (impl_Slashes.calls a0 t102 _ A9.out).mono ?_); rintro e w17 ⟨rfl, hb⟩; refine ⟨_, rfl, ?_⟩; have n0_ := Aside0.mk (below_step (by repeat (first | (with_reducible first | exact HB.out | apply below_alloc | apply pw_below_drewN | apply below_drew1) | exact HB.out)) hb); clear HB; have HB := n0_; clear n0_; (try clear hb); (try clear hb2); (try clear hk); (try clear hi)) | (go_at_call 13; (with_reducible refine (impl_Slashes.calls (⟨#[47, 47]⟩ : ByteArray) false _ A11.out).mono ?_); rintro e w18 ⟨rfl, hb⟩; have n0_ := Aside0.mk (below_step (by repeat (first | (with_reducible first | exact HB.out | apply below_alloc | apply pw_below_drewN | apply below_drew1) | exact HB.out)) hb); clear HB; have HB := n0_; clear n0_; (try clear hb); (try clear hb2); (try clear hk); (try clear hi)))
                go_ret
                exact ⟨by first | rfl | (simp [errW_none, errW_some] <;> rfl) | (simp [*, errW_none, errW_some] <;> rfl), by repeat (first | (with_reducible first | exact HB.out | apply below_alloc | apply pw_below_drewN | apply below_drew1) | exact HB.out)⟩
            · rw [if_neg c10] at H
              have c10b0 : (t102 == x3_1) = false := by simpa using c10
              (try (have c10b1 : decide (t102 = x3_1) = false := by simpa using c10))
              (try (have c10b2 : (t102 == x3_1) = false := by simpa using c10))
              (try (have c10b3 : ¬ (t102 = x3_1) := by simpa using c10))
              clear c10
              obtain rfl := Option.some.inj H
              go_wp2_with (first | ((with_reducible refine gate_callee (f := 13) rfl ?_); refine goesL_ (some 27) rfl rfl Try.func13 (by kernel_rfl) rfl #[.string a0] rfl (by (try simp only [List.map_toArray, List.map_cons, List.map_nil]); first | done | rfl | (simp only [List.length_drop, List.length_take]; rfl)) ?_; (with_reducible refine (impl_Slashes.calls a0 t102 _ A9.out).mono ?_); rintro e w19 ⟨rfl, hb⟩; refine ⟨_, rfl, ?_⟩; have n0_ := Aside0.mk (below_step (by repeat (first | (with_reducible first | exact HB.out | apply below_alloc | apply pw_below_drewN | apply below_drew1) | exact HB.out)) hb); clear HB; have HB := n0_; clear n0_; (try clear hb); (try clear hb2); (try clear hk); (try clear hi)))
              go_ret
              exact ⟨by first | rfl | (simp [errW_none, errW_some] <;> rfl) | (simp [*, errW_none, errW_some] <;> rfl), by repeat (first | (with_reducible first | exact HB.out | apply below_alloc | apply pw_below_drewN | apply below_drew1) | exact HB.out)⟩

/-- THE ONE PURE STATEMENT of laws_FnSlashes: yours. -/
def laws_FnSlashes.Pure : Prop := ∀ (a0 : ByteArray), a0.size ≤ 140737488351232 → ∃ k, laws_FnSlashes.f k a0 = some true
theorem laws_FnSlashes.walk (P : laws_FnSlashes.Pure) (a0 : ByteArray) (w : World) (w0 : a0.size ≤ 140737488351232) :
    Calls Try.prog 5 #[.string a0] w fun e w' => e = .returned (.bool true) ∧ Below w.heap.size w w' := by
  obtain ⟨k, h⟩ := P a0 w0
  refine (laws_FnSlashes.calls k a0 true w h).mono ?_
  rintro e w' ⟨rfl, hd⟩
  exact ⟨rfl, hd⟩

end Go.Proofs.Ytecfojgamdilnaa.PFnSlashes

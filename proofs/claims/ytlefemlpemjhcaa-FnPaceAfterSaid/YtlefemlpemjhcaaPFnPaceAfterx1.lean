-- Written by a program of this session's (over the kit's print), with contracts proved by hand among what it calls.
import Derived.Test.YtlefemlpemjhcaaPFnPaceAfterx0
namespace Go.Proofs.Ytlefemlpemjhcaa.PFnPaceAfter
open Go.RowKit Go.Proofs.YtlefemlpemjhcaaW.PrintWords Go.Proofs.YtlefemlpemjhcaaW.PrintLast Go.Proofs.YtlefemlpemjhcaaW.PrintMore
attribute [local go_sem] max2_int min2_int max_two min_two max_three min_three max_four min_four   -- for this text's walks alone
set_option linter.unusedVariables false
set_option linter.unusedSimpArgs false

/-! ### impl_PaceAfter: function 7 -/
def impl_PaceAfter.f (a0 a1 : Int) : Option (Int × Bool) := if 0 ≤ a1 ∧ a1 ≤ 1000 then some (a0, true) else none
set_option maxHeartbeats 400000 in
theorem impl_PaceAfter.calls (a0 a1 : Int) (r1 : Int) (r2 : Bool) (w : World) (h : impl_PaceAfter.f a0 a1 = some (r1, r2)) :
    Calls Try.prog 7 #[.int .i64 a0, .int .i64 a1] w fun e w' => e = .returned (.tuple #[.int .i64 r1, .bool r2]) ∧ Below w.heap.size w w' := by
  have hc : 0 ≤ a1 ∧ a1 ≤ 1000 := by
    unfold impl_PaceAfter.f at h; split at h
    · assumption
    · cases h
  unfold impl_PaceAfter.f at h
  rw [if_pos hc] at h
  obtain ⟨rfl, rfl⟩ := Prod.mk.inj (Option.some.inj h)
  clear h
  obtain ⟨n, rfl⟩ : ∃ n : Nat, a1 = n := ⟨a1.toNat, by omega⟩
  have hn : n ≤ 1000 := by omega
  clear hc
  go_enter Try.func7, Try.ntmps7
  go_wp2_with (first | (go_at_call 16; (with_reducible refine (Pace.wrap _ n hn _).mono ?_); rintro e w1 ⟨b, rfl, ha, hb⟩) | (go_at_call 15; (with_reducible refine (Pace.is_found _ _ _ _ ha).mono ?_); rintro e w2 ⟨rfl, hb2⟩))
  go_ret2
  exact ⟨rfl, hb.trans (hb2.mono hb.size)⟩

/-! ### laws_FnPaceAfter: function 3 -/
def laws_FnPaceAfter.f (a0 : Int) (a1 : Int) : Option (Bool) := if a0 < 0 then (some true) else (if a0 ≥ 1099511627776 then (some true) else (if a1 < 0 then (some true) else (if a1 > 8 then (some true) else ((impl_PaceAfter.f a0 a1).bind fun bt101 => (if bt101.2 = true then (some (bt101.1 == a0)) else (some false))))))
set_option maxHeartbeats 8000000 in
set_option maxRecDepth 100000 in
theorem laws_FnPaceAfter.calls (a0 : Int) (a1 : Int) (r : Bool) (w : World) (h : laws_FnPaceAfter.f a0 a1 = some r) :
    Calls Try.prog 3 #[.int .i64 a0, .int .i64 a1] w fun e w' => e = .returned (.bool r) ∧ Below w.heap.size w w' := by
  have HB := Aside0.mk (Below.refl w.heap.size w)
  have H : (if a0 < 0 then (some true) else (if a0 ≥ 1099511627776 then (some true) else (if a1 < 0 then (some true) else (if a1 > 8 then (some true) else ((impl_PaceAfter.f a0 a1).bind fun bt101 => (if bt101.2 = true then (some (bt101.1 == a0)) else (some false))))))) = some r := h
  clear h
  by_cases c3 : a0 < 0
  · rw [if_pos c3] at H
    have c3b0 : decide (a0 < 0) = true := decide_eq_true c3
    clear c3
    obtain rfl := Option.some.inj H
    go_enter Try.func3, Try.ntmps3
    go_wp2
    go_ret
    exact ⟨by first | rfl | (simp [errW_none, errW_some] <;> rfl) | (simp [*, errW_none, errW_some] <;> rfl), by repeat (first | (with_reducible first | exact HB.out | apply below_alloc | apply pw_below_drewN | apply below_drew1) | exact HB.out)⟩
  · rw [if_neg c3] at H
    have c3b0 : decide (a0 < 0) = false := decide_eq_false c3
    clear c3
    by_cases c4 : a0 ≥ 1099511627776
    · rw [if_pos c4] at H
      have c4b0 : decide (1099511627776 ≤ a0) = true := decide_eq_true c4
      clear c4
      obtain rfl := Option.some.inj H
      go_enter Try.func3, Try.ntmps3
      go_wp2
      go_ret
      exact ⟨by first | rfl | (simp [errW_none, errW_some] <;> rfl) | (simp [*, errW_none, errW_some] <;> rfl), by repeat (first | (with_reducible first | exact HB.out | apply below_alloc | apply pw_below_drewN | apply below_drew1) | exact HB.out)⟩
    · rw [if_neg c4] at H
      have c4b0 : decide (1099511627776 ≤ a0) = false := decide_eq_false c4
      clear c4
      by_cases c5 : a1 < 0
      · rw [if_pos c5] at H
        have c5b0 : decide (a1 < 0) = true := decide_eq_true c5
        clear c5
        obtain rfl := Option.some.inj H
        go_enter Try.func3, Try.ntmps3
        go_wp2
        go_ret
        exact ⟨by first | rfl | (simp [errW_none, errW_some] <;> rfl) | (simp [*, errW_none, errW_some] <;> rfl), by repeat (first | (with_reducible first | exact HB.out | apply below_alloc | apply pw_below_drewN | apply below_drew1) | exact HB.out)⟩
      · rw [if_neg c5] at H
        have c5b0 : decide (a1 < 0) = false := decide_eq_false c5
        clear c5
        by_cases c6 : a1 > 8
        · rw [if_pos c6] at H
          have c6b0 : decide (8 < a1) = true := decide_eq_true c6
          clear c6
          obtain rfl := Option.some.inj H
          go_enter Try.func3, Try.ntmps3
          go_wp2
          go_ret
          exact ⟨by first | rfl | (simp [errW_none, errW_some] <;> rfl) | (simp [*, errW_none, errW_some] <;> rfl), by repeat (first | (with_reducible first | exact HB.out | apply below_alloc | apply pw_below_drewN | apply below_drew1) | exact HB.out)⟩
        · rw [if_neg c6] at H
          have c6b0 : decide (8 < a1) = false := decide_eq_false c6
          clear c6
          replace H := Option.bind_eq_some_iff.mp H
          obtain ⟨⟨t101, t102⟩, A70, H⟩ := H
          replace H : (if t102 = true then (some (t101 == a0)) else (some false)) = some r := H
          have A7 := Aside0.mk A70
          clear A70
          by_cases c8 : t102 = true
          · subst c8
            have H1 : (some (t101 == a0)) = some r := by rw [if_pos rfl] at H; exact H
            clear H
            have H := H1
            clear H1
            obtain rfl := Option.some.inj H
            go_enter Try.func3, Try.ntmps3
            go_wp2_with (first | ((with_reducible refine gate_callee (f := 7) rfl ?_); refine goesL_ (some 24) rfl rfl Try.func7 (by kernel_rfl) rfl #[.int .i64 a0, .int .i64 a1] rfl (by (try simp only [List.map_toArray, List.map_cons, List.map_nil]); first | done | rfl | (simp only [List.length_drop, List.length_take]; rfl)) ?_; (with_reducible refine (impl_PaceAfter.calls a0 a1 t101 true _ A7.out).mono ?_); rintro e w9 ⟨rfl, hb⟩; refine ⟨_, rfl, ?_⟩; have n0_ := Aside0.mk (below_step (by repeat (first | (with_reducible first | exact HB.out | apply below_alloc | apply pw_below_drewN | apply below_drew1) | exact HB.out)) hb); clear HB; have HB := n0_; clear n0_; (try clear hb); (try clear hb2); (try clear hk); (try clear hi)))
            go_ret
            exact ⟨by first | rfl | (simp [errW_none, errW_some] <;> rfl) | (simp [*, errW_none, errW_some] <;> rfl), by repeat (first | (with_reducible first | exact HB.out | apply below_alloc | apply pw_below_drewN | apply below_drew1) | exact HB.out)⟩
          · replace c8 := Bool.eq_false_iff.mpr c8
            subst c8
            have H1 : (some false) = some r := by rw [if_neg (show ¬ (false = true) by decide)] at H; exact H
            clear H
            have H := H1
            clear H1
            obtain rfl := Option.some.inj H
            go_enter Try.func3, Try.ntmps3
            go_wp2_with (first | ((with_reducible refine gate_callee (f := 7) rfl ?_); refine goesL_ (some 24) rfl rfl Try.func7 (by kernel_rfl) rfl #[.int .i64 a0, .int .i64 a1] rfl (by (try simp only [List.map_toArray, List.map_cons, List.map_nil]); first | done | rfl | (simp only [List.length_drop, List.length_take]; rfl)) ?_; (with_reducible refine (impl_PaceAfter.calls a0 a1 t101 false _ A7.out).mono ?_); rintro e w10 ⟨rfl, hb⟩; refine ⟨_, rfl, ?_⟩; have n0_ := Aside0.mk (below_step (by repeat (first | (with_reducible first | exact HB.out | apply below_alloc | apply pw_below_drewN | apply below_drew1) | exact HB.out)) hb); clear HB; have HB := n0_; clear n0_; (try clear hb); (try clear hb2); (try clear hk); (try clear hi)))
            go_ret
            exact ⟨by first | rfl | (simp [errW_none, errW_some] <;> rfl) | (simp [*, errW_none, errW_some] <;> rfl), by repeat (first | (with_reducible first | exact HB.out | apply below_alloc | apply pw_below_drewN | apply below_drew1) | exact HB.out)⟩

/-- THE ONE PURE STATEMENT of laws_FnPaceAfter: yours. -/
def laws_FnPaceAfter.Pure : Prop := ∀ (a0 : Int) (a1 : Int), (Lit.int .i64 a0).wf = true → (Lit.int .i64 a1).wf = true → laws_FnPaceAfter.f a0 a1 = some true
theorem laws_FnPaceAfter.walk (P : laws_FnPaceAfter.Pure) (a0 : Int) (a1 : Int) (w : World) (w0 : (Lit.int .i64 a0).wf = true) (w1 : (Lit.int .i64 a1).wf = true) :
    Calls Try.prog 3 #[.int .i64 a0, .int .i64 a1] w fun e w' => e = .returned (.bool true) ∧ Below w.heap.size w w' := by
  have h := P a0 a1 w0 w1
  refine (laws_FnPaceAfter.calls a0 a1 true w h).mono ?_
  rintro e w' ⟨rfl, hd⟩
  exact ⟨rfl, hd⟩

end Go.Proofs.Ytlefemlpemjhcaa.PFnPaceAfter

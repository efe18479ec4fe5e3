-- Written by a program of this session's (over the kit's print), with contracts proved by hand among what it calls.
import Derived.Test.YtecfojgamdilnaaPFnRuleLinex0
namespace Go.Proofs.Ytecfojgamdilnaa.PFnRuleLine
open Go.RowKit Go.Proofs.YtecfojgamdilnaaW.PrintWords Go.Proofs.YtecfojgamdilnaaW.PrintLast Go.Proofs.YtecfojgamdilnaaW.PrintMore
attribute [local go_sem] max2_int min2_int max_two min_two max_three min_three max_four min_four   -- for this text's walks alone
set_option linter.unusedVariables false
set_option linter.unusedSimpArgs false

/-! ### errors.New: an interface value over a pointer to a new block -/
abbrev errAt (b : Nat) : Value := .iface 48 (.pointer (some ⟨b, 0, none⟩))
/-- A new error is handed back. -/
def NewErr (e : Ending) : Prop := ∃ b, e = .returned (errAt b)
set_option maxHeartbeats 400000 in
theorem errors_New_any (a0 : ByteArray) (w : World) :
    Calls Try.prog 30 #[.string a0] w fun e w' => NewErr e ∧ Below w.heap.size w w' := by
  go_enter Try.func30, Try.ntmps30
  go_wp2
  go_ret
  exact ⟨⟨_, rfl⟩, (Below.refl _ _).alloc (Nat.le_refl _) _⟩

/-! ### impl_RuleLine: function 16 -/
/-- The kind of a rule's line, and its glob. -/
def impl_RuleLine.kind (a0 : ByteArray) : Int × ByteArray :=
  if a0.toList = ([33] : List UInt8) then (3, ⟨#[]⟩)
  else if 2 ≤ a0.size ∧ (a0.extract 0 2).toList = ([45, 32] : List UInt8) then (2, a0.extract 2 a0.size)
  else if 2 ≤ a0.size ∧ (a0.extract 0 2).toList = ([43, 32] : List UInt8) then (1, a0.extract 2 a0.size)
  else (4, ⟨#[]⟩)
def impl_RuleLine.f (a0 : ByteArray) : Option (Int × ByteArray) := if a0.size ≤ 140737488351232 then some (impl_RuleLine.kind a0) else none

theorem impl_RuleLine.minus : (⟨#[45, 32]⟩ : ByteArray).toList = [45, 32] := by decide +kernel
theorem impl_RuleLine.plus : (⟨#[43, 32]⟩ : ByteArray).toList = [43, 32] := by decide +kernel
theorem impl_RuleLine.bcell {W w1 : World} (hb : Below W.heap.size W w1) : (∀ b o, b < W.heap.size → w1.cell? ⟨b, o, none⟩ = W.cell? ⟨b, o, none⟩) ∧ (∀ b o, b < W.heap.size → w1.frozen? ⟨b, o, none⟩ = W.frozen? ⟨b, o, none⟩) :=
  ⟨fun b o h => hb.cell (p := ⟨b, o, none⟩) h, fun b o h => hb.frozen (p := ⟨b, o, none⟩) h⟩
theorem impl_RuleLine.two_cells {w w1 : World} {v1 v2 : Value} {t1 t2 : TypeId} (hb : Below ((w.alloc (.cells #[v1] t1 (0, 0))).alloc (.cells #[v2] t2 (0, 0))).heap.size ((w.alloc (.cells #[v1] t1 (0, 0))).alloc (.cells #[v2] t2 (0, 0))) w1) :
    w1.cell? ⟨w.heap.size, 0, none⟩ = some v1 ∧ w1.frozen? ⟨w.heap.size, 0, none⟩ = false ∧ w1.cell? ⟨w.heap.size + 1, 0, none⟩ = some v2 ∧ w1.frozen? ⟨w.heap.size + 1, 0, none⟩ = false ∧ w.heap.size + 1 < w1.heap.size := by
  have hz := hb.size
  simp at hz
  refine ⟨?_, ?_, ?_, ?_, by omega⟩
  · rw [hb.cell (p := ⟨w.heap.size, 0, none⟩) (by simp; omega)]; simp [go_sem]
  · rw [hb.frozen (p := ⟨w.heap.size, 0, none⟩) (by simp; omega)]; simp [go_sem]
  · rw [hb.cell (p := ⟨w.heap.size + 1, 0, none⟩) (by simp)]; simp [go_sem]
  · rw [hb.frozen (p := ⟨w.heap.size + 1, 0, none⟩) (by simp)]; simp [go_sem]
/-- A closure is made. -/
theorem impl_RuleLine.hmf : ∀ (fn : Fn) (first cap : Array Value) (w : World), (Instr.makeFunc fn first cap).run Try.prog w = .ok (.func fn first cap) w := fun _ _ _ _ => rfl

set_option maxHeartbeats 1600000 in
theorem impl_RuleLine.calls (a0 : ByteArray) (r1 : Int) (r2 : ByteArray) (w : World) (h : impl_RuleLine.f a0 = some (r1, r2)) :
    Calls Try.prog 16 #[.string a0] w fun e w' => e = .returned (.tuple #[.int .i64 r1, .string r2]) ∧ Below w.heap.size w w' := by
  have hz : a0.size ≤ 140737488351232 := by
    unfold impl_RuleLine.f at h; split at h
    · assumption
    · cases h
  have hk : impl_RuleLine.kind a0 = (r1, r2) := by unfold impl_RuleLine.f at h; rw [if_pos hz] at h; exact Option.some.inj h
  clear h
  unfold impl_RuleLine.kind at hk
  by_cases c1 : a0.toList = ([33] : List UInt8)
  · rw [if_pos c1] at hk
    obtain ⟨rfl, rfl⟩ := Prod.mk.inj hk
    have c1b := beq_iff_eq.mpr c1
    clear hk
    have hmf := impl_RuleLine.hmf
    go_enter Try.func16, Try.ntmps16
    go_wp2
    go_end0
    go_wp2
    go_region
    all_goals go_wp2
    all_goals (refine bodyPost_ret (v := .tuple #[.int .i64 3, .string ⟨#[]⟩]) (by simp [results, Try.results16, go_sem]) rfl ⟨rfl, ?_⟩)
    all_goals (repeat (first | exact (((Below.refl _ _).alloc (Nat.le_refl _) _).alloc (by simp) _) | refine Below.drew ?_ | refine Below.setCell ?_ (by simp) _))
  rw [if_neg c1] at hk
  have c1b : (a0.toList == ([33] : List UInt8)) = false := beq_eq_false_iff_ne.mpr c1
  clear c1
  by_cases hlen : 2 ≤ a0.size
  · have hl1 : decide (2 ≤ a0.size) = true := decide_eq_true hlen
    have hl2 : decide (2 ≤ (a0.size : Int)) = true := decide_eq_true (by omega)
    by_cases c2 : (a0.extract 0 2).toList = ([45, 32] : List UInt8)
    · rw [if_pos ⟨hlen, c2⟩] at hk
      obtain ⟨rfl, rfl⟩ := Prod.mk.inj hk
      have p1 := beq_iff_eq.mpr c2
      clear hk c2
      have hmf := impl_RuleLine.hmf
      go_enter Try.func16, Try.ntmps16
      go_wp2
      go_region
      all_goals go_wp2
      all_goals (refine bodyPost_ret (v := .tuple #[.int .i64 2, .string (a0.extract 2 a0.size)]) (by simp [results, Try.results16, go_sem]) rfl ⟨rfl, ?_⟩)
      all_goals (repeat (first | exact (((Below.refl _ _).alloc (Nat.le_refl _) _).alloc (by simp) _) | refine Below.drew ?_ | refine Below.setCell ?_ (by simp) _))
    rw [if_neg (fun h => c2 h.2)] at hk
    have p1 : ((a0.extract 0 2).toList == ([45, 32] : List UInt8)) = false := beq_eq_false_iff_ne.mpr c2
    clear c2
    by_cases c3 : (a0.extract 0 2).toList = ([43, 32] : List UInt8)
    · rw [if_pos ⟨hlen, c3⟩] at hk
      obtain ⟨rfl, rfl⟩ := Prod.mk.inj hk
      have p2 := beq_iff_eq.mpr c3
      clear hk c3
      have hmf := impl_RuleLine.hmf
      go_enter Try.func16, Try.ntmps16
      go_wp2
      go_region
      all_goals go_wp2
      all_goals (refine bodyPost_ret (v := .tuple #[.int .i64 1, .string (a0.extract 2 a0.size)]) (by simp [results, Try.results16, go_sem]) rfl ⟨rfl, ?_⟩)
      all_goals (repeat (first | exact (((Below.refl _ _).alloc (Nat.le_refl _) _).alloc (by simp) _) | refine Below.drew ?_ | refine Below.setCell ?_ (by simp) _))
    rw [if_neg (fun h => c3 h.2)] at hk
    have p2 : ((a0.extract 0 2).toList == ([43, 32] : List UInt8)) = false := beq_eq_false_iff_ne.mpr c3
    clear c3
    obtain ⟨rfl, rfl⟩ := Prod.mk.inj hk
    clear hk
    have hmf := impl_RuleLine.hmf
    go_enter Try.func16, Try.ntmps16
    go_wp2_with (first | (go_at_call 30; (with_reducible refine (errors_New_any _ _).mono ?_); rintro e w3 ⟨⟨b, rfl⟩, hb3⟩; obtain ⟨q0, q1, q2, q3, q4⟩ := impl_RuleLine.two_cells hb3) | go_in)
    go_region
    all_goals go_wp2
    all_goals (refine bodyPost_ret (v := .tuple #[.int .i64 4, .string ⟨#[]⟩]) (by simp [results, Try.results16, go_sem, q0, q2]) rfl ⟨rfl, ?_⟩)
    all_goals (repeat (first | exact ((((Below.refl _ _).alloc (Nat.le_refl _) _).alloc (by simp) _).trans (hb3.mono (by simp; omega))) | refine Below.drew ?_ | refine Below.setCell ?_ (by simp) _))
  · have hl1 : decide (2 ≤ a0.size) = false := decide_eq_false hlen
    have hl2 : decide (2 ≤ (a0.size : Int)) = false := decide_eq_false (by omega)
    rw [if_neg (fun h => hlen h.1), if_neg (fun h => hlen h.1)] at hk
    obtain ⟨rfl, rfl⟩ := Prod.mk.inj hk
    clear hk
    have hmf := impl_RuleLine.hmf
    go_enter Try.func16, Try.ntmps16
    go_wp2_with (first | (go_at_call 30; (with_reducible refine (errors_New_any _ _).mono ?_); rintro e w3 ⟨⟨b, rfl⟩, hb3⟩; obtain ⟨q0, q1, q2, q3, q4⟩ := impl_RuleLine.two_cells hb3) | go_in)
    go_region
    all_goals go_wp2
    all_goals (refine bodyPost_ret (v := .tuple #[.int .i64 4, .string ⟨#[]⟩]) (by simp [results, Try.results16, go_sem, q0, q2]) rfl ⟨rfl, ?_⟩)
    all_goals (repeat (first | exact ((((Below.refl _ _).alloc (Nat.le_refl _) _).alloc (by simp) _).trans (hb3.mono (by simp; omega))) | refine Below.drew ?_ | refine Below.setCell ?_ (by simp) _))

/-! ### laws_FnRuleLine: function 7 -/
def laws_FnRuleLine.j0 : Nat → ByteArray → Int → ByteArray → Bool → Option (Bool)
  | 0, _, _, _, _ => none
  | k + 1, x0, x3, x4, x30 => if x30 = true then (if x3 = 1 then (if 2 ≤ (x0.size : Int) then (some (x4.toList == (x0.extract 2 x0.size).toList)) else (none)) else (some false)) else (if (x0.size : Int) ≥ 2 then (if 0 ≤ 2 then (if 2 ≤ (x0.size : Int) then (if (x0.extract 0 2).toList = ([45, 32] : List UInt8) then (if x3 = 2 then (some (x4.toList == (x0.extract 2 x0.size).toList)) else (some false)) else (if x3 = 4 then (some (x4.toList == ([] : List UInt8))) else (some false))) else (none)) else (none)) else (if x3 = 4 then (some (x4.toList == ([] : List UInt8))) else (some false)))
def laws_FnRuleLine.f (k : Nat) (a0 : ByteArray) : Option (Bool) := if (a0.size : Int) > 2147483647 then (some true) else (if (a0.size : Int) > 65536 then (some true) else ((impl_RuleLine.f a0).bind fun bt101 => ((impl_RuleLine.f (⟨#[33]⟩ : ByteArray)).bind fun bt103 => (if bt103.1 = 3 then (if a0.toList = ([33] : List UInt8) then (some (bt101.2.toList == ([] : List UInt8))) else (if (a0.size : Int) ≥ 2 then (if 0 ≤ 2 then (if 2 ≤ (a0.size : Int) then (laws_FnRuleLine.j0 k a0 bt101.1 bt101.2 ((a0.extract 0 2).toList == ([43, 32] : List UInt8))) else (none)) else (none)) else (laws_FnRuleLine.j0 k a0 bt101.1 bt101.2 false))) else (some false)))))
theorem laws_FnRuleLine.mono_l : ∀ k, (∀ y0 y1 y2 y3, LeO (laws_FnRuleLine.j0 k y0 y1 y2 y3) (laws_FnRuleLine.j0 (k + 1) y0 y1 y2 y3))
  | 0 => fun _ _ _ _ r h => by simp [laws_FnRuleLine.j0] at h
  | k + 1 => by
    have ih0 := laws_FnRuleLine.mono_l k
    · intro y0 y1 y2 y3
      unfold laws_FnRuleLine.j0
      repeat' first
      | (with_reducible exact ih0 _ _ _ _)
      | (with_reducible exact LeO.refl _)
      | (with_reducible exact LeO.none _)
      | (with_reducible refine LeO.ite ?_ ?_)
      | (with_reducible refine LeO.bind ?_ (fun _ => ?_))
      | exact ih0 _ _ _ _
      | exact LeO.none _
      | refine LeO.ite ?_ ?_
      | refine LeO.bind ?_ (fun _ => ?_)
theorem laws_FnRuleLine.mono : ∀ a0 k, LeO (laws_FnRuleLine.f k a0) (laws_FnRuleLine.f (k + 1) a0) := by
  intro a0 k
  have ih0 := laws_FnRuleLine.mono_l k
  unfold laws_FnRuleLine.f
  repeat' first
      | (with_reducible exact ih0 _ _ _ _)
      | (with_reducible exact LeO.refl _)
      | (with_reducible exact LeO.none _)
      | (with_reducible refine LeO.ite ?_ ?_)
      | (with_reducible refine LeO.bind ?_ (fun _ => ?_))
      | exact ih0 _ _ _ _
      | exact LeO.none _
      | refine LeO.ite ?_ ?_
      | refine LeO.bind ?_ (fun _ => ?_)
set_option maxHeartbeats 8000000 in
set_option maxRecDepth 100000 in
theorem laws_FnRuleLine.calls (k : Nat) (a0 : ByteArray) (r : Bool) (w : World) (h : laws_FnRuleLine.f k a0 = some r) :
    Calls Try.prog 7 #[.string a0] w fun e w' => e = .returned (.bool r) ∧ Below w.heap.size w w' := by
  have HB := Aside0.mk (Below.refl w.heap.size w)
  have H : (if (a0.size : Int) > 2147483647 then (some true) else (if (a0.size : Int) > 65536 then (some true) else ((impl_RuleLine.f a0).bind fun bt101 => ((impl_RuleLine.f (⟨#[33]⟩ : ByteArray)).bind fun bt103 => (if bt103.1 = 3 then (if a0.toList = ([33] : List UInt8) then (some (bt101.2.toList == ([] : List UInt8))) else (if (a0.size : Int) ≥ 2 then (if 0 ≤ 2 then (if 2 ≤ (a0.size : Int) then (laws_FnRuleLine.j0 k a0 bt101.1 bt101.2 ((a0.extract 0 2).toList == ([43, 32] : List UInt8))) else (none)) else (none)) else (laws_FnRuleLine.j0 k a0 bt101.1 bt101.2 false))) else (some false)))))) = some r := h
  clear h
  by_cases c2 : (a0.size : Int) > 2147483647
  · rw [if_pos c2] at H
    have c2b0 : decide (2147483647 < (a0.size : Int)) = true := decide_eq_true c2
    have c2b1 : decide (2147483647 < a0.size) = true := decide_eq_true (by omega)
    clear c2
    obtain rfl := Option.some.inj H
    go_enter Try.func7, Try.ntmps7
    go_wp2
    go_ret
    exact ⟨by first | rfl | (simp [errW_none, errW_some] <;> rfl) | (simp [*, errW_none, errW_some] <;> rfl), by repeat (first | (with_reducible first | exact HB.out | apply below_alloc | apply pw_below_drewN | apply below_drew1) | exact HB.out)⟩
  · rw [if_neg c2] at H
    have c2b0 : decide (2147483647 < (a0.size : Int)) = false := decide_eq_false c2
    have c2b1 : decide (2147483647 < a0.size) = false := decide_eq_false (by omega)
    clear c2
    by_cases c3 : (a0.size : Int) > 65536
    · rw [if_pos c3] at H
      have c3b0 : decide (65536 < (a0.size : Int)) = true := decide_eq_true c3
      have c3b1 : decide (65536 < a0.size) = true := decide_eq_true (by omega)
      clear c3
      obtain rfl := Option.some.inj H
      go_enter Try.func7, Try.ntmps7
      go_wp2
      go_ret
      exact ⟨by first | rfl | (simp [errW_none, errW_some] <;> rfl) | (simp [*, errW_none, errW_some] <;> rfl), by repeat (first | (with_reducible first | exact HB.out | apply below_alloc | apply pw_below_drewN | apply below_drew1) | exact HB.out)⟩
    · rw [if_neg c3] at H
      have c3b0 : decide (65536 < (a0.size : Int)) = false := decide_eq_false c3
      have c3b1 : decide (65536 < a0.size) = false := decide_eq_false (by omega)
      clear c3
      replace H := Option.bind_eq_some_iff.mp H
      obtain ⟨⟨t101, t102⟩, A40, H⟩ := H
      replace H : ((impl_RuleLine.f (⟨#[33]⟩ : ByteArray)).bind fun bt103 => (if bt103.1 = 3 then (if a0.toList = ([33] : List UInt8) then (some (t102.toList == ([] : List UInt8))) else (if (a0.size : Int) ≥ 2 then (if 0 ≤ 2 then (if 2 ≤ (a0.size : Int) then (laws_FnRuleLine.j0 k a0 t101 t102 ((a0.extract 0 2).toList == ([43, 32] : List UInt8))) else (none)) else (none)) else (laws_FnRuleLine.j0 k a0 t101 t102 false))) else (some false))) = some r := H
      have A4 := Aside0.mk A40
      clear A40
      replace H := Option.bind_eq_some_iff.mp H
      obtain ⟨⟨t103, t104⟩, A50, H⟩ := H
      replace H : (if t103 = 3 then (if a0.toList = ([33] : List UInt8) then (some (t102.toList == ([] : List UInt8))) else (if (a0.size : Int) ≥ 2 then (if 0 ≤ 2 then (if 2 ≤ (a0.size : Int) then (laws_FnRuleLine.j0 k a0 t101 t102 ((a0.extract 0 2).toList == ([43, 32] : List UInt8))) else (none)) else (none)) else (laws_FnRuleLine.j0 k a0 t101 t102 false))) else (some false)) = some r := H
      have A5 := Aside0.mk A50
      clear A50
      by_cases c6 : t103 = 3
      · rw [if_pos c6] at H
        have c6b0 : (t103 == 3) = true := beq_iff_eq.mpr c6
        have c6b1 : (t103 != 3) = false := bne_eq_false_iff_eq.mpr c6
        clear c6
        by_cases c7 : a0.toList = ([33] : List UInt8)
        · rw [if_pos c7] at H
          have c7b0 : (a0.toList == ([33] : List UInt8)) = true := beq_iff_eq.mpr c7
          have c7b1 : (a0.toList != ([33] : List UInt8)) = false := bne_eq_false_iff_eq.mpr c7
          clear c7
          obtain rfl := Option.some.inj H
          go_enter Try.func7, Try.ntmps7
          go_wp2_with (first | ((with_reducible refine gate_callee (f := 16) rfl ?_); refine goesL_ (some 15) rfl rfl Try.func16 (by kernel_rfl) rfl #[.string a0] rfl (by (try simp only [List.map_toArray, List.map_cons, List.map_nil]); first | done | rfl | (simp only [List.length_drop, List.length_take]; rfl)) ?_; (with_reducible refine (impl_RuleLine.calls a0 t101 t102 _ A4.out).mono ?_); rintro e w8 ⟨rfl, hb⟩; refine ⟨_, rfl, ?_⟩; have n0_ := Aside0.mk (below_step (by repeat (first | (with_reducible first | exact HB.out | apply below_alloc | apply pw_below_drewN | apply below_drew1) | exact HB.out)) hb); clear HB; have HB := n0_; clear n0_; (try clear hb); (try clear hb2); (try clear hk); (try clear hi)) | ((with_reducible refine gate_callee (f := 16) rfl ?_); refine goesL_ (some 19) rfl rfl Try.func16 (by kernel_rfl) rfl #[.string (⟨#[33]⟩ : ByteArray)] rfl (by (try simp only [List.map_toArray, List.map_cons, List.map_nil]); first | done | rfl | (simp only [List.length_drop, List.length_take]; rfl)) ?_; (with_reducible refine (impl_RuleLine.calls (⟨#[33]⟩ : ByteArray) t103 t104 _ A5.out).mono ?_); rintro e w9 ⟨rfl, hb⟩; refine ⟨_, rfl, ?_⟩; have n0_ := Aside0.mk (below_step (by repeat (first | (with_reducible first | exact HB.out | apply below_alloc | apply pw_below_drewN | apply below_drew1) | exact HB.out)) hb); clear HB; have HB := n0_; clear n0_; (try clear hb); (try clear hb2); (try clear hk); (try clear hi)))
          go_ret
          exact ⟨by first | rfl | (simp [errW_none, errW_some] <;> rfl) | (simp [*, errW_none, errW_some] <;> rfl), by repeat (first | (with_reducible first | exact HB.out | apply below_alloc | apply pw_below_drewN | apply below_drew1) | exact HB.out)⟩
        · rw [if_neg c7] at H
          have c7b0 : (a0.toList == ([33] : List UInt8)) = false := beq_eq_false_iff_ne.mpr c7
          have c7b1 : (a0.toList != ([33] : List UInt8)) = true := bne_iff_ne.mpr c7
          have HC10 := Aside0.mk H
          clear H
          go_enter Try.func7, Try.ntmps7
          go_upto_region 11 with (first | ((with_reducible refine gate_callee (f := 16) rfl ?_); refine goesL_ (some 15) rfl rfl Try.func16 (by kernel_rfl) rfl #[.string a0] rfl (by (try simp only [List.map_toArray, List.map_cons, List.map_nil]); first | done | rfl | (simp only [List.length_drop, List.length_take]; rfl)) ?_; (with_reducible refine (impl_RuleLine.calls a0 t101 t102 _ A4.out).mono ?_); rintro e w11 ⟨rfl, hb⟩; refine ⟨_, rfl, ?_⟩; have n0_ := Aside0.mk (below_step (by repeat (first | (with_reducible first | exact HB.out | apply below_alloc | apply pw_below_drewN | apply below_drew1) | exact HB.out)) hb); clear HB; have HB := n0_; clear n0_; (try clear hb); (try clear hb2); (try clear hk); (try clear hi)) | ((with_reducible refine gate_callee (f := 16) rfl ?_); refine goesL_ (some 19) rfl rfl Try.func16 (by kernel_rfl) rfl #[.string (⟨#[33]⟩ : ByteArray)] rfl (by (try simp only [List.map_toArray, List.map_cons, List.map_nil]); first | done | rfl | (simp only [List.length_drop, List.length_take]; rfl)) ?_; (with_reducible refine (impl_RuleLine.calls (⟨#[33]⟩ : ByteArray) t103 t104 _ A5.out).mono ?_); rintro e w12 ⟨rfl, hb⟩; refine ⟨_, rfl, ?_⟩; have n0_ := Aside0.mk (below_step (by repeat (first | (with_reducible first | exact HB.out | apply below_alloc | apply pw_below_drewN | apply below_drew1) | exact HB.out)) hb); clear HB; have HB := n0_; clear n0_; (try clear hb); (try clear hb2); (try clear hk); (try clear hi)))
          (try simp only [Act.put, List.setIfInBounds_toArray, List.set_cons_zero, List.set_cons_succ])
          go_cut [30] (fun v30 wc => ∃ (kq : Nat) (x30_9 : Bool), v30 = .bool x30_9 ∧ Aside0 (laws_FnRuleLine.j0 kq a0 t101 t102 x30_9 = some r) ∧ Aside0 (kq ≤ k) ∧ Aside0 (Below w.heap.size w wc))
          case first =>
            have H := HC10.out
            clear HC10
            by_cases c13 : (a0.size : Int) ≥ 2
            · rw [if_pos c13] at H
              have c13b0 : decide (2 ≤ (a0.size : Int)) = true := decide_eq_true c13
              have c13b1 : decide (2 ≤ a0.size) = true := decide_eq_true (by omega)
              clear c13
              (first | rw [c13b0] | (simp only [i64_w, i32_w]; rw [c13b0]) | skip)
              by_cases c14 : 0 ≤ 2
              · rw [if_pos c14] at H
                have c14b0 := eq_true c14
                have c14b1 : decide (0 ≤ 2) = true := decide_eq_true c14
                clear c14
                by_cases c15 : 2 ≤ (a0.size : Int)
                · rw [if_pos c15] at H
                  have c15b0 := eq_true c15
                  have c15b1 : decide (2 ≤ (a0.size : Int)) = true := decide_eq_true c15
                  clear c15
                  have H' := Aside0.mk H
                  clear H
                  go_wp2
                  go_meet
                  case rel => exact ⟨_, (((a0.extract 0 2).toList == ([43, 32] : List UInt8))), (by first | rfl | (simp; done) | (simp [*]; done) | (simp [xt_ne_nil]; done)), H', ⟨by first | omega | exact Nat.le_refl _⟩, ⟨by repeat (first | (with_reducible first | exact HB.out | apply below_alloc | apply pw_below_drewN | apply below_drew1) | exact HB.out)⟩⟩
                · rw [if_neg c15] at H
                  exact absurd H (by simp)
              · rw [if_neg c14] at H
                exact absurd H (by simp)
            · rw [if_neg c13] at H
              have c13b0 : decide (2 ≤ (a0.size : Int)) = false := decide_eq_false c13
              have c13b1 : decide (2 ≤ a0.size) = false := decide_eq_false (by omega)
              clear c13
              (first | rw [c13b0] | (simp only [i64_w, i32_w]; rw [c13b0]) | skip)
              have H' := Aside0.mk H
              clear H
              go_wp2
              go_meet
              case rel => exact ⟨_, (false), (by first | rfl | (simp; done) | (simp [*]; done) | (simp [xt_ne_nil]; done)), H', ⟨by first | omega | exact Nat.le_refl _⟩, ⟨by repeat (first | (with_reducible first | exact HB.out | apply below_alloc | apply pw_below_drewN | apply below_drew1) | exact HB.out)⟩⟩
          case rest =>
            clear HC10
            try clear c1
            try clear c2
            try clear c2b0
            try clear c2b1
            try clear p2
            try clear c3
            try clear c3b0
            try clear c3b1
            try clear c6
            try clear c6b0
            try clear c6b1
            try clear c7
            try clear c7b0
            try clear c7b1
            try clear c13
            try clear c13b0
            try clear c13b1
            try clear c14
            try clear c14b0
            try clear c14b1
            try clear c15
            try clear c15b0
            try clear c15b1
            obtain ⟨kq, x30_9, rfl, HA, HJ9, HB⟩ := hcut
            cases kq with
            | zero => exact absurd HA.out (by simp [laws_FnRuleLine.j0])
            | succ kj9 =>
              have H := HA.out
              clear HA
              simp only [laws_FnRuleLine.j0] at H
              by_cases c16 : x30_9 = true
              · subst c16
                have H1 : (if t101 = 1 then (if 2 ≤ (a0.size : Int) then (some (t102.toList == (a0.extract 2 a0.size).toList)) else (none)) else (some false)) = some r := by rw [if_pos rfl] at H; exact H
                clear H
                have H := H1
                clear H1
                by_cases c17 : t101 = 1
                · rw [if_pos c17] at H
                  have c17b0 : (t101 == 1) = true := beq_iff_eq.mpr c17
                  have c17b1 : (t101 != 1) = false := bne_eq_false_iff_eq.mpr c17
                  clear c17
                  by_cases c18 : 2 ≤ (a0.size : Int)
                  · rw [if_pos c18] at H
                    have c18b0 := eq_true c18
                    have c18b1 : decide (2 ≤ (a0.size : Int)) = true := decide_eq_true c18
                    clear c18
                    obtain rfl := Option.some.inj H
                    go_wp2
                    go_ret
                    exact ⟨by first | rfl | (simp [errW_none, errW_some] <;> rfl) | (simp [*, errW_none, errW_some] <;> rfl), by repeat (first | (with_reducible first | exact HB.out | apply below_alloc | apply pw_below_drewN | apply below_drew1) | exact HB.out)⟩
                  · rw [if_neg c18] at H
                    exact absurd H (by simp)
                · rw [if_neg c17] at H
                  have c17b0 : (t101 == 1) = false := beq_eq_false_iff_ne.mpr c17
                  have c17b1 : (t101 != 1) = true := bne_iff_ne.mpr c17
                  obtain rfl := Option.some.inj H
                  go_wp2
                  go_ret
                  exact ⟨by first | rfl | (simp [errW_none, errW_some] <;> rfl) | (simp [*, errW_none, errW_some] <;> rfl), by repeat (first | (with_reducible first | exact HB.out | apply below_alloc | apply pw_below_drewN | apply below_drew1) | exact HB.out)⟩
              · replace c16 := Bool.eq_false_iff.mpr c16
                subst c16
                have H1 : (if (a0.size : Int) ≥ 2 then (if 0 ≤ 2 then (if 2 ≤ (a0.size : Int) then (if (a0.extract 0 2).toList = ([45, 32] : List UInt8) then (if t101 = 2 then (some (t102.toList == (a0.extract 2 a0.size).toList)) else (some false)) else (if t101 = 4 then (some (t102.toList == ([] : List UInt8))) else (some false))) else (none)) else (none)) else (if t101 = 4 then (some (t102.toList == ([] : List UInt8))) else (some false))) = some r := by rw [if_neg (show ¬ (false = true) by decide)] at H; exact H
                clear H
                have H := H1
                clear H1
                by_cases c19 : (a0.size : Int) ≥ 2
                · rw [if_pos c19] at H
                  have c19b0 : decide (2 ≤ (a0.size : Int)) = true := decide_eq_true c19
                  have c19b1 : decide (2 ≤ a0.size) = true := decide_eq_true (by omega)
                  clear c19
                  by_cases c20 : 0 ≤ 2
                  · rw [if_pos c20] at H
                    have c20b0 := eq_true c20
                    have c20b1 : decide (0 ≤ 2) = true := decide_eq_true c20
                    clear c20
                    by_cases c21 : 2 ≤ (a0.size : Int)
                    · rw [if_pos c21] at H
                      have c21b0 := eq_true c21
                      have c21b1 : decide (2 ≤ (a0.size : Int)) = true := decide_eq_true c21
                      clear c21
                      by_cases c22 : (a0.extract 0 2).toList = ([45, 32] : List UInt8)
                      · rw [if_pos c22] at H
                        have c22b0 : ((a0.extract 0 2).toList == ([45, 32] : List UInt8)) = true := beq_iff_eq.mpr c22
                        have c22b1 : ((a0.extract 0 2).toList != ([45, 32] : List UInt8)) = false := bne_eq_false_iff_eq.mpr c22
                        clear c22
                        by_cases c23 : t101 = 2
                        · rw [if_pos c23] at H
                          have c23b0 : (t101 == 2) = true := beq_iff_eq.mpr c23
                          have c23b1 : (t101 != 2) = false := bne_eq_false_iff_eq.mpr c23
                          clear c23
                          have c24b0 := eq_true (of_decide_eq_true (by first | (with_reducible assumption) | assumption) : 2 ≤ (a0.size : Int))
                          obtain rfl := Option.some.inj H
                          go_wp2
                          go_ret
                          exact ⟨by first | rfl | (simp [errW_none, errW_some] <;> rfl) | (simp [*, errW_none, errW_some] <;> rfl), by repeat (first | (with_reducible first | exact HB.out | apply below_alloc | apply pw_below_drewN | apply below_drew1) | exact HB.out)⟩
                        · rw [if_neg c23] at H
                          have c23b0 : (t101 == 2) = false := beq_eq_false_iff_ne.mpr c23
                          have c23b1 : (t101 != 2) = true := bne_iff_ne.mpr c23
                          obtain rfl := Option.some.inj H
                          go_wp2
                          go_ret
                          exact ⟨by first | rfl | (simp [errW_none, errW_some] <;> rfl) | (simp [*, errW_none, errW_some] <;> rfl), by repeat (first | (with_reducible first | exact HB.out | apply below_alloc | apply pw_below_drewN | apply below_drew1) | exact HB.out)⟩
                      · rw [if_neg c22] at H
                        have c22b0 : ((a0.extract 0 2).toList == ([45, 32] : List UInt8)) = false := beq_eq_false_iff_ne.mpr c22
                        have c22b1 : ((a0.extract 0 2).toList != ([45, 32] : List UInt8)) = true := bne_iff_ne.mpr c22
                        by_cases c25 : t101 = 4
                        · rw [if_pos c25] at H
                          have c25b0 : (t101 == 4) = true := beq_iff_eq.mpr c25
                          have c25b1 : (t101 != 4) = false := bne_eq_false_iff_eq.mpr c25
                          clear c25
                          obtain rfl := Option.some.inj H
                          go_wp2
                          go_ret
                          exact ⟨by first | rfl | (simp [errW_none, errW_some] <;> rfl) | (simp [*, errW_none, errW_some] <;> rfl), by repeat (first | (with_reducible first | exact HB.out | apply below_alloc | apply pw_below_drewN | apply below_drew1) | exact HB.out)⟩
                        · rw [if_neg c25] at H
                          have c25b0 : (t101 == 4) = false := beq_eq_false_iff_ne.mpr c25
                          have c25b1 : (t101 != 4) = true := bne_iff_ne.mpr c25
                          obtain rfl := Option.some.inj H
                          go_wp2
                          go_ret
                          exact ⟨by first | rfl | (simp [errW_none, errW_some] <;> rfl) | (simp [*, errW_none, errW_some] <;> rfl), by repeat (first | (with_reducible first | exact HB.out | apply below_alloc | apply pw_below_drewN | apply below_drew1) | exact HB.out)⟩
                    · rw [if_neg c21] at H
                      exact absurd H (by simp)
                  · rw [if_neg c20] at H
                    exact absurd H (by simp)
                · rw [if_neg c19] at H
                  have c19b0 : decide (2 ≤ (a0.size : Int)) = false := decide_eq_false c19
                  have c19b1 : decide (2 ≤ a0.size) = false := decide_eq_false (by omega)
                  clear c19
                  by_cases c26 : t101 = 4
                  · rw [if_pos c26] at H
                    have c26b0 : (t101 == 4) = true := beq_iff_eq.mpr c26
                    have c26b1 : (t101 != 4) = false := bne_eq_false_iff_eq.mpr c26
                    clear c26
                    obtain rfl := Option.some.inj H
                    go_wp2
                    go_ret
                    exact ⟨by first | rfl | (simp [errW_none, errW_some] <;> rfl) | (simp [*, errW_none, errW_some] <;> rfl), by repeat (first | (with_reducible first | exact HB.out | apply below_alloc | apply pw_below_drewN | apply below_drew1) | exact HB.out)⟩
                  · rw [if_neg c26] at H
                    have c26b0 : (t101 == 4) = false := beq_eq_false_iff_ne.mpr c26
                    have c26b1 : (t101 != 4) = true := bne_iff_ne.mpr c26
                    obtain rfl := Option.some.inj H
                    go_wp2
                    go_ret
                    exact ⟨by first | rfl | (simp [errW_none, errW_some] <;> rfl) | (simp [*, errW_none, errW_some] <;> rfl), by repeat (first | (with_reducible first | exact HB.out | apply below_alloc | apply pw_below_drewN | apply below_drew1) | exact HB.out)⟩
      · rw [if_neg c6] at H
        have c6b0 : (t103 == 3) = false := beq_eq_false_iff_ne.mpr c6
        have c6b1 : (t103 != 3) = true := bne_iff_ne.mpr c6
        obtain rfl := Option.some.inj H
        go_enter Try.func7, Try.ntmps7
        go_wp2_with (first | ((with_reducible refine gate_callee (f := 16) rfl ?_); refine goesL_ (some 15) rfl rfl Try.func16 (by kernel_rfl) rfl #[.string a0] rfl (by (try simp only [List.map_toArray, List.map_cons, List.map_nil]); first | done | rfl | (simp only [List.length_drop, List.length_take]; rfl)) ?_; (with_reducible refine (impl_RuleLine.calls a0 t101 t102 _ A4.out).mono ?_); rintro e w27 ⟨rfl, hb⟩; refine ⟨_, rfl, ?_⟩; have n0_ := Aside0.mk (below_step (by repeat (first | (with_reducible first | exact HB.out | apply below_alloc | apply pw_below_drewN | apply below_drew1) | exact HB.out)) hb); clear HB; have HB := n0_; clear n0_; (try clear hb); (try clear hb2); (try clear hk); (try clear hi)) | ((with_reducible refine gate_callee (f := 16) rfl ?_); refine goesL_ (some 19) rfl rfl Try.func16 (by kernel_rfl) rfl #[.string (⟨#[33]⟩ : ByteArray)] rfl (by (try simp only [List.map_toArray, List.map_cons, List.map_nil]); first | done | rfl | (simp only [List.length_drop, List.length_take]; rfl)) ?_; (with_reducible refine (impl_RuleLine.calls (⟨#[33]⟩ : ByteArray) t103 t104 _ A5.out).mono ?_); rintro e w28 ⟨rfl, hb⟩; refine ⟨_, rfl, ?_⟩; have n0_ := Aside0.mk (below_step (by repeat (first | (with_reducible first | exact HB.out | apply below_alloc | apply pw_below_drewN | apply below_drew1) | exact HB.out)) hb); clear HB; have HB := n0_; clear n0_; (try clear hb); (try clear hb2); (try clear hk); (try clear hi)))
        go_ret
        exact ⟨by first | rfl | (simp [errW_none, errW_some] <;> rfl) | (simp [*, errW_none, errW_some] <;> rfl), by repeat (first | (with_reducible first | exact HB.out | apply below_alloc | apply pw_below_drewN | apply below_drew1) | exact HB.out)⟩

/-- THE ONE PURE STATEMENT of laws_FnRuleLine: yours. -/
def laws_FnRuleLine.Pure : Prop := ∀ (a0 : ByteArray), a0.size ≤ 140737488351232 → ∃ k, laws_FnRuleLine.f k a0 = some true
theorem laws_FnRuleLine.walk (P : laws_FnRuleLine.Pure) (a0 : ByteArray) (w : World) (w0 : a0.size ≤ 140737488351232) :
    Calls Try.prog 7 #[.string a0] w fun e w' => e = .returned (.bool true) ∧ Below w.heap.size w w' := by
  obtain ⟨k, h⟩ := P a0 w0
  refine (laws_FnRuleLine.calls k a0 true w h).mono ?_
  rintro e w' ⟨rfl, hd⟩
  exact ⟨rfl, hd⟩

end Go.Proofs.Ytecfojgamdilnaa.PFnRuleLine

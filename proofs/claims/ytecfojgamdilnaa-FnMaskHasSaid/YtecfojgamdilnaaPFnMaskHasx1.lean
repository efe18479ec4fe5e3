-- PRINTED BY print.sh 35421559b90ae4d0a3588c463048766b98c2df88dd9212a6774a882060cdf62d: not written by this session
import Derived.Test.YtecfojgamdilnaaPFnMaskHasx0
namespace Go.Proofs.Ytecfojgamdilnaa.PFnMaskHas
open Go.RowKit Go.Proofs.YtecfojgamdilnaaW.PrintWords Go.Proofs.YtecfojgamdilnaaW.PrintLast Go.Proofs.YtecfojgamdilnaaW.PrintMore
attribute [local go_sem] max2_int min2_int max_two min_two max_three min_three max_four min_four   -- for this text's walks alone
set_option linter.unusedVariables false
set_option linter.unusedSimpArgs false

/-! ### encoder_MultiEncoder_Has: function 20 -/
def encoder_MultiEncoder_Has.f (a0 : Int) (a1 : Int) : Option (Bool) := some ((Go.bits .and .u64 a0 a1) != 0)
set_option maxHeartbeats 8000000 in
set_option maxRecDepth 100000 in
theorem encoder_MultiEncoder_Has.calls (a0 : Int) (a1 : Int) (r : Bool) (w : World) (h : encoder_MultiEncoder_Has.f a0 a1 = some r) :
    Calls Try.prog 20 #[.int .u64 a0, .int .u64 a1] w fun e w' => e = .returned (.bool r) ∧ Drawn0 w w' := by
  have H : (some ((Go.bits .and .u64 a0 a1) != 0)) = some r := h
  clear h
  obtain rfl := Option.some.inj H
  go_enter Try.func20, Try.ntmps20
  go_wp2
  go_ret
  exact ⟨by first | rfl | (simp; done) | (simp [*]; done), by repeat (first | exact Drawn0.refl _ | apply Drawn0.step)⟩

/-! ### impl_MaskHas: function 10 -/
def impl_MaskHas.f (a0 : Int) (a1 : Int) : Option (Bool) := (encoder_MultiEncoder_Has.f a0 a1).bind fun t101 => (some t101)
set_option maxHeartbeats 8000000 in
set_option maxRecDepth 100000 in
theorem impl_MaskHas.calls (a0 : Int) (a1 : Int) (r : Bool) (w : World) (h : impl_MaskHas.f a0 a1 = some r) :
    Calls Try.prog 10 #[.int .u64 a0, .int .u64 a1] w fun e w' => e = .returned (.bool r) ∧ Drawn0 w w' := by
  have H : ((encoder_MultiEncoder_Has.f a0 a1).bind fun t101 => (some t101)) = some r := h
  clear h
  replace H := Option.bind_eq_some_iff.mp H
  obtain ⟨t101, A30, H⟩ := H
  replace H : (some t101) = some r := H
  have A3 := Aside0.mk A30
  clear A30
  obtain rfl := Option.some.inj H
  go_enter Try.func10, Try.ntmps10
  go_wp2_with (first | ((with_reducible refine gate_callee (f := 20) rfl ?_); refine goesL_ (some 7) rfl rfl Try.func20 (by kernel_rfl) rfl #[.int .u64 a0, .int .u64 a1] rfl (by (try simp only [List.map_toArray, List.map_cons, List.map_nil]); first | done | rfl | (simp only [List.length_drop, List.length_take]; rfl)) ?_; (with_reducible refine (encoder_MultiEncoder_Has.calls a0 a1 t101 _ A3.out).mono ?_); rintro e w' ⟨rfl, ⟨nd, rfl⟩⟩; refine ⟨_, rfl, ?_⟩))
  go_ret
  exact ⟨by first | rfl | (simp; done) | (simp [*]; done), by repeat (first | exact Drawn0.refl _ | apply Drawn0.step)⟩

/-! ### laws_FnMaskHas: function 3 -/
def laws_FnMaskHas.f (a0 : Int) (a1 : Int) : Option (Bool) := if 0 ≤ (Int.tmod a1 64) then ((impl_MaskHas.f a0 (shl .u64 1 (Int.tmod a1 64))).bind fun t102 => (if (t102 == ((Go.bits .and .u64 a0 (shl .u64 1 (Int.tmod a1 64))) != 0)) = true then ((impl_MaskHas.f (shl .u64 1 (Int.tmod a1 64)) (shl .u64 1 (Int.tmod a1 64))).bind fun t103 => (some t103)) else (some false))) else (none)
set_option maxHeartbeats 8000000 in
set_option maxRecDepth 100000 in
theorem laws_FnMaskHas.calls (a0 : Int) (a1 : Int) (r : Bool) (w : World) (h : laws_FnMaskHas.f a0 a1 = some r) :
    Calls Try.prog 3 #[.int .u64 a0, .int .u8 a1] w fun e w' => e = .returned (.bool r) ∧ Drawn0 w w' := by
  have H : (if 0 ≤ (Int.tmod a1 64) then ((impl_MaskHas.f a0 (shl .u64 1 (Int.tmod a1 64))).bind fun t102 => (if (t102 == ((Go.bits .and .u64 a0 (shl .u64 1 (Int.tmod a1 64))) != 0)) = true then ((impl_MaskHas.f (shl .u64 1 (Int.tmod a1 64)) (shl .u64 1 (Int.tmod a1 64))).bind fun t103 => (some t103)) else (some false))) else (none)) = some r := h
  clear h
  obtain ⟨ji3, hji3⟩ : ∃ j_ : Int, (Int.tmod a1 64) = j_ := ⟨_, rfl⟩
  replace H : (if 0 ≤ (ji3) then ((impl_MaskHas.f a0 (shl .u64 1 (ji3))).bind fun t102 => (if (t102 == ((Go.bits .and .u64 a0 (shl .u64 1 (ji3))) != 0)) = true then ((impl_MaskHas.f (shl .u64 1 (ji3)) (shl .u64 1 (ji3))).bind fun t103 => (some t103)) else (some false))) else (none)) = some r := by first | (rw [hji3] at H; exact H) | (simp only [hji3] at H ⊢; exact H)
  by_cases c4 : 0 ≤ (ji3)
  · rw [if_pos c4] at H
    have c4b0 := eq_true c4
    have c4b1 : decide (0 ≤ (ji3)) = true := decide_eq_true c4
    clear c4
    obtain ⟨ji5, hji5⟩ : ∃ j_ : Int, (shl .u64 1 (ji3)) = j_ := ⟨_, rfl⟩
    replace H : ((impl_MaskHas.f a0 (ji5)).bind fun t102 => (if (t102 == ((Go.bits .and .u64 a0 (ji5)) != 0)) = true then ((impl_MaskHas.f (ji5) (ji5)).bind fun t103 => (some t103)) else (some false))) = some r := by first | (rw [hji5] at H; exact H) | (simp only [hji5] at H ⊢; exact H)
    have hji5_ : (IntKind.u64.wrap (1 * 2 ^ min (ji3).toNat 64)) = ji5 := hji5
    have hji5z : (ji3) ≤ 64 → (IntKind.u64.wrap (1 * 2 ^ (ji3).toNat)) = ji5 := shl_small hji5
    have hji5u : (IntKind.u64.wrap (2 ^ min (ji3).toNat 64)) = ji5 := by have h_ := hji5_; rw [Int.one_mul] at h_; exact h_
    have hji5v : (ji3) ≤ 64 → (IntKind.u64.wrap (2 ^ (ji3).toNat)) = ji5 := fun hle_ => by have h_ := hji5z hle_; rw [Int.one_mul] at h_; exact h_
    replace H := Option.bind_eq_some_iff.mp H
    obtain ⟨t102, A60, H⟩ := H
    replace H : (if (t102 == ((Go.bits .and .u64 a0 (ji5)) != 0)) = true then ((impl_MaskHas.f (ji5) (ji5)).bind fun t103 => (some t103)) else (some false)) = some r := H
    have A6 := Aside0.mk A60
    clear A60
    by_cases c7 : (t102 == ((Go.bits .and .u64 a0 (ji5)) != 0)) = true
    · rw [if_pos c7] at H
      have c7b0 : (t102 == ((Go.bits .and .u64 a0 (ji5)) != 0)) = true := c7
      (try (have c7b1 : decide (t102 = ((Go.bits .and .u64 a0 (ji5)) != 0)) = true := by simpa using c7))
      (try (have c7b2 : (t102 == ((Go.bits .and .u64 a0 (ji5)) != 0)) = true := by simpa using c7))
      clear c7
      replace H := Option.bind_eq_some_iff.mp H
      obtain ⟨t103, A80, H⟩ := H
      replace H : (some t103) = some r := H
      have A8 := Aside0.mk A80
      clear A80
      obtain rfl := Option.some.inj H
      go_enter Try.func3, Try.ntmps3
      go_wp2_with (first | ((with_reducible refine gate_callee (f := 10) rfl ?_); refine goesL_ (some 11) rfl rfl Try.func10 (by kernel_rfl) rfl #[.int .u64 a0, .int .u64 ji5] rfl (by (try simp only [List.map_toArray, List.map_cons, List.map_nil]); first | done | (simp only [hji5]; rfl) | rfl | (simp only [List.length_drop, List.length_take]; rfl)) ?_; (with_reducible refine (impl_MaskHas.calls a0 ji5 t102 _ A6.out).mono ?_); rintro e w' ⟨rfl, ⟨nd, rfl⟩⟩; refine ⟨_, rfl, ?_⟩) | (go_at_call 10; (with_reducible refine (impl_MaskHas.calls ji5 ji5 t103 _ A8.out).mono ?_); rintro e w' ⟨rfl, ⟨nd, rfl⟩⟩))
      go_ret
      exact ⟨by first | rfl | (simp; done) | (simp only [← hji3, ← hji5] <;> (first | rfl | simp)) | (simp [*]; done), by repeat (first | exact Drawn0.refl _ | apply Drawn0.step)⟩
    · rw [if_neg c7] at H
      have c7b0 : (t102 == ((Go.bits .and .u64 a0 (ji5)) != 0)) = false := by simpa using c7
      (try (have c7b1 : decide (t102 = ((Go.bits .and .u64 a0 (ji5)) != 0)) = false := by simpa using c7))
      (try (have c7b2 : (t102 == ((Go.bits .and .u64 a0 (ji5)) != 0)) = false := by simpa using c7))
      (try (have c7b3 : ¬ (t102 = ((Go.bits .and .u64 a0 (ji5)) != 0)) := by simpa using c7))
      clear c7
      obtain rfl := Option.some.inj H
      go_enter Try.func3, Try.ntmps3
      go_wp2_with (first | ((with_reducible refine gate_callee (f := 10) rfl ?_); refine goesL_ (some 11) rfl rfl Try.func10 (by kernel_rfl) rfl #[.int .u64 a0, .int .u64 ji5] rfl (by (try simp only [List.map_toArray, List.map_cons, List.map_nil]); first | done | (simp only [hji5]; rfl) | rfl | (simp only [List.length_drop, List.length_take]; rfl)) ?_; (with_reducible refine (impl_MaskHas.calls a0 ji5 t102 _ A6.out).mono ?_); rintro e w' ⟨rfl, ⟨nd, rfl⟩⟩; refine ⟨_, rfl, ?_⟩))
      go_ret
      exact ⟨by first | rfl | (simp; done) | (simp only [← hji3, ← hji5] <;> (first | rfl | simp)) | (simp [*]; done), by repeat (first | exact Drawn0.refl _ | apply Drawn0.step)⟩
  · rw [if_neg c4] at H
    exact absurd H (by simp)

/-- THE ONE PURE STATEMENT of laws_FnMaskHas: yours. -/
def laws_FnMaskHas.Pure : Prop := ∀ (a0 : Int) (a1 : Int), (Lit.int .u64 a0).wf = true → (Lit.int .u8 a1).wf = true → laws_FnMaskHas.f a0 a1 = some true
theorem laws_FnMaskHas.walk (P : laws_FnMaskHas.Pure) (a0 : Int) (a1 : Int) (w : World) (w0 : (Lit.int .u64 a0).wf = true) (w1 : (Lit.int .u8 a1).wf = true) :
    Calls Try.prog 3 #[.int .u64 a0, .int .u8 a1] w fun e w' => e = .returned (.bool true) ∧ Below w.heap.size w w' := by
  have h := P a0 a1 w0 w1
  refine (laws_FnMaskHas.calls a0 a1 true w h).mono ?_
  rintro e w' ⟨rfl, hd⟩
  exact ⟨rfl, hd.below⟩

end Go.Proofs.Ytecfojgamdilnaa.PFnMaskHas

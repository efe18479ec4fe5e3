-- Written by a program of this session's (over the kit's print), with contracts proved by hand among what it calls.
import Derived.Test.YtlgoghonnnobfaaDoorPFnPathTherex0
import Derived.Test.YtlgoghonnnobfaaDoorPFnPathTherex1
namespace Go.Proofs.YtlgoghonnnobfaaDoor.PFnPathThere
open Go.RowKit Go.Proofs.YtlgoghonnnobfaaDoorW.PrintWords Go.Proofs.YtlgoghonnnobfaaDoorW.PrintLast Go.Proofs.YtlgoghonnnobfaaDoorW.PrintMore
attribute [local go_sem] max2_int min2_int max_two min_two max_three min_three max_four min_four   -- for this text's walks alone
set_option linter.unusedVariables false
set_option linter.unusedSimpArgs false

/-! ### laws_FnPathThere: function 11 -/
mutual
def laws_FnPathThere.j0 : Nat → Int → List ByteArray → Bool → Option (Bool)
  | 0, _, _, _ => none
  | k + 1, x0, x1, x25 => if x25 = true then (some true) else (laws_FnPathThere.l0 k x0 (⟨#[]⟩ : ByteArray) false x1 (x1.length : Int) 0)
def laws_FnPathThere.l0 : Nat → Int → ByteArray → Bool → List ByteArray → Int → Int → Option (Bool)
  | 0, _, _, _, _, _, _ => none
  | k + 1, x0, x5, x6, x26, x27, x28 => if x28 < x27 then (if 0 ≤ x28 then (if x28 < (x26.length : Int) then ((spec_NameOpen.f k x0 (rdOf ByteArray.empty x26 x28)).bind fun t112 => (if t112 = true then (some true) else (laws_FnPathThere.l1 k x0 x5 x6 x28 (rdOf ByteArray.empty x26 x28) x26 x27 x28 ((rdOf ByteArray.empty x26 x28).size : Int) 0))) else (none)) else (none)) else (if x6 = true then (laws_FnPathThere.j3 k x0 x5 ((Go.bits .and .u64 x0 2) == 0)) else (laws_FnPathThere.j3 k x0 x5 false))
def laws_FnPathThere.l1 : Nat → Int → ByteArray → Bool → Int → ByteArray → List ByteArray → Int → Int → Int → Int → Option (Bool)
  | 0, _, _, _, _, _, _, _, _, _, _ => none
  | k + 1, x0, x5, x6, x7, x8, x26, x27, x28, x37, x38 => if x38 < x37 then (if x6 = true then (laws_FnPathThere.l1 k x0 x5 true x7 x8 x26 x27 x28 x37 (wrap64 (x38 + 1))) else (if 0 ≤ x38 then (if x38 < (x8.size : Int) then (laws_FnPathThere.l1 k x0 x5 ((bt x8 x38) == 47) x7 x8 x26 x27 x28 x37 (wrap64 (x38 + 1))) else (none)) else (none))) else (if x7 > 0 then (if x5.size + 1 ≤ 9223372036854775807 then ((impl_NameEncode.f 33652738 x8).bind fun t113 => (if (x5 ++ (⟨#[47]⟩ : ByteArray)).size + t113.size ≤ 9223372036854775807 then (laws_FnPathThere.l0 k x0 ((x5 ++ (⟨#[47]⟩ : ByteArray)) ++ t113) x6 x26 x27 (wrap64 (x28 + 1))) else (none))) else (none)) else ((impl_NameEncode.f 33652738 x8).bind fun t114 => (if x5.size + t114.size ≤ 9223372036854775807 then (laws_FnPathThere.l0 k x0 (x5 ++ t114) x6 x26 x27 (wrap64 (x28 + 1))) else (none))))
def laws_FnPathThere.j3 : Nat → Int → ByteArray → Bool → Option (Bool)
  | 0, _, _, _ => none
  | k + 1, x0, x5, x63 => if x63 = true then (some true) else ((impl_PathFrom.f x0 x5).bind fun t115 => (laws_FnPathThere.l2 k x0 x5 t115 0 0 (x5.size : Int) 0))
def laws_FnPathThere.l2 : Nat → Int → ByteArray → ByteArray → Int → Int → Int → Int → Option (Bool)
  | 0, _, _, _, _, _, _, _ => none
  | k + 1, x0, x5, x10, x11, x12, x68, x69 => if x69 < x68 then (if 0 ≤ x69 then (if x69 < (x5.size : Int) then (if (bt x5 x69) = 47 then (laws_FnPathThere.l2 k x0 x5 x10 (wrap64 (x11 + 1)) x12 x68 (wrap64 (x69 + 1))) else (laws_FnPathThere.l2 k x0 x5 x10 x11 x12 x68 (wrap64 (x69 + 1)))) else (none)) else (none)) else (laws_FnPathThere.l3 k x0 x5 x10 x11 x12 (x10.size : Int) 0)
def laws_FnPathThere.l3 : Nat → Int → ByteArray → ByteArray → Int → Int → Int → Int → Option (Bool)
  | 0, _, _, _, _, _, _, _ => none
  | k + 1, x0, x5, x10, x11, x12, x80, x81 => if x81 < x80 then (if 0 ≤ x81 then (if x81 < (x10.size : Int) then (if (bt x10 x81) = 47 then (laws_FnPathThere.l3 k x0 x5 x10 x11 (wrap64 (x12 + 1)) x80 (wrap64 (x81 + 1))) else (laws_FnPathThere.l3 k x0 x5 x10 x11 x12 x80 (wrap64 (x81 + 1)))) else (none)) else (none)) else ((impl_PathTo.f x0 x10).bind fun t116 => (if t116.toList = x5.toList then (if x11 = x12 then ((impl_PathTo.f x0 (⟨#[120]⟩ : ByteArray)).bind fun t117 => (some (t117.toList == ([120] : List UInt8)))) else (some false)) else (some false)))
end
def laws_FnPathThere.f (k : Nat) (a0 : Int) (l1 : List ByteArray) : Option (Bool) := (laws_zzFits3.f k l1).bind fun t109 => (if t109 = true then ((laws_encShort.f k l1).bind fun t110 => (if t110 = true then (laws_FnPathThere.j0 k a0 l1 (decide ((l1.length : Int) > 1000))) else (laws_FnPathThere.j0 k a0 l1 true))) else (some true))
theorem laws_FnPathThere.mono_l : ∀ k, (∀ y0 y1 y2, LeO (laws_FnPathThere.j0 k y0 y1 y2) (laws_FnPathThere.j0 (k + 1) y0 y1 y2)) ∧ (∀ y0 y1 y2 y3 y4 y5, LeO (laws_FnPathThere.l0 k y0 y1 y2 y3 y4 y5) (laws_FnPathThere.l0 (k + 1) y0 y1 y2 y3 y4 y5)) ∧ (∀ y0 y1 y2 y3 y4 y5 y6 y7 y8 y9, LeO (laws_FnPathThere.l1 k y0 y1 y2 y3 y4 y5 y6 y7 y8 y9) (laws_FnPathThere.l1 (k + 1) y0 y1 y2 y3 y4 y5 y6 y7 y8 y9)) ∧ (∀ y0 y1 y2, LeO (laws_FnPathThere.j3 k y0 y1 y2) (laws_FnPathThere.j3 (k + 1) y0 y1 y2)) ∧ (∀ y0 y1 y2 y3 y4 y5 y6, LeO (laws_FnPathThere.l2 k y0 y1 y2 y3 y4 y5 y6) (laws_FnPathThere.l2 (k + 1) y0 y1 y2 y3 y4 y5 y6)) ∧ (∀ y0 y1 y2 y3 y4 y5 y6, LeO (laws_FnPathThere.l3 k y0 y1 y2 y3 y4 y5 y6) (laws_FnPathThere.l3 (k + 1) y0 y1 y2 y3 y4 y5 y6))
  | 0 => ⟨fun _ _ _ r h => by simp [laws_FnPathThere.j0] at h, fun _ _ _ _ _ _ r h => by simp [laws_FnPathThere.l0] at h, fun _ _ _ _ _ _ _ _ _ _ r h => by simp [laws_FnPathThere.l1] at h, fun _ _ _ r h => by simp [laws_FnPathThere.j3] at h, fun _ _ _ _ _ _ _ r h => by simp [laws_FnPathThere.l2] at h, fun _ _ _ _ _ _ _ r h => by simp [laws_FnPathThere.l3] at h⟩
  | k + 1 => by
    obtain ⟨ih0, ih1, ih2, ih3, ih4, ih5⟩ := laws_FnPathThere.mono_l k
    refine ⟨?_, ?_, ?_, ?_, ?_, ?_⟩
    · intro y0 y1 y2
      unfold laws_FnPathThere.j0
      repeat' first
      | (with_reducible exact ih0 _ _ _)
      | (with_reducible exact ih1 _ _ _ _ _ _)
      | (with_reducible exact ih2 _ _ _ _ _ _ _ _ _ _)
      | (with_reducible exact ih3 _ _ _)
      | (with_reducible exact ih4 _ _ _ _ _ _ _)
      | (with_reducible exact ih5 _ _ _ _ _ _ _)
      | (with_reducible exact laws_encShort.mono _ _)
      | (with_reducible exact laws_zzFits3.mono _ _)
      | (with_reducible exact spec_NameOpen.mono _ _ _)
      | (with_reducible exact LeO.refl _)
      | (with_reducible exact LeO.none _)
      | (with_reducible refine LeO.ite ?_ ?_)
      | (with_reducible refine LeO.bind ?_ (fun _ => ?_))
      | exact ih0 _ _ _
      | exact ih1 _ _ _ _ _ _
      | exact ih2 _ _ _ _ _ _ _ _ _ _
      | exact ih3 _ _ _
      | exact ih4 _ _ _ _ _ _ _
      | exact ih5 _ _ _ _ _ _ _
      | exact laws_encShort.mono _ _
      | exact laws_zzFits3.mono _ _
      | exact spec_NameOpen.mono _ _ _
      | exact LeO.none _
      | refine LeO.ite ?_ ?_
      | refine LeO.bind ?_ (fun _ => ?_)
    · intro y0 y1 y2 y3 y4 y5
      unfold laws_FnPathThere.l0
      repeat' first
      | (with_reducible exact ih0 _ _ _)
      | (with_reducible exact ih1 _ _ _ _ _ _)
      | (with_reducible exact ih2 _ _ _ _ _ _ _ _ _ _)
      | (with_reducible exact ih3 _ _ _)
      | (with_reducible exact ih4 _ _ _ _ _ _ _)
      | (with_reducible exact ih5 _ _ _ _ _ _ _)
      | (with_reducible exact laws_encShort.mono _ _)
      | (with_reducible exact laws_zzFits3.mono _ _)
      | (with_reducible exact spec_NameOpen.mono _ _ _)
      | (with_reducible exact LeO.refl _)
      | (with_reducible exact LeO.none _)
      | (with_reducible refine LeO.ite ?_ ?_)
      | (with_reducible refine LeO.bind ?_ (fun _ => ?_))
      | exact ih0 _ _ _
      | exact ih1 _ _ _ _ _ _
      | exact ih2 _ _ _ _ _ _ _ _ _ _
      | exact ih3 _ _ _
      | exact ih4 _ _ _ _ _ _ _
      | exact ih5 _ _ _ _ _ _ _
      | exact laws_encShort.mono _ _
      | exact laws_zzFits3.mono _ _
      | exact spec_NameOpen.mono _ _ _
      | exact LeO.none _
      | refine LeO.ite ?_ ?_
      | refine LeO.bind ?_ (fun _ => ?_)
    · intro y0 y1 y2 y3 y4 y5 y6 y7 y8 y9
      unfold laws_FnPathThere.l1
      repeat' first
      | (with_reducible exact ih0 _ _ _)
      | (with_reducible exact ih1 _ _ _ _ _ _)
      | (with_reducible exact ih2 _ _ _ _ _ _ _ _ _ _)
      | (with_reducible exact ih3 _ _ _)
      | (with_reducible exact ih4 _ _ _ _ _ _ _)
      | (with_reducible exact ih5 _ _ _ _ _ _ _)
      | (with_reducible exact laws_encShort.mono _ _)
      | (with_reducible exact laws_zzFits3.mono _ _)
      | (with_reducible exact spec_NameOpen.mono _ _ _)
      | (with_reducible exact LeO.refl _)
      | (with_reducible exact LeO.none _)
      | (with_reducible refine LeO.ite ?_ ?_)
      | (with_reducible refine LeO.bind ?_ (fun _ => ?_))
      | exact ih0 _ _ _
      | exact ih1 _ _ _ _ _ _
      | exact ih2 _ _ _ _ _ _ _ _ _ _
      | exact ih3 _ _ _
      | exact ih4 _ _ _ _ _ _ _
      | exact ih5 _ _ _ _ _ _ _
      | exact laws_encShort.mono _ _
      | exact laws_zzFits3.mono _ _
      | exact spec_NameOpen.mono _ _ _
      | exact LeO.none _
      | refine LeO.ite ?_ ?_
      | refine LeO.bind ?_ (fun _ => ?_)
    · intro y0 y1 y2
      unfold laws_FnPathThere.j3
      repeat' first
      | (with_reducible exact ih0 _ _ _)
      | (with_reducible exact ih1 _ _ _ _ _ _)
      | (with_reducible exact ih2 _ _ _ _ _ _ _ _ _ _)
      | (with_reducible exact ih3 _ _ _)
      | (with_reducible exact ih4 _ _ _ _ _ _ _)
      | (with_reducible exact ih5 _ _ _ _ _ _ _)
      | (with_reducible exact laws_encShort.mono _ _)
      | (with_reducible exact laws_zzFits3.mono _ _)
      | (with_reducible exact spec_NameOpen.mono _ _ _)
      | (with_reducible exact LeO.refl _)
      | (with_reducible exact LeO.none _)
      | (with_reducible refine LeO.ite ?_ ?_)
      | (with_reducible refine LeO.bind ?_ (fun _ => ?_))
      | exact ih0 _ _ _
      | exact ih1 _ _ _ _ _ _
      | exact ih2 _ _ _ _ _ _ _ _ _ _
      | exact ih3 _ _ _
      | exact ih4 _ _ _ _ _ _ _
      | exact ih5 _ _ _ _ _ _ _
      | exact laws_encShort.mono _ _
      | exact laws_zzFits3.mono _ _
      | exact spec_NameOpen.mono _ _ _
      | exact LeO.none _
      | refine LeO.ite ?_ ?_
      | refine LeO.bind ?_ (fun _ => ?_)
    · intro y0 y1 y2 y3 y4 y5 y6
      unfold laws_FnPathThere.l2
      repeat' first
      | (with_reducible exact ih0 _ _ _)
      | (with_reducible exact ih1 _ _ _ _ _ _)
      | (with_reducible exact ih2 _ _ _ _ _ _ _ _ _ _)
      | (with_reducible exact ih3 _ _ _)
      | (with_reducible exact ih4 _ _ _ _ _ _ _)
      | (with_reducible exact ih5 _ _ _ _ _ _ _)
      | (with_reducible exact laws_encShort.mono _ _)
      | (with_reducible exact laws_zzFits3.mono _ _)
      | (with_reducible exact spec_NameOpen.mono _ _ _)
      | (with_reducible exact LeO.refl _)
      | (with_reducible exact LeO.none _)
      | (with_reducible refine LeO.ite ?_ ?_)
      | (with_reducible refine LeO.bind ?_ (fun _ => ?_))
      | exact ih0 _ _ _
      | exact ih1 _ _ _ _ _ _
      | exact ih2 _ _ _ _ _ _ _ _ _ _
      | exact ih3 _ _ _
      | exact ih4 _ _ _ _ _ _ _
      | exact ih5 _ _ _ _ _ _ _
      | exact laws_encShort.mono _ _
      | exact laws_zzFits3.mono _ _
      | exact spec_NameOpen.mono _ _ _
      | exact LeO.none _
      | refine LeO.ite ?_ ?_
      | refine LeO.bind ?_ (fun _ => ?_)
    · intro y0 y1 y2 y3 y4 y5 y6
      unfold laws_FnPathThere.l3
      repeat' first
      | (with_reducible exact ih0 _ _ _)
      | (with_reducible exact ih1 _ _ _ _ _ _)
      | (with_reducible exact ih2 _ _ _ _ _ _ _ _ _ _)
      | (with_reducible exact ih3 _ _ _)
      | (with_reducible exact ih4 _ _ _ _ _ _ _)
      | (with_reducible exact ih5 _ _ _ _ _ _ _)
      | (with_reducible exact laws_encShort.mono _ _)
      | (with_reducible exact laws_zzFits3.mono _ _)
      | (with_reducible exact spec_NameOpen.mono _ _ _)
      | (with_reducible exact LeO.refl _)
      | (with_reducible exact LeO.none _)
      | (with_reducible refine LeO.ite ?_ ?_)
      | (with_reducible refine LeO.bind ?_ (fun _ => ?_))
      | exact ih0 _ _ _
      | exact ih1 _ _ _ _ _ _
      | exact ih2 _ _ _ _ _ _ _ _ _ _
      | exact ih3 _ _ _
      | exact ih4 _ _ _ _ _ _ _
      | exact ih5 _ _ _ _ _ _ _
      | exact laws_encShort.mono _ _
      | exact laws_zzFits3.mono _ _
      | exact spec_NameOpen.mono _ _ _
      | exact LeO.none _
      | refine LeO.ite ?_ ?_
      | refine LeO.bind ?_ (fun _ => ?_)
theorem laws_FnPathThere.mono : ∀ a0 a1 k, LeO (laws_FnPathThere.f k a0 a1) (laws_FnPathThere.f (k + 1) a0 a1) := by
  intro a0 a1 k
  obtain ⟨ih0, ih1, ih2, ih3, ih4, ih5⟩ := laws_FnPathThere.mono_l k
  unfold laws_FnPathThere.f
  repeat' first
      | (with_reducible exact ih0 _ _ _)
      | (with_reducible exact ih1 _ _ _ _ _ _)
      | (with_reducible exact ih2 _ _ _ _ _ _ _ _ _ _)
      | (with_reducible exact ih3 _ _ _)
      | (with_reducible exact ih4 _ _ _ _ _ _ _)
      | (with_reducible exact ih5 _ _ _ _ _ _ _)
      | (with_reducible exact laws_encShort.mono _ _)
      | (with_reducible exact laws_zzFits3.mono _ _)
      | (with_reducible exact spec_NameOpen.mono _ _ _)
      | (with_reducible exact LeO.refl _)
      | (with_reducible exact LeO.none _)
      | (with_reducible refine LeO.ite ?_ ?_)
      | (with_reducible refine LeO.bind ?_ (fun _ => ?_))
      | exact ih0 _ _ _
      | exact ih1 _ _ _ _ _ _
      | exact ih2 _ _ _ _ _ _ _ _ _ _
      | exact ih3 _ _ _
      | exact ih4 _ _ _ _ _ _ _
      | exact ih5 _ _ _ _ _ _ _
      | exact laws_encShort.mono _ _
      | exact laws_zzFits3.mono _ _
      | exact spec_NameOpen.mono _ _ _
      | exact LeO.none _
      | refine LeO.ite ?_ ?_
      | refine LeO.bind ?_ (fun _ => ?_)
set_option maxHeartbeats 8000000 in
set_option maxRecDepth 100000 in
theorem laws_FnPathThere.calls (k : Nat) (a0 : Int) (A1 : Option Addr) (c1 : Nat) (l1 : List ByteArray) (r : Bool) (w : World) (hr1 : Kd.C Kd.string w A1 l1.length l1) (hc1 : l1.length ≤ c1) (hglob : Glob w) (h : laws_FnPathThere.f k a0 l1 = some r) :
    Calls Tryd.prog 11 #[.int .u64 a0, .slice A1 l1.length c1] w fun e w' => e = .returned (.bool r) ∧ Below w.heap.size w w' := by
  have HGL := Aside0.mk hglob
  clear hglob
  have HR1 := Aside0.mk hr1
  have HC1 := Aside0.mk hc1
  clear hr1 hc1
  have HB := Aside0.mk (Below.refl w.heap.size w)
  have H : ((laws_zzFits3.f k l1).bind fun t109 => (if t109 = true then ((laws_encShort.f k l1).bind fun t110 => (if t110 = true then (laws_FnPathThere.j0 k a0 l1 (decide ((l1.length : Int) > 1000))) else (laws_FnPathThere.j0 k a0 l1 true))) else (some true))) = some r := h
  clear h
  replace H := Option.bind_eq_some_iff.mp H
  obtain ⟨t109, A30, H⟩ := H
  replace H : (if t109 = true then ((laws_encShort.f k l1).bind fun t110 => (if t110 = true then (laws_FnPathThere.j0 k a0 l1 (decide ((l1.length : Int) > 1000))) else (laws_FnPathThere.j0 k a0 l1 true))) else (some true)) = some r := H
  have A3 := Aside0.mk A30
  clear A30
  by_cases c4 : t109 = true
  · subst c4
    have H1 : ((laws_encShort.f k l1).bind fun t110 => (if t110 = true then (laws_FnPathThere.j0 k a0 l1 (decide ((l1.length : Int) > 1000))) else (laws_FnPathThere.j0 k a0 l1 true))) = some r := by rw [if_pos rfl] at H; exact H
    clear H
    have H := H1
    clear H1
    have HC5 := Aside0.mk H
    clear H
    go_enter Tryd.func11, Tryd.ntmps11
    go_upto_region 3 with (first | ((with_reducible refine gate_callee (f := 18) rfl ?_); refine goesL_ (some 16) rfl rfl Tryd.func18 (by kernel_rfl) rfl #[.slice A1 l1.length c1] rfl (by (try simp only [List.map_toArray, List.map_cons, List.map_nil]); first | done | rfl | (simp only [List.length_drop, List.length_take]; rfl)) ?_; (with_reducible refine (laws_zzFits3.calls k _ _ l1 true _ ?side1 ?side2 A3.out).mono ?_); (case side1 => repeat (first | exact HR1.out | (with_reducible refine Kd.C_alloc ?_ _) | (with_reducible refine Kd.C_drewN ?_ _) | (with_reducible refine Kd.C_drew ?_))); (case side2 => exact HC1.out); rintro e w' ⟨rfl, ⟨nd, rfl⟩⟩; refine ⟨_, rfl, ?_⟩))
    (try simp only [Act.put, List.setIfInBounds_toArray, List.set_cons_zero, List.set_cons_succ])
    go_cut [25] (fun v25 wc => ∃ (kq : Nat) (x25_4 : Bool), v25 = .bool x25_4 ∧ Aside0 (laws_FnPathThere.j0 kq a0 l1 x25_4 = some r) ∧ Aside0 (kq ≤ k) ∧ Aside0 (Below w.heap.size w wc))
    case first =>
      have H := HC5.out
      clear HC5
      replace H := Option.bind_eq_some_iff.mp H
      obtain ⟨t110, A60, H⟩ := H
      replace H : (if t110 = true then (laws_FnPathThere.j0 k a0 l1 (decide ((l1.length : Int) > 1000))) else (laws_FnPathThere.j0 k a0 l1 true)) = some r := H
      have A6 := Aside0.mk A60
      clear A60
      by_cases c7 : t110 = true
      · subst c7
        have H1 : (laws_FnPathThere.j0 k a0 l1 (decide ((l1.length : Int) > 1000))) = some r := by rw [if_pos rfl] at H; exact H
        clear H
        have H := H1
        clear H1
        have H' := Aside0.mk H
        clear H
        go_wp2_with (first | ((with_reducible refine gate_callee (f := 12) rfl ?_); refine goesL_ (some 19) rfl rfl Tryd.func12 (by kernel_rfl) rfl #[.slice A1 l1.length c1] rfl (by (try simp only [List.map_toArray, List.map_cons, List.map_nil]); first | done | rfl | (simp only [List.length_drop, List.length_take]; rfl)) ?_; (with_reducible refine (laws_encShort.calls k _ _ l1 true _ ?side1 ?side2 A6.out).mono ?_); (case side1 => repeat (first | exact (Kd.C_below HR1.out HB.out) | (with_reducible refine Kd.C_alloc ?_ _) | (with_reducible refine Kd.C_drewN ?_ _) | (with_reducible refine Kd.C_drew ?_))); (case side2 => exact HC1.out); rintro e w' ⟨rfl, ⟨nd, rfl⟩⟩; refine ⟨_, rfl, ?_⟩))
        go_meet
        case rel => exact ⟨_, (decide ((l1.length : Int) > 1000)), (by first | rfl | (simp; done) | (simp [*]; done) | (simp [xt_ne_nil]; done)), H', ⟨by first | omega | exact Nat.le_refl _⟩, ⟨by repeat (first | (with_reducible first | exact HB.out | apply below_alloc | apply pw_below_drewN | apply below_drew1) | exact HB.out)⟩⟩
      · replace c7 := Bool.eq_false_iff.mpr c7
        subst c7
        have H1 : (laws_FnPathThere.j0 k a0 l1 true) = some r := by rw [if_neg (show ¬ (false = true) by decide)] at H; exact H
        clear H
        have H := H1
        clear H1
        have H' := Aside0.mk H
        clear H
        go_wp2_with (first | ((with_reducible refine gate_callee (f := 12) rfl ?_); refine goesL_ (some 19) rfl rfl Tryd.func12 (by kernel_rfl) rfl #[.slice A1 l1.length c1] rfl (by (try simp only [List.map_toArray, List.map_cons, List.map_nil]); first | done | rfl | (simp only [List.length_drop, List.length_take]; rfl)) ?_; (with_reducible refine (laws_encShort.calls k _ _ l1 false _ ?side1 ?side2 A6.out).mono ?_); (case side1 => repeat (first | exact (Kd.C_below HR1.out HB.out) | (with_reducible refine Kd.C_alloc ?_ _) | (with_reducible refine Kd.C_drewN ?_ _) | (with_reducible refine Kd.C_drew ?_))); (case side2 => exact HC1.out); rintro e w' ⟨rfl, ⟨nd, rfl⟩⟩; refine ⟨_, rfl, ?_⟩))
        go_meet
        case rel => exact ⟨_, (true), (by first | rfl | (simp; done) | (simp [*]; done) | (simp [xt_ne_nil]; done)), H', ⟨by first | omega | exact Nat.le_refl _⟩, ⟨by repeat (first | (with_reducible first | exact HB.out | apply below_alloc | apply pw_below_drewN | apply below_drew1) | exact HB.out)⟩⟩
    case rest =>
      clear HC5
      try clear c1
      try clear p2
      try clear c4
      try clear c7
      obtain ⟨kq, x25_4, rfl, HA, HJ4, HB⟩ := hcut
      cases kq with
      | zero => exact absurd HA.out (by simp [laws_FnPathThere.j0])
      | succ kj4 =>
        have H := HA.out
        clear HA
        simp only [laws_FnPathThere.j0] at H
        by_cases c8 : x25_4 = true
        · subst c8
          have H1 : (some true) = some r := by rw [if_pos rfl] at H; exact H
          clear H
          have H := H1
          clear H1
          obtain rfl := Option.some.inj H
          go_wp2
          go_ret
          exact ⟨by first | rfl | (simp [errW_none, errW_some] <;> rfl) | (simp [*, errW_none, errW_some] <;> rfl), by repeat (first | (with_reducible first | exact HB.out | apply below_alloc | apply pw_below_drewN | apply below_drew1) | exact HB.out)⟩
        · replace c8 := Bool.eq_false_iff.mpr c8
          subst c8
          have H1 : (laws_FnPathThere.l0 kj4 a0 (⟨#[]⟩ : ByteArray) false l1 (l1.length : Int) 0) = some r := by rw [if_neg (show ¬ (false = true) by decide)] at H; exact H
          clear H
          have H := H1
          clear H1
          have H' := Aside0.mk H
          clear H
          go_wp2
          go_loopg [5, 6, 28] kj4 (fun kq v5 v6 v28 w' => ∃ (x5_2 : ByteArray) (x6_2 : Bool) (x28_2 : Int), v5 = .string x5_2 ∧ v6 = .bool x6_2 ∧ v28 = .int .i64 x28_2 ∧ Aside0 (laws_FnPathThere.l0 kq a0 x5_2 x6_2 l1 (l1.length : Int) x28_2 = some r) ∧ Aside0 (kq ≤ kj4) ∧ Aside0 (Below w.heap.size w w'))
          case atStart => exact ⟨((⟨#[]⟩ : ByteArray)), (false), (0), (by first | rfl | (simp; done) | (simp [*]; done) | (simp [xt_ne_nil]; done)), (by first | rfl | (simp; done) | (simp [*]; done) | (simp [xt_ne_nil]; done)), (by first | rfl | (simp; done) | (simp [*]; done) | (simp [xt_ne_nil]; done)), H', ⟨Nat.le_refl _⟩, ⟨by repeat (first | (with_reducible first | exact HB.out | apply below_alloc | apply pw_below_drewN | apply below_drew1) | exact HB.out)⟩⟩
          case round =>
            clear H'
            try clear c1
            try clear p2
            try clear c4
            try clear c7
            try clear c8
            try clear p2
            obtain ⟨x5_2, x6_2, x28_2, rfl, rfl, rfl, HA, HK2, HB⟩ := hrel
            cases gk with
            | zero => exact absurd HA.out (by simp [laws_FnPathThere.l0])
            | succ k2 =>
              have H := HA.out
              clear HA
              simp only [laws_FnPathThere.l0] at H
              by_cases c9 : x28_2 < (l1.length : Int)
              · rw [if_pos c9] at H
                have c9b0 : decide (x28_2 < (l1.length : Int)) = true := decide_eq_true c9
                clear c9
                by_cases c10 : 0 ≤ x28_2
                · rw [if_pos c10] at H
                  have c10b0 : decide (0 ≤ x28_2) = true := decide_eq_true c10
                  clear c10
                  by_cases c11 : x28_2 < (l1.length : Int)
                  · rw [if_pos c11] at H
                    have c11b0 : decide (x28_2 < (l1.length : Int)) = true := decide_eq_true c11
                    clear c11
                    replace H := Option.bind_eq_some_iff.mp H
                    obtain ⟨t112, A120, H⟩ := H
                    replace H : (if t112 = true then (some true) else (laws_FnPathThere.l1 k2 a0 x5_2 x6_2 x28_2 (rdOf ByteArray.empty l1 x28_2) l1 (l1.length : Int) x28_2 ((rdOf ByteArray.empty l1 x28_2).size : Int) 0)) = some r := H
                    have A12 := Aside0.mk A120
                    clear A120
                    by_cases c13 : t112 = true
                    · subst c13
                      have H1 : (some true) = some r := by rw [if_pos rfl] at H; exact H
                      clear H
                      have H := H1
                      clear H1
                      obtain rfl := Option.some.inj H
                      have p111 : 0 ≤ (x28_2 : Int) := of_decide_eq_true (by first | (with_reducible assumption) | assumption)
                      have q111 : x28_2 < (l1.length : Int) := of_decide_eq_true (by first | (with_reducible assumption) | assumption)
                      obtain ⟨ad111, e111, hx111_0⟩ := Kd.at_string HR1.out x28_2 p111 q111
                      cases e111
                      replace hx111_0 := (HB.out.cell (World.block_lt_of_cell? w _ hx111_0)).trans hx111_0
                      replace p111 := eq_true p111
                      replace q111 := eq_true q111
                      go_wp2_with (first | ((with_reducible refine gate_callee (f := 15) rfl ?_); refine goesL_ (some 35) rfl rfl Tryd.func15 (by kernel_rfl) rfl #[.int .u64 a0, .string (rdOf ByteArray.empty l1 x28_2)] rfl (by (try simp only [List.map_toArray, List.map_cons, List.map_nil]); first | done | rfl | (simp only [List.length_drop, List.length_take]; rfl)) ?_; (with_reducible refine (spec_NameOpen.calls k2 a0 (rdOf ByteArray.empty l1 x28_2) true _ A12.out).mono ?_); rintro e w14 ⟨rfl, hb⟩; refine ⟨_, rfl, ?_⟩; have n0_ := Aside0.mk (below_step (by repeat (first | (with_reducible first | exact HB.out | apply below_alloc | apply pw_below_drewN | apply below_drew1) | exact HB.out)) hb); clear HB; have HB := n0_; clear n0_; (try clear hb); (try clear hb2); (try clear hk); (try clear hi)))
                      go_ret
                      exact ⟨by first | rfl | (simp [errW_none, errW_some] <;> rfl) | (simp [*, errW_none, errW_some] <;> rfl), by repeat (first | (with_reducible first | exact HB.out | apply below_alloc | apply pw_below_drewN | apply below_drew1) | exact HB.out)⟩
                    · replace c13 := Bool.eq_false_iff.mpr c13
                      subst c13
                      have H1 : (laws_FnPathThere.l1 k2 a0 x5_2 x6_2 x28_2 (rdOf ByteArray.empty l1 x28_2) l1 (l1.length : Int) x28_2 ((rdOf ByteArray.empty l1 x28_2).size : Int) 0) = some r := by rw [if_neg (show ¬ (false = true) by decide)] at H; exact H
                      clear H
                      have H := H1
                      clear H1
                      have H' := Aside0.mk H
                      clear H
                      have p111 : 0 ≤ (x28_2 : Int) := of_decide_eq_true (by first | (with_reducible assumption) | assumption)
                      have q111 : x28_2 < (l1.length : Int) := of_decide_eq_true (by first | (with_reducible assumption) | assumption)
                      obtain ⟨ad111, e111, hx111_0⟩ := Kd.at_string HR1.out x28_2 p111 q111
                      cases e111
                      replace hx111_0 := (HB.out.cell (World.block_lt_of_cell? w _ hx111_0)).trans hx111_0
                      replace p111 := eq_true p111
                      replace q111 := eq_true q111
                      go_wp2_with (first | ((with_reducible refine gate_callee (f := 15) rfl ?_); refine goesL_ (some 35) rfl rfl Tryd.func15 (by kernel_rfl) rfl #[.int .u64 a0, .string (rdOf ByteArray.empty l1 x28_2)] rfl (by (try simp only [List.map_toArray, List.map_cons, List.map_nil]); first | done | rfl | (simp only [List.length_drop, List.length_take]; rfl)) ?_; (with_reducible refine (spec_NameOpen.calls k2 a0 (rdOf ByteArray.empty l1 x28_2) false _ A12.out).mono ?_); rintro e w15 ⟨rfl, hb⟩; refine ⟨_, rfl, ?_⟩; have n0_ := Aside0.mk (below_step (by repeat (first | (with_reducible first | exact HB.out | apply below_alloc | apply pw_below_drewN | apply below_drew1) | exact HB.out)) hb); clear HB; have HB := n0_; clear n0_; (try clear hb); (try clear hb2); (try clear hk); (try clear hi)))
                      go_loopg [6, 38] k2 (fun kq v6 v38 w' => ∃ (x6_3 : Bool) (x38_3 : Int), v6 = .bool x6_3 ∧ v38 = .int .i64 x38_3 ∧ Aside0 (laws_FnPathThere.l1 kq a0 x5_2 x6_3 x28_2 (rdOf ByteArray.empty l1 x28_2) l1 (l1.length : Int) x28_2 ((rdOf ByteArray.empty l1 x28_2).size : Int) x38_3 = some r) ∧ Aside0 (kq ≤ k2) ∧ Aside0 (Below w.heap.size w w'))
                      case atStart => exact ⟨(x6_2), (0), (by first | rfl | (simp; done) | (simp [*]; done) | (simp [xt_ne_nil]; done)), (by first | rfl | (simp; done) | (simp [*]; done) | (simp [xt_ne_nil]; done)), H', ⟨Nat.le_refl _⟩, ⟨by repeat (first | (with_reducible first | exact HB.out | apply below_alloc | apply pw_below_drewN | apply below_drew1) | exact HB.out)⟩⟩
                      case round =>
                        clear H'
                        try clear c1
                        try clear p1
                        try clear q1
                        try clear hx1
                        try clear p2
                        try clear c4
                        try clear c7
                        try clear c8
                        try clear c9
                        try clear c9b0
                        try clear c10
                        try clear c10b0
                        try clear c11
                        try clear c11b0
                        try clear p11
                        try clear q11
                        try clear hx11
                        try clear c12
                        try clear c13
                        try clear c15
                        try clear hx111_0
                        try clear p111
                        try clear p2
                        try clear q111
                        obtain ⟨x6_3, x38_3, rfl, rfl, HA, HK3, HB⟩ := hrel
                        cases gk with
                        | zero => exact absurd HA.out (by simp [laws_FnPathThere.l1])
                        | succ k3 =>
                          have H := HA.out
                          clear HA
                          simp only [laws_FnPathThere.l1] at H
                          by_cases c16 : x38_3 < ((rdOf ByteArray.empty l1 x28_2).size : Int)
                          · rw [if_pos c16] at H
                            have c16b0 : decide (x38_3 < ((rdOf ByteArray.empty l1 x28_2).size : Int)) = true := decide_eq_true c16
                            clear c16
                            by_cases c17 : x6_3 = true
                            · subst c17
                              have H1 : (laws_FnPathThere.l1 k3 a0 x5_2 true x28_2 (rdOf ByteArray.empty l1 x28_2) l1 (l1.length : Int) x28_2 ((rdOf ByteArray.empty l1 x28_2).size : Int) (wrap64 (x38_3 + 1))) = some r := by rw [if_pos rfl] at H; exact H
                              clear H
                              have H := H1
                              clear H1
                              have H' := Aside0.mk H
                              clear H
                              go_wp2
                              go_roundg k3
                              case measure => have := HJ4.out; have := HK2.out; have := HK3.out; omega
                              case rel => exact ⟨(true), (wrap64 (x38_3 + 1)), (by first | rfl | (simp; done) | (simp [*]; done) | (simp [xt_ne_nil]; done)), (by first | rfl | (simp; done) | (simp [*]; done) | (simp [xt_ne_nil]; done)), H', ⟨by have := HJ4.out; have := HK2.out; have := HK3.out; omega⟩, ⟨by repeat (first | (with_reducible first | exact HB.out | apply below_alloc | apply pw_below_drewN | apply below_drew1) | exact HB.out)⟩⟩
                            · replace c17 := Bool.eq_false_iff.mpr c17
                              subst c17
                              have H1 : (if 0 ≤ x38_3 then (if x38_3 < ((rdOf ByteArray.empty l1 x28_2).size : Int) then (laws_FnPathThere.l1 k3 a0 x5_2 ((bt (rdOf ByteArray.empty l1 x28_2) x38_3) == 47) x28_2 (rdOf ByteArray.empty l1 x28_2) l1 (l1.length : Int) x28_2 ((rdOf ByteArray.empty l1 x28_2).size : Int) (wrap64 (x38_3 + 1))) else (none)) else (none)) = some r := by rw [if_neg (show ¬ (false = true) by decide)] at H; exact H
                              clear H
                              have H := H1
                              clear H1
                              by_cases c18 : 0 ≤ x38_3
                              · rw [if_pos c18] at H
                                have c18b0 : decide (0 ≤ x38_3) = true := decide_eq_true c18
                                clear c18
                                by_cases c19 : x38_3 < ((rdOf ByteArray.empty l1 x28_2).size : Int)
                                · rw [if_pos c19] at H
                                  have c19b0 : decide (x38_3 < ((rdOf ByteArray.empty l1 x28_2).size : Int)) = true := decide_eq_true c19
                                  clear c19
                                  have H' := Aside0.mk H
                                  clear H
                                  have p20 : 0 ≤ (x38_3 : Int) := of_decide_eq_true (by first | (with_reducible assumption) | assumption)
                                  have q20 : x38_3 < ((rdOf ByteArray.empty l1 x28_2).size : Int) := of_decide_eq_true (by first | (with_reducible assumption) | assumption)
                                  have hx20 := bt_at (rdOf ByteArray.empty l1 x28_2) x38_3
                                  replace p20 := eq_true p20
                                  replace q20 := eq_true q20
                                  go_wp2
                                  go_roundg k3
                                  case measure => have := HJ4.out; have := HK2.out; have := HK3.out; omega
                                  case rel => exact ⟨(((bt (rdOf ByteArray.empty l1 x28_2) x38_3) == 47)), (wrap64 (x38_3 + 1)), (by first | rfl | (simp; done) | (simp [*]; done) | (simp [xt_ne_nil]; done)), (by first | rfl | (simp; done) | (simp [*]; done) | (simp [xt_ne_nil]; done)), H', ⟨by have := HJ4.out; have := HK2.out; have := HK3.out; omega⟩, ⟨by repeat (first | (with_reducible first | exact HB.out | apply below_alloc | apply pw_below_drewN | apply below_drew1) | exact HB.out)⟩⟩
                                · rw [if_neg c19] at H
                                  exact absurd H (by simp)
                              · rw [if_neg c18] at H
                                exact absurd H (by simp)
                          · rw [if_neg c16] at H
                            have c16b0 : decide (x38_3 < ((rdOf ByteArray.empty l1 x28_2).size : Int)) = false := decide_eq_false c16
                            clear c16
                            by_cases c21 : x28_2 > 0
                            · rw [if_pos c21] at H
                              have c21b0 : decide (0 < x28_2) = true := decide_eq_true c21
                              clear c21
                              by_cases c22 : x5_2.size + 1 ≤ 9223372036854775807
                              · rw [if_pos c22] at H
                                have c22b0 := eq_true c22
                                have c22b1 : decide (x5_2.size + 1 ≤ 9223372036854775807) = true := decide_eq_true c22
                                try have c22b2 : (9223372036854775807 < x5_2.size + 1) = False := eq_false (Nat.not_lt.2 c22)
                                replace H := Option.bind_eq_some_iff.mp H
                                obtain ⟨t113, A230, H⟩ := H
                                replace H : (if (x5_2 ++ (⟨#[47]⟩ : ByteArray)).size + t113.size ≤ 9223372036854775807 then (laws_FnPathThere.l0 k3 a0 ((x5_2 ++ (⟨#[47]⟩ : ByteArray)) ++ t113) x6_3 l1 (l1.length : Int) (wrap64 (x28_2 + 1))) else (none)) = some r := H
                                have A23 := Aside0.mk A230
                                clear A230
                                by_cases c24 : (x5_2 ++ (⟨#[47]⟩ : ByteArray)).size + t113.size ≤ 9223372036854775807
                                · rw [if_pos c24] at H
                                  have c24b0 := eq_true c24
                                  have c24b1 : decide ((x5_2 ++ (⟨#[47]⟩ : ByteArray)).size + t113.size ≤ 9223372036854775807) = true := decide_eq_true c24
                                  try have c24b2 : (9223372036854775807 < (x5_2 ++ (⟨#[47]⟩ : ByteArray)).size + t113.size) = False := eq_false (Nat.not_lt.2 c24)
                                  have c24b3 : x5_2.size + 1 + t113.size ≤ 9223372036854775807 := by have h := of_eq_true c24b0; rw [ByteArray.size_append] at h; exact h
                                  have c24b4 := eq_true c24b3
                                  have c24b5 : decide (x5_2.size + 1 + t113.size ≤ 9223372036854775807) = true := decide_eq_true c24b3
                                  have c24b6 : (9223372036854775807 < x5_2.size + 1 + t113.size) = False := eq_false (Nat.not_lt.2 c24b3)
                                  have H' := Aside0.mk H
                                  clear H
                                  go_wp2_with (first | ((with_reducible refine gate_callee (f := 14) rfl ?_); refine goesL_ (some 55) rfl rfl Tryd.func14 (by kernel_rfl) rfl #[.int .u64 33652738, .string (rdOf ByteArray.empty l1 x28_2)] rfl (by (try simp only [List.map_toArray, List.map_cons, List.map_nil]); first | done | rfl | (simp only [List.length_drop, List.length_take]; rfl)) ?_; (with_reducible refine (impl_NameEncode.calls 33652738 (rdOf ByteArray.empty l1 x28_2) t113 _ ?glob A23.out).mono ?_); (case glob => exact Glob.below HGL.out (by repeat (first | (with_reducible first | exact HB.out | apply below_alloc | apply pw_below_drewN | apply below_drew1) | exact HB.out))); rintro e w25 ⟨rfl, hb⟩; refine ⟨_, rfl, ?_⟩; have n0_ := Aside0.mk (below_step (by repeat (first | (with_reducible first | exact HB.out | apply below_alloc | apply pw_below_drewN | apply below_drew1) | exact HB.out)) hb); clear HB; have HB := n0_; clear n0_; (try clear hb); (try clear hb2); (try clear hk); (try clear hi)))
                                  go_roundg k3
                                  case measure => have := HJ4.out; have := HK2.out; have := HK3.out; omega
                                  case rel => exact ⟨((x5_2 ++ (⟨#[47]⟩ : ByteArray)) ++ t113), (x6_3), (wrap64 (x28_2 + 1)), (by first | rfl | (simp; done) | (simp [*]; done) | (simp [xt_ne_nil]; done)), (by first | rfl | (simp; done) | (simp [*]; done) | (simp [xt_ne_nil]; done)), (by first | rfl | (simp; done) | (simp [*]; done) | (simp [xt_ne_nil]; done)), H', ⟨by have := HJ4.out; have := HK2.out; have := HK3.out; omega⟩, ⟨by repeat (first | (with_reducible first | exact HB.out | apply below_alloc | apply pw_below_drewN | apply below_drew1) | exact HB.out)⟩⟩
                                · rw [if_neg c24] at H
                                  exact absurd H (by simp)
                              · rw [if_neg c22] at H
                                exact absurd H (by simp)
                            · rw [if_neg c21] at H
                              have c21b0 : decide (0 < x28_2) = false := decide_eq_false c21
                              clear c21
                              replace H := Option.bind_eq_some_iff.mp H
                              obtain ⟨t114, A260, H⟩ := H
                              replace H : (if x5_2.size + t114.size ≤ 9223372036854775807 then (laws_FnPathThere.l0 k3 a0 (x5_2 ++ t114) x6_3 l1 (l1.length : Int) (wrap64 (x28_2 + 1))) else (none)) = some r := H
                              have A26 := Aside0.mk A260
                              clear A260
                              by_cases c27 : x5_2.size + t114.size ≤ 9223372036854775807
                              · rw [if_pos c27] at H
                                have c27b0 := eq_true c27
                                have c27b1 : decide (x5_2.size + t114.size ≤ 9223372036854775807) = true := decide_eq_true c27
                                try have c27b2 : (9223372036854775807 < x5_2.size + t114.size) = False := eq_false (Nat.not_lt.2 c27)
                                have H' := Aside0.mk H
                                clear H
                                go_wp2_with (first | ((with_reducible refine gate_callee (f := 14) rfl ?_); refine goesL_ (some 55) rfl rfl Tryd.func14 (by kernel_rfl) rfl #[.int .u64 33652738, .string (rdOf ByteArray.empty l1 x28_2)] rfl (by (try simp only [List.map_toArray, List.map_cons, List.map_nil]); first | done | rfl | (simp only [List.length_drop, List.length_take]; rfl)) ?_; (with_reducible refine (impl_NameEncode.calls 33652738 (rdOf ByteArray.empty l1 x28_2) t114 _ ?glob A26.out).mono ?_); (case glob => exact Glob.below HGL.out (by repeat (first | (with_reducible first | exact HB.out | apply below_alloc | apply pw_below_drewN | apply below_drew1) | exact HB.out))); rintro e w28 ⟨rfl, hb⟩; refine ⟨_, rfl, ?_⟩; have n0_ := Aside0.mk (below_step (by repeat (first | (with_reducible first | exact HB.out | apply below_alloc | apply pw_below_drewN | apply below_drew1) | exact HB.out)) hb); clear HB; have HB := n0_; clear n0_; (try clear hb); (try clear hb2); (try clear hk); (try clear hi)))
                                go_roundg k3
                                case measure => have := HJ4.out; have := HK2.out; have := HK3.out; omega
                                case rel => exact ⟨(x5_2 ++ t114), (x6_3), (wrap64 (x28_2 + 1)), (by first | rfl | (simp; done) | (simp [*]; done) | (simp [xt_ne_nil]; done)), (by first | rfl | (simp; done) | (simp [*]; done) | (simp [xt_ne_nil]; done)), (by first | rfl | (simp; done) | (simp [*]; done) | (simp [xt_ne_nil]; done)), H', ⟨by have := HJ4.out; have := HK2.out; have := HK3.out; omega⟩, ⟨by repeat (first | (with_reducible first | exact HB.out | apply below_alloc | apply pw_below_drewN | apply below_drew1) | exact HB.out)⟩⟩
                              · rw [if_neg c27] at H
                                exact absurd H (by simp)
                  · rw [if_neg c11] at H
                    exact absurd H (by simp)
                · rw [if_neg c10] at H
                  exact absurd H (by simp)
              · rw [if_neg c9] at H
                have c9b0 : decide (x28_2 < (l1.length : Int)) = false := decide_eq_false c9
                clear c9
                have HC29 := Aside0.mk H
                clear H
                go_upto_region 20 with (fail)
                go_cut [63] (fun v63 wc => ∃ (kq : Nat) (x63_28 : Bool), v63 = .bool x63_28 ∧ Aside0 (laws_FnPathThere.j3 kq a0 x5_2 x63_28 = some r) ∧ Aside0 (kq ≤ k2) ∧ Aside0 (Below w.heap.size w wc))
                case first =>
                  have H := HC29.out
                  clear HC29
                  by_cases c30 : x6_2 = true
                  · subst c30
                    have H1 : (laws_FnPathThere.j3 k2 a0 x5_2 ((Go.bits .and .u64 a0 2) == 0)) = some r := by rw [if_pos rfl] at H; exact H
                    clear H
                    have H := H1
                    clear H1
                    have H' := Aside0.mk H
                    clear H
                    go_wp2
                    go_meet
                    case rel => exact ⟨_, (((Go.bits .and .u64 a0 2) == 0)), (by first | rfl | (simp; done) | (simp [*]; done) | (simp [xt_ne_nil]; done)), H', ⟨by have := HJ4.out; have := HK2.out; first | omega | exact Nat.le_refl _⟩, ⟨by repeat (first | (with_reducible first | exact HB.out | apply below_alloc | apply pw_below_drewN | apply below_drew1) | exact HB.out)⟩⟩
                  · replace c30 := Bool.eq_false_iff.mpr c30
                    subst c30
                    have H1 : (laws_FnPathThere.j3 k2 a0 x5_2 false) = some r := by rw [if_neg (show ¬ (false = true) by decide)] at H; exact H
                    clear H
                    have H := H1
                    clear H1
                    have H' := Aside0.mk H
                    clear H
                    go_wp2
                    go_meet
                    case rel => exact ⟨_, (false), (by first | rfl | (simp; done) | (simp [*]; done) | (simp [xt_ne_nil]; done)), H', ⟨by have := HJ4.out; have := HK2.out; first | omega | exact Nat.le_refl _⟩, ⟨by repeat (first | (with_reducible first | exact HB.out | apply below_alloc | apply pw_below_drewN | apply below_drew1) | exact HB.out)⟩⟩
                case rest =>
                  clear HC29
                  try clear c1
                  try clear p1
                  try clear q1
                  try clear hx1
                  try clear c2
                  try clear p2
                  try clear q2
                  try clear hx2
                  try clear c3
                  try clear c4
                  try clear p6
                  try clear c7
                  try clear c8
                  try clear c9
                  try clear c9b0
                  try clear c10
                  try clear c10b0
                  try clear c11
                  try clear c11b0
                  try clear p11
                  try clear q11
                  try clear hx11
                  try clear c12
                  try clear c13
                  try clear c14
                  try clear c15
                  try clear c16
                  try clear c16b0
                  try clear c17
                  try clear c18
                  try clear c18b0
                  try clear c19
                  try clear c19b0
                  try clear p20
                  try clear q20
                  try clear hx20
                  try clear c21
                  try clear c21b0
                  try clear c22
                  try clear c22b0
                  try clear c22b1
                  try clear c22b2
                  try clear c24
                  try clear c24b0
                  try clear c24b1
                  try clear c24b2
                  try clear c27
                  try clear c27b0
                  try clear c27b1
                  try clear c27b2
                  try clear c30
                  try clear hx111_0
                  try clear p1
                  try clear p11
                  try clear p111
                  try clear p2
                  try clear p20
                  try clear q1
                  try clear q11
                  try clear q111
                  try clear q20
                  obtain ⟨kq, x63_28, rfl, HA, HJ28, HB⟩ := hcut
                  cases kq with
                  | zero => exact absurd HA.out (by simp [laws_FnPathThere.j3])
                  | succ kj28 =>
                    have H := HA.out
                    clear HA
                    simp only [laws_FnPathThere.j3] at H
                    by_cases c31 : x63_28 = true
                    · subst c31
                      have H1 : (some true) = some r := by rw [if_pos rfl] at H; exact H
                      clear H
                      have H := H1
                      clear H1
                      obtain rfl := Option.some.inj H
                      go_wp2
                      go_ret
                      exact ⟨by first | rfl | (simp [errW_none, errW_some] <;> rfl) | (simp [*, errW_none, errW_some] <;> rfl), by repeat (first | (with_reducible first | exact HB.out | apply below_alloc | apply pw_below_drewN | apply below_drew1) | exact HB.out)⟩
                    · replace c31 := Bool.eq_false_iff.mpr c31
                      subst c31
                      have H1 : ((impl_PathFrom.f a0 x5_2).bind fun t115 => (laws_FnPathThere.l2 kj28 a0 x5_2 t115 0 0 (x5_2.size : Int) 0)) = some r := by rw [if_neg (show ¬ (false = true) by decide)] at H; exact H
                      clear H
                      have H := H1
                      clear H1
                      replace H := Option.bind_eq_some_iff.mp H
                      obtain ⟨t115, A320, H⟩ := H
                      replace H : (laws_FnPathThere.l2 kj28 a0 x5_2 t115 0 0 (x5_2.size : Int) 0) = some r := H
                      have A32 := Aside0.mk A320
                      clear A320
                      have H' := Aside0.mk H
                      clear H
                      go_wp2_with (first | ((with_reducible refine gate_callee (f := 24) rfl ?_); refine goesL_ (some 66) rfl rfl Tryd.func24 (by kernel_rfl) rfl #[.int .u64 a0, .string x5_2] rfl (by (try simp only [List.map_toArray, List.map_cons, List.map_nil]); first | done | rfl | (simp only [List.length_drop, List.length_take]; rfl)) ?_; (with_reducible refine (impl_PathFrom.calls a0 x5_2 t115 _ ?glob A32.out).mono ?_); (case glob => exact Glob.below HGL.out (by repeat (first | (with_reducible first | exact HB.out | apply below_alloc | apply pw_below_drewN | apply below_drew1) | exact HB.out))); rintro e w33 ⟨rfl, hb⟩; refine ⟨_, rfl, ?_⟩; have n0_ := Aside0.mk (below_step (by repeat (first | (with_reducible first | exact HB.out | apply below_alloc | apply pw_below_drewN | apply below_drew1) | exact HB.out)) hb); clear HB; have HB := n0_; clear n0_; (try clear hb); (try clear hb2); (try clear hk); (try clear hi)))
                      go_loopg [11, 69] kj28 (fun kq v11 v69 w' => ∃ (x11_4 : Int) (x69_4 : Int), v11 = .int .i64 x11_4 ∧ v69 = .int .i64 x69_4 ∧ Aside0 (laws_FnPathThere.l2 kq a0 x5_2 t115 x11_4 0 (x5_2.size : Int) x69_4 = some r) ∧ Aside0 (kq ≤ kj28) ∧ Aside0 (Below w.heap.size w w'))
                      case atStart => exact ⟨(0), (0), (by first | rfl | (simp; done) | (simp [*]; done) | (simp [xt_ne_nil]; done)), (by first | rfl | (simp; done) | (simp [*]; done) | (simp [xt_ne_nil]; done)), H', ⟨Nat.le_refl _⟩, ⟨by repeat (first | (with_reducible first | exact HB.out | apply below_alloc | apply pw_below_drewN | apply below_drew1) | exact HB.out)⟩⟩
                      case round =>
                        clear H'
                        try clear c1
                        try clear p1
                        try clear q1
                        try clear hx1
                        try clear c2
                        try clear p2
                        try clear q2
                        try clear hx2
                        try clear c3
                        try clear c4
                        try clear p6
                        try clear c7
                        try clear c8
                        try clear c9
                        try clear c9b0
                        try clear c10
                        try clear c10b0
                        try clear c11
                        try clear c11b0
                        try clear p11
                        try clear q11
                        try clear hx11
                        try clear c12
                        try clear c13
                        try clear c14
                        try clear c15
                        try clear c16
                        try clear c16b0
                        try clear c17
                        try clear c18
                        try clear c18b0
                        try clear c19
                        try clear c19b0
                        try clear p20
                        try clear q20
                        try clear hx20
                        try clear c21
                        try clear c21b0
                        try clear c22
                        try clear c22b0
                        try clear c22b1
                        try clear c22b2
                        try clear c24
                        try clear c24b0
                        try clear c24b1
                        try clear c24b2
                        try clear c27
                        try clear c27b0
                        try clear c27b1
                        try clear c27b2
                        try clear c30
                        try clear c31
                        try clear hx111_0
                        try clear p1
                        try clear p11
                        try clear p111
                        try clear p2
                        try clear p20
                        try clear p6
                        try clear q1
                        try clear q11
                        try clear q111
                        try clear q2
                        try clear q20
                        obtain ⟨x11_4, x69_4, rfl, rfl, HA, HK4, HB⟩ := hrel
                        cases gk with
                        | zero => exact absurd HA.out (by simp [laws_FnPathThere.l2])
                        | succ k4 =>
                          have H := HA.out
                          clear HA
                          simp only [laws_FnPathThere.l2] at H
                          by_cases c34 : x69_4 < (x5_2.size : Int)
                          · rw [if_pos c34] at H
                            have c34b0 : decide (x69_4 < (x5_2.size : Int)) = true := decide_eq_true c34
                            clear c34
                            by_cases c35 : 0 ≤ x69_4
                            · rw [if_pos c35] at H
                              have c35b0 : decide (0 ≤ x69_4) = true := decide_eq_true c35
                              clear c35
                              by_cases c36 : x69_4 < (x5_2.size : Int)
                              · rw [if_pos c36] at H
                                have c36b0 : decide (x69_4 < (x5_2.size : Int)) = true := decide_eq_true c36
                                clear c36
                                by_cases c38 : (bt x5_2 x69_4) = 47
                                · rw [if_pos c38] at H
                                  have c38b0 : ((bt x5_2 x69_4) == 47) = true := beq_iff_eq.mpr c38
                                  have c38b1 : ((bt x5_2 x69_4) != 47) = false := bne_eq_false_iff_eq.mpr c38
                                  clear c38
                                  have H' := Aside0.mk H
                                  clear H
                                  have p37 : 0 ≤ (x69_4 : Int) := of_decide_eq_true (by first | (with_reducible assumption) | assumption)
                                  have q37 : x69_4 < (x5_2.size : Int) := of_decide_eq_true (by first | (with_reducible assumption) | assumption)
                                  have hx37 := bt_at x5_2 x69_4
                                  replace p37 := eq_true p37
                                  replace q37 := eq_true q37
                                  go_wp2
                                  go_roundg k4
                                  case measure => have := HJ4.out; have := HK2.out; have := HJ28.out; have := HK4.out; omega
                                  case rel => exact ⟨(wrap64 (x11_4 + 1)), (wrap64 (x69_4 + 1)), (by first | rfl | (simp; done) | (simp [*]; done) | (simp [xt_ne_nil]; done)), (by first | rfl | (simp; done) | (simp [*]; done) | (simp [xt_ne_nil]; done)), H', ⟨by have := HJ4.out; have := HK2.out; have := HJ28.out; have := HK4.out; omega⟩, ⟨by repeat (first | (with_reducible first | exact HB.out | apply below_alloc | apply pw_below_drewN | apply below_drew1) | exact HB.out)⟩⟩
                                · rw [if_neg c38] at H
                                  have c38b0 : ((bt x5_2 x69_4) == 47) = false := beq_eq_false_iff_ne.mpr c38
                                  have c38b1 : ((bt x5_2 x69_4) != 47) = true := bne_iff_ne.mpr c38
                                  have H' := Aside0.mk H
                                  clear H
                                  have p37 : 0 ≤ (x69_4 : Int) := of_decide_eq_true (by first | (with_reducible assumption) | assumption)
                                  have q37 : x69_4 < (x5_2.size : Int) := of_decide_eq_true (by first | (with_reducible assumption) | assumption)
                                  have hx37 := bt_at x5_2 x69_4
                                  replace p37 := eq_true p37
                                  replace q37 := eq_true q37
                                  go_wp2
                                  go_roundg k4
                                  case measure => have := HJ4.out; have := HK2.out; have := HJ28.out; have := HK4.out; omega
                                  case rel => exact ⟨(x11_4), (wrap64 (x69_4 + 1)), (by first | rfl | (simp; done) | (simp [*]; done) | (simp [xt_ne_nil]; done)), (by first | rfl | (simp; done) | (simp [*]; done) | (simp [xt_ne_nil]; done)), H', ⟨by have := HJ4.out; have := HK2.out; have := HJ28.out; have := HK4.out; omega⟩, ⟨by repeat (first | (with_reducible first | exact HB.out | apply below_alloc | apply pw_below_drewN | apply below_drew1) | exact HB.out)⟩⟩
                              · rw [if_neg c36] at H
                                exact absurd H (by simp)
                            · rw [if_neg c35] at H
                              exact absurd H (by simp)
                          · rw [if_neg c34] at H
                            have c34b0 : decide (x69_4 < (x5_2.size : Int)) = false := decide_eq_false c34
                            clear c34
                            have H' := Aside0.mk H
                            clear H
                            go_wp2
                            go_loopg [12, 81] k4 (fun kq v12 v81 w' => ∃ (x12_5 : Int) (x81_5 : Int), v12 = .int .i64 x12_5 ∧ v81 = .int .i64 x81_5 ∧ Aside0 (laws_FnPathThere.l3 kq a0 x5_2 t115 x11_4 x12_5 (t115.size : Int) x81_5 = some r) ∧ Aside0 (kq ≤ k4) ∧ Aside0 (Below w.heap.size w w'))
                            case atStart => exact ⟨(0), (0), (by first | rfl | (simp; done) | (simp [*]; done) | (simp [xt_ne_nil]; done)), (by first | rfl | (simp; done) | (simp [*]; done) | (simp [xt_ne_nil]; done)), H', ⟨Nat.le_refl _⟩, ⟨by repeat (first | (with_reducible first | exact HB.out | apply below_alloc | apply pw_below_drewN | apply below_drew1) | exact HB.out)⟩⟩
                            case round =>
                              clear H'
                              try clear c1
                              try clear p1
                              try clear q1
                              try clear hx1
                              try clear c2
                              try clear p2
                              try clear q2
                              try clear hx2
                              try clear c3
                              try clear p3
                              try clear q3
                              try clear hx3
                              try clear c4
                              try clear p6
                              try clear c7
                              try clear c8
                              try clear c9
                              try clear c9b0
                              try clear c10
                              try clear c10b0
                              try clear c11
                              try clear c11b0
                              try clear p11
                              try clear q11
                              try clear hx11
                              try clear c12
                              try clear c13
                              try clear c14
                              try clear c15
                              try clear c16
                              try clear c16b0
                              try clear c17
                              try clear c18
                              try clear c18b0
                              try clear c19
                              try clear c19b0
                              try clear p20
                              try clear q20
                              try clear hx20
                              try clear c21
                              try clear c21b0
                              try clear c22
                              try clear c22b0
                              try clear c22b1
                              try clear c22b2
                              try clear c24
                              try clear c24b0
                              try clear c24b1
                              try clear c24b2
                              try clear c27
                              try clear c27b0
                              try clear c27b1
                              try clear c27b2
                              try clear c30
                              try clear c31
                              try clear c34
                              try clear c34b0
                              try clear c35
                              try clear c35b0
                              try clear c36
                              try clear c36b0
                              try clear p37
                              try clear q37
                              try clear hx37
                              try clear c38
                              try clear c38b0
                              try clear c38b1
                              try clear hx111_0
                              try clear p1
                              try clear p11
                              try clear p111
                              try clear p2
                              try clear p20
                              try clear p37
                              try clear p6
                              try clear q1
                              try clear q11
                              try clear q111
                              try clear q2
                              try clear q20
                              try clear q37
                              obtain ⟨x12_5, x81_5, rfl, rfl, HA, HK5, HB⟩ := hrel
                              cases gk with
                              | zero => exact absurd HA.out (by simp [laws_FnPathThere.l3])
                              | succ k5 =>
                                have H := HA.out
                                clear HA
                                simp only [laws_FnPathThere.l3] at H
                                by_cases c39 : x81_5 < (t115.size : Int)
                                · rw [if_pos c39] at H
                                  have c39b0 : decide (x81_5 < (t115.size : Int)) = true := decide_eq_true c39
                                  clear c39
                                  by_cases c40 : 0 ≤ x81_5
                                  · rw [if_pos c40] at H
                                    have c40b0 : decide (0 ≤ x81_5) = true := decide_eq_true c40
                                    clear c40
                                    by_cases c41 : x81_5 < (t115.size : Int)
                                    · rw [if_pos c41] at H
                                      have c41b0 : decide (x81_5 < (t115.size : Int)) = true := decide_eq_true c41
                                      clear c41
                                      by_cases c43 : (bt t115 x81_5) = 47
                                      · rw [if_pos c43] at H
                                        have c43b0 : ((bt t115 x81_5) == 47) = true := beq_iff_eq.mpr c43
                                        have c43b1 : ((bt t115 x81_5) != 47) = false := bne_eq_false_iff_eq.mpr c43
                                        clear c43
                                        have H' := Aside0.mk H
                                        clear H
                                        have p42 : 0 ≤ (x81_5 : Int) := of_decide_eq_true (by first | (with_reducible assumption) | assumption)
                                        have q42 : x81_5 < (t115.size : Int) := of_decide_eq_true (by first | (with_reducible assumption) | assumption)
                                        have hx42 := bt_at t115 x81_5
                                        replace p42 := eq_true p42
                                        replace q42 := eq_true q42
                                        go_wp2
                                        go_roundg k5
                                        case measure => have := HJ4.out; have := HK2.out; have := HJ28.out; have := HK4.out; have := HK5.out; omega
                                        case rel => exact ⟨(wrap64 (x12_5 + 1)), (wrap64 (x81_5 + 1)), (by first | rfl | (simp; done) | (simp [*]; done) | (simp [xt_ne_nil]; done)), (by first | rfl | (simp; done) | (simp [*]; done) | (simp [xt_ne_nil]; done)), H', ⟨by have := HJ4.out; have := HK2.out; have := HJ28.out; have := HK4.out; have := HK5.out; omega⟩, ⟨by repeat (first | (with_reducible first | exact HB.out | apply below_alloc | apply pw_below_drewN | apply below_drew1) | exact HB.out)⟩⟩
                                      · rw [if_neg c43] at H
                                        have c43b0 : ((bt t115 x81_5) == 47) = false := beq_eq_false_iff_ne.mpr c43
                                        have c43b1 : ((bt t115 x81_5) != 47) = true := bne_iff_ne.mpr c43
                                        have H' := Aside0.mk H
                                        clear H
                                        have p42 : 0 ≤ (x81_5 : Int) := of_decide_eq_true (by first | (with_reducible assumption) | assumption)
                                        have q42 : x81_5 < (t115.size : Int) := of_decide_eq_true (by first | (with_reducible assumption) | assumption)
                                        have hx42 := bt_at t115 x81_5
                                        replace p42 := eq_true p42
                                        replace q42 := eq_true q42
                                        go_wp2
                                        go_roundg k5
                                        case measure => have := HJ4.out; have := HK2.out; have := HJ28.out; have := HK4.out; have := HK5.out; omega
                                        case rel => exact ⟨(x12_5), (wrap64 (x81_5 + 1)), (by first | rfl | (simp; done) | (simp [*]; done) | (simp [xt_ne_nil]; done)), (by first | rfl | (simp; done) | (simp [*]; done) | (simp [xt_ne_nil]; done)), H', ⟨by have := HJ4.out; have := HK2.out; have := HJ28.out; have := HK4.out; have := HK5.out; omega⟩, ⟨by repeat (first | (with_reducible first | exact HB.out | apply below_alloc | apply pw_below_drewN | apply below_drew1) | exact HB.out)⟩⟩
                                    · rw [if_neg c41] at H
                                      exact absurd H (by simp)
                                  · rw [if_neg c40] at H
                                    exact absurd H (by simp)
                                · rw [if_neg c39] at H
                                  have c39b0 : decide (x81_5 < (t115.size : Int)) = false := decide_eq_false c39
                                  clear c39
                                  replace H := Option.bind_eq_some_iff.mp H
                                  obtain ⟨t116, A440, H⟩ := H
                                  replace H : (if t116.toList = x5_2.toList then (if x11_4 = x12_5 then ((impl_PathTo.f a0 (⟨#[120]⟩ : ByteArray)).bind fun t117 => (some (t117.toList == ([120] : List UInt8)))) else (some false)) else (some false)) = some r := H
                                  have A44 := Aside0.mk A440
                                  clear A440
                                  by_cases c45 : t116.toList = x5_2.toList
                                  · rw [if_pos c45] at H
                                    have c45b0 : (t116.toList == x5_2.toList) = true := beq_iff_eq.mpr c45
                                    have c45b1 : (t116.toList != x5_2.toList) = false := bne_eq_false_iff_eq.mpr c45
                                    clear c45
                                    by_cases c46 : x11_4 = x12_5
                                    · rw [if_pos c46] at H
                                      have c46b0 : (x11_4 == x12_5) = true := beq_iff_eq.mpr c46
                                      have c46b1 : (x11_4 != x12_5) = false := bne_eq_false_iff_eq.mpr c46
                                      clear c46
                                      replace H := Option.bind_eq_some_iff.mp H
                                      obtain ⟨t117, A470, H⟩ := H
                                      replace H : (some (t117.toList == ([120] : List UInt8))) = some r := H
                                      have A47 := Aside0.mk A470
                                      clear A470
                                      obtain rfl := Option.some.inj H
                                      go_wp2_with (first | ((with_reducible refine gate_callee (f := 22) rfl ?_); refine goesL_ (some 93) rfl rfl Tryd.func22 (by kernel_rfl) rfl #[.int .u64 a0, .string t115] rfl (by (try simp only [List.map_toArray, List.map_cons, List.map_nil]); first | done | rfl | (simp only [List.length_drop, List.length_take]; rfl)) ?_; (with_reducible refine (impl_PathTo.calls a0 t115 t116 _ ?glob A44.out).mono ?_); (case glob => exact Glob.below HGL.out (by repeat (first | (with_reducible first | exact HB.out | apply below_alloc | apply pw_below_drewN | apply below_drew1) | exact HB.out))); rintro e w48 ⟨rfl, hb⟩; refine ⟨_, rfl, ?_⟩; have n0_ := Aside0.mk (below_step (by repeat (first | (with_reducible first | exact HB.out | apply below_alloc | apply pw_below_drewN | apply below_drew1) | exact HB.out)) hb); clear HB; have HB := n0_; clear n0_; (try clear hb); (try clear hb2); (try clear hk); (try clear hi)) | (go_at_call 22; (with_reducible refine (impl_PathTo.calls a0 (⟨#[120]⟩ : ByteArray) t117 _ ?glob A47.out).mono ?_); (case glob => exact Glob.below HGL.out (by repeat (first | (with_reducible first | exact HB.out | apply below_alloc | apply pw_below_drewN | apply below_drew1) | exact HB.out))); rintro e w49 ⟨rfl, hb⟩; have n0_ := Aside0.mk (below_step (by repeat (first | (with_reducible first | exact HB.out | apply below_alloc | apply pw_below_drewN | apply below_drew1) | exact HB.out)) hb); clear HB; have HB := n0_; clear n0_; (try clear hb); (try clear hb2); (try clear hk); (try clear hi)))
                                      go_ret
                                      exact ⟨by first | rfl | (simp [errW_none, errW_some] <;> rfl) | (simp [*, errW_none, errW_some] <;> rfl), by repeat (first | (with_reducible first | exact HB.out | apply below_alloc | apply pw_below_drewN | apply below_drew1) | exact HB.out)⟩
                                    · rw [if_neg c46] at H
                                      have c46b0 : (x11_4 == x12_5) = false := beq_eq_false_iff_ne.mpr c46
                                      have c46b1 : (x11_4 != x12_5) = true := bne_iff_ne.mpr c46
                                      obtain rfl := Option.some.inj H
                                      go_wp2_with (first | ((with_reducible refine gate_callee (f := 22) rfl ?_); refine goesL_ (some 93) rfl rfl Tryd.func22 (by kernel_rfl) rfl #[.int .u64 a0, .string t115] rfl (by (try simp only [List.map_toArray, List.map_cons, List.map_nil]); first | done | rfl | (simp only [List.length_drop, List.length_take]; rfl)) ?_; (with_reducible refine (impl_PathTo.calls a0 t115 t116 _ ?glob A44.out).mono ?_); (case glob => exact Glob.below HGL.out (by repeat (first | (with_reducible first | exact HB.out | apply below_alloc | apply pw_below_drewN | apply below_drew1) | exact HB.out))); rintro e w50 ⟨rfl, hb⟩; refine ⟨_, rfl, ?_⟩; have n0_ := Aside0.mk (below_step (by repeat (first | (with_reducible first | exact HB.out | apply below_alloc | apply pw_below_drewN | apply below_drew1) | exact HB.out)) hb); clear HB; have HB := n0_; clear n0_; (try clear hb); (try clear hb2); (try clear hk); (try clear hi)))
                                      go_ret
                                      exact ⟨by first | rfl | (simp [errW_none, errW_some] <;> rfl) | (simp [*, errW_none, errW_some] <;> rfl), by repeat (first | (with_reducible first | exact HB.out | apply below_alloc | apply pw_below_drewN | apply below_drew1) | exact HB.out)⟩
                                  · rw [if_neg c45] at H
                                    have c45b0 : (t116.toList == x5_2.toList) = false := beq_eq_false_iff_ne.mpr c45
                                    have c45b1 : (t116.toList != x5_2.toList) = true := bne_iff_ne.mpr c45
                                    obtain rfl := Option.some.inj H
                                    go_wp2_with (first | ((with_reducible refine gate_callee (f := 22) rfl ?_); refine goesL_ (some 93) rfl rfl Tryd.func22 (by kernel_rfl) rfl #[.int .u64 a0, .string t115] rfl (by (try simp only [List.map_toArray, List.map_cons, List.map_nil]); first | done | rfl | (simp only [List.length_drop, List.length_take]; rfl)) ?_; (with_reducible refine (impl_PathTo.calls a0 t115 t116 _ ?glob A44.out).mono ?_); (case glob => exact Glob.below HGL.out (by repeat (first | (with_reducible first | exact HB.out | apply below_alloc | apply pw_below_drewN | apply below_drew1) | exact HB.out))); rintro e w51 ⟨rfl, hb⟩; refine ⟨_, rfl, ?_⟩; have n0_ := Aside0.mk (below_step (by repeat (first | (with_reducible first | exact HB.out | apply below_alloc | apply pw_below_drewN | apply below_drew1) | exact HB.out)) hb); clear HB; have HB := n0_; clear n0_; (try clear hb); (try clear hb2); (try clear hk); (try clear hi)))
                                    go_ret
                                    exact ⟨by first | rfl | (simp [errW_none, errW_some] <;> rfl) | (simp [*, errW_none, errW_some] <;> rfl), by repeat (first | (with_reducible first | exact HB.out | apply below_alloc | apply pw_below_drewN | apply below_drew1) | exact HB.out)⟩
  · replace c4 := Bool.eq_false_iff.mpr c4
    subst c4
    have H1 : (some true) = some r := by rw [if_neg (show ¬ (false = true) by decide)] at H; exact H
    clear H
    have H := H1
    clear H1
    obtain rfl := Option.some.inj H
    go_enter Tryd.func11, Tryd.ntmps11
    go_wp2_with (first | ((with_reducible refine gate_callee (f := 18) rfl ?_); refine goesL_ (some 16) rfl rfl Tryd.func18 (by kernel_rfl) rfl #[.slice A1 l1.length c1] rfl (by (try simp only [List.map_toArray, List.map_cons, List.map_nil]); first | done | rfl | (simp only [List.length_drop, List.length_take]; rfl)) ?_; (with_reducible refine (laws_zzFits3.calls k _ _ l1 false _ ?side1 ?side2 A3.out).mono ?_); (case side1 => repeat (first | exact HR1.out | (with_reducible refine Kd.C_alloc ?_ _) | (with_reducible refine Kd.C_drewN ?_ _) | (with_reducible refine Kd.C_drew ?_))); (case side2 => exact HC1.out); rintro e w' ⟨rfl, ⟨nd, rfl⟩⟩; refine ⟨_, rfl, ?_⟩))
    go_ret
    exact ⟨by first | rfl | (simp [errW_none, errW_some] <;> rfl) | (simp [*, errW_none, errW_some] <;> rfl), by repeat (first | (with_reducible first | exact HB.out | apply below_alloc | apply pw_below_drewN | apply below_drew1) | exact HB.out)⟩

end Go.Proofs.YtlgoghonnnobfaaDoor.PFnPathThere

-- Written by a program of this session's (over the kit's print), with contracts proved by hand among what it calls.
import Derived.Test.YtlgoghonnnobfaaDoorPFnNameDecodex0
namespace Go.Proofs.YtlgoghonnnobfaaDoor.PFnNameDecode
open Go.RowKit Go.Proofs.YtlgoghonnnobfaaDoorW.PrintWords Go.Proofs.YtlgoghonnnobfaaDoorW.PrintLast Go.Proofs.YtlgoghonnnobfaaDoorW.PrintMore
attribute [local go_sem] max2_int min2_int max_two min_two max_three min_three max_four min_four   -- for this text's walks alone
set_option linter.unusedVariables false
set_option linter.unusedSimpArgs false

/-! ### laws_encShort: function 12 -/
def laws_encShort.l0 : Nat → Int → List ByteArray → Int → Int → Option (Bool)
  | 0, _, _, _, _ => none
  | k + 1, x3, x6, x7, x8 => if x8 < x7 then (if 0 ≤ x8 then (if x8 < (x6.length : Int) then (laws_encShort.l0 k (wrap64 (x3 + ((rdOf ByteArray.empty x6 x8).size : Int))) x6 x7 (wrap64 (x8 + 1))) else (none)) else (none)) else (some (decide (x3 ≤ 65536)))
def laws_encShort.f (k : Nat) (l0 : List ByteArray) : Option (Bool) := laws_encShort.l0 k 0 l0 (l0.length : Int) 0
theorem laws_encShort.mono_l : ∀ k, (∀ y0 y1 y2 y3, LeO (laws_encShort.l0 k y0 y1 y2 y3) (laws_encShort.l0 (k + 1) y0 y1 y2 y3))
  | 0 => fun _ _ _ _ r h => by simp [laws_encShort.l0] at h
  | k + 1 => by
    have ih0 := laws_encShort.mono_l k
    · intro y0 y1 y2 y3
      unfold laws_encShort.l0
      repeat' first
      | (with_reducible exact ih0 _ _ _ _)
      | (with_reducible exact LeO.refl _)
      | (with_reducible exact LeO.none _)
      | (with_reducible refine LeO.ite ?_ ?_)
      | (with_reducible refine LeO.bind ?_ (fun _ => ?_))
      | exact ih0 _ _ _ _
      | exact LeO.none _
      | refine LeO.ite ?_ ?_
      | refine LeO.bind ?_ (fun _ => ?_)
theorem laws_encShort.mono : ∀ a0 k, LeO (laws_encShort.f k a0) (laws_encShort.f (k + 1) a0) := by
  intro a0 k
  have ih0 := laws_encShort.mono_l k
  unfold laws_encShort.f
  repeat' first
      | (with_reducible exact ih0 _ _ _ _)
      | (with_reducible exact LeO.refl _)
      | (with_reducible exact LeO.none _)
      | (with_reducible refine LeO.ite ?_ ?_)
      | (with_reducible refine LeO.bind ?_ (fun _ => ?_))
      | exact ih0 _ _ _ _
      | exact LeO.none _
      | refine LeO.ite ?_ ?_
      | refine LeO.bind ?_ (fun _ => ?_)
set_option maxHeartbeats 8000000 in
set_option maxRecDepth 100000 in
theorem laws_encShort.calls (k : Nat) (A0 : Option Addr) (c0 : Nat) (l0 : List ByteArray) (r : Bool) (w : World) (hr0 : Kd.C Kd.string w A0 l0.length l0) (hc0 : l0.length ≤ c0) (h : laws_encShort.f k l0 = some r) :
    Calls Tryd.prog 12 #[.slice A0 l0.length c0] w fun e w' => e = .returned (.bool r) ∧ Drawn0 w w' := by
  have HR0 := Aside0.mk hr0
  have HC0 := Aside0.mk hc0
  clear hr0 hc0
  have H : (laws_encShort.l0 k 0 l0 (l0.length : Int) 0) = some r := h
  clear h
  have H' := Aside0.mk H
  clear H
  go_enter Tryd.func12, Tryd.ntmps12
  go_wp2
  go_loopg [3, 8] k (fun kq v3 v8 w' => ∃ (x3_1 : Int) (x8_1 : Int), v3 = .int .i64 x3_1 ∧ v8 = .int .i64 x8_1 ∧ Aside0 (laws_encShort.l0 kq x3_1 l0 (l0.length : Int) x8_1 = some r) ∧ Aside0 (kq ≤ k) ∧ Drawn0 w w')
  case atStart => exact ⟨(0), (0), (by first | rfl | (simp; done) | (simp [*]; done) | (simp [xt_ne_nil]; done)), (by first | rfl | (simp; done) | (simp [*]; done) | (simp [xt_ne_nil]; done)), H', ⟨Nat.le_refl _⟩, by repeat (first | exact Drawn0.refl _ | apply Drawn0.step)⟩
  case round =>
    clear H'
    try clear c1
    obtain ⟨x3_1, x8_1, rfl, rfl, HA, HK1, ⟨m1, rfl⟩⟩ := hrel
    cases gk with
    | zero => exact absurd HA.out (by simp [laws_encShort.l0])
    | succ k1 =>
      have H := HA.out
      clear HA
      simp only [laws_encShort.l0] at H
      by_cases c2 : x8_1 < (l0.length : Int)
      · rw [if_pos c2] at H
        have c2b0 : decide (x8_1 < (l0.length : Int)) = true := decide_eq_true c2
        clear c2
        by_cases c3 : 0 ≤ x8_1
        · rw [if_pos c3] at H
          have c3b0 : decide (0 ≤ x8_1) = true := decide_eq_true c3
          clear c3
          by_cases c4 : x8_1 < (l0.length : Int)
          · rw [if_pos c4] at H
            have c4b0 : decide (x8_1 < (l0.length : Int)) = true := decide_eq_true c4
            clear c4
            have H' := Aside0.mk H
            clear H
            have p101 : 0 ≤ (x8_1 : Int) := of_decide_eq_true (by first | (with_reducible assumption) | assumption)
            have q101 : x8_1 < (l0.length : Int) := of_decide_eq_true (by first | (with_reducible assumption) | assumption)
            obtain ⟨ad101, e101, hx101_0⟩ := Kd.at_string HR0.out x8_1 p101 q101
            cases e101
            replace p101 := eq_true p101
            replace q101 := eq_true q101
            go_wp2
            go_roundg k1
            case measure => have := HK1.out; omega
            case rel => exact ⟨(wrap64 (x3_1 + ((rdOf ByteArray.empty l0 x8_1).size : Int))), (wrap64 (x8_1 + 1)), (by first | rfl | (simp; done) | (simp [*]; done) | (simp [xt_ne_nil]; done)), (by first | rfl | (simp; done) | (simp [*]; done) | (simp [xt_ne_nil]; done)), H', ⟨by have := HK1.out; omega⟩, by repeat (first | exact Drawn0.refl _ | apply Drawn0.step)⟩
          · rw [if_neg c4] at H
            exact absurd H (by simp)
        · rw [if_neg c3] at H
          exact absurd H (by simp)
      · rw [if_neg c2] at H
        have c2b0 : decide (x8_1 < (l0.length : Int)) = false := decide_eq_false c2
        clear c2
        obtain rfl := Option.some.inj H
        go_wp2
        go_ret
        exact ⟨by first | rfl | (simp; done) | (simp [*]; done) | (simp [xt_ne_nil]; done), by repeat (first | exact Drawn0.refl _ | apply Drawn0.step)⟩

/-! ### impl_NameDecode: function 16 -/
/-- What a mask reads of a name. -/
def impl_NameDecode.f (a0 : Int) (a1 : ByteArray) : Option ByteArray := if a1.size ≤ 400000 then some (Dec.decode a0 a1) else none
set_option maxHeartbeats 400000 in
theorem impl_NameDecode.calls (a0 : Int) (a1 : ByteArray) (r : ByteArray) (w : World) (hglob : Glob w) (h : impl_NameDecode.f a0 a1 = some r) :
    Calls Tryd.prog 16 #[.int .u64 a0, .string a1] w fun e w' => e = .returned (.string r) ∧ Below w.heap.size w w' := by
  unfold impl_NameDecode.f at h
  by_cases hc : a1.size ≤ 400000
  · rw [if_pos hc] at h
    obtain rfl := Option.some.inj h
    have HE := Lib.hid (Dec.decode_any a0 a1 w hglob.tabs hglob.syn hc)
    clear h hglob
    go_enter Tryd.func16, Tryd.ntmps16
    go_wp2_with (go_at_call 30; (with_reducible refine HE.out.mono ?_); rintro e w1 ⟨rfl, hb1⟩; have HB := Lib.hid hb1; clear hb1)
    go_ret
    exact ⟨rfl, HB.out⟩
  · rw [if_neg hc] at h; cases h

/-! ### spec_NameDecode: function 17 -/
/-- What a written name means, as spec tells it. -/
def spec_NameDecode.f (a0 : Int) (a1 : ByteArray) : Option ByteArray := if a1.size ≤ 1000000 then some (Snd.specD a0 a1) else none
theorem spec_NameDecode.calls (a0 : Int) (a1 : ByteArray) (r : ByteArray) (w : World) (h : spec_NameDecode.f a0 a1 = some r) :
    Calls Tryd.prog 17 #[.int .u64 a0, .string a1] w fun e w' => e = .returned (.string r) ∧ Below w.heap.size w w' := by
  unfold spec_NameDecode.f at h
  by_cases hc : a1.size ≤ 1000000
  · rw [if_pos hc] at h
    obtain rfl := Option.some.inj h
    exact Snd.spec_decode a0 a1 w hc
  · rw [if_neg hc] at h; cases h

/-! ### laws_FnNameDecode: function 5 -/
def laws_FnNameDecode.f (k : Nat) (a0 : Int) (a1 : ByteArray) : Option (Bool) := if (a1.size : Int) > 2147483647 then (some true) else ((laws_encShort.f k (([a1] : List ByteArray))).bind fun t105 => (if t105 = true then ((impl_NameDecode.f a0 a1).bind fun t106 => ((spec_NameDecode.f a0 a1).bind fun t107 => (if t106.toList = t107.toList then ((impl_NameDecode.f 2 (⟨#[239, 188, 143]⟩ : ByteArray)).bind fun t108 => (some (t108.toList == ([47] : List UInt8)))) else (some false)))) else (some true)))
theorem laws_FnNameDecode.mono : ∀ a0 a1 k, LeO (laws_FnNameDecode.f k a0 a1) (laws_FnNameDecode.f (k + 1) a0 a1) := by
  intro a0 a1 k
  unfold laws_FnNameDecode.f
  repeat' first
      | (with_reducible exact laws_encShort.mono _ _)
      | (with_reducible exact LeO.refl _)
      | (with_reducible exact LeO.none _)
      | (with_reducible refine LeO.ite ?_ ?_)
      | (with_reducible refine LeO.bind ?_ (fun _ => ?_))
      | exact laws_encShort.mono _ _
      | exact LeO.none _
      | refine LeO.ite ?_ ?_
      | refine LeO.bind ?_ (fun _ => ?_)
set_option maxHeartbeats 8000000 in
set_option maxRecDepth 100000 in
theorem laws_FnNameDecode.calls (k : Nat) (a0 : Int) (a1 : ByteArray) (r : Bool) (w : World) (hglob : Glob w) (h : laws_FnNameDecode.f k a0 a1 = some r) :
    Calls Tryd.prog 5 #[.int .u64 a0, .string a1] w fun e w' => e = .returned (.bool r) ∧ Below w.heap.size w w' := by
  have HGL := Aside0.mk hglob
  clear hglob
  have HB := Aside0.mk (Below.refl w.heap.size w)
  have H : (if (a1.size : Int) > 2147483647 then (some true) else ((laws_encShort.f k (([a1] : List ByteArray))).bind fun t105 => (if t105 = true then ((impl_NameDecode.f a0 a1).bind fun t106 => ((spec_NameDecode.f a0 a1).bind fun t107 => (if t106.toList = t107.toList then ((impl_NameDecode.f 2 (⟨#[239, 188, 143]⟩ : ByteArray)).bind fun t108 => (some (t108.toList == ([47] : List UInt8)))) else (some false)))) else (some true)))) = some r := h
  clear h
  by_cases c3 : (a1.size : Int) > 2147483647
  · rw [if_pos c3] at H
    have c3b0 : decide (2147483647 < (a1.size : Int)) = true := decide_eq_true c3
    have c3b1 : decide (2147483647 < a1.size) = true := decide_eq_true (by omega)
    clear c3
    obtain rfl := Option.some.inj H
    go_enter Tryd.func5, Tryd.ntmps5
    go_wp2
    go_ret
    exact ⟨by first | rfl | (simp [errW_none, errW_some] <;> rfl) | (simp [*, errW_none, errW_some] <;> rfl), by repeat (first | (with_reducible first | exact HB.out | apply below_alloc | apply pw_below_drewN | apply below_drew1) | exact HB.out)⟩
  · rw [if_neg c3] at H
    have c3b0 : decide (2147483647 < (a1.size : Int)) = false := decide_eq_false c3
    have c3b1 : decide (2147483647 < a1.size) = false := decide_eq_false (by omega)
    clear c3
    obtain ⟨y102, hy102⟩ : ∃ y_ : List ByteArray, y_ = (([a1] : List ByteArray)) := ⟨_, rfl⟩
    replace H : ((laws_encShort.f k y102).bind fun t105 => (if t105 = true then ((impl_NameDecode.f a0 a1).bind fun t106 => ((spec_NameDecode.f a0 a1).bind fun t107 => (if t106.toList = t107.toList then ((impl_NameDecode.f 2 (⟨#[239, 188, 143]⟩ : ByteArray)).bind fun t108 => (some (t108.toList == ([47] : List UInt8)))) else (some false)))) else (some true))) = some r := by first | (rw [hy102]; with_reducible exact H) | (have H2_ := (Option.bind_some _ _).symm.trans H; rw [hy102]; with_reducible exact H2_) | (have H2_ := (Option.bind_some _ _).symm.trans H; with_reducible exact H2_) | with_reducible exact H | (rw [hy102]; exact H) | exact H
    have Ny102 := Aside0.mk hy102
    clear hy102
    replace H := Option.bind_eq_some_iff.mp H
    obtain ⟨t105, A40, H⟩ := H
    replace H : (if t105 = true then ((impl_NameDecode.f a0 a1).bind fun t106 => ((spec_NameDecode.f a0 a1).bind fun t107 => (if t106.toList = t107.toList then ((impl_NameDecode.f 2 (⟨#[239, 188, 143]⟩ : ByteArray)).bind fun t108 => (some (t108.toList == ([47] : List UInt8)))) else (some false)))) else (some true)) = some r := H
    have A4 := Aside0.mk A40
    clear A40
    by_cases c5 : t105 = true
    · subst c5
      have H1 : ((impl_NameDecode.f a0 a1).bind fun t106 => ((spec_NameDecode.f a0 a1).bind fun t107 => (if t106.toList = t107.toList then ((impl_NameDecode.f 2 (⟨#[239, 188, 143]⟩ : ByteArray)).bind fun t108 => (some (t108.toList == ([47] : List UInt8)))) else (some false)))) = some r := by rw [if_pos rfl] at H; exact H
      clear H
      have H := H1
      clear H1
      replace H := Option.bind_eq_some_iff.mp H
      obtain ⟨t106, A60, H⟩ := H
      replace H : ((spec_NameDecode.f a0 a1).bind fun t107 => (if t106.toList = t107.toList then ((impl_NameDecode.f 2 (⟨#[239, 188, 143]⟩ : ByteArray)).bind fun t108 => (some (t108.toList == ([47] : List UInt8)))) else (some false))) = some r := H
      have A6 := Aside0.mk A60
      clear A60
      replace H := Option.bind_eq_some_iff.mp H
      obtain ⟨t107, A70, H⟩ := H
      replace H : (if t106.toList = t107.toList then ((impl_NameDecode.f 2 (⟨#[239, 188, 143]⟩ : ByteArray)).bind fun t108 => (some (t108.toList == ([47] : List UInt8)))) else (some false)) = some r := H
      have A7 := Aside0.mk A70
      clear A70
      by_cases c8 : t106.toList = t107.toList
      · rw [if_pos c8] at H
        have c8b0 : (t106.toList == t107.toList) = true := beq_iff_eq.mpr c8
        have c8b1 : (t106.toList != t107.toList) = false := bne_eq_false_iff_eq.mpr c8
        clear c8
        replace H := Option.bind_eq_some_iff.mp H
        obtain ⟨t108, A90, H⟩ := H
        replace H : (some (t108.toList == ([47] : List UInt8))) = some r := H
        have A9 := Aside0.mk A90
        clear A90
        obtain rfl := Option.some.inj H
        go_enter Tryd.func5, Tryd.ntmps5
        go_wp2_with (first | ((with_reducible refine gate_dst (N := 9) rfl ?_); refine Kd.R_lit Kd.string _ 9 ?hg (N := 9) ?hd (xs := ([a1] : List ByteArray)) (inner := [.string a1]) (ok := fun _ => True) (okp := fun _ => True) ?hr ?hp (fun _ hk => hk) trivial (Below.refl _ _) (Nat.le_refl _) (by simp) ?_; (case hd => rfl); (case hg => rfl); (case hr => first | (go_simp; done) | (go_simp; rfl)); (case hp => exact (Reps.one (show Kd.M Kd.string _ _ _ a1 [.string a1] from rfl) (Reps.none _ _))); intro v103 w10 ho11 hb hg_ hnew_; clear hg_ hnew_; (first | rw [← Ny102.out] at ho11 | (simp only [Int.reduceToNat] at ho11; rw [← Ny102.out] at ho11)); have n0_ := Aside0.mk (Kd.R_lower ho11 (below_size (by repeat (first | (with_reducible first | exact HB.out | apply below_alloc | apply pw_below_drewN | apply below_drew1) | exact HB.out)))); have n1_ := Aside0.mk (below_step (by repeat (first | (with_reducible first | exact HB.out | apply below_alloc | apply pw_below_drewN | apply below_drew1) | exact HB.out)) hb); clear HB; have HO104 := n0_; have HB := n1_; clear n0_ n1_; clear hb ho11; obtain ⟨Ao12, co12, eo12⟩ := Kd.R_slice HO104.out; subst eo12) | ((with_reducible refine gate_callee (f := 12) rfl ?_); refine goesL_ (some 10) rfl rfl Tryd.func12 (by kernel_rfl) rfl #[.slice Ao12 y102.length co12] rfl (by (try simp only [List.map_toArray, List.map_cons, List.map_nil]); first | done | rfl | (simp only [List.length_drop, List.length_take]; rfl)) ?_; (with_reducible refine (laws_encShort.calls k _ _ y102 true _ ?side1 ?side2 A4.out).mono ?_); (case side1 => repeat (first | exact (Kd.R_reads' HO104.out).2.2 | (with_reducible refine Kd.C_alloc ?_ _) | (with_reducible refine Kd.C_drewN ?_ _) | (with_reducible refine Kd.C_drew ?_))); (case side2 => exact (Kd.R_reads' HO104.out).2.1); rintro e w' ⟨rfl, ⟨nd, rfl⟩⟩; refine ⟨_, rfl, ?_⟩) | (go_at_call 16; (with_reducible refine (impl_NameDecode.calls a0 a1 t106 _ ?glob A6.out).mono ?_); (case glob => exact Glob.below HGL.out (by repeat (first | (with_reducible first | exact HB.out | apply below_alloc | apply pw_below_drewN | apply below_drew1) | exact HB.out))); rintro e w13 ⟨rfl, hb⟩; have n0_ := Aside0.mk (Kd.R_below (by (with_reducible repeat (first | apply Kd.R_alloc | apply Kd.R_drewN | apply Kd.R_drew)); exact HO104.out) hb); have n1_ := Aside0.mk (below_step (by repeat (first | (with_reducible first | exact HB.out | apply below_alloc | apply pw_below_drewN | apply below_drew1) | exact HB.out)) hb); clear HO104; clear HB; have HO104 := n0_; have HB := n1_; clear n0_ n1_; (try clear hb); (try clear hb2); (try clear hk); (try clear hi)) | (go_at_call 17; (with_reducible refine (spec_NameDecode.calls a0 a1 t107 _ A7.out).mono ?_); rintro e w14 ⟨rfl, hb⟩; have n0_ := Aside0.mk (Kd.R_below (by (with_reducible repeat (first | apply Kd.R_alloc | apply Kd.R_drewN | apply Kd.R_drew)); exact HO104.out) hb); have n1_ := Aside0.mk (below_step (by repeat (first | (with_reducible first | exact HB.out | apply below_alloc | apply pw_below_drewN | apply below_drew1) | exact HB.out)) hb); clear HO104; clear HB; have HO104 := n0_; have HB := n1_; clear n0_ n1_; (try clear hb); (try clear hb2); (try clear hk); (try clear hi)) | (go_at_call 16; (with_reducible refine (impl_NameDecode.calls 2 (⟨#[239, 188, 143]⟩ : ByteArray) t108 _ ?glob A9.out).mono ?_); (case glob => exact Glob.below HGL.out (by repeat (first | (with_reducible first | exact HB.out | apply below_alloc | apply pw_below_drewN | apply below_drew1) | exact HB.out))); rintro e w15 ⟨rfl, hb⟩; have n0_ := Aside0.mk (Kd.R_below (by (with_reducible repeat (first | apply Kd.R_alloc | apply Kd.R_drewN | apply Kd.R_drew)); exact HO104.out) hb); have n1_ := Aside0.mk (below_step (by repeat (first | (with_reducible first | exact HB.out | apply below_alloc | apply pw_below_drewN | apply below_drew1) | exact HB.out)) hb); clear HO104; clear HB; have HO104 := n0_; have HB := n1_; clear n0_ n1_; (try clear hb); (try clear hb2); (try clear hk); (try clear hi)))
        go_ret
        exact ⟨by first | rfl | (simp [errW_none, errW_some] <;> rfl) | (simp [*, errW_none, errW_some] <;> rfl), by repeat (first | (with_reducible first | exact HB.out | apply below_alloc | apply pw_below_drewN | apply below_drew1) | exact HB.out)⟩
      · rw [if_neg c8] at H
        have c8b0 : (t106.toList == t107.toList) = false := beq_eq_false_iff_ne.mpr c8
        have c8b1 : (t106.toList != t107.toList) = true := bne_iff_ne.mpr c8
        obtain rfl := Option.some.inj H
        go_enter Tryd.func5, Tryd.ntmps5
        go_wp2_with (first | ((with_reducible refine gate_dst (N := 9) rfl ?_); refine Kd.R_lit Kd.string _ 9 ?hg (N := 9) ?hd (xs := ([a1] : List ByteArray)) (inner := [.string a1]) (ok := fun _ => True) (okp := fun _ => True) ?hr ?hp (fun _ hk => hk) trivial (Below.refl _ _) (Nat.le_refl _) (by simp) ?_; (case hd => rfl); (case hg => rfl); (case hr => first | (go_simp; done) | (go_simp; rfl)); (case hp => exact (Reps.one (show Kd.M Kd.string _ _ _ a1 [.string a1] from rfl) (Reps.none _ _))); intro v103 w16 ho17 hb hg_ hnew_; clear hg_ hnew_; (first | rw [← Ny102.out] at ho17 | (simp only [Int.reduceToNat] at ho17; rw [← Ny102.out] at ho17)); have n0_ := Aside0.mk (Kd.R_lower ho17 (below_size (by repeat (first | (with_reducible first | exact HB.out | apply below_alloc | apply pw_below_drewN | apply below_drew1) | exact HB.out)))); have n1_ := Aside0.mk (below_step (by repeat (first | (with_reducible first | exact HB.out | apply below_alloc | apply pw_below_drewN | apply below_drew1) | exact HB.out)) hb); clear HB; have HO104 := n0_; have HB := n1_; clear n0_ n1_; clear hb ho17; obtain ⟨Ao18, co18, eo18⟩ := Kd.R_slice HO104.out; subst eo18) | ((with_reducible refine gate_callee (f := 12) rfl ?_); refine goesL_ (some 10) rfl rfl Tryd.func12 (by kernel_rfl) rfl #[.slice Ao18 y102.length co18] rfl (by (try simp only [List.map_toArray, List.map_cons, List.map_nil]); first | done | rfl | (simp only [List.length_drop, List.length_take]; rfl)) ?_; (with_reducible refine (laws_encShort.calls k _ _ y102 true _ ?side1 ?side2 A4.out).mono ?_); (case side1 => repeat (first | exact (Kd.R_reads' HO104.out).2.2 | (with_reducible refine Kd.C_alloc ?_ _) | (with_reducible refine Kd.C_drewN ?_ _) | (with_reducible refine Kd.C_drew ?_))); (case side2 => exact (Kd.R_reads' HO104.out).2.1); rintro e w' ⟨rfl, ⟨nd, rfl⟩⟩; refine ⟨_, rfl, ?_⟩) | (go_at_call 16; (with_reducible refine (impl_NameDecode.calls a0 a1 t106 _ ?glob A6.out).mono ?_); (case glob => exact Glob.below HGL.out (by repeat (first | (with_reducible first | exact HB.out | apply below_alloc | apply pw_below_drewN | apply below_drew1) | exact HB.out))); rintro e w19 ⟨rfl, hb⟩; have n0_ := Aside0.mk (Kd.R_below (by (with_reducible repeat (first | apply Kd.R_alloc | apply Kd.R_drewN | apply Kd.R_drew)); exact HO104.out) hb); have n1_ := Aside0.mk (below_step (by repeat (first | (with_reducible first | exact HB.out | apply below_alloc | apply pw_below_drewN | apply below_drew1) | exact HB.out)) hb); clear HO104; clear HB; have HO104 := n0_; have HB := n1_; clear n0_ n1_; (try clear hb); (try clear hb2); (try clear hk); (try clear hi)) | (go_at_call 17; (with_reducible refine (spec_NameDecode.calls a0 a1 t107 _ A7.out).mono ?_); rintro e w20 ⟨rfl, hb⟩; have n0_ := Aside0.mk (Kd.R_below (by (with_reducible repeat (first | apply Kd.R_alloc | apply Kd.R_drewN | apply Kd.R_drew)); exact HO104.out) hb); have n1_ := Aside0.mk (below_step (by repeat (first | (with_reducible first | exact HB.out | apply below_alloc | apply pw_below_drewN | apply below_drew1) | exact HB.out)) hb); clear HO104; clear HB; have HO104 := n0_; have HB := n1_; clear n0_ n1_; (try clear hb); (try clear hb2); (try clear hk); (try clear hi)))
        go_ret
        exact ⟨by first | rfl | (simp [errW_none, errW_some] <;> rfl) | (simp [*, errW_none, errW_some] <;> rfl), by repeat (first | (with_reducible first | exact HB.out | apply below_alloc | apply pw_below_drewN | apply below_drew1) | exact HB.out)⟩
    · replace c5 := Bool.eq_false_iff.mpr c5
      subst c5
      have H1 : (some true) = some r := by rw [if_neg (show ¬ (false = true) by decide)] at H; exact H
      clear H
      have H := H1
      clear H1
      obtain rfl := Option.some.inj H
      go_enter Tryd.func5, Tryd.ntmps5
      go_wp2_with (first | ((with_reducible refine gate_dst (N := 9) rfl ?_); refine Kd.R_lit Kd.string _ 9 ?hg (N := 9) ?hd (xs := ([a1] : List ByteArray)) (inner := [.string a1]) (ok := fun _ => True) (okp := fun _ => True) ?hr ?hp (fun _ hk => hk) trivial (Below.refl _ _) (Nat.le_refl _) (by simp) ?_; (case hd => rfl); (case hg => rfl); (case hr => first | (go_simp; done) | (go_simp; rfl)); (case hp => exact (Reps.one (show Kd.M Kd.string _ _ _ a1 [.string a1] from rfl) (Reps.none _ _))); intro v103 w21 ho22 hb hg_ hnew_; clear hg_ hnew_; (first | rw [← Ny102.out] at ho22 | (simp only [Int.reduceToNat] at ho22; rw [← Ny102.out] at ho22)); have n0_ := Aside0.mk (Kd.R_lower ho22 (below_size (by repeat (first | (with_reducible first | exact HB.out | apply below_alloc | apply pw_below_drewN | apply below_drew1) | exact HB.out)))); have n1_ := Aside0.mk (below_step (by repeat (first | (with_reducible first | exact HB.out | apply below_alloc | apply pw_below_drewN | apply below_drew1) | exact HB.out)) hb); clear HB; have HO104 := n0_; have HB := n1_; clear n0_ n1_; clear hb ho22; obtain ⟨Ao23, co23, eo23⟩ := Kd.R_slice HO104.out; subst eo23) | ((with_reducible refine gate_callee (f := 12) rfl ?_); refine goesL_ (some 10) rfl rfl Tryd.func12 (by kernel_rfl) rfl #[.slice Ao23 y102.length co23] rfl (by (try simp only [List.map_toArray, List.map_cons, List.map_nil]); first | done | rfl | (simp only [List.length_drop, List.length_take]; rfl)) ?_; (with_reducible refine (laws_encShort.calls k _ _ y102 false _ ?side1 ?side2 A4.out).mono ?_); (case side1 => repeat (first | exact (Kd.R_reads' HO104.out).2.2 | (with_reducible refine Kd.C_alloc ?_ _) | (with_reducible refine Kd.C_drewN ?_ _) | (with_reducible refine Kd.C_drew ?_))); (case side2 => exact (Kd.R_reads' HO104.out).2.1); rintro e w' ⟨rfl, ⟨nd, rfl⟩⟩; refine ⟨_, rfl, ?_⟩))
      go_ret
      exact ⟨by first | rfl | (simp [errW_none, errW_some] <;> rfl) | (simp [*, errW_none, errW_some] <;> rfl), by repeat (first | (with_reducible first | exact HB.out | apply below_alloc | apply pw_below_drewN | apply below_drew1) | exact HB.out)⟩

/-- THE ONE PURE STATEMENT of laws_FnNameDecode: yours. -/
def laws_FnNameDecode.Pure : Prop := ∀ (a0 : Int) (a1 : ByteArray), (Lit.int .u64 a0).wf = true → a1.size ≤ 140737488351232 → ∃ k, laws_FnNameDecode.f k a0 a1 = some true
theorem laws_FnNameDecode.walk (P : laws_FnNameDecode.Pure) (a0 : Int) (a1 : ByteArray) (w : World) (hglob : Glob w) (w0 : (Lit.int .u64 a0).wf = true) (w1 : a1.size ≤ 140737488351232) :
    Calls Tryd.prog 5 #[.int .u64 a0, .string a1] w fun e w' => e = .returned (.bool true) ∧ Below w.heap.size w w' := by
  obtain ⟨k, h⟩ := P a0 a1 w0 w1
  refine (laws_FnNameDecode.calls k a0 a1 true w hglob h).mono ?_
  rintro e w' ⟨rfl, hd⟩
  exact ⟨rfl, hd⟩

end Go.Proofs.YtlgoghonnnobfaaDoor.PFnNameDecode

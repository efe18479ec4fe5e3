-- Written by a program of this session's (over the kit's print), with contracts proved by hand among what it calls.
import Derived.Test.YtlgoghonnnobfaaDoorPFnNameEdgesx0
namespace Go.Proofs.YtlgoghonnnobfaaDoor.PFnNameEdges
open Go.RowKit Go.Proofs.YtlgoghonnnobfaaDoorW.PrintWords Go.Proofs.YtlgoghonnnobfaaDoorW.PrintLast Go.Proofs.YtlgoghonnnobfaaDoorW.PrintMore
attribute [local go_sem] max2_int min2_int max_two min_two max_three min_three max_four min_four   -- for this text's walks alone
set_option linter.unusedVariables false
set_option linter.unusedSimpArgs false

/-! ### laws_encShort: function 12 -/
def laws_encShort.l0 : Nat → Int → List ByteArray → Int → Int → Option (Bool)
  | 0, _, _, _, _ => none
  | k + 1, x3, x6, x7, x8 => if x8 < x7 then (if 0 ≤ x8 then (if x8 < (x6.length : Int) then (laws_encShort.l0 k (wrap64 (x3 + ((rdOf ByteArray.empty x6 x8).size : Int))) x6 x7 (wrap64 (x8 + 1))) else (none)) else (none)) else (some (decide (x3 ≤ 65536)))
def laws_encShort.f (k : Nat) (l0 : List ByteArray) : Option (Bool) := laws_encShort.l0 k 0 l0 (l0.length : Int) 0
theorem laws_encShort.mono_l : ∀ k, (∀ y0 y1 y2 y3, LeO (laws_encShort.l0 k y0 y1 y2 y3) (laws_encShort.l0 (k + 1) y0 y1 y2 y3))
  | 0 => fun _ _ _ _ r h => by simp [laws_encShort.l0] at h
  | k + 1 => by
    have ih0 := laws_encShort.mono_l k
    · intro y0 y1 y2 y3
      unfold laws_encShort.l0
      repeat' first
      | (with_reducible exact ih0 _ _ _ _)
      | (with_reducible exact LeO.refl _)
      | (with_reducible exact LeO.none _)
      | (with_reducible refine LeO.ite ?_ ?_)
      | (with_reducible refine LeO.bind ?_ (fun _ => ?_))
      | exact ih0 _ _ _ _
      | exact LeO.none _
      | refine LeO.ite ?_ ?_
      | refine LeO.bind ?_ (fun _ => ?_)
theorem laws_encShort.mono : ∀ a0 k, LeO (laws_encShort.f k a0) (laws_encShort.f (k + 1) a0) := by
  intro a0 k
  have ih0 := laws_encShort.mono_l k
  unfold laws_encShort.f
  repeat' first
      | (with_reducible exact ih0 _ _ _ _)
      | (with_reducible exact LeO.refl _)
      | (with_reducible exact LeO.none _)
      | (with_reducible refine LeO.ite ?_ ?_)
      | (with_reducible refine LeO.bind ?_ (fun _ => ?_))
      | exact ih0 _ _ _ _
      | exact LeO.none _
      | refine LeO.ite ?_ ?_
      | refine LeO.bind ?_ (fun _ => ?_)
set_option maxHeartbeats 8000000 in
set_option maxRecDepth 100000 in
theorem laws_encShort.calls (k : Nat) (A0 : Option Addr) (c0 : Nat) (l0 : List ByteArray) (r : Bool) (w : World) (hr0 : Kd.C Kd.string w A0 l0.length l0) (hc0 : l0.length ≤ c0) (h : laws_encShort.f k l0 = some r) :
    Calls Tryd.prog 12 #[.slice A0 l0.length c0] w fun e w' => e = .returned (.bool r) ∧ Drawn0 w w' := by
  have HR0 := Aside0.mk hr0
  have HC0 := Aside0.mk hc0
  clear hr0 hc0
  have H : (laws_encShort.l0 k 0 l0 (l0.length : Int) 0) = some r := h
  clear h
  have H' := Aside0.mk H
  clear H
  go_enter Tryd.func12, Tryd.ntmps12
  go_wp2
  go_loopg [3, 8] k (fun kq v3 v8 w' => ∃ (x3_1 : Int) (x8_1 : Int), v3 = .int .i64 x3_1 ∧ v8 = .int .i64 x8_1 ∧ Aside0 (laws_encShort.l0 kq x3_1 l0 (l0.length : Int) x8_1 = some r) ∧ Aside0 (kq ≤ k) ∧ Drawn0 w w')
  case atStart => exact ⟨(0), (0), (by first | rfl | (simp; done) | (simp [*]; done) | (simp [xt_ne_nil]; done)), (by first | rfl | (simp; done) | (simp [*]; done) | (simp [xt_ne_nil]; done)), H', ⟨Nat.le_refl _⟩, by repeat (first | exact Drawn0.refl _ | apply Drawn0.step)⟩
  case round =>
    clear H'
    try clear c1
    obtain ⟨x3_1, x8_1, rfl, rfl, HA, HK1, ⟨m1, rfl⟩⟩ := hrel
    cases gk with
    | zero => exact absurd HA.out (by simp [laws_encShort.l0])
    | succ k1 =>
      have H := HA.out
      clear HA
      simp only [laws_encShort.l0] at H
      by_cases c2 : x8_1 < (l0.length : Int)
      · rw [if_pos c2] at H
        have c2b0 : decide (x8_1 < (l0.length : Int)) = true := decide_eq_true c2
        clear c2
        by_cases c3 : 0 ≤ x8_1
        · rw [if_pos c3] at H
          have c3b0 : decide (0 ≤ x8_1) = true := decide_eq_true c3
          clear c3
          by_cases c4 : x8_1 < (l0.length : Int)
          · rw [if_pos c4] at H
            have c4b0 : decide (x8_1 < (l0.length : Int)) = true := decide_eq_true c4
            clear c4
            have H' := Aside0.mk H
            clear H
            have p101 : 0 ≤ (x8_1 : Int) := of_decide_eq_true (by first | (with_reducible assumption) | assumption)
            have q101 : x8_1 < (l0.length : Int) := of_decide_eq_true (by first | (with_reducible assumption) | assumption)
            obtain ⟨ad101, e101, hx101_0⟩ := Kd.at_string HR0.out x8_1 p101 q101
            cases e101
            replace p101 := eq_true p101
            replace q101 := eq_true q101
            go_wp2
            go_roundg k1
            case measure => have := HK1.out; omega
            case rel => exact ⟨(wrap64 (x3_1 + ((rdOf ByteArray.empty l0 x8_1).size : Int))), (wrap64 (x8_1 + 1)), (by first | rfl | (simp; done) | (simp [*]; done) | (simp [xt_ne_nil]; done)), (by first | rfl | (simp; done) | (simp [*]; done) | (simp [xt_ne_nil]; done)), H', ⟨by have := HK1.out; omega⟩, by repeat (first | exact Drawn0.refl _ | apply Drawn0.step)⟩
          · rw [if_neg c4] at H
            exact absurd H (by simp)
        · rw [if_neg c3] at H
          exact absurd H (by simp)
      · rw [if_neg c2] at H
        have c2b0 : decide (x8_1 < (l0.length : Int)) = false := decide_eq_false c2
        clear c2
        obtain rfl := Option.some.inj H
        go_wp2
        go_ret
        exact ⟨by first | rfl | (simp; done) | (simp [*]; done) | (simp [xt_ne_nil]; done), by repeat (first | exact Drawn0.refl _ | apply Drawn0.step)⟩

/-! ### impl_NameEncode: function 14 -/
/-- What a mask writes of a name. -/
def impl_NameEncode.f (a0 : Int) (a1 : ByteArray) : Option ByteArray := if a1.size ≤ 400000 then some (Enc.encode a0 a1) else none
set_option maxHeartbeats 400000 in
theorem impl_NameEncode.calls (a0 : Int) (a1 : ByteArray) (r : ByteArray) (w : World) (hglob : Glob w) (h : impl_NameEncode.f a0 a1 = some r) :
    Calls Tryd.prog 14 #[.int .u64 a0, .string a1] w fun e w' => e = .returned (.string r) ∧ Below w.heap.size w w' := by
  unfold impl_NameEncode.f at h
  by_cases hc : a1.size ≤ 400000
  · rw [if_pos hc] at h
    obtain rfl := Option.some.inj h
    have HE := Lib.hid (Enc.encode_any a0 a1 w hglob.tabs hc)
    clear h hglob
    go_enter Tryd.func14, Tryd.ntmps14
    go_wp2_with (go_at_call 29; (with_reducible refine HE.out.mono ?_); rintro e w1 ⟨rfl, hb1⟩; have HB := Lib.hid hb1; clear hb1)
    go_ret
    exact ⟨rfl, HB.out⟩
  · rw [if_neg hc] at h; cases h

/-! ### impl_NameDecode: function 16 -/
/-- What a mask reads of a name. -/
def impl_NameDecode.f (a0 : Int) (a1 : ByteArray) : Option ByteArray := if a1.size ≤ 400000 then some (Dec.decode a0 a1) else none
set_option maxHeartbeats 400000 in
theorem impl_NameDecode.calls (a0 : Int) (a1 : ByteArray) (r : ByteArray) (w : World) (hglob : Glob w) (h : impl_NameDecode.f a0 a1 = some r) :
    Calls Tryd.prog 16 #[.int .u64 a0, .string a1] w fun e w' => e = .returned (.string r) ∧ Below w.heap.size w w' := by
  unfold impl_NameDecode.f at h
  by_cases hc : a1.size ≤ 400000
  · rw [if_pos hc] at h
    obtain rfl := Option.some.inj h
    have HE := Lib.hid (Dec.decode_any a0 a1 w hglob.tabs hglob.syn hc)
    clear h hglob
    go_enter Tryd.func16, Tryd.ntmps16
    go_wp2_with (go_at_call 30; (with_reducible refine HE.out.mono ?_); rintro e w1 ⟨rfl, hb1⟩; have HB := Lib.hid hb1; clear hb1)
    go_ret
    exact ⟨rfl, HB.out⟩
  · rw [if_neg hc] at h; cases h

/-! ### laws_FnNameEdges: function 6 -/
def laws_FnNameEdges.j0 : Nat → Int → ByteArray → Bool → Option (Bool)
  | 0, _, _, _ => none
  | k + 1, x0, x1, x27 => if x27 = true then (some true) else (if 1 + x1.size ≤ 9223372036854775807 then (if x1.size + 1 ≤ 9223372036854775807 then ((impl_NameEncode.f x0 ((⟨#[120]⟩ : ByteArray) ++ x1)).bind fun t106 => ((impl_NameEncode.f (Go.bits .andNot .u64 x0 1966080) ((⟨#[120]⟩ : ByteArray) ++ x1)).bind fun t107 => (if t106.toList = t107.toList then ((impl_NameEncode.f x0 (x1 ++ (⟨#[120]⟩ : ByteArray))).bind fun t108 => ((impl_NameEncode.f (Go.bits .andNot .u64 x0 14680064) (x1 ++ (⟨#[120]⟩ : ByteArray))).bind fun t109 => (if t108.toList = t109.toList then ((impl_NameDecode.f x0 ((⟨#[120]⟩ : ByteArray) ++ x1)).bind fun t110 => ((impl_NameDecode.f (Go.bits .andNot .u64 x0 1966080) ((⟨#[120]⟩ : ByteArray) ++ x1)).bind fun t111 => (if t110.toList = t111.toList then ((impl_NameDecode.f x0 (x1 ++ (⟨#[120]⟩ : ByteArray))).bind fun t112 => ((impl_NameDecode.f (Go.bits .andNot .u64 x0 14680064) (x1 ++ (⟨#[120]⟩ : ByteArray))).bind fun t113 => (if t112.toList = t113.toList then ((impl_NameEncode.f 131072 (⟨#[32]⟩ : ByteArray)).bind fun t114 => (some (t114.toList == ([226, 144, 160] : List UInt8)))) else (some false)))) else (some false)))) else (some false)))) else (some false)))) else (none)) else (none))
def laws_FnNameEdges.f (k : Nat) (a0 : Int) (a1 : ByteArray) : Option (Bool) := if (a1.size : Int) > 2147483647 then (some true) else ((laws_encShort.f k (([a1] : List ByteArray))).bind fun t105 => (if t105 = true then (if a0 = 1 then (laws_FnNameEdges.j0 k a0 a1 true) else (if (Go.bits .andNot .u64 a0 1966080) = 1 then (laws_FnNameEdges.j0 k a0 a1 true) else (laws_FnNameEdges.j0 k a0 a1 ((Go.bits .andNot .u64 a0 14680064) == 1)))) else (laws_FnNameEdges.j0 k a0 a1 true)))
theorem laws_FnNameEdges.mono_l : ∀ k, (∀ y0 y1 y2, LeO (laws_FnNameEdges.j0 k y0 y1 y2) (laws_FnNameEdges.j0 (k + 1) y0 y1 y2))
  | 0 => fun _ _ _ r h => by simp [laws_FnNameEdges.j0] at h
  | k + 1 => by
    have ih0 := laws_FnNameEdges.mono_l k
    · intro y0 y1 y2
      unfold laws_FnNameEdges.j0
      repeat' first
      | (with_reducible exact ih0 _ _ _)
      | (with_reducible exact laws_encShort.mono _ _)
      | (with_reducible exact LeO.refl _)
      | (with_reducible exact LeO.none _)
      | (with_reducible refine LeO.ite ?_ ?_)
      | (with_reducible refine LeO.bind ?_ (fun _ => ?_))
      | exact ih0 _ _ _
      | exact laws_encShort.mono _ _
      | exact LeO.none _
      | refine LeO.ite ?_ ?_
      | refine LeO.bind ?_ (fun _ => ?_)
theorem laws_FnNameEdges.mono : ∀ a0 a1 k, LeO (laws_FnNameEdges.f k a0 a1) (laws_FnNameEdges.f (k + 1) a0 a1) := by
  intro a0 a1 k
  have ih0 := laws_FnNameEdges.mono_l k
  unfold laws_FnNameEdges.f
  repeat' first
      | (with_reducible exact ih0 _ _ _)
      | (with_reducible exact laws_encShort.mono _ _)
      | (with_reducible exact LeO.refl _)
      | (with_reducible exact LeO.none _)
      | (with_reducible refine LeO.ite ?_ ?_)
      | (with_reducible refine LeO.bind ?_ (fun _ => ?_))
      | exact ih0 _ _ _
      | exact laws_encShort.mono _ _
      | exact LeO.none _
      | refine LeO.ite ?_ ?_
      | refine LeO.bind ?_ (fun _ => ?_)
set_option maxHeartbeats 8000000 in
set_option maxRecDepth 100000 in
theorem laws_FnNameEdges.calls (k : Nat) (a0 : Int) (a1 : ByteArray) (r : Bool) (w : World) (hglob : Glob w) (h : laws_FnNameEdges.f k a0 a1 = some r) :
    Calls Tryd.prog 6 #[.int .u64 a0, .string a1] w fun e w' => e = .returned (.bool r) ∧ Below w.heap.size w w' := by
  have HGL := Aside0.mk hglob
  clear hglob
  have HB := Aside0.mk (Below.refl w.heap.size w)
  have H : (if (a1.size : Int) > 2147483647 then (some true) else ((laws_encShort.f k (([a1] : List ByteArray))).bind fun t105 => (if t105 = true then (if a0 = 1 then (laws_FnNameEdges.j0 k a0 a1 true) else (if (Go.bits .andNot .u64 a0 1966080) = 1 then (laws_FnNameEdges.j0 k a0 a1 true) else (laws_FnNameEdges.j0 k a0 a1 ((Go.bits .andNot .u64 a0 14680064) == 1)))) else (laws_FnNameEdges.j0 k a0 a1 true)))) = some r := h
  clear h
  by_cases c3 : (a1.size : Int) > 2147483647
  · rw [if_pos c3] at H
    have c3b0 : decide (2147483647 < (a1.size : Int)) = true := decide_eq_true c3
    have c3b1 : decide (2147483647 < a1.size) = true := decide_eq_true (by omega)
    clear c3
    obtain rfl := Option.some.inj H
    go_enter Tryd.func6, Tryd.ntmps6
    go_wp2
    go_ret
    exact ⟨by first | rfl | (simp [errW_none, errW_some] <;> rfl) | (simp [*, errW_none, errW_some] <;> rfl), by repeat (first | (with_reducible first | exact HB.out | apply below_alloc | apply pw_below_drewN | apply below_drew1) | exact HB.out)⟩
  · rw [if_neg c3] at H
    have c3b0 : decide (2147483647 < (a1.size : Int)) = false := decide_eq_false c3
    have c3b1 : decide (2147483647 < a1.size) = false := decide_eq_false (by omega)
    clear c3
    have HC4 := Aside0.mk H
    clear H
    go_enter Tryd.func6, Tryd.ntmps6
    go_upto_region 3 with (fail)
    go_cut [27] (fun v27 wc => ∃ (kq : Nat) (x27_3 : Bool), v27 = .bool x27_3 ∧ Aside0 (laws_FnNameEdges.j0 kq a0 a1 x27_3 = some r) ∧ Aside0 (kq ≤ k) ∧ Aside0 (Below w.heap.size w wc))
    case first =>
      have H := HC4.out
      clear HC4
      obtain ⟨y102, hy102⟩ : ∃ y_ : List ByteArray, y_ = (([a1] : List ByteArray)) := ⟨_, rfl⟩
      replace H : ((laws_encShort.f k y102).bind fun t105 => (if t105 = true then (if a0 = 1 then (laws_FnNameEdges.j0 k a0 a1 true) else (if (Go.bits .andNot .u64 a0 1966080) = 1 then (laws_FnNameEdges.j0 k a0 a1 true) else (laws_FnNameEdges.j0 k a0 a1 ((Go.bits .andNot .u64 a0 14680064) == 1)))) else (laws_FnNameEdges.j0 k a0 a1 true))) = some r := by first | (rw [hy102]; with_reducible exact H) | (have H2_ := (Option.bind_some _ _).symm.trans H; rw [hy102]; with_reducible exact H2_) | (have H2_ := (Option.bind_some _ _).symm.trans H; with_reducible exact H2_) | with_reducible exact H | (rw [hy102]; exact H) | exact H
      have Ny102 := Aside0.mk hy102
      clear hy102
      replace H := Option.bind_eq_some_iff.mp H
      obtain ⟨t105, A50, H⟩ := H
      replace H : (if t105 = true then (if a0 = 1 then (laws_FnNameEdges.j0 k a0 a1 true) else (if (Go.bits .andNot .u64 a0 1966080) = 1 then (laws_FnNameEdges.j0 k a0 a1 true) else (laws_FnNameEdges.j0 k a0 a1 ((Go.bits .andNot .u64 a0 14680064) == 1)))) else (laws_FnNameEdges.j0 k a0 a1 true)) = some r := H
      have A5 := Aside0.mk A50
      clear A50
      by_cases c6 : t105 = true
      · subst c6
        have H1 : (if a0 = 1 then (laws_FnNameEdges.j0 k a0 a1 true) else (if (Go.bits .andNot .u64 a0 1966080) = 1 then (laws_FnNameEdges.j0 k a0 a1 true) else (laws_FnNameEdges.j0 k a0 a1 ((Go.bits .andNot .u64 a0 14680064) == 1)))) = some r := by rw [if_pos rfl] at H; exact H
        clear H
        have H := H1
        clear H1
        by_cases c7 : a0 = 1
        · rw [if_pos c7] at H
          have c7b0 : (a0 == 1) = true := beq_iff_eq.mpr c7
          have c7b1 : (a0 != 1) = false := bne_eq_false_iff_eq.mpr c7
          clear c7
          (first | rw [c7b0] | (simp only [i64_w, i32_w]; rw [c7b0]) | skip)
          have H' := Aside0.mk H
          clear H
          go_wp2_with (first | ((with_reducible refine gate_dst (N := 11) rfl ?_); refine Kd.R_lit Kd.string _ 9 ?hg (N := 11) ?hd (xs := ([a1] : List ByteArray)) (inner := [.string a1]) (ok := fun _ => True) (okp := fun _ => True) ?hr ?hp (fun _ hk => hk) trivial (Below.refl _ _) (Nat.le_refl _) (by simp) ?_; (case hd => rfl); (case hg => rfl); (case hr => first | (go_simp; done) | (go_simp; rfl)); (case hp => exact (Reps.one (show Kd.M Kd.string _ _ _ a1 [.string a1] from rfl) (Reps.none _ _))); intro v103 w8 ho9 hb hg_ hnew_; clear hg_ hnew_; (first | rw [← Ny102.out] at ho9 | (simp only [Int.reduceToNat] at ho9; rw [← Ny102.out] at ho9)); have n0_ := Aside0.mk (Kd.R_lower ho9 (below_size (by repeat (first | (with_reducible first | exact HB.out | apply below_alloc | apply pw_below_drewN | apply below_drew1) | exact HB.out)))); have n1_ := Aside0.mk (below_step (by repeat (first | (with_reducible first | exact HB.out | apply below_alloc | apply pw_below_drewN | apply below_drew1) | exact HB.out)) hb); clear HB; have HO104 := n0_; have HB := n1_; clear n0_ n1_; clear hb ho9; obtain ⟨Ao10, co10, eo10⟩ := Kd.R_slice HO104.out; subst eo10) | ((with_reducible refine gate_callee (f := 12) rfl ?_); refine goesL_ (some 12) rfl rfl Tryd.func12 (by kernel_rfl) rfl #[.slice Ao10 y102.length co10] rfl (by (try simp only [List.map_toArray, List.map_cons, List.map_nil]); first | done | rfl | (simp only [List.length_drop, List.length_take]; rfl)) ?_; (with_reducible refine (laws_encShort.calls k _ _ y102 true _ ?side1 ?side2 A5.out).mono ?_); (case side1 => repeat (first | exact (Kd.R_reads' HO104.out).2.2 | (with_reducible refine Kd.C_alloc ?_ _) | (with_reducible refine Kd.C_drewN ?_ _) | (with_reducible refine Kd.C_drew ?_))); (case side2 => exact (Kd.R_reads' HO104.out).2.1); rintro e w' ⟨rfl, ⟨nd, rfl⟩⟩; refine ⟨_, rfl, ?_⟩))
          go_meet
          case rel => exact ⟨_, (true), (by first | rfl | (simp; done) | (simp [*]; done) | (simp [xt_ne_nil]; done)), H', ⟨by first | omega | exact Nat.le_refl _⟩, ⟨by repeat (first | (with_reducible first | exact HB.out | apply below_alloc | apply pw_below_drewN | apply below_drew1) | exact HB.out)⟩⟩
        · rw [if_neg c7] at H
          have c7b0 : (a0 == 1) = false := beq_eq_false_iff_ne.mpr c7
          have c7b1 : (a0 != 1) = true := bne_iff_ne.mpr c7
          (first | rw [c7b0] | (simp only [i64_w, i32_w]; rw [c7b0]) | skip)
          by_cases c11 : (Go.bits .andNot .u64 a0 1966080) = 1
          · rw [if_pos c11] at H
            have c11b0 : ((Go.bits .andNot .u64 a0 1966080) == 1) = true := beq_iff_eq.mpr c11
            have c11b1 : ((Go.bits .andNot .u64 a0 1966080) != 1) = false := bne_eq_false_iff_eq.mpr c11
            clear c11
            have H' := Aside0.mk H
            clear H
            go_wp2_with (first | ((with_reducible refine gate_dst (N := 11) rfl ?_); refine Kd.R_lit Kd.string _ 9 ?hg (N := 11) ?hd (xs := ([a1] : List ByteArray)) (inner := [.string a1]) (ok := fun _ => True) (okp := fun _ => True) ?hr ?hp (fun _ hk => hk) trivial (Below.refl _ _) (Nat.le_refl _) (by simp) ?_; (case hd => rfl); (case hg => rfl); (case hr => first | (go_simp; done) | (go_simp; rfl)); (case hp => exact (Reps.one (show Kd.M Kd.string _ _ _ a1 [.string a1] from rfl) (Reps.none _ _))); intro v103 w12 ho13 hb hg_ hnew_; clear hg_ hnew_; (first | rw [← Ny102.out] at ho13 | (simp only [Int.reduceToNat] at ho13; rw [← Ny102.out] at ho13)); have n0_ := Aside0.mk (Kd.R_lower ho13 (below_size (by repeat (first | (with_reducible first | exact HB.out | apply below_alloc | apply pw_below_drewN | apply below_drew1) | exact HB.out)))); have n1_ := Aside0.mk (below_step (by repeat (first | (with_reducible first | exact HB.out | apply below_alloc | apply pw_below_drewN | apply below_drew1) | exact HB.out)) hb); clear HB; have HO104 := n0_; have HB := n1_; clear n0_ n1_; clear hb ho13; obtain ⟨Ao14, co14, eo14⟩ := Kd.R_slice HO104.out; subst eo14) | ((with_reducible refine gate_callee (f := 12) rfl ?_); refine goesL_ (some 12) rfl rfl Tryd.func12 (by kernel_rfl) rfl #[.slice Ao14 y102.length co14] rfl (by (try simp only [List.map_toArray, List.map_cons, List.map_nil]); first | done | rfl | (simp only [List.length_drop, List.length_take]; rfl)) ?_; (with_reducible refine (laws_encShort.calls k _ _ y102 true _ ?side1 ?side2 A5.out).mono ?_); (case side1 => repeat (first | exact (Kd.R_reads' HO104.out).2.2 | (with_reducible refine Kd.C_alloc ?_ _) | (with_reducible refine Kd.C_drewN ?_ _) | (with_reducible refine Kd.C_drew ?_))); (case side2 => exact (Kd.R_reads' HO104.out).2.1); rintro e w' ⟨rfl, ⟨nd, rfl⟩⟩; refine ⟨_, rfl, ?_⟩))
            go_meet
            case rel => exact ⟨_, (true), (by first | rfl | (simp; done) | (simp [*]; done) | (simp [xt_ne_nil]; done)), H', ⟨by first | omega | exact Nat.le_refl _⟩, ⟨by repeat (first | (with_reducible first | exact HB.out | apply below_alloc | apply pw_below_drewN | apply below_drew1) | exact HB.out)⟩⟩
          · rw [if_neg c11] at H
            have c11b0 : ((Go.bits .andNot .u64 a0 1966080) == 1) = false := beq_eq_false_iff_ne.mpr c11
            have c11b1 : ((Go.bits .andNot .u64 a0 1966080) != 1) = true := bne_iff_ne.mpr c11
            have H' := Aside0.mk H
            clear H
            go_wp2_with (first | ((with_reducible refine gate_dst (N := 11) rfl ?_); refine Kd.R_lit Kd.string _ 9 ?hg (N := 11) ?hd (xs := ([a1] : List ByteArray)) (inner := [.string a1]) (ok := fun _ => True) (okp := fun _ => True) ?hr ?hp (fun _ hk => hk) trivial (Below.refl _ _) (Nat.le_refl _) (by simp) ?_; (case hd => rfl); (case hg => rfl); (case hr => first | (go_simp; done) | (go_simp; rfl)); (case hp => exact (Reps.one (show Kd.M Kd.string _ _ _ a1 [.string a1] from rfl) (Reps.none _ _))); intro v103 w15 ho16 hb hg_ hnew_; clear hg_ hnew_; (first | rw [← Ny102.out] at ho16 | (simp only [Int.reduceToNat] at ho16; rw [← Ny102.out] at ho16)); have n0_ := Aside0.mk (Kd.R_lower ho16 (below_size (by repeat (first | (with_reducible first | exact HB.out | apply below_alloc | apply pw_below_drewN | apply below_drew1) | exact HB.out)))); have n1_ := Aside0.mk (below_step (by repeat (first | (with_reducible first | exact HB.out | apply below_alloc | apply pw_below_drewN | apply below_drew1) | exact HB.out)) hb); clear HB; have HO104 := n0_; have HB := n1_; clear n0_ n1_; clear hb ho16; obtain ⟨Ao17, co17, eo17⟩ := Kd.R_slice HO104.out; subst eo17) | ((with_reducible refine gate_callee (f := 12) rfl ?_); refine goesL_ (some 12) rfl rfl Tryd.func12 (by kernel_rfl) rfl #[.slice Ao17 y102.length co17] rfl (by (try simp only [List.map_toArray, List.map_cons, List.map_nil]); first | done | rfl | (simp only [List.length_drop, List.length_take]; rfl)) ?_; (with_reducible refine (laws_encShort.calls k _ _ y102 true _ ?side1 ?side2 A5.out).mono ?_); (case side1 => repeat (first | exact (Kd.R_reads' HO104.out).2.2 | (with_reducible refine Kd.C_alloc ?_ _) | (with_reducible refine Kd.C_drewN ?_ _) | (with_reducible refine Kd.C_drew ?_))); (case side2 => exact (Kd.R_reads' HO104.out).2.1); rintro e w' ⟨rfl, ⟨nd, rfl⟩⟩; refine ⟨_, rfl, ?_⟩))
            go_meet
            case rel => exact ⟨_, (((Go.bits .andNot .u64 a0 14680064) == 1)), (by first | rfl | (simp; done) | (simp [*]; done) | (simp [xt_ne_nil]; done)), H', ⟨by first | omega | exact Nat.le_refl _⟩, ⟨by repeat (first | (with_reducible first | exact HB.out | apply below_alloc | apply pw_below_drewN | apply below_drew1) | exact HB.out)⟩⟩
      · replace c6 := Bool.eq_false_iff.mpr c6
        subst c6
        have H1 : (laws_FnNameEdges.j0 k a0 a1 true) = some r := by rw [if_neg (show ¬ (false = true) by decide)] at H; exact H
        clear H
        have H := H1
        clear H1
        have H' := Aside0.mk H
        clear H
        go_wp2_with (first | ((with_reducible refine gate_dst (N := 11) rfl ?_); refine Kd.R_lit Kd.string _ 9 ?hg (N := 11) ?hd (xs := ([a1] : List ByteArray)) (inner := [.string a1]) (ok := fun _ => True) (okp := fun _ => True) ?hr ?hp (fun _ hk => hk) trivial (Below.refl _ _) (Nat.le_refl _) (by simp) ?_; (case hd => rfl); (case hg => rfl); (case hr => first | (go_simp; done) | (go_simp; rfl)); (case hp => exact (Reps.one (show Kd.M Kd.string _ _ _ a1 [.string a1] from rfl) (Reps.none _ _))); intro v103 w18 ho19 hb hg_ hnew_; clear hg_ hnew_; (first | rw [← Ny102.out] at ho19 | (simp only [Int.reduceToNat] at ho19; rw [← Ny102.out] at ho19)); have n0_ := Aside0.mk (Kd.R_lower ho19 (below_size (by repeat (first | (with_reducible first | exact HB.out | apply below_alloc | apply pw_below_drewN | apply below_drew1) | exact HB.out)))); have n1_ := Aside0.mk (below_step (by repeat (first | (with_reducible first | exact HB.out | apply below_alloc | apply pw_below_drewN | apply below_drew1) | exact HB.out)) hb); clear HB; have HO104 := n0_; have HB := n1_; clear n0_ n1_; clear hb ho19; obtain ⟨Ao20, co20, eo20⟩ := Kd.R_slice HO104.out; subst eo20) | ((with_reducible refine gate_callee (f := 12) rfl ?_); refine goesL_ (some 12) rfl rfl Tryd.func12 (by kernel_rfl) rfl #[.slice Ao20 y102.length co20] rfl (by (try simp only [List.map_toArray, List.map_cons, List.map_nil]); first | done | rfl | (simp only [List.length_drop, List.length_take]; rfl)) ?_; (with_reducible refine (laws_encShort.calls k _ _ y102 false _ ?side1 ?side2 A5.out).mono ?_); (case side1 => repeat (first | exact (Kd.R_reads' HO104.out).2.2 | (with_reducible refine Kd.C_alloc ?_ _) | (with_reducible refine Kd.C_drewN ?_ _) | (with_reducible refine Kd.C_drew ?_))); (case side2 => exact (Kd.R_reads' HO104.out).2.1); rintro e w' ⟨rfl, ⟨nd, rfl⟩⟩; refine ⟨_, rfl, ?_⟩))
        go_meet
        case rel => exact ⟨_, (true), (by first | rfl | (simp; done) | (simp [*]; done) | (simp [xt_ne_nil]; done)), H', ⟨by first | omega | exact Nat.le_refl _⟩, ⟨by repeat (first | (with_reducible first | exact HB.out | apply below_alloc | apply pw_below_drewN | apply below_drew1) | exact HB.out)⟩⟩
    case rest =>
      clear HC4
      try clear c1
      try clear p2
      try clear c3
      try clear c3b0
      try clear c3b1
      try clear c6
      try clear c7
      try clear c7b0
      try clear c7b1
      try clear c11
      try clear c11b0
      try clear c11b1
      try clear c12
      obtain ⟨kq, x27_3, rfl, HA, HJ3, HB⟩ := hcut
      cases kq with
      | zero => exact absurd HA.out (by simp [laws_FnNameEdges.j0])
      | succ kj3 =>
        have H := HA.out
        clear HA
        simp only [laws_FnNameEdges.j0] at H
        by_cases c21 : x27_3 = true
        · subst c21
          have H1 : (some true) = some r := by rw [if_pos rfl] at H; exact H
          clear H
          have H := H1
          clear H1
          obtain rfl := Option.some.inj H
          go_wp2
          go_ret
          exact ⟨by first | rfl | (simp [errW_none, errW_some] <;> rfl) | (simp [*, errW_none, errW_some] <;> rfl), by repeat (first | (with_reducible first | exact HB.out | apply below_alloc | apply pw_below_drewN | apply below_drew1) | exact HB.out)⟩
        · replace c21 := Bool.eq_false_iff.mpr c21
          subst c21
          have H1 : (if 1 + a1.size ≤ 9223372036854775807 then (if a1.size + 1 ≤ 9223372036854775807 then ((impl_NameEncode.f a0 ((⟨#[120]⟩ : ByteArray) ++ a1)).bind fun t106 => ((impl_NameEncode.f (Go.bits .andNot .u64 a0 1966080) ((⟨#[120]⟩ : ByteArray) ++ a1)).bind fun t107 => (if t106.toList = t107.toList then ((impl_NameEncode.f a0 (a1 ++ (⟨#[120]⟩ : ByteArray))).bind fun t108 => ((impl_NameEncode.f (Go.bits .andNot .u64 a0 14680064) (a1 ++ (⟨#[120]⟩ : ByteArray))).bind fun t109 => (if t108.toList = t109.toList then ((impl_NameDecode.f a0 ((⟨#[120]⟩ : ByteArray) ++ a1)).bind fun t110 => ((impl_NameDecode.f (Go.bits .andNot .u64 a0 1966080) ((⟨#[120]⟩ : ByteArray) ++ a1)).bind fun t111 => (if t110.toList = t111.toList then ((impl_NameDecode.f a0 (a1 ++ (⟨#[120]⟩ : ByteArray))).bind fun t112 => ((impl_NameDecode.f (Go.bits .andNot .u64 a0 14680064) (a1 ++ (⟨#[120]⟩ : ByteArray))).bind fun t113 => (if t112.toList = t113.toList then ((impl_NameEncode.f 131072 (⟨#[32]⟩ : ByteArray)).bind fun t114 => (some (t114.toList == ([226, 144, 160] : List UInt8)))) else (some false)))) else (some false)))) else (some false)))) else (some false)))) else (none)) else (none)) = some r := by rw [if_neg (show ¬ (false = true) by decide)] at H; exact H
          clear H
          have H := H1
          clear H1
          by_cases c22 : 1 + a1.size ≤ 9223372036854775807
          · rw [if_pos c22] at H
            have c22b0 := eq_true c22
            have c22b1 : decide (1 + a1.size ≤ 9223372036854775807) = true := decide_eq_true c22
            try have c22b2 : (9223372036854775807 < 1 + a1.size) = False := eq_false (Nat.not_lt.2 c22)
            by_cases c23 : a1.size + 1 ≤ 9223372036854775807
            · rw [if_pos c23] at H
              have c23b0 := eq_true c23
              have c23b1 : decide (a1.size + 1 ≤ 9223372036854775807) = true := decide_eq_true c23
              try have c23b2 : (9223372036854775807 < a1.size + 1) = False := eq_false (Nat.not_lt.2 c23)
              replace H := Option.bind_eq_some_iff.mp H
              obtain ⟨t106, A240, H⟩ := H
              replace H : ((impl_NameEncode.f (Go.bits .andNot .u64 a0 1966080) ((⟨#[120]⟩ : ByteArray) ++ a1)).bind fun t107 => (if t106.toList = t107.toList then ((impl_NameEncode.f a0 (a1 ++ (⟨#[120]⟩ : ByteArray))).bind fun t108 => ((impl_NameEncode.f (Go.bits .andNot .u64 a0 14680064) (a1 ++ (⟨#[120]⟩ : ByteArray))).bind fun t109 => (if t108.toList = t109.toList then ((impl_NameDecode.f a0 ((⟨#[120]⟩ : ByteArray) ++ a1)).bind fun t110 => ((impl_NameDecode.f (Go.bits .andNot .u64 a0 1966080) ((⟨#[120]⟩ : ByteArray) ++ a1)).bind fun t111 => (if t110.toList = t111.toList then ((impl_NameDecode.f a0 (a1 ++ (⟨#[120]⟩ : ByteArray))).bind fun t112 => ((impl_NameDecode.f (Go.bits .andNot .u64 a0 14680064) (a1 ++ (⟨#[120]⟩ : ByteArray))).bind fun t113 => (if t112.toList = t113.toList then ((impl_NameEncode.f 131072 (⟨#[32]⟩ : ByteArray)).bind fun t114 => (some (t114.toList == ([226, 144, 160] : List UInt8)))) else (some false)))) else (some false)))) else (some false)))) else (some false))) = some r := H
              have A24 := Aside0.mk A240
              clear A240
              replace H := Option.bind_eq_some_iff.mp H
              obtain ⟨t107, A250, H⟩ := H
              replace H : (if t106.toList = t107.toList then ((impl_NameEncode.f a0 (a1 ++ (⟨#[120]⟩ : ByteArray))).bind fun t108 => ((impl_NameEncode.f (Go.bits .andNot .u64 a0 14680064) (a1 ++ (⟨#[120]⟩ : ByteArray))).bind fun t109 => (if t108.toList = t109.toList then ((impl_NameDecode.f a0 ((⟨#[120]⟩ : ByteArray) ++ a1)).bind fun t110 => ((impl_NameDecode.f (Go.bits .andNot .u64 a0 1966080) ((⟨#[120]⟩ : ByteArray) ++ a1)).bind fun t111 => (if t110.toList = t111.toList then ((impl_NameDecode.f a0 (a1 ++ (⟨#[120]⟩ : ByteArray))).bind fun t112 => ((impl_NameDecode.f (Go.bits .andNot .u64 a0 14680064) (a1 ++ (⟨#[120]⟩ : ByteArray))).bind fun t113 => (if t112.toList = t113.toList then ((impl_NameEncode.f 131072 (⟨#[32]⟩ : ByteArray)).bind fun t114 => (some (t114.toList == ([226, 144, 160] : List UInt8)))) else (some false)))) else (some false)))) else (some false)))) else (some false)) = some r := H
              have A25 := Aside0.mk A250
              clear A250
              by_cases c26 : t106.toList = t107.toList
              · rw [if_pos c26] at H
                have c26b0 : (t106.toList == t107.toList) = true := beq_iff_eq.mpr c26
                have c26b1 : (t106.toList != t107.toList) = false := bne_eq_false_iff_eq.mpr c26
                clear c26
                replace H := Option.bind_eq_some_iff.mp H
                obtain ⟨t108, A270, H⟩ := H
                replace H : ((impl_NameEncode.f (Go.bits .andNot .u64 a0 14680064) (a1 ++ (⟨#[120]⟩ : ByteArray))).bind fun t109 => (if t108.toList = t109.toList then ((impl_NameDecode.f a0 ((⟨#[120]⟩ : ByteArray) ++ a1)).bind fun t110 => ((impl_NameDecode.f (Go.bits .andNot .u64 a0 1966080) ((⟨#[120]⟩ : ByteArray) ++ a1)).bind fun t111 => (if t110.toList = t111.toList then ((impl_NameDecode.f a0 (a1 ++ (⟨#[120]⟩ : ByteArray))).bind fun t112 => ((impl_NameDecode.f (Go.bits .andNot .u64 a0 14680064) (a1 ++ (⟨#[120]⟩ : ByteArray))).bind fun t113 => (if t112.toList = t113.toList then ((impl_NameEncode.f 131072 (⟨#[32]⟩ : ByteArray)).bind fun t114 => (some (t114.toList == ([226, 144, 160] : List UInt8)))) else (some false)))) else (some false)))) else (some false))) = some r := H
                have A27 := Aside0.mk A270
                clear A270
                replace H := Option.bind_eq_some_iff.mp H
                obtain ⟨t109, A280, H⟩ := H
                replace H : (if t108.toList = t109.toList then ((impl_NameDecode.f a0 ((⟨#[120]⟩ : ByteArray) ++ a1)).bind fun t110 => ((impl_NameDecode.f (Go.bits .andNot .u64 a0 1966080) ((⟨#[120]⟩ : ByteArray) ++ a1)).bind fun t111 => (if t110.toList = t111.toList then ((impl_NameDecode.f a0 (a1 ++ (⟨#[120]⟩ : ByteArray))).bind fun t112 => ((impl_NameDecode.f (Go.bits .andNot .u64 a0 14680064) (a1 ++ (⟨#[120]⟩ : ByteArray))).bind fun t113 => (if t112.toList = t113.toList then ((impl_NameEncode.f 131072 (⟨#[32]⟩ : ByteArray)).bind fun t114 => (some (t114.toList == ([226, 144, 160] : List UInt8)))) else (some false)))) else (some false)))) else (some false)) = some r := H
                have A28 := Aside0.mk A280
                clear A280
                by_cases c29 : t108.toList = t109.toList
                · rw [if_pos c29] at H
                  have c29b0 : (t108.toList == t109.toList) = true := beq_iff_eq.mpr c29
                  have c29b1 : (t108.toList != t109.toList) = false := bne_eq_false_iff_eq.mpr c29
                  clear c29
                  replace H := Option.bind_eq_some_iff.mp H
                  obtain ⟨t110, A300, H⟩ := H
                  replace H : ((impl_NameDecode.f (Go.bits .andNot .u64 a0 1966080) ((⟨#[120]⟩ : ByteArray) ++ a1)).bind fun t111 => (if t110.toList = t111.toList then ((impl_NameDecode.f a0 (a1 ++ (⟨#[120]⟩ : ByteArray))).bind fun t112 => ((impl_NameDecode.f (Go.bits .andNot .u64 a0 14680064) (a1 ++ (⟨#[120]⟩ : ByteArray))).bind fun t113 => (if t112.toList = t113.toList then ((impl_NameEncode.f 131072 (⟨#[32]⟩ : ByteArray)).bind fun t114 => (some (t114.toList == ([226, 144, 160] : List UInt8)))) else (some false)))) else (some false))) = some r := H
                  have A30 := Aside0.mk A300
                  clear A300
                  replace H := Option.bind_eq_some_iff.mp H
                  obtain ⟨t111, A310, H⟩ := H
                  replace H : (if t110.toList = t111.toList then ((impl_NameDecode.f a0 (a1 ++ (⟨#[120]⟩ : ByteArray))).bind fun t112 => ((impl_NameDecode.f (Go.bits .andNot .u64 a0 14680064) (a1 ++ (⟨#[120]⟩ : ByteArray))).bind fun t113 => (if t112.toList = t113.toList then ((impl_NameEncode.f 131072 (⟨#[32]⟩ : ByteArray)).bind fun t114 => (some (t114.toList == ([226, 144, 160] : List UInt8)))) else (some false)))) else (some false)) = some r := H
                  have A31 := Aside0.mk A310
                  clear A310
                  by_cases c32 : t110.toList = t111.toList
                  · rw [if_pos c32] at H
                    have c32b0 : (t110.toList == t111.toList) = true := beq_iff_eq.mpr c32
                    have c32b1 : (t110.toList != t111.toList) = false := bne_eq_false_iff_eq.mpr c32
                    clear c32
                    replace H := Option.bind_eq_some_iff.mp H
                    obtain ⟨t112, A330, H⟩ := H
                    replace H : ((impl_NameDecode.f (Go.bits .andNot .u64 a0 14680064) (a1 ++ (⟨#[120]⟩ : ByteArray))).bind fun t113 => (if t112.toList = t113.toList then ((impl_NameEncode.f 131072 (⟨#[32]⟩ : ByteArray)).bind fun t114 => (some (t114.toList == ([226, 144, 160] : List UInt8)))) else (some false))) = some r := H
                    have A33 := Aside0.mk A330
                    clear A330
                    replace H := Option.bind_eq_some_iff.mp H
                    obtain ⟨t113, A340, H⟩ := H
                    replace H : (if t112.toList = t113.toList then ((impl_NameEncode.f 131072 (⟨#[32]⟩ : ByteArray)).bind fun t114 => (some (t114.toList == ([226, 144, 160] : List UInt8)))) else (some false)) = some r := H
                    have A34 := Aside0.mk A340
                    clear A340
                    by_cases c35 : t112.toList = t113.toList
                    · rw [if_pos c35] at H
                      have c35b0 : (t112.toList == t113.toList) = true := beq_iff_eq.mpr c35
                      have c35b1 : (t112.toList != t113.toList) = false := bne_eq_false_iff_eq.mpr c35
                      clear c35
                      replace H := Option.bind_eq_some_iff.mp H
                      obtain ⟨t114, A360, H⟩ := H
                      replace H : (some (t114.toList == ([226, 144, 160] : List UInt8))) = some r := H
                      have A36 := Aside0.mk A360
                      clear A360
                      obtain rfl := Option.some.inj H
                      go_wp2_with (first | ((with_reducible refine gate_callee (f := 14) rfl ?_); refine goesL_ (some 34) rfl rfl Tryd.func14 (by kernel_rfl) rfl #[.int .u64 a0, .string ((⟨#[120]⟩ : ByteArray) ++ a1)] rfl (by (try simp only [List.map_toArray, List.map_cons, List.map_nil]); first | done | rfl | (simp only [List.length_drop, List.length_take]; rfl)) ?_; (with_reducible refine (impl_NameEncode.calls a0 ((⟨#[120]⟩ : ByteArray) ++ a1) t106 _ ?glob A24.out).mono ?_); (case glob => exact Glob.below HGL.out (by repeat (first | (with_reducible first | exact HB.out | apply below_alloc | apply pw_below_drewN | apply below_drew1) | exact HB.out))); rintro e w37 ⟨rfl, hb⟩; refine ⟨_, rfl, ?_⟩; have n0_ := Aside0.mk (below_step (by repeat (first | (with_reducible first | exact HB.out | apply below_alloc | apply pw_below_drewN | apply below_drew1) | exact HB.out)) hb); clear HB; have HB := n0_; clear n0_; (try clear hb); (try clear hb2); (try clear hk); (try clear hi)) | ((with_reducible refine gate_callee (f := 14) rfl ?_); refine goesL_ (some 38) rfl rfl Tryd.func14 (by kernel_rfl) rfl #[.int .u64 (Go.bits .andNot .u64 a0 1966080), .string ((⟨#[120]⟩ : ByteArray) ++ a1)] rfl (by (try simp only [List.map_toArray, List.map_cons, List.map_nil]); first | done | rfl | (simp only [List.length_drop, List.length_take]; rfl)) ?_; (with_reducible refine (impl_NameEncode.calls (Go.bits .andNot .u64 a0 1966080) ((⟨#[120]⟩ : ByteArray) ++ a1) t107 _ ?glob A25.out).mono ?_); (case glob => exact Glob.below HGL.out (by repeat (first | (with_reducible first | exact HB.out | apply below_alloc | apply pw_below_drewN | apply below_drew1) | exact HB.out))); rintro e w38 ⟨rfl, hb⟩; refine ⟨_, rfl, ?_⟩; have n0_ := Aside0.mk (below_step (by repeat (first | (with_reducible first | exact HB.out | apply below_alloc | apply pw_below_drewN | apply below_drew1) | exact HB.out)) hb); clear HB; have HB := n0_; clear n0_; (try clear hb); (try clear hb2); (try clear hk); (try clear hi)) | (go_at_call 14; (with_reducible refine (impl_NameEncode.calls a0 (a1 ++ (⟨#[120]⟩ : ByteArray)) t108 _ ?glob A27.out).mono ?_); (case glob => exact Glob.below HGL.out (by repeat (first | (with_reducible first | exact HB.out | apply below_alloc | apply pw_below_drewN | apply below_drew1) | exact HB.out))); rintro e w39 ⟨rfl, hb⟩; have n0_ := Aside0.mk (below_step (by repeat (first | (with_reducible first | exact HB.out | apply below_alloc | apply pw_below_drewN | apply below_drew1) | exact HB.out)) hb); clear HB; have HB := n0_; clear n0_; (try clear hb); (try clear hb2); (try clear hk); (try clear hi)) | (go_at_call 14; (with_reducible refine (impl_NameEncode.calls (Go.bits .andNot .u64 a0 14680064) (a1 ++ (⟨#[120]⟩ : ByteArray)) t109 _ ?glob A28.out).mono ?_); (case glob => exact Glob.below HGL.out (by repeat (first | (with_reducible first | exact HB.out | apply below_alloc | apply pw_below_drewN | apply below_drew1) | exact HB.out))); rintro e w40 ⟨rfl, hb⟩; have n0_ := Aside0.mk (below_step (by repeat (first | (with_reducible first | exact HB.out | apply below_alloc | apply pw_below_drewN | apply below_drew1) | exact HB.out)) hb); clear HB; have HB := n0_; clear n0_; (try clear hb); (try clear hb2); (try clear hk); (try clear hi)) | (go_at_call 16; (with_reducible refine (impl_NameDecode.calls a0 ((⟨#[120]⟩ : ByteArray) ++ a1) t110 _ ?glob A30.out).mono ?_); (case glob => exact Glob.below HGL.out (by repeat (first | (with_reducible first | exact HB.out | apply below_alloc | apply pw_below_drewN | apply below_drew1) | exact HB.out))); rintro e w41 ⟨rfl, hb⟩; have n0_ := Aside0.mk (below_step (by repeat (first | (with_reducible first | exact HB.out | apply below_alloc | apply pw_below_drewN | apply below_drew1) | exact HB.out)) hb); clear HB; have HB := n0_; clear n0_; (try clear hb); (try clear hb2); (try clear hk); (try clear hi)) | (go_at_call 16; (with_reducible refine (impl_NameDecode.calls (Go.bits .andNot .u64 a0 1966080) ((⟨#[120]⟩ : ByteArray) ++ a1) t111 _ ?glob A31.out).mono ?_); (case glob => exact Glob.below HGL.out (by repeat (first | (with_reducible first | exact HB.out | apply below_alloc | apply pw_below_drewN | apply below_drew1) | exact HB.out))); rintro e w42 ⟨rfl, hb⟩; have n0_ := Aside0.mk (below_step (by repeat (first | (with_reducible first | exact HB.out | apply below_alloc | apply pw_below_drewN | apply below_drew1) | exact HB.out)) hb); clear HB; have HB := n0_; clear n0_; (try clear hb); (try clear hb2); (try clear hk); (try clear hi)) | (go_at_call 16; (with_reducible refine (impl_NameDecode.calls a0 (a1 ++ (⟨#[120]⟩ : ByteArray)) t112 _ ?glob A33.out).mono ?_); (case glob => exact Glob.below HGL.out (by repeat (first | (with_reducible first | exact HB.out | apply below_alloc | apply pw_below_drewN | apply below_drew1) | exact HB.out))); rintro e w43 ⟨rfl, hb⟩; have n0_ := Aside0.mk (below_step (by repeat (first | (with_reducible first | exact HB.out | apply below_alloc | apply pw_below_drewN | apply below_drew1) | exact HB.out)) hb); clear HB; have HB := n0_; clear n0_; (try clear hb); (try clear hb2); (try clear hk); (try clear hi)) | (go_at_call 16; (with_reducible refine (impl_NameDecode.calls (Go.bits .andNot .u64 a0 14680064) (a1 ++ (⟨#[120]⟩ : ByteArray)) t113 _ ?glob A34.out).mono ?_); (case glob => exact Glob.below HGL.out (by repeat (first | (with_reducible first | exact HB.out | apply below_alloc | apply pw_below_drewN | apply below_drew1) | exact HB.out))); rintro e w44 ⟨rfl, hb⟩; have n0_ := Aside0.mk (below_step (by repeat (first | (with_reducible first | exact HB.out | apply below_alloc | apply pw_below_drewN | apply below_drew1) | exact HB.out)) hb); clear HB; have HB := n0_; clear n0_; (try clear hb); (try clear hb2); (try clear hk); (try clear hi)) | (go_at_call 14; (with_reducible refine (impl_NameEncode.calls 131072 (⟨#[32]⟩ : ByteArray) t114 _ ?glob A36.out).mono ?_); (case glob => exact Glob.below HGL.out (by repeat (first | (with_reducible first | exact HB.out | apply below_alloc | apply pw_below_drewN | apply below_drew1) | exact HB.out))); rintro e w45 ⟨rfl, hb⟩; have n0_ := Aside0.mk (below_step (by repeat (first | (with_reducible first | exact HB.out | apply below_alloc | apply pw_below_drewN | apply below_drew1) | exact HB.out)) hb); clear HB; have HB := n0_; clear n0_; (try clear hb); (try clear hb2); (try clear hk); (try clear hi)))
                      go_ret
                      exact ⟨by first | rfl | (simp [errW_none, errW_some] <;> rfl) | (simp [*, errW_none, errW_some] <;> rfl), by repeat (first | (with_reducible first | exact HB.out | apply below_alloc | apply pw_below_drewN | apply below_drew1) | exact HB.out)⟩
                    · rw [if_neg c35] at H
                      have c35b0 : (t112.toList == t113.toList) = false := beq_eq_false_iff_ne.mpr c35
                      have c35b1 : (t112.toList != t113.toList) = true := bne_iff_ne.mpr c35
                      obtain rfl := Option.some.inj H
                      go_wp2_with (first | ((with_reducible refine gate_callee (f := 14) rfl ?_); refine goesL_ (some 34) rfl rfl Tryd.func14 (by kernel_rfl) rfl #[.int .u64 a0, .string ((⟨#[120]⟩ : ByteArray) ++ a1)] rfl (by (try simp only [List.map_toArray, List.map_cons, List.map_nil]); first | done | rfl | (simp only [List.length_drop, List.length_take]; rfl)) ?_; (with_reducible refine (impl_NameEncode.calls a0 ((⟨#[120]⟩ : ByteArray) ++ a1) t106 _ ?glob A24.out).mono ?_); (case glob => exact Glob.below HGL.out (by repeat (first | (with_reducible first | exact HB.out | apply below_alloc | apply pw_below_drewN | apply below_drew1) | exact HB.out))); rintro e w46 ⟨rfl, hb⟩; refine ⟨_, rfl, ?_⟩; have n0_ := Aside0.mk (below_step (by repeat (first | (with_reducible first | exact HB.out | apply below_alloc | apply pw_below_drewN | apply below_drew1) | exact HB.out)) hb); clear HB; have HB := n0_; clear n0_; (try clear hb); (try clear hb2); (try clear hk); (try clear hi)) | ((with_reducible refine gate_callee (f := 14) rfl ?_); refine goesL_ (some 38) rfl rfl Tryd.func14 (by kernel_rfl) rfl #[.int .u64 (Go.bits .andNot .u64 a0 1966080), .string ((⟨#[120]⟩ : ByteArray) ++ a1)] rfl (by (try simp only [List.map_toArray, List.map_cons, List.map_nil]); first | done | rfl | (simp only [List.length_drop, List.length_take]; rfl)) ?_; (with_reducible refine (impl_NameEncode.calls (Go.bits .andNot .u64 a0 1966080) ((⟨#[120]⟩ : ByteArray) ++ a1) t107 _ ?glob A25.out).mono ?_); (case glob => exact Glob.below HGL.out (by repeat (first | (with_reducible first | exact HB.out | apply below_alloc | apply pw_below_drewN | apply below_drew1) | exact HB.out))); rintro e w47 ⟨rfl, hb⟩; refine ⟨_, rfl, ?_⟩; have n0_ := Aside0.mk (below_step (by repeat (first | (with_reducible first | exact HB.out | apply below_alloc | apply pw_below_drewN | apply below_drew1) | exact HB.out)) hb); clear HB; have HB := n0_; clear n0_; (try clear hb); (try clear hb2); (try clear hk); (try clear hi)) | (go_at_call 14; (with_reducible refine (impl_NameEncode.calls a0 (a1 ++ (⟨#[120]⟩ : ByteArray)) t108 _ ?glob A27.out).mono ?_); (case glob => exact Glob.below HGL.out (by repeat (first | (with_reducible first | exact HB.out | apply below_alloc | apply pw_below_drewN | apply below_drew1) | exact HB.out))); rintro e w48 ⟨rfl, hb⟩; have n0_ := Aside0.mk (below_step (by repeat (first | (with_reducible first | exact HB.out | apply below_alloc | apply pw_below_drewN | apply below_drew1) | exact HB.out)) hb); clear HB; have HB := n0_; clear n0_; (try clear hb); (try clear hb2); (try clear hk); (try clear hi)) | (go_at_call 14; (with_reducible refine (impl_NameEncode.calls (Go.bits .andNot .u64 a0 14680064) (a1 ++ (⟨#[120]⟩ : ByteArray)) t109 _ ?glob A28.out).mono ?_); (case glob => exact Glob.below HGL.out (by repeat (first | (with_reducible first | exact HB.out | apply below_alloc | apply pw_below_drewN | apply below_drew1) | exact HB.out))); rintro e w49 ⟨rfl, hb⟩; have n0_ := Aside0.mk (below_step (by repeat (first | (with_reducible first | exact HB.out | apply below_alloc | apply pw_below_drewN | apply below_drew1) | exact HB.out)) hb); clear HB; have HB := n0_; clear n0_; (try clear hb); (try clear hb2); (try clear hk); (try clear hi)) | (go_at_call 16; (with_reducible refine (impl_NameDecode.calls a0 ((⟨#[120]⟩ : ByteArray) ++ a1) t110 _ ?glob A30.out).mono ?_); (case glob => exact Glob.below HGL.out (by repeat (first | (with_reducible first | exact HB.out | apply below_alloc | apply pw_below_drewN | apply below_drew1) | exact HB.out))); rintro e w50 ⟨rfl, hb⟩; have n0_ := Aside0.mk (below_step (by repeat (first | (with_reducible first | exact HB.out | apply below_alloc | apply pw_below_drewN | apply below_drew1) | exact HB.out)) hb); clear HB; have HB := n0_; clear n0_; (try clear hb); (try clear hb2); (try clear hk); (try clear hi)) | (go_at_call 16; (with_reducible refine (impl_NameDecode.calls (Go.bits .andNot .u64 a0 1966080) ((⟨#[120]⟩ : ByteArray) ++ a1) t111 _ ?glob A31.out).mono ?_); (case glob => exact Glob.below HGL.out (by repeat (first | (with_reducible first | exact HB.out | apply below_alloc | apply pw_below_drewN | apply below_drew1) | exact HB.out))); rintro e w51 ⟨rfl, hb⟩; have n0_ := Aside0.mk (below_step (by repeat (first | (with_reducible first | exact HB.out | apply below_alloc | apply pw_below_drewN | apply below_drew1) | exact HB.out)) hb); clear HB; have HB := n0_; clear n0_; (try clear hb); (try clear hb2); (try clear hk); (try clear hi)) | (go_at_call 16; (with_reducible refine (impl_NameDecode.calls a0 (a1 ++ (⟨#[120]⟩ : ByteArray)) t112 _ ?glob A33.out).mono ?_); (case glob => exact Glob.below HGL.out (by repeat (first | (with_reducible first | exact HB.out | apply below_alloc | apply pw_below_drewN | apply below_drew1) | exact HB.out))); rintro e w52 ⟨rfl, hb⟩; have n0_ := Aside0.mk (below_step (by repeat (first | (with_reducible first | exact HB.out | apply below_alloc | apply pw_below_drewN | apply below_drew1) | exact HB.out)) hb); clear HB; have HB := n0_; clear n0_; (try clear hb); (try clear hb2); (try clear hk); (try clear hi)) | (go_at_call 16; (with_reducible refine (impl_NameDecode.calls (Go.bits .andNot .u64 a0 14680064) (a1 ++ (⟨#[120]⟩ : ByteArray)) t113 _ ?glob A34.out).mono ?_); (case glob => exact Glob.below HGL.out (by repeat (first | (with_reducible first | exact HB.out | apply below_alloc | apply pw_below_drewN | apply below_drew1) | exact HB.out))); rintro e w53 ⟨rfl, hb⟩; have n0_ := Aside0.mk (below_step (by repeat (first | (with_reducible first | exact HB.out | apply below_alloc | apply pw_below_drewN | apply below_drew1) | exact HB.out)) hb); clear HB; have HB := n0_; clear n0_; (try clear hb); (try clear hb2); (try clear hk); (try clear hi)))
                      go_ret
                      exact ⟨by first | rfl | (simp [errW_none, errW_some] <;> rfl) | (simp [*, errW_none, errW_some] <;> rfl), by repeat (first | (with_reducible first | exact HB.out | apply below_alloc | apply pw_below_drewN | apply below_drew1) | exact HB.out)⟩
                  · rw [if_neg c32] at H
                    have c32b0 : (t110.toList == t111.toList) = false := beq_eq_false_iff_ne.mpr c32
                    have c32b1 : (t110.toList != t111.toList) = true := bne_iff_ne.mpr c32
                    obtain rfl := Option.some.inj H
                    go_wp2_with (first | ((with_reducible refine gate_callee (f := 14) rfl ?_); refine goesL_ (some 34) rfl rfl Tryd.func14 (by kernel_rfl) rfl #[.int .u64 a0, .string ((⟨#[120]⟩ : ByteArray) ++ a1)] rfl (by (try simp only [List.map_toArray, List.map_cons, List.map_nil]); first | done | rfl | (simp only [List.length_drop, List.length_take]; rfl)) ?_; (with_reducible refine (impl_NameEncode.calls a0 ((⟨#[120]⟩ : ByteArray) ++ a1) t106 _ ?glob A24.out).mono ?_); (case glob => exact Glob.below HGL.out (by repeat (first | (with_reducible first | exact HB.out | apply below_alloc | apply pw_below_drewN | apply below_drew1) | exact HB.out))); rintro e w54 ⟨rfl, hb⟩; refine ⟨_, rfl, ?_⟩; have n0_ := Aside0.mk (below_step (by repeat (first | (with_reducible first | exact HB.out | apply below_alloc | apply pw_below_drewN | apply below_drew1) | exact HB.out)) hb); clear HB; have HB := n0_; clear n0_; (try clear hb); (try clear hb2); (try clear hk); (try clear hi)) | ((with_reducible refine gate_callee (f := 14) rfl ?_); refine goesL_ (some 38) rfl rfl Tryd.func14 (by kernel_rfl) rfl #[.int .u64 (Go.bits .andNot .u64 a0 1966080), .string ((⟨#[120]⟩ : ByteArray) ++ a1)] rfl (by (try simp only [List.map_toArray, List.map_cons, List.map_nil]); first | done | rfl | (simp only [List.length_drop, List.length_take]; rfl)) ?_; (with_reducible refine (impl_NameEncode.calls (Go.bits .andNot .u64 a0 1966080) ((⟨#[120]⟩ : ByteArray) ++ a1) t107 _ ?glob A25.out).mono ?_); (case glob => exact Glob.below HGL.out (by repeat (first | (with_reducible first | exact HB.out | apply below_alloc | apply pw_below_drewN | apply below_drew1) | exact HB.out))); rintro e w55 ⟨rfl, hb⟩; refine ⟨_, rfl, ?_⟩; have n0_ := Aside0.mk (below_step (by repeat (first | (with_reducible first | exact HB.out | apply below_alloc | apply pw_below_drewN | apply below_drew1) | exact HB.out)) hb); clear HB; have HB := n0_; clear n0_; (try clear hb); (try clear hb2); (try clear hk); (try clear hi)) | (go_at_call 14; (with_reducible refine (impl_NameEncode.calls a0 (a1 ++ (⟨#[120]⟩ : ByteArray)) t108 _ ?glob A27.out).mono ?_); (case glob => exact Glob.below HGL.out (by repeat (first | (with_reducible first | exact HB.out | apply below_alloc | apply pw_below_drewN | apply below_drew1) | exact HB.out))); rintro e w56 ⟨rfl, hb⟩; have n0_ := Aside0.mk (below_step (by repeat (first | (with_reducible first | exact HB.out | apply below_alloc | apply pw_below_drewN | apply below_drew1) | exact HB.out)) hb); clear HB; have HB := n0_; clear n0_; (try clear hb); (try clear hb2); (try clear hk); (try clear hi)) | (go_at_call 14; (with_reducible refine (impl_NameEncode.calls (Go.bits .andNot .u64 a0 14680064) (a1 ++ (⟨#[120]⟩ : ByteArray)) t109 _ ?glob A28.out).mono ?_); (case glob => exact Glob.below HGL.out (by repeat (first | (with_reducible first | exact HB.out | apply below_alloc | apply pw_below_drewN | apply below_drew1) | exact HB.out))); rintro e w57 ⟨rfl, hb⟩; have n0_ := Aside0.mk (below_step (by repeat (first | (with_reducible first | exact HB.out | apply below_alloc | apply pw_below_drewN | apply below_drew1) | exact HB.out)) hb); clear HB; have HB := n0_; clear n0_; (try clear hb); (try clear hb2); (try clear hk); (try clear hi)) | (go_at_call 16; (with_reducible refine (impl_NameDecode.calls a0 ((⟨#[120]⟩ : ByteArray) ++ a1) t110 _ ?glob A30.out).mono ?_); (case glob => exact Glob.below HGL.out (by repeat (first | (with_reducible first | exact HB.out | apply below_alloc | apply pw_below_drewN | apply below_drew1) | exact HB.out))); rintro e w58 ⟨rfl, hb⟩; have n0_ := Aside0.mk (below_step (by repeat (first | (with_reducible first | exact HB.out | apply below_alloc | apply pw_below_drewN | apply below_drew1) | exact HB.out)) hb); clear HB; have HB := n0_; clear n0_; (try clear hb); (try clear hb2); (try clear hk); (try clear hi)) | (go_at_call 16; (with_reducible refine (impl_NameDecode.calls (Go.bits .andNot .u64 a0 1966080) ((⟨#[120]⟩ : ByteArray) ++ a1) t111 _ ?glob A31.out).mono ?_); (case glob => exact Glob.below HGL.out (by repeat (first | (with_reducible first | exact HB.out | apply below_alloc | apply pw_below_drewN | apply below_drew1) | exact HB.out))); rintro e w59 ⟨rfl, hb⟩; have n0_ := Aside0.mk (below_step (by repeat (first | (with_reducible first | exact HB.out | apply below_alloc | apply pw_below_drewN | apply below_drew1) | exact HB.out)) hb); clear HB; have HB := n0_; clear n0_; (try clear hb); (try clear hb2); (try clear hk); (try clear hi)))
                    go_ret
                    exact ⟨by first | rfl | (simp [errW_none, errW_some] <;> rfl) | (simp [*, errW_none, errW_some] <;> rfl), by repeat (first | (with_reducible first | exact HB.out | apply below_alloc | apply pw_below_drewN | apply below_drew1) | exact HB.out)⟩
                · rw [if_neg c29] at H
                  have c29b0 : (t108.toList == t109.toList) = false := beq_eq_false_iff_ne.mpr c29
                  have c29b1 : (t108.toList != t109.toList) = true := bne_iff_ne.mpr c29
                  obtain rfl := Option.some.inj H
                  go_wp2_with (first | ((with_reducible refine gate_callee (f := 14) rfl ?_); refine goesL_ (some 34) rfl rfl Tryd.func14 (by kernel_rfl) rfl #[.int .u64 a0, .string ((⟨#[120]⟩ : ByteArray) ++ a1)] rfl (by (try simp only [List.map_toArray, List.map_cons, List.map_nil]); first | done | rfl | (simp only [List.length_drop, List.length_take]; rfl)) ?_; (with_reducible refine (impl_NameEncode.calls a0 ((⟨#[120]⟩ : ByteArray) ++ a1) t106 _ ?glob A24.out).mono ?_); (case glob => exact Glob.below HGL.out (by repeat (first | (with_reducible first | exact HB.out | apply below_alloc | apply pw_below_drewN | apply below_drew1) | exact HB.out))); rintro e w60 ⟨rfl, hb⟩; refine ⟨_, rfl, ?_⟩; have n0_ := Aside0.mk (below_step (by repeat (first | (with_reducible first | exact HB.out | apply below_alloc | apply pw_below_drewN | apply below_drew1) | exact HB.out)) hb); clear HB; have HB := n0_; clear n0_; (try clear hb); (try clear hb2); (try clear hk); (try clear hi)) | ((with_reducible refine gate_callee (f := 14) rfl ?_); refine goesL_ (some 38) rfl rfl Tryd.func14 (by kernel_rfl) rfl #[.int .u64 (Go.bits .andNot .u64 a0 1966080), .string ((⟨#[120]⟩ : ByteArray) ++ a1)] rfl (by (try simp only [List.map_toArray, List.map_cons, List.map_nil]); first | done | rfl | (simp only [List.length_drop, List.length_take]; rfl)) ?_; (with_reducible refine (impl_NameEncode.calls (Go.bits .andNot .u64 a0 1966080) ((⟨#[120]⟩ : ByteArray) ++ a1) t107 _ ?glob A25.out).mono ?_); (case glob => exact Glob.below HGL.out (by repeat (first | (with_reducible first | exact HB.out | apply below_alloc | apply pw_below_drewN | apply below_drew1) | exact HB.out))); rintro e w61 ⟨rfl, hb⟩; refine ⟨_, rfl, ?_⟩; have n0_ := Aside0.mk (below_step (by repeat (first | (with_reducible first | exact HB.out | apply below_alloc | apply pw_below_drewN | apply below_drew1) | exact HB.out)) hb); clear HB; have HB := n0_; clear n0_; (try clear hb); (try clear hb2); (try clear hk); (try clear hi)) | (go_at_call 14; (with_reducible refine (impl_NameEncode.calls a0 (a1 ++ (⟨#[120]⟩ : ByteArray)) t108 _ ?glob A27.out).mono ?_); (case glob => exact Glob.below HGL.out (by repeat (first | (with_reducible first | exact HB.out | apply below_alloc | apply pw_below_drewN | apply below_drew1) | exact HB.out))); rintro e w62 ⟨rfl, hb⟩; have n0_ := Aside0.mk (below_step (by repeat (first | (with_reducible first | exact HB.out | apply below_alloc | apply pw_below_drewN | apply below_drew1) | exact HB.out)) hb); clear HB; have HB := n0_; clear n0_; (try clear hb); (try clear hb2); (try clear hk); (try clear hi)) | (go_at_call 14; (with_reducible refine (impl_NameEncode.calls (Go.bits .andNot .u64 a0 14680064) (a1 ++ (⟨#[120]⟩ : ByteArray)) t109 _ ?glob A28.out).mono ?_); (case glob => exact Glob.below HGL.out (by repeat (first | (with_reducible first | exact HB.out | apply below_alloc | apply pw_below_drewN | apply below_drew1) | exact HB.out))); rintro e w63 ⟨rfl, hb⟩; have n0_ := Aside0.mk (below_step (by repeat (first | (with_reducible first | exact HB.out | apply below_alloc | apply pw_below_drewN | apply below_drew1) | exact HB.out)) hb); clear HB; have HB := n0_; clear n0_; (try clear hb); (try clear hb2); (try clear hk); (try clear hi)))
                  go_ret
                  exact ⟨by first | rfl | (simp [errW_none, errW_some] <;> rfl) | (simp [*, errW_none, errW_some] <;> rfl), by repeat (first | (with_reducible first | exact HB.out | apply below_alloc | apply pw_below_drewN | apply below_drew1) | exact HB.out)⟩
              · rw [if_neg c26] at H
                have c26b0 : (t106.toList == t107.toList) = false := beq_eq_false_iff_ne.mpr c26
                have c26b1 : (t106.toList != t107.toList) = true := bne_iff_ne.mpr c26
                obtain rfl := Option.some.inj H
                go_wp2_with (first | ((with_reducible refine gate_callee (f := 14) rfl ?_); refine goesL_ (some 34) rfl rfl Tryd.func14 (by kernel_rfl) rfl #[.int .u64 a0, .string ((⟨#[120]⟩ : ByteArray) ++ a1)] rfl (by (try simp only [List.map_toArray, List.map_cons, List.map_nil]); first | done | rfl | (simp only [List.length_drop, List.length_take]; rfl)) ?_; (with_reducible refine (impl_NameEncode.calls a0 ((⟨#[120]⟩ : ByteArray) ++ a1) t106 _ ?glob A24.out).mono ?_); (case glob => exact Glob.below HGL.out (by repeat (first | (with_reducible first | exact HB.out | apply below_alloc | apply pw_below_drewN | apply below_drew1) | exact HB.out))); rintro e w64 ⟨rfl, hb⟩; refine ⟨_, rfl, ?_⟩; have n0_ := Aside0.mk (below_step (by repeat (first | (with_reducible first | exact HB.out | apply below_alloc | apply pw_below_drewN | apply below_drew1) | exact HB.out)) hb); clear HB; have HB := n0_; clear n0_; (try clear hb); (try clear hb2); (try clear hk); (try clear hi)) | ((with_reducible refine gate_callee (f := 14) rfl ?_); refine goesL_ (some 38) rfl rfl Tryd.func14 (by kernel_rfl) rfl #[.int .u64 (Go.bits .andNot .u64 a0 1966080), .string ((⟨#[120]⟩ : ByteArray) ++ a1)] rfl (by (try simp only [List.map_toArray, List.map_cons, List.map_nil]); first | done | rfl | (simp only [List.length_drop, List.length_take]; rfl)) ?_; (with_reducible refine (impl_NameEncode.calls (Go.bits .andNot .u64 a0 1966080) ((⟨#[120]⟩ : ByteArray) ++ a1) t107 _ ?glob A25.out).mono ?_); (case glob => exact Glob.below HGL.out (by repeat (first | (with_reducible first | exact HB.out | apply below_alloc | apply pw_below_drewN | apply below_drew1) | exact HB.out))); rintro e w65 ⟨rfl, hb⟩; refine ⟨_, rfl, ?_⟩; have n0_ := Aside0.mk (below_step (by repeat (first | (with_reducible first | exact HB.out | apply below_alloc | apply pw_below_drewN | apply below_drew1) | exact HB.out)) hb); clear HB; have HB := n0_; clear n0_; (try clear hb); (try clear hb2); (try clear hk); (try clear hi)))
                go_ret
                exact ⟨by first | rfl | (simp [errW_none, errW_some] <;> rfl) | (simp [*, errW_none, errW_some] <;> rfl), by repeat (first | (with_reducible first | exact HB.out | apply below_alloc | apply pw_below_drewN | apply below_drew1) | exact HB.out)⟩
            · rw [if_neg c23] at H
              exact absurd H (by simp)
          · rw [if_neg c22] at H
            exact absurd H (by simp)

/-- THE ONE PURE STATEMENT of laws_FnNameEdges: yours. -/
def laws_FnNameEdges.Pure : Prop := ∀ (a0 : Int) (a1 : ByteArray), (Lit.int .u64 a0).wf = true → a1.size ≤ 140737488351232 → ∃ k, laws_FnNameEdges.f k a0 a1 = some true
theorem laws_FnNameEdges.walk (P : laws_FnNameEdges.Pure) (a0 : Int) (a1 : ByteArray) (w : World) (hglob : Glob w) (w0 : (Lit.int .u64 a0).wf = true) (w1 : a1.size ≤ 140737488351232) :
    Calls Tryd.prog 6 #[.int .u64 a0, .string a1] w fun e w' => e = .returned (.bool true) ∧ Below w.heap.size w w' := by
  obtain ⟨k, h⟩ := P a0 a1 w0 w1
  refine (laws_FnNameEdges.calls k a0 a1 true w hglob h).mono ?_
  rintro e w' ⟨rfl, hd⟩
  exact ⟨rfl, hd⟩

end Go.Proofs.YtlgoghonnnobfaaDoor.PFnNameEdges

-- Written by a program of this session's (over the kit's print), with contracts proved by hand among what it calls.
import Derived.Test.YtlgoghonnnobfaaDoorPFnNameLettersx0
import Derived.Test.YtlgoghonnnobfaaDoorPFnNameLettersx1
namespace Go.Proofs.YtlgoghonnnobfaaDoor.PFnNameLetters
open Go.RowKit Go.Proofs.YtlgoghonnnobfaaDoorW.PrintWords Go.Proofs.YtlgoghonnnobfaaDoorW.PrintLast Go.Proofs.YtlgoghonnnobfaaDoorW.PrintMore
attribute [local go_sem] max2_int min2_int max_two min_two max_three min_three max_four min_four   -- for this text's walks alone
set_option linter.unusedVariables false
set_option linter.unusedSimpArgs false

/-! ### laws_FnNameLetters: function 8 -/
mutual
def laws_FnNameLetters.j0 : Nat → Int → List ByteArray → List Int → Bool → Option (Bool)
  | 0, _, _, _, _ => none
  | k + 1, x0, x1, x2, x20 => if x20 = true then (some true) else (laws_FnNameLetters.l0 k x0 x2 (⟨#[]⟩ : ByteArray) x1 (x1.length : Int) 0)
def laws_FnNameLetters.l0 : Nat → Int → List Int → ByteArray → List ByteArray → Int → Int → Option (Bool)
  | 0, _, _, _, _, _, _ => none
  | k + 1, x0, x2, x7, x21, x22, x23 => if x23 < x22 then (if 0 ≤ x23 then (if x23 < (x21.length : Int) then (if (rdOf ByteArray.empty x21 x23).toList = ([] : List UInt8) then (laws_FnNameLetters.j2 k x0 x2 x7 x23 (rdOf ByteArray.empty x21 x23) x21 x22 x23 true) else ((laws_encShort.f k (([x7, rdOf ByteArray.empty x21 x23] : List ByteArray))).bind fun t111 => (laws_FnNameLetters.j2 k x0 x2 x7 x23 (rdOf ByteArray.empty x21 x23) x21 x22 x23 (!t111)))) else (none)) else (none)) else ((impl_NameEncode.f x0 x7).bind fun t104 => (if t104.toList = x7.toList then ((impl_NameDecode.f x0 x7).bind fun t105 => (if t105.toList = x7.toList then ((impl_NameEncode.f x0 (⟨#[120]⟩ : ByteArray)).bind fun t106 => (some (t106.toList == ([120] : List UInt8)))) else (some false))) else (some false)))
def laws_FnNameLetters.j2 : Nat → Int → List Int → ByteArray → Int → ByteArray → List ByteArray → Int → Int → Bool → Option (Bool)
  | 0, _, _, _, _, _, _, _, _, _ => none
  | k + 1, x0, x2, x7, x8, x9, x21, x22, x23, x36 => if x36 = true then (some true) else (laws_FnNameLetters.l1 k x0 x2 x7 x8 x9 x21 x22 x23 (x9.size : Int) 0)
def laws_FnNameLetters.l1 : Nat → Int → List Int → ByteArray → Int → ByteArray → List ByteArray → Int → Int → Int → Int → Option (Bool)
  | 0, _, _, _, _, _, _, _, _, _, _ => none
  | k + 1, x0, x2, x7, x8, x9, x21, x22, x23, x38, x39 => if x39 < x38 then (if 0 ≤ x39 then (if x39 < (x9.size : Int) then (if (Go.bits .or .u8 (bt x9 x39) 32) < 97 then (if (bt x9 x39) < 48 then (some true) else (if (bt x9 x39) > 57 then (some true) else (laws_FnNameLetters.l1 k x0 x2 x7 x8 x9 x21 x22 x23 x38 (wrap64 (x39 + 1))))) else (if (Go.bits .or .u8 (bt x9 x39) 32) > 122 then (if (bt x9 x39) < 48 then (some true) else (if (bt x9 x39) > 57 then (some true) else (laws_FnNameLetters.l1 k x0 x2 x7 x8 x9 x21 x22 x23 x38 (wrap64 (x39 + 1))))) else (laws_FnNameLetters.l1 k x0 x2 x7 x8 x9 x21 x22 x23 x38 (wrap64 (x39 + 1))))) else (none)) else (none)) else (if x8 > 0 then (if x8 ≤ (x2.length : Int) then (if 0 ≤ (wrap64 (x8 - 1)) then (if (wrap64 (x8 - 1)) < (x2.length : Int) then (if 0 ≤ (Int.tmod (rd x2 (wrap64 (x8 - 1))) 4) then (if (Int.tmod (rd x2 (wrap64 (x8 - 1))) 4) < 4 then ((some (([bt (⟨#[46, 32, 45, 95]⟩ : ByteArray) (Int.tmod (rd x2 (wrap64 (x8 - 1))) 4)] : List Int) : List Int)).bind fun y113 => (if x7.size + (strOfNums y113).size ≤ 9223372036854775807 then (if (x7 ++ (strOfNums y113)).size + x9.size ≤ 9223372036854775807 then (laws_FnNameLetters.l0 k x0 x2 ((x7 ++ (strOfNums y113)) ++ x9) x21 x22 (wrap64 (x23 + 1))) else (none)) else (none))) else (none)) else (none)) else (none)) else (none)) else ((some (([46] : List Int) : List Int)).bind fun y116 => (if x7.size + (strOfNums y116).size ≤ 9223372036854775807 then (if (x7 ++ (strOfNums y116)).size + x9.size ≤ 9223372036854775807 then (laws_FnNameLetters.l0 k x0 x2 ((x7 ++ (strOfNums y116)) ++ x9) x21 x22 (wrap64 (x23 + 1))) else (none)) else (none)))) else (if x7.size + x9.size ≤ 9223372036854775807 then (laws_FnNameLetters.l0 k x0 x2 (x7 ++ x9) x21 x22 (wrap64 (x23 + 1))) else (none)))
end
def laws_FnNameLetters.f (k : Nat) (a0 : Int) (l1 : List ByteArray) (l2 : List Int) : Option (Bool) := (laws_zzFits3.f k l1).bind fun t103 => (if t103 = true then (laws_FnNameLetters.j0 k a0 l1 l2 (decide ((l2.length : Int) > 2147483647))) else (laws_FnNameLetters.j0 k a0 l1 l2 true))
theorem laws_FnNameLetters.mono_l : ∀ k, (∀ y0 y1 y2 y3, LeO (laws_FnNameLetters.j0 k y0 y1 y2 y3) (laws_FnNameLetters.j0 (k + 1) y0 y1 y2 y3)) ∧ (∀ y0 y1 y2 y3 y4 y5, LeO (laws_FnNameLetters.l0 k y0 y1 y2 y3 y4 y5) (laws_FnNameLetters.l0 (k + 1) y0 y1 y2 y3 y4 y5)) ∧ (∀ y0 y1 y2 y3 y4 y5 y6 y7 y8, LeO (laws_FnNameLetters.j2 k y0 y1 y2 y3 y4 y5 y6 y7 y8) (laws_FnNameLetters.j2 (k + 1) y0 y1 y2 y3 y4 y5 y6 y7 y8)) ∧ (∀ y0 y1 y2 y3 y4 y5 y6 y7 y8 y9, LeO (laws_FnNameLetters.l1 k y0 y1 y2 y3 y4 y5 y6 y7 y8 y9) (laws_FnNameLetters.l1 (k + 1) y0 y1 y2 y3 y4 y5 y6 y7 y8 y9))
  | 0 => ⟨fun _ _ _ _ r h => by simp [laws_FnNameLetters.j0] at h, fun _ _ _ _ _ _ r h => by simp [laws_FnNameLetters.l0] at h, fun _ _ _ _ _ _ _ _ _ r h => by simp [laws_FnNameLetters.j2] at h, fun _ _ _ _ _ _ _ _ _ _ r h => by simp [laws_FnNameLetters.l1] at h⟩
  | k + 1 => by
    obtain ⟨ih0, ih1, ih2, ih3⟩ := laws_FnNameLetters.mono_l k
    refine ⟨?_, ?_, ?_, ?_⟩
    · intro y0 y1 y2 y3
      unfold laws_FnNameLetters.j0
      repeat' first
      | (with_reducible exact ih0 _ _ _ _)
      | (with_reducible exact ih1 _ _ _ _ _ _)
      | (with_reducible exact ih2 _ _ _ _ _ _ _ _ _)
      | (with_reducible exact ih3 _ _ _ _ _ _ _ _ _ _)
      | (with_reducible exact laws_encShort.mono _ _)
      | (with_reducible exact laws_zzFits3.mono _ _)
      | (with_reducible exact LeO.refl _)
      | (with_reducible exact LeO.none _)
      | (with_reducible refine LeO.ite ?_ ?_)
      | (with_reducible refine LeO.bind ?_ (fun _ => ?_))
      | exact ih0 _ _ _ _
      | exact ih1 _ _ _ _ _ _
      | exact ih2 _ _ _ _ _ _ _ _ _
      | exact ih3 _ _ _ _ _ _ _ _ _ _
      | exact laws_encShort.mono _ _
      | exact laws_zzFits3.mono _ _
      | exact LeO.none _
      | refine LeO.ite ?_ ?_
      | refine LeO.bind ?_ (fun _ => ?_)
    · intro y0 y1 y2 y3 y4 y5
      unfold laws_FnNameLetters.l0
      repeat' first
      | (with_reducible exact ih0 _ _ _ _)
      | (with_reducible exact ih1 _ _ _ _ _ _)
      | (with_reducible exact ih2 _ _ _ _ _ _ _ _ _)
      | (with_reducible exact ih3 _ _ _ _ _ _ _ _ _ _)
      | (with_reducible exact laws_encShort.mono _ _)
      | (with_reducible exact laws_zzFits3.mono _ _)
      | (with_reducible exact LeO.refl _)
      | (with_reducible exact LeO.none _)
      | (with_reducible refine LeO.ite ?_ ?_)
      | (with_reducible refine LeO.bind ?_ (fun _ => ?_))
      | exact ih0 _ _ _ _
      | exact ih1 _ _ _ _ _ _
      | exact ih2 _ _ _ _ _ _ _ _ _
      | exact ih3 _ _ _ _ _ _ _ _ _ _
      | exact laws_encShort.mono _ _
      | exact laws_zzFits3.mono _ _
      | exact LeO.none _
      | refine LeO.ite ?_ ?_
      | refine LeO.bind ?_ (fun _ => ?_)
    · intro y0 y1 y2 y3 y4 y5 y6 y7 y8
      unfold laws_FnNameLetters.j2
      repeat' first
      | (with_reducible exact ih0 _ _ _ _)
      | (with_reducible exact ih1 _ _ _ _ _ _)
      | (with_reducible exact ih2 _ _ _ _ _ _ _ _ _)
      | (with_reducible exact ih3 _ _ _ _ _ _ _ _ _ _)
      | (with_reducible exact laws_encShort.mono _ _)
      | (with_reducible exact laws_zzFits3.mono _ _)
      | (with_reducible exact LeO.refl _)
      | (with_reducible exact LeO.none _)
      | (with_reducible refine LeO.ite ?_ ?_)
      | (with_reducible refine LeO.bind ?_ (fun _ => ?_))
      | exact ih0 _ _ _ _
      | exact ih1 _ _ _ _ _ _
      | exact ih2 _ _ _ _ _ _ _ _ _
      | exact ih3 _ _ _ _ _ _ _ _ _ _
      | exact laws_encShort.mono _ _
      | exact laws_zzFits3.mono _ _
      | exact LeO.none _
      | refine LeO.ite ?_ ?_
      | refine LeO.bind ?_ (fun _ => ?_)
    · intro y0 y1 y2 y3 y4 y5 y6 y7 y8 y9
      unfold laws_FnNameLetters.l1
      repeat' first
      | (with_reducible exact ih0 _ _ _ _)
      | (with_reducible exact ih1 _ _ _ _ _ _)
      | (with_reducible exact ih2 _ _ _ _ _ _ _ _ _)
      | (with_reducible exact ih3 _ _ _ _ _ _ _ _ _ _)
      | (with_reducible exact laws_encShort.mono _ _)
      | (with_reducible exact laws_zzFits3.mono _ _)
      | (with_reducible exact LeO.refl _)
      | (with_reducible exact LeO.none _)
      | (with_reducible refine LeO.ite ?_ ?_)
      | (with_reducible refine LeO.bind ?_ (fun _ => ?_))
      | exact ih0 _ _ _ _
      | exact ih1 _ _ _ _ _ _
      | exact ih2 _ _ _ _ _ _ _ _ _
      | exact ih3 _ _ _ _ _ _ _ _ _ _
      | exact laws_encShort.mono _ _
      | exact laws_zzFits3.mono _ _
      | exact LeO.none _
      | refine LeO.ite ?_ ?_
      | refine LeO.bind ?_ (fun _ => ?_)
theorem laws_FnNameLetters.mono : ∀ a0 a1 a2 k, LeO (laws_FnNameLetters.f k a0 a1 a2) (laws_FnNameLetters.f (k + 1) a0 a1 a2) := by
  intro a0 a1 a2 k
  obtain ⟨ih0, ih1, ih2, ih3⟩ := laws_FnNameLetters.mono_l k
  unfold laws_FnNameLetters.f
  repeat' first
      | (with_reducible exact ih0 _ _ _ _)
      | (with_reducible exact ih1 _ _ _ _ _ _)
      | (with_reducible exact ih2 _ _ _ _ _ _ _ _ _)
      | (with_reducible exact ih3 _ _ _ _ _ _ _ _ _ _)
      | (with_reducible exact laws_encShort.mono _ _)
      | (with_reducible exact laws_zzFits3.mono _ _)
      | (with_reducible exact LeO.refl _)
      | (with_reducible exact LeO.none _)
      | (with_reducible refine LeO.ite ?_ ?_)
      | (with_reducible refine LeO.bind ?_ (fun _ => ?_))
      | exact ih0 _ _ _ _
      | exact ih1 _ _ _ _ _ _
      | exact ih2 _ _ _ _ _ _ _ _ _
      | exact ih3 _ _ _ _ _ _ _ _ _ _
      | exact laws_encShort.mono _ _
      | exact laws_zzFits3.mono _ _
      | exact LeO.none _
      | refine LeO.ite ?_ ?_
      | refine LeO.bind ?_ (fun _ => ?_)
set_option maxHeartbeats 8000000 in
set_option maxRecDepth 100000 in
theorem laws_FnNameLetters.calls (k : Nat) (a0 : Int) (A1 : Option Addr) (c1 : Nat) (l1 : List ByteArray) (A2 : Option Addr) (c2 : Nat) (l2 : List Int) (r : Bool) (w : World) (hr1 : Kd.C Kd.string w A1 l1.length l1) (hc1 : l1.length ≤ c1) (hr2 : Kd.C (Kd.int .u8) w A2 l2.length l2) (hc2 : l2.length ≤ c2) (hglob : Glob w) (h : laws_FnNameLetters.f k a0 l1 l2 = some r) :
    Calls Tryd.prog 8 #[.int .u64 a0, .slice A1 l1.length c1, .slice A2 l2.length c2] w fun e w' => e = .returned (.bool r) ∧ Below w.heap.size w w' := by
  have HGL := Aside0.mk hglob
  clear hglob
  have HR1 := Aside0.mk hr1
  have HC1 := Aside0.mk hc1
  clear hr1 hc1
  have HR2 := Aside0.mk hr2
  have HC2 := Aside0.mk hc2
  clear hr2 hc2
  have HB := Aside0.mk (Below.refl w.heap.size w)
  have H : ((laws_zzFits3.f k l1).bind fun t103 => (if t103 = true then (laws_FnNameLetters.j0 k a0 l1 l2 (decide ((l2.length : Int) > 2147483647))) else (laws_FnNameLetters.j0 k a0 l1 l2 true))) = some r := h
  clear h
  have HC4 := Aside0.mk H
  clear H
  go_enter Tryd.func8, Tryd.ntmps8
  go_upto_region 1 with (fail)
  go_cut [20] (fun v20 wc => ∃ (kq : Nat) (x20_3 : Bool), v20 = .bool x20_3 ∧ Aside0 (laws_FnNameLetters.j0 kq a0 l1 l2 x20_3 = some r) ∧ Aside0 (kq ≤ k) ∧ Aside0 (Below w.heap.size w wc))
  case first =>
    have H := HC4.out
    clear HC4
    replace H := Option.bind_eq_some_iff.mp H
    obtain ⟨t103, A50, H⟩ := H
    replace H : (if t103 = true then (laws_FnNameLetters.j0 k a0 l1 l2 (decide ((l2.length : Int) > 2147483647))) else (laws_FnNameLetters.j0 k a0 l1 l2 true)) = some r := H
    have A5 := Aside0.mk A50
    clear A50
    by_cases c6 : t103 = true
    · subst c6
      have H1 : (laws_FnNameLetters.j0 k a0 l1 l2 (decide ((l2.length : Int) > 2147483647))) = some r := by rw [if_pos rfl] at H; exact H
      clear H
      have H := H1
      clear H1
      have H' := Aside0.mk H
      clear H
      go_wp2_with (first | ((with_reducible refine gate_callee (f := 18) rfl ?_); refine goesL_ (some 14) rfl rfl Tryd.func18 (by kernel_rfl) rfl #[.slice A1 l1.length c1] rfl (by (try simp only [List.map_toArray, List.map_cons, List.map_nil]); first | done | rfl | (simp only [List.length_drop, List.length_take]; rfl)) ?_; (with_reducible refine (laws_zzFits3.calls k _ _ l1 true _ ?side1 ?side2 A5.out).mono ?_); (case side1 => repeat (first | exact (Kd.C_below HR1.out HB.out) | (with_reducible refine Kd.C_alloc ?_ _) | (with_reducible refine Kd.C_drewN ?_ _) | (with_reducible refine Kd.C_drew ?_))); (case side2 => exact HC1.out); rintro e w' ⟨rfl, ⟨nd, rfl⟩⟩; refine ⟨_, rfl, ?_⟩))
      go_meet
      case rel => exact ⟨_, (decide ((l2.length : Int) > 2147483647)), (by first | rfl | (simp; done) | (simp [*]; done) | (simp [xt_ne_nil]; done)), H', ⟨by first | omega | exact Nat.le_refl _⟩, ⟨by repeat (first | (with_reducible first | exact HB.out | apply below_alloc | apply pw_below_drewN | apply below_drew1) | exact HB.out)⟩⟩
    · replace c6 := Bool.eq_false_iff.mpr c6
      subst c6
      have H1 : (laws_FnNameLetters.j0 k a0 l1 l2 true) = some r := by rw [if_neg (show ¬ (false = true) by decide)] at H; exact H
      clear H
      have H := H1
      clear H1
      have H' := Aside0.mk H
      clear H
      go_wp2_with (first | ((with_reducible refine gate_callee (f := 18) rfl ?_); refine goesL_ (some 14) rfl rfl Tryd.func18 (by kernel_rfl) rfl #[.slice A1 l1.length c1] rfl (by (try simp only [List.map_toArray, List.map_cons, List.map_nil]); first | done | rfl | (simp only [List.length_drop, List.length_take]; rfl)) ?_; (with_reducible refine (laws_zzFits3.calls k _ _ l1 false _ ?side1 ?side2 A5.out).mono ?_); (case side1 => repeat (first | exact (Kd.C_below HR1.out HB.out) | (with_reducible refine Kd.C_alloc ?_ _) | (with_reducible refine Kd.C_drewN ?_ _) | (with_reducible refine Kd.C_drew ?_))); (case side2 => exact HC1.out); rintro e w' ⟨rfl, ⟨nd, rfl⟩⟩; refine ⟨_, rfl, ?_⟩))
      go_meet
      case rel => exact ⟨_, (true), (by first | rfl | (simp; done) | (simp [*]; done) | (simp [xt_ne_nil]; done)), H', ⟨by first | omega | exact Nat.le_refl _⟩, ⟨by repeat (first | (with_reducible first | exact HB.out | apply below_alloc | apply pw_below_drewN | apply below_drew1) | exact HB.out)⟩⟩
  case rest =>
    clear HC4
    try clear c1
    try clear c2
    try clear p2
    try clear c6
    obtain ⟨kq, x20_3, rfl, HA, HJ3, HB⟩ := hcut
    cases kq with
    | zero => exact absurd HA.out (by simp [laws_FnNameLetters.j0])
    | succ kj3 =>
      have H := HA.out
      clear HA
      simp only [laws_FnNameLetters.j0] at H
      by_cases c7 : x20_3 = true
      · subst c7
        have H1 : (some true) = some r := by rw [if_pos rfl] at H; exact H
        clear H
        have H := H1
        clear H1
        obtain rfl := Option.some.inj H
        go_wp2
        go_ret
        exact ⟨by first | rfl | (simp [errW_none, errW_some] <;> rfl) | (simp [*, errW_none, errW_some] <;> rfl), by repeat (first | (with_reducible first | exact HB.out | apply below_alloc | apply pw_below_drewN | apply below_drew1) | exact HB.out)⟩
      · replace c7 := Bool.eq_false_iff.mpr c7
        subst c7
        have H1 : (laws_FnNameLetters.l0 kj3 a0 l2 (⟨#[]⟩ : ByteArray) l1 (l1.length : Int) 0) = some r := by rw [if_neg (show ¬ (false = true) by decide)] at H; exact H
        clear H
        have H := H1
        clear H1
        have H' := Aside0.mk H
        clear H
        go_wp2
        go_loopg [7, 23] kj3 (fun kq v7 v23 w' => ∃ (x7_2 : ByteArray) (x23_2 : Int), v7 = .string x7_2 ∧ v23 = .int .i64 x23_2 ∧ Aside0 (laws_FnNameLetters.l0 kq a0 l2 x7_2 l1 (l1.length : Int) x23_2 = some r) ∧ Aside0 (kq ≤ kj3) ∧ Aside0 (Below w.heap.size w w'))
        case atStart => exact ⟨((⟨#[]⟩ : ByteArray)), (0), (by first | rfl | (simp; done) | (simp [*]; done) | (simp [xt_ne_nil]; done)), (by first | rfl | (simp; done) | (simp [*]; done) | (simp [xt_ne_nil]; done)), H', ⟨Nat.le_refl _⟩, ⟨by repeat (first | (with_reducible first | exact HB.out | apply below_alloc | apply pw_below_drewN | apply below_drew1) | exact HB.out)⟩⟩
        case round =>
          clear H'
          try clear c1
          try clear c2
          try clear p2
          try clear c6
          try clear c7
          try clear p2
          obtain ⟨x7_2, x23_2, rfl, rfl, HA, HK2, HB⟩ := hrel
          cases gk with
          | zero => exact absurd HA.out (by simp [laws_FnNameLetters.l0])
          | succ k2 =>
            have H := HA.out
            clear HA
            simp only [laws_FnNameLetters.l0] at H
            by_cases c8 : x23_2 < (l1.length : Int)
            · rw [if_pos c8] at H
              have c8b0 : decide (x23_2 < (l1.length : Int)) = true := decide_eq_true c8
              clear c8
              by_cases c9 : 0 ≤ x23_2
              · rw [if_pos c9] at H
                have c9b0 : decide (0 ≤ x23_2) = true := decide_eq_true c9
                clear c9
                by_cases c10 : x23_2 < (l1.length : Int)
                · rw [if_pos c10] at H
                  have c10b0 : decide (x23_2 < (l1.length : Int)) = true := decide_eq_true c10
                  clear c10
                  have HC11 := Aside0.mk H
                  clear H
                  have p107 : 0 ≤ (x23_2 : Int) := of_decide_eq_true (by first | (with_reducible assumption) | assumption)
                  have q107 : x23_2 < (l1.length : Int) := of_decide_eq_true (by first | (with_reducible assumption) | assumption)
                  obtain ⟨ad107, e107, hx107_0⟩ := Kd.at_string HR1.out x23_2 p107 q107
                  cases e107
                  replace hx107_0 := (HB.out.cell (World.block_lt_of_cell? w _ hx107_0)).trans hx107_0
                  replace p107 := eq_true p107
                  replace q107 := eq_true q107
                  go_upto_region 7 with (fail)
                  go_cut [36] (fun v36 wc => ∃ (kq : Nat) (x36_10 : Bool), v36 = .bool x36_10 ∧ Aside0 (laws_FnNameLetters.j2 kq a0 l2 x7_2 x23_2 (rdOf ByteArray.empty l1 x23_2) l1 (l1.length : Int) x23_2 x36_10 = some r) ∧ Aside0 (kq ≤ k2) ∧ Aside0 (Below w.heap.size w wc))
                  case first =>
                    have H := HC11.out
                    clear HC11
                    by_cases c12 : (rdOf ByteArray.empty l1 x23_2).toList = ([] : List UInt8)
                    · rw [if_pos c12] at H
                      have c12b0 : ((rdOf ByteArray.empty l1 x23_2).toList == ([] : List UInt8)) = true := beq_iff_eq.mpr c12
                      have c12b1 : ((rdOf ByteArray.empty l1 x23_2).toList != ([] : List UInt8)) = false := bne_eq_false_iff_eq.mpr c12
                      clear c12
                      (first | rw [c12b0] | (simp only [i64_w, i32_w]; rw [c12b0]) | skip)
                      have H' := Aside0.mk H
                      clear H
                      go_wp2
                      go_meet
                      case rel => exact ⟨_, (true), (by first | rfl | (simp; done) | (simp [*]; done) | (simp [xt_ne_nil]; done)), H', ⟨by have := HJ3.out; have := HK2.out; first | omega | exact Nat.le_refl _⟩, ⟨by repeat (first | (with_reducible first | exact HB.out | apply below_alloc | apply pw_below_drewN | apply below_drew1) | exact HB.out)⟩⟩
                    · rw [if_neg c12] at H
                      have c12b0 : ((rdOf ByteArray.empty l1 x23_2).toList == ([] : List UInt8)) = false := beq_eq_false_iff_ne.mpr c12
                      have c12b1 : ((rdOf ByteArray.empty l1 x23_2).toList != ([] : List UInt8)) = true := bne_iff_ne.mpr c12
                      (first | rw [c12b0] | (simp only [i64_w, i32_w]; rw [c12b0]) | skip)
                      obtain ⟨y108, hy108⟩ : ∃ y_ : List ByteArray, y_ = (([x7_2, rdOf ByteArray.empty l1 x23_2] : List ByteArray)) := ⟨_, rfl⟩
                      replace H : ((laws_encShort.f k2 y108).bind fun t111 => (laws_FnNameLetters.j2 k2 a0 l2 x7_2 x23_2 (rdOf ByteArray.empty l1 x23_2) l1 (l1.length : Int) x23_2 (!t111))) = some r := by first | (rw [hy108]; with_reducible exact H) | (have H2_ := (Option.bind_some _ _).symm.trans H; rw [hy108]; with_reducible exact H2_) | (have H2_ := (Option.bind_some _ _).symm.trans H; with_reducible exact H2_) | with_reducible exact H | (rw [hy108]; exact H) | exact H
                      have Ny108 := Aside0.mk hy108
                      clear hy108
                      replace H := Option.bind_eq_some_iff.mp H
                      obtain ⟨t111, A130, H⟩ := H
                      replace H : (laws_FnNameLetters.j2 k2 a0 l2 x7_2 x23_2 (rdOf ByteArray.empty l1 x23_2) l1 (l1.length : Int) x23_2 (!t111)) = some r := H
                      have A13 := Aside0.mk A130
                      clear A130
                      have H' := Aside0.mk H
                      clear H
                      go_wp2_with (first | ((with_reducible refine gate_dst (N := 33) rfl ?_); (try (refine gate_guard (by rfl) ?_; dsimp only)); refine Kd.R_lit Kd.string _ 9 ?hg (N := 33) ?hd (xs := ([x7_2, rdOf ByteArray.empty l1 x23_2] : List ByteArray)) (inner := [.string x7_2, .string (rdOf ByteArray.empty l1 x23_2)]) (ok := fun _ => True) (okp := fun _ => True) ?hr ?hp (fun _ hk => hk) trivial (Below.refl _ _) (Nat.le_refl _) (by simp) ?_; (case hd => rfl); (case hg => rfl); (case hr => first | (go_simp; done) | (go_simp; rfl)); (case hp => exact (Reps.one (show Kd.M Kd.string _ _ _ x7_2 [.string x7_2] from rfl) (Reps.one (show Kd.M Kd.string _ _ _ (rdOf ByteArray.empty l1 x23_2) [.string (rdOf ByteArray.empty l1 x23_2)] from rfl) (Reps.none _ _)))); intro v109 w14 ho15 hb hg_ hnew_; clear hg_ hnew_; (first | rw [← Ny108.out] at ho15 | (simp only [Int.reduceToNat] at ho15; rw [← Ny108.out] at ho15)); have n0_ := Aside0.mk (Kd.R_lower ho15 (below_size (by repeat (first | (with_reducible first | exact HB.out | apply below_alloc | apply pw_below_drewN | apply below_drew1) | exact HB.out)))); have n1_ := Aside0.mk (below_step (by repeat (first | (with_reducible first | exact HB.out | apply below_alloc | apply pw_below_drewN | apply below_drew1) | exact HB.out)) hb); clear HB; have HO110 := n0_; have HB := n1_; clear n0_ n1_; clear hb ho15; obtain ⟨Ao16, co16, eo16⟩ := Kd.R_slice HO110.out; subst eo16) | (go_at_call 12; (with_reducible refine (laws_encShort.calls k2 _ _ y108 t111 _ ?side1 ?side2 A13.out).mono ?_); (case side1 => repeat (first | exact (Kd.R_reads' HO110.out).2.2 | (with_reducible refine Kd.C_alloc ?_ _) | (with_reducible refine Kd.C_drewN ?_ _) | (with_reducible refine Kd.C_drew ?_))); (case side2 => exact (Kd.R_reads' HO110.out).2.1); rintro e w' ⟨rfl, ⟨nd, rfl⟩⟩))
                      go_meet
                      case rel => exact ⟨_, (!t111), (by first | rfl | (simp; done) | (simp [*]; done) | (simp [xt_ne_nil]; done)), H', ⟨by have := HJ3.out; have := HK2.out; first | omega | exact Nat.le_refl _⟩, ⟨by repeat (first | (with_reducible first | exact HB.out | apply below_alloc | apply pw_below_drewN | apply below_drew1) | exact HB.out)⟩⟩
                  case rest =>
                    clear HC11
                    try clear c1
                    try clear p1
                    try clear q1
                    try clear hx1
                    try clear c2
                    try clear p2
                    try clear c6
                    try clear c7
                    try clear c8
                    try clear c8b0
                    try clear c9
                    try clear c9b0
                    try clear c10
                    try clear c10b0
                    try clear p10
                    try clear q10
                    try clear hx10
                    try clear c12
                    try clear c12b0
                    try clear c12b1
                    try clear hx107_0
                    try clear p107
                    try clear p2
                    try clear q107
                    obtain ⟨kq, x36_10, rfl, HA, HJ10, HB⟩ := hcut
                    cases kq with
                    | zero => exact absurd HA.out (by simp [laws_FnNameLetters.j2])
                    | succ kj10 =>
                      have H := HA.out
                      clear HA
                      simp only [laws_FnNameLetters.j2] at H
                      by_cases c17 : x36_10 = true
                      · subst c17
                        have H1 : (some true) = some r := by rw [if_pos rfl] at H; exact H
                        clear H
                        have H := H1
                        clear H1
                        obtain rfl := Option.some.inj H
                        go_wp2
                        go_ret
                        exact ⟨by first | rfl | (simp [errW_none, errW_some] <;> rfl) | (simp [*, errW_none, errW_some] <;> rfl), by repeat (first | (with_reducible first | exact HB.out | apply below_alloc | apply pw_below_drewN | apply below_drew1) | exact HB.out)⟩
                      · replace c17 := Bool.eq_false_iff.mpr c17
                        subst c17
                        have H1 : (laws_FnNameLetters.l1 kj10 a0 l2 x7_2 x23_2 (rdOf ByteArray.empty l1 x23_2) l1 (l1.length : Int) x23_2 ((rdOf ByteArray.empty l1 x23_2).size : Int) 0) = some r := by rw [if_neg (show ¬ (false = true) by decide)] at H; exact H
                        clear H
                        have H := H1
                        clear H1
                        have H' := Aside0.mk H
                        clear H
                        go_wp2
                        go_loopg [39] kj10 (fun kq v39 w' => ∃ (x39_4 : Int), v39 = .int .i64 x39_4 ∧ Aside0 (laws_FnNameLetters.l1 kq a0 l2 x7_2 x23_2 (rdOf ByteArray.empty l1 x23_2) l1 (l1.length : Int) x23_2 ((rdOf ByteArray.empty l1 x23_2).size : Int) x39_4 = some r) ∧ Aside0 (kq ≤ kj10) ∧ Aside0 (Below w.heap.size w w'))
                        case atStart => exact ⟨(0), (by first | rfl | (simp; done) | (simp [*]; done) | (simp [xt_ne_nil]; done)), H', ⟨Nat.le_refl _⟩, ⟨by repeat (first | (with_reducible first | exact HB.out | apply below_alloc | apply pw_below_drewN | apply below_drew1) | exact HB.out)⟩⟩
                        case round =>
                          clear H'
                          try clear c1
                          try clear p1
                          try clear q1
                          try clear hx1
                          try clear c2
                          try clear p2
                          try clear c6
                          try clear c7
                          try clear c8
                          try clear c8b0
                          try clear c9
                          try clear c9b0
                          try clear c10
                          try clear c10b0
                          try clear p10
                          try clear q10
                          try clear hx10
                          try clear c12
                          try clear c12b0
                          try clear c12b1
                          try clear c17
                          try clear hx107_0
                          try clear p1
                          try clear p10
                          try clear p107
                          try clear p2
                          try clear q1
                          try clear q10
                          try clear q107
                          obtain ⟨x39_4, rfl, HA, HK4, HB⟩ := hrel
                          cases gk with
                          | zero => exact absurd HA.out (by simp [laws_FnNameLetters.l1])
                          | succ k4 =>
                            have H := HA.out
                            clear HA
                            simp only [laws_FnNameLetters.l1] at H
                            by_cases c18 : x39_4 < ((rdOf ByteArray.empty l1 x23_2).size : Int)
                            · rw [if_pos c18] at H
                              have c18b0 : decide (x39_4 < ((rdOf ByteArray.empty l1 x23_2).size : Int)) = true := decide_eq_true c18
                              clear c18
                              by_cases c19 : 0 ≤ x39_4
                              · rw [if_pos c19] at H
                                have c19b0 : decide (0 ≤ x39_4) = true := decide_eq_true c19
                                clear c19
                                by_cases c20 : x39_4 < ((rdOf ByteArray.empty l1 x23_2).size : Int)
                                · rw [if_pos c20] at H
                                  have c20b0 : decide (x39_4 < ((rdOf ByteArray.empty l1 x23_2).size : Int)) = true := decide_eq_true c20
                                  clear c20
                                  by_cases c22 : (Go.bits .or .u8 (bt (rdOf ByteArray.empty l1 x23_2) x39_4) 32) < 97
                                  · rw [if_pos c22] at H
                                    have c22b0 : decide ((Go.bits .or .u8 (bt (rdOf ByteArray.empty l1 x23_2) x39_4) 32) < 97) = true := decide_eq_true c22
                                    clear c22
                                    by_cases c24 : (bt (rdOf ByteArray.empty l1 x23_2) x39_4) < 48
                                    · rw [if_pos c24] at H
                                      have c24b0 : decide ((bt (rdOf ByteArray.empty l1 x23_2) x39_4) < 48) = true := decide_eq_true c24
                                      clear c24
                                      obtain rfl := Option.some.inj H
                                      have p21 : 0 ≤ (x39_4 : Int) := of_decide_eq_true (by first | (with_reducible assumption) | assumption)
                                      have q21 : x39_4 < ((rdOf ByteArray.empty l1 x23_2).size : Int) := of_decide_eq_true (by first | (with_reducible assumption) | assumption)
                                      have hx21 := bt_at (rdOf ByteArray.empty l1 x23_2) x39_4
                                      replace p21 := eq_true p21
                                      replace q21 := eq_true q21
                                      have p23 : 0 ≤ (x39_4 : Int) := of_decide_eq_true (by first | (with_reducible assumption) | assumption)
                                      have q23 : x39_4 < ((rdOf ByteArray.empty l1 x23_2).size : Int) := of_decide_eq_true (by first | (with_reducible assumption) | assumption)
                                      have hx23 := bt_at (rdOf ByteArray.empty l1 x23_2) x39_4
                                      replace p23 := eq_true p23
                                      replace q23 := eq_true q23
                                      go_wp2
                                      go_ret
                                      exact ⟨by first | rfl | (simp [errW_none, errW_some] <;> rfl) | (simp [*, errW_none, errW_some] <;> rfl), by repeat (first | (with_reducible first | exact HB.out | apply below_alloc | apply pw_below_drewN | apply below_drew1) | exact HB.out)⟩
                                    · rw [if_neg c24] at H
                                      have c24b0 : decide ((bt (rdOf ByteArray.empty l1 x23_2) x39_4) < 48) = false := decide_eq_false c24
                                      clear c24
                                      by_cases c26 : (bt (rdOf ByteArray.empty l1 x23_2) x39_4) > 57
                                      · rw [if_pos c26] at H
                                        have c26b0 : decide (57 < (bt (rdOf ByteArray.empty l1 x23_2) x39_4)) = true := decide_eq_true c26
                                        clear c26
                                        obtain rfl := Option.some.inj H
                                        have p21 : 0 ≤ (x39_4 : Int) := of_decide_eq_true (by first | (with_reducible assumption) | assumption)
                                        have q21 : x39_4 < ((rdOf ByteArray.empty l1 x23_2).size : Int) := of_decide_eq_true (by first | (with_reducible assumption) | assumption)
                                        have hx21 := bt_at (rdOf ByteArray.empty l1 x23_2) x39_4
                                        replace p21 := eq_true p21
                                        replace q21 := eq_true q21
                                        have p23 : 0 ≤ (x39_4 : Int) := of_decide_eq_true (by first | (with_reducible assumption) | assumption)
                                        have q23 : x39_4 < ((rdOf ByteArray.empty l1 x23_2).size : Int) := of_decide_eq_true (by first | (with_reducible assumption) | assumption)
                                        have hx23 := bt_at (rdOf ByteArray.empty l1 x23_2) x39_4
                                        replace p23 := eq_true p23
                                        replace q23 := eq_true q23
                                        have p25 : 0 ≤ (x39_4 : Int) := of_decide_eq_true (by first | (with_reducible assumption) | assumption)
                                        have q25 : x39_4 < ((rdOf ByteArray.empty l1 x23_2).size : Int) := of_decide_eq_true (by first | (with_reducible assumption) | assumption)
                                        have hx25 := bt_at (rdOf ByteArray.empty l1 x23_2) x39_4
                                        replace p25 := eq_true p25
                                        replace q25 := eq_true q25
                                        go_wp2
                                        go_ret
                                        exact ⟨by first | rfl | (simp [errW_none, errW_some] <;> rfl) | (simp [*, errW_none, errW_some] <;> rfl), by repeat (first | (with_reducible first | exact HB.out | apply below_alloc | apply pw_below_drewN | apply below_drew1) | exact HB.out)⟩
                                      · rw [if_neg c26] at H
                                        have c26b0 : decide (57 < (bt (rdOf ByteArray.empty l1 x23_2) x39_4)) = false := decide_eq_false c26
                                        clear c26
                                        have H' := Aside0.mk H
                                        clear H
                                        have p21 : 0 ≤ (x39_4 : Int) := of_decide_eq_true (by first | (with_reducible assumption) | assumption)
                                        have q21 : x39_4 < ((rdOf ByteArray.empty l1 x23_2).size : Int) := of_decide_eq_true (by first | (with_reducible assumption) | assumption)
                                        have hx21 := bt_at (rdOf ByteArray.empty l1 x23_2) x39_4
                                        replace p21 := eq_true p21
                                        replace q21 := eq_true q21
                                        have p23 : 0 ≤ (x39_4 : Int) := of_decide_eq_true (by first | (with_reducible assumption) | assumption)
                                        have q23 : x39_4 < ((rdOf ByteArray.empty l1 x23_2).size : Int) := of_decide_eq_true (by first | (with_reducible assumption) | assumption)
                                        have hx23 := bt_at (rdOf ByteArray.empty l1 x23_2) x39_4
                                        replace p23 := eq_true p23
                                        replace q23 := eq_true q23
                                        have p25 : 0 ≤ (x39_4 : Int) := of_decide_eq_true (by first | (with_reducible assumption) | assumption)
                                        have q25 : x39_4 < ((rdOf ByteArray.empty l1 x23_2).size : Int) := of_decide_eq_true (by first | (with_reducible assumption) | assumption)
                                        have hx25 := bt_at (rdOf ByteArray.empty l1 x23_2) x39_4
                                        replace p25 := eq_true p25
                                        replace q25 := eq_true q25
                                        go_wp2
                                        go_roundg k4
                                        case measure => have := HJ3.out; have := HK2.out; have := HJ10.out; have := HK4.out; omega
                                        case rel => exact ⟨(wrap64 (x39_4 + 1)), (by first | rfl | (simp; done) | (simp [*]; done) | (simp [xt_ne_nil]; done)), H', ⟨by have := HJ3.out; have := HK2.out; have := HJ10.out; have := HK4.out; omega⟩, ⟨by repeat (first | (with_reducible first | exact HB.out | apply below_alloc | apply pw_below_drewN | apply below_drew1) | exact HB.out)⟩⟩
                                  · rw [if_neg c22] at H
                                    have c22b0 : decide ((Go.bits .or .u8 (bt (rdOf ByteArray.empty l1 x23_2) x39_4) 32) < 97) = false := decide_eq_false c22
                                    clear c22
                                    by_cases c27 : (Go.bits .or .u8 (bt (rdOf ByteArray.empty l1 x23_2) x39_4) 32) > 122
                                    · rw [if_pos c27] at H
                                      have c27b0 : decide (122 < (Go.bits .or .u8 (bt (rdOf ByteArray.empty l1 x23_2) x39_4) 32)) = true := decide_eq_true c27
                                      clear c27
                                      by_cases c29 : (bt (rdOf ByteArray.empty l1 x23_2) x39_4) < 48
                                      · rw [if_pos c29] at H
                                        have c29b0 : decide ((bt (rdOf ByteArray.empty l1 x23_2) x39_4) < 48) = true := decide_eq_true c29
                                        clear c29
                                        obtain rfl := Option.some.inj H
                                        have p21 : 0 ≤ (x39_4 : Int) := of_decide_eq_true (by first | (with_reducible assumption) | assumption)
                                        have q21 : x39_4 < ((rdOf ByteArray.empty l1 x23_2).size : Int) := of_decide_eq_true (by first | (with_reducible assumption) | assumption)
                                        have hx21 := bt_at (rdOf ByteArray.empty l1 x23_2) x39_4
                                        replace p21 := eq_true p21
                                        replace q21 := eq_true q21
                                        have p28 : 0 ≤ (x39_4 : Int) := of_decide_eq_true (by first | (with_reducible assumption) | assumption)
                                        have q28 : x39_4 < ((rdOf ByteArray.empty l1 x23_2).size : Int) := of_decide_eq_true (by first | (with_reducible assumption) | assumption)
                                        have hx28 := bt_at (rdOf ByteArray.empty l1 x23_2) x39_4
                                        replace p28 := eq_true p28
                                        replace q28 := eq_true q28
                                        go_wp2
                                        go_ret
                                        exact ⟨by first | rfl | (simp [errW_none, errW_some] <;> rfl) | (simp [*, errW_none, errW_some] <;> rfl), by repeat (first | (with_reducible first | exact HB.out | apply below_alloc | apply pw_below_drewN | apply below_drew1) | exact HB.out)⟩
                                      · rw [if_neg c29] at H
                                        have c29b0 : decide ((bt (rdOf ByteArray.empty l1 x23_2) x39_4) < 48) = false := decide_eq_false c29
                                        clear c29
                                        by_cases c31 : (bt (rdOf ByteArray.empty l1 x23_2) x39_4) > 57
                                        · rw [if_pos c31] at H
                                          have c31b0 : decide (57 < (bt (rdOf ByteArray.empty l1 x23_2) x39_4)) = true := decide_eq_true c31
                                          clear c31
                                          obtain rfl := Option.some.inj H
                                          have p21 : 0 ≤ (x39_4 : Int) := of_decide_eq_true (by first | (with_reducible assumption) | assumption)
                                          have q21 : x39_4 < ((rdOf ByteArray.empty l1 x23_2).size : Int) := of_decide_eq_true (by first | (with_reducible assumption) | assumption)
                                          have hx21 := bt_at (rdOf ByteArray.empty l1 x23_2) x39_4
                                          replace p21 := eq_true p21
                                          replace q21 := eq_true q21
                                          have p28 : 0 ≤ (x39_4 : Int) := of_decide_eq_true (by first | (with_reducible assumption) | assumption)
                                          have q28 : x39_4 < ((rdOf ByteArray.empty l1 x23_2).size : Int) := of_decide_eq_true (by first | (with_reducible assumption) | assumption)
                                          have hx28 := bt_at (rdOf ByteArray.empty l1 x23_2) x39_4
                                          replace p28 := eq_true p28
                                          replace q28 := eq_true q28
                                          have p30 : 0 ≤ (x39_4 : Int) := of_decide_eq_true (by first | (with_reducible assumption) | assumption)
                                          have q30 : x39_4 < ((rdOf ByteArray.empty l1 x23_2).size : Int) := of_decide_eq_true (by first | (with_reducible assumption) | assumption)
                                          have hx30 := bt_at (rdOf ByteArray.empty l1 x23_2) x39_4
                                          replace p30 := eq_true p30
                                          replace q30 := eq_true q30
                                          go_wp2
                                          go_ret
                                          exact ⟨by first | rfl | (simp [errW_none, errW_some] <;> rfl) | (simp [*, errW_none, errW_some] <;> rfl), by repeat (first | (with_reducible first | exact HB.out | apply below_alloc | apply pw_below_drewN | apply below_drew1) | exact HB.out)⟩
                                        · rw [if_neg c31] at H
                                          have c31b0 : decide (57 < (bt (rdOf ByteArray.empty l1 x23_2) x39_4)) = false := decide_eq_false c31
                                          clear c31
                                          have H' := Aside0.mk H
                                          clear H
                                          have p21 : 0 ≤ (x39_4 : Int) := of_decide_eq_true (by first | (with_reducible assumption) | assumption)
                                          have q21 : x39_4 < ((rdOf ByteArray.empty l1 x23_2).size : Int) := of_decide_eq_true (by first | (with_reducible assumption) | assumption)
                                          have hx21 := bt_at (rdOf ByteArray.empty l1 x23_2) x39_4
                                          replace p21 := eq_true p21
                                          replace q21 := eq_true q21
                                          have p28 : 0 ≤ (x39_4 : Int) := of_decide_eq_true (by first | (with_reducible assumption) | assumption)
                                          have q28 : x39_4 < ((rdOf ByteArray.empty l1 x23_2).size : Int) := of_decide_eq_true (by first | (with_reducible assumption) | assumption)
                                          have hx28 := bt_at (rdOf ByteArray.empty l1 x23_2) x39_4
                                          replace p28 := eq_true p28
                                          replace q28 := eq_true q28
                                          have p30 : 0 ≤ (x39_4 : Int) := of_decide_eq_true (by first | (with_reducible assumption) | assumption)
                                          have q30 : x39_4 < ((rdOf ByteArray.empty l1 x23_2).size : Int) := of_decide_eq_true (by first | (with_reducible assumption) | assumption)
                                          have hx30 := bt_at (rdOf ByteArray.empty l1 x23_2) x39_4
                                          replace p30 := eq_true p30
                                          replace q30 := eq_true q30
                                          go_wp2
                                          go_roundg k4
                                          case measure => have := HJ3.out; have := HK2.out; have := HJ10.out; have := HK4.out; omega
                                          case rel => exact ⟨(wrap64 (x39_4 + 1)), (by first | rfl | (simp; done) | (simp [*]; done) | (simp [xt_ne_nil]; done)), H', ⟨by have := HJ3.out; have := HK2.out; have := HJ10.out; have := HK4.out; omega⟩, ⟨by repeat (first | (with_reducible first | exact HB.out | apply below_alloc | apply pw_below_drewN | apply below_drew1) | exact HB.out)⟩⟩
                                    · rw [if_neg c27] at H
                                      have c27b0 : decide (122 < (Go.bits .or .u8 (bt (rdOf ByteArray.empty l1 x23_2) x39_4) 32)) = false := decide_eq_false c27
                                      clear c27
                                      have H' := Aside0.mk H
                                      clear H
                                      have p21 : 0 ≤ (x39_4 : Int) := of_decide_eq_true (by first | (with_reducible assumption) | assumption)
                                      have q21 : x39_4 < ((rdOf ByteArray.empty l1 x23_2).size : Int) := of_decide_eq_true (by first | (with_reducible assumption) | assumption)
                                      have hx21 := bt_at (rdOf ByteArray.empty l1 x23_2) x39_4
                                      replace p21 := eq_true p21
                                      replace q21 := eq_true q21
                                      go_wp2
                                      go_roundg k4
                                      case measure => have := HJ3.out; have := HK2.out; have := HJ10.out; have := HK4.out; omega
                                      case rel => exact ⟨(wrap64 (x39_4 + 1)), (by first | rfl | (simp; done) | (simp [*]; done) | (simp [xt_ne_nil]; done)), H', ⟨by have := HJ3.out; have := HK2.out; have := HJ10.out; have := HK4.out; omega⟩, ⟨by repeat (first | (with_reducible first | exact HB.out | apply below_alloc | apply pw_below_drewN | apply below_drew1) | exact HB.out)⟩⟩
                                · rw [if_neg c20] at H
                                  exact absurd H (by simp)
                              · rw [if_neg c19] at H
                                exact absurd H (by simp)
                            · rw [if_neg c18] at H
                              have c18b0 : decide (x39_4 < ((rdOf ByteArray.empty l1 x23_2).size : Int)) = false := decide_eq_false c18
                              clear c18
                              by_cases c32 : x23_2 > 0
                              · rw [if_pos c32] at H
                                have c32b0 : decide (0 < x23_2) = true := decide_eq_true c32
                                clear c32
                                by_cases c33 : x23_2 ≤ (l2.length : Int)
                                · rw [if_pos c33] at H
                                  have c33b0 : decide (x23_2 ≤ (l2.length : Int)) = true := decide_eq_true c33
                                  clear c33
                                  obtain ⟨ji34, hji34⟩ : ∃ j_ : Int, (wrap64 (x23_2 - 1)) = j_ := ⟨_, rfl⟩
                                  replace H : (if 0 ≤ (ji34) then (if (ji34) < (l2.length : Int) then (if 0 ≤ (Int.tmod (rd l2 (ji34)) 4) then (if (Int.tmod (rd l2 (ji34)) 4) < 4 then ((some (([bt (⟨#[46, 32, 45, 95]⟩ : ByteArray) (Int.tmod (rd l2 (ji34)) 4)] : List Int) : List Int)).bind fun y113 => (if x7_2.size + (strOfNums y113).size ≤ 9223372036854775807 then (if (x7_2 ++ (strOfNums y113)).size + (rdOf ByteArray.empty l1 x23_2).size ≤ 9223372036854775807 then (laws_FnNameLetters.l0 k4 a0 l2 ((x7_2 ++ (strOfNums y113)) ++ (rdOf ByteArray.empty l1 x23_2)) l1 (l1.length : Int) (wrap64 (x23_2 + 1))) else (none)) else (none))) else (none)) else (none)) else (none)) else (none)) = some r := by first | (rw [hji34] at H; exact H) | (simp only [hji34] at H ⊢; exact H)
                                  have hji34w : (IntKind.i64.wrap (x23_2 - 1)) = ji34 := (i64_w _).trans hji34
                                  by_cases c35 : 0 ≤ (ji34)
                                  · rw [if_pos c35] at H
                                    have c35b0 : decide (0 ≤ (ji34)) = true := decide_eq_true c35
                                    clear c35
                                    by_cases c36 : (ji34) < (l2.length : Int)
                                    · rw [if_pos c36] at H
                                      have c36b0 : decide ((ji34) < (l2.length : Int)) = true := decide_eq_true c36
                                      clear c36
                                      obtain ⟨ji37, hji37⟩ : ∃ j_ : Int, (Int.tmod (rd l2 (ji34)) 4) = j_ := ⟨_, rfl⟩
                                      replace H : (if 0 ≤ (ji37) then (if (ji37) < 4 then ((some (([bt (⟨#[46, 32, 45, 95]⟩ : ByteArray) (ji37)] : List Int) : List Int)).bind fun y113 => (if x7_2.size + (strOfNums y113).size ≤ 9223372036854775807 then (if (x7_2 ++ (strOfNums y113)).size + (rdOf ByteArray.empty l1 x23_2).size ≤ 9223372036854775807 then (laws_FnNameLetters.l0 k4 a0 l2 ((x7_2 ++ (strOfNums y113)) ++ (rdOf ByteArray.empty l1 x23_2)) l1 (l1.length : Int) (wrap64 (x23_2 + 1))) else (none)) else (none))) else (none)) else (none)) = some r := by first | (rw [hji37] at H; exact H) | (simp only [hji37] at H ⊢; exact H)
                                      by_cases c38 : 0 ≤ (ji37)
                                      · rw [if_pos c38] at H
                                        have c38b0 : decide (0 ≤ (ji37)) = true := decide_eq_true c38
                                        clear c38
                                        by_cases c39 : (ji37) < 4
                                        · rw [if_pos c39] at H
                                          have c39b0 : decide ((ji37) < 4) = true := decide_eq_true c39
                                          clear c39
                                          obtain ⟨y113, hy113⟩ : ∃ y_ : List Int, y_ = (([bt (⟨#[46, 32, 45, 95]⟩ : ByteArray) (ji37)] : List Int)) := ⟨_, rfl⟩
                                          replace H : (if x7_2.size + (strOfNums y113).size ≤ 9223372036854775807 then (if (x7_2 ++ (strOfNums y113)).size + (rdOf ByteArray.empty l1 x23_2).size ≤ 9223372036854775807 then (laws_FnNameLetters.l0 k4 a0 l2 ((x7_2 ++ (strOfNums y113)) ++ (rdOf ByteArray.empty l1 x23_2)) l1 (l1.length : Int) (wrap64 (x23_2 + 1))) else (none)) else (none)) = some r := by first | (rw [hy113]; with_reducible exact H) | (have H2_ := (Option.bind_some _ _).symm.trans H; rw [hy113]; with_reducible exact H2_) | (have H2_ := (Option.bind_some _ _).symm.trans H; with_reducible exact H2_) | with_reducible exact H | (rw [hy113]; exact H) | exact H
                                          have Ny113 := Aside0.mk hy113
                                          clear hy113
                                          by_cases c41 : x7_2.size + (strOfNums y113).size ≤ 9223372036854775807
                                          · rw [if_pos c41] at H
                                            have c41b0 := eq_true c41
                                            have c41b1 : decide (x7_2.size + (strOfNums y113).size ≤ 9223372036854775807) = true := decide_eq_true c41
                                            try have c41b2 : (9223372036854775807 < x7_2.size + (strOfNums y113).size) = False := eq_false (Nat.not_lt.2 c41)
                                            by_cases c42 : (x7_2 ++ (strOfNums y113)).size + (rdOf ByteArray.empty l1 x23_2).size ≤ 9223372036854775807
                                            · rw [if_pos c42] at H
                                              have c42b0 := eq_true c42
                                              have c42b1 : decide ((x7_2 ++ (strOfNums y113)).size + (rdOf ByteArray.empty l1 x23_2).size ≤ 9223372036854775807) = true := decide_eq_true c42
                                              try have c42b2 : (9223372036854775807 < (x7_2 ++ (strOfNums y113)).size + (rdOf ByteArray.empty l1 x23_2).size) = False := eq_false (Nat.not_lt.2 c42)
                                              have H' := Aside0.mk H
                                              clear H
                                              have p112 : 0 ≤ ((ji34) : Int) := of_decide_eq_true (by first | (with_reducible assumption) | assumption)
                                              have q112 : (ji34) < (l2.length : Int) := of_decide_eq_true (by first | (with_reducible assumption) | assumption)
                                              obtain ⟨ad112, e112, hx112_0⟩ := Kd.at_int HR2.out (ji34) p112 q112
                                              cases e112
                                              replace hx112_0 := (HB.out.cell (World.block_lt_of_cell? w _ hx112_0)).trans hx112_0
                                              replace p112 := eq_true p112
                                              replace q112 := eq_true q112
                                              have p40 : 0 ≤ ((ji37) : Int) := of_decide_eq_true (by first | (with_reducible assumption) | assumption)
                                              have q40 : (ji37) < (4 : Int) := of_decide_eq_true (by first | (with_reducible assumption) | assumption)
                                              have hx40 := bt_at (⟨#[46, 32, 45, 95]⟩ : ByteArray) (ji37)
                                              replace p40 := eq_true p40
                                              replace q40 := eq_true q40
                                              go_wp2_with (first | ((with_reducible refine gate_dst (N := 80) rfl ?_); (try (refine gate_guard (by rfl) ?_; dsimp only)); refine Kd.R_lit (Kd.int .u8) _ 5 ?hg (N := 80) ?hd (xs := ([bt (⟨#[46, 32, 45, 95]⟩ : ByteArray) (ji37)] : List Int)) (inner := [.int .u8 (bt (⟨#[46, 32, 45, 95]⟩ : ByteArray) (ji37))]) (ok := fun _ => True) (okp := fun _ => True) ?hr ?hp (fun _ hk => hk) trivial (Below.refl _ _) (Nat.le_refl _) (by simp) ?_; (case hd => rfl); (case hg => rfl); (case hr => first | (go_simp; done) | (go_simp; rfl)); (case hp => exact (Reps.one (show Kd.M (Kd.int .u8) _ _ _ (bt (⟨#[46, 32, 45, 95]⟩ : ByteArray) (ji37)) [.int .u8 (bt (⟨#[46, 32, 45, 95]⟩ : ByteArray) (ji37))] from rfl) (Reps.none _ _))); intro v114 w43 ho44 hb hg_ hnew_; clear hg_ hnew_; (first | rw [← Ny113.out] at ho44 | (simp only [Int.reduceToNat] at ho44; rw [← Ny113.out] at ho44)); have n0_ := Aside0.mk (Kd.R_lower ho44 (below_size (by repeat (first | (with_reducible first | exact HB.out | apply below_alloc | apply pw_below_drewN | apply below_drew1) | exact HB.out)))); have n1_ := Aside0.mk (below_step (by repeat (first | (with_reducible first | exact HB.out | apply below_alloc | apply pw_below_drewN | apply below_drew1) | exact HB.out)) hb); clear HB; have HO115 := n0_; have HB := n1_; clear n0_ n1_; clear hb ho44; have hcv45 := own_string (P := Tryd.prog) Tryd.underlying28 Tryd.underlying5 Tryd.underlying9 (Kd.own_of_R HO115.out)))
                                              go_roundg k4
                                              case measure => have := HJ3.out; have := HK2.out; have := HJ10.out; have := HK4.out; omega
                                              case rel => exact ⟨((x7_2 ++ (strOfNums y113)) ++ (rdOf ByteArray.empty l1 x23_2)), (wrap64 (x23_2 + 1)), (by first | rfl | (simp; done) | (simp [*]; done) | (simp [xt_ne_nil]; done)), (by first | rfl | (simp; done) | (simp [*]; done) | (simp [xt_ne_nil]; done)), H', ⟨by have := HJ3.out; have := HK2.out; have := HJ10.out; have := HK4.out; omega⟩, ⟨by repeat (first | (with_reducible first | exact HB.out | apply below_alloc | apply pw_below_drewN | apply below_drew1) | exact HB.out)⟩⟩
                                            · rw [if_neg c42] at H
                                              exact absurd H (by simp)
                                          · rw [if_neg c41] at H
                                            exact absurd H (by simp)
                                        · rw [if_neg c39] at H
                                          exact absurd H (by simp)
                                      · rw [if_neg c38] at H
                                        exact absurd H (by simp)
                                    · rw [if_neg c36] at H
                                      exact absurd H (by simp)
                                  · rw [if_neg c35] at H
                                    exact absurd H (by simp)
                                · rw [if_neg c33] at H
                                  have c33b0 : decide (x23_2 ≤ (l2.length : Int)) = false := decide_eq_false c33
                                  clear c33
                                  obtain ⟨y116, hy116⟩ : ∃ y_ : List Int, y_ = (([46] : List Int)) := ⟨_, rfl⟩
                                  replace H : (if x7_2.size + (strOfNums y116).size ≤ 9223372036854775807 then (if (x7_2 ++ (strOfNums y116)).size + (rdOf ByteArray.empty l1 x23_2).size ≤ 9223372036854775807 then (laws_FnNameLetters.l0 k4 a0 l2 ((x7_2 ++ (strOfNums y116)) ++ (rdOf ByteArray.empty l1 x23_2)) l1 (l1.length : Int) (wrap64 (x23_2 + 1))) else (none)) else (none)) = some r := by first | (rw [hy116]; with_reducible exact H) | (have H2_ := (Option.bind_some _ _).symm.trans H; rw [hy116]; with_reducible exact H2_) | (have H2_ := (Option.bind_some _ _).symm.trans H; with_reducible exact H2_) | with_reducible exact H | (rw [hy116]; exact H) | exact H
                                  have Ny116 := Aside0.mk hy116
                                  clear hy116
                                  by_cases c46 : x7_2.size + (strOfNums y116).size ≤ 9223372036854775807
                                  · rw [if_pos c46] at H
                                    have c46b0 := eq_true c46
                                    have c46b1 : decide (x7_2.size + (strOfNums y116).size ≤ 9223372036854775807) = true := decide_eq_true c46
                                    try have c46b2 : (9223372036854775807 < x7_2.size + (strOfNums y116).size) = False := eq_false (Nat.not_lt.2 c46)
                                    by_cases c47 : (x7_2 ++ (strOfNums y116)).size + (rdOf ByteArray.empty l1 x23_2).size ≤ 9223372036854775807
                                    · rw [if_pos c47] at H
                                      have c47b0 := eq_true c47
                                      have c47b1 : decide ((x7_2 ++ (strOfNums y116)).size + (rdOf ByteArray.empty l1 x23_2).size ≤ 9223372036854775807) = true := decide_eq_true c47
                                      try have c47b2 : (9223372036854775807 < (x7_2 ++ (strOfNums y116)).size + (rdOf ByteArray.empty l1 x23_2).size) = False := eq_false (Nat.not_lt.2 c47)
                                      have H' := Aside0.mk H
                                      clear H
                                      go_wp2_with (first | ((with_reducible refine gate_dst (N := 80) rfl ?_); (try (refine gate_guard (by rfl) ?_; dsimp only)); refine Kd.R_lit (Kd.int .u8) _ 5 ?hg (N := 80) ?hd (xs := ([46] : List Int)) (inner := [.int .u8 46]) (ok := fun _ => True) (okp := fun _ => True) ?hr ?hp (fun _ hk => hk) trivial (Below.refl _ _) (Nat.le_refl _) (by simp) ?_; (case hd => rfl); (case hg => rfl); (case hr => first | (go_simp; done) | (go_simp; rfl)); (case hp => exact (Reps.one (show Kd.M (Kd.int .u8) _ _ _ 46 [.int .u8 46] from rfl) (Reps.none _ _))); intro v117 w48 ho49 hb hg_ hnew_; clear hg_ hnew_; (first | rw [← Ny116.out] at ho49 | (simp only [Int.reduceToNat] at ho49; rw [← Ny116.out] at ho49)); have n0_ := Aside0.mk (Kd.R_lower ho49 (below_size (by repeat (first | (with_reducible first | exact HB.out | apply below_alloc | apply pw_below_drewN | apply below_drew1) | exact HB.out)))); have n1_ := Aside0.mk (below_step (by repeat (first | (with_reducible first | exact HB.out | apply below_alloc | apply pw_below_drewN | apply below_drew1) | exact HB.out)) hb); clear HB; have HO118 := n0_; have HB := n1_; clear n0_ n1_; clear hb ho49; have hcv50 := own_string (P := Tryd.prog) Tryd.underlying28 Tryd.underlying5 Tryd.underlying9 (Kd.own_of_R HO118.out)))
                                      go_roundg k4
                                      case measure => have := HJ3.out; have := HK2.out; have := HJ10.out; have := HK4.out; omega
                                      case rel => exact ⟨((x7_2 ++ (strOfNums y116)) ++ (rdOf ByteArray.empty l1 x23_2)), (wrap64 (x23_2 + 1)), (by first | rfl | (simp; done) | (simp [*]; done) | (simp [xt_ne_nil]; done)), (by first | rfl | (simp; done) | (simp [*]; done) | (simp [xt_ne_nil]; done)), H', ⟨by have := HJ3.out; have := HK2.out; have := HJ10.out; have := HK4.out; omega⟩, ⟨by repeat (first | (with_reducible first | exact HB.out | apply below_alloc | apply pw_below_drewN | apply below_drew1) | exact HB.out)⟩⟩
                                    · rw [if_neg c47] at H
                                      exact absurd H (by simp)
                                  · rw [if_neg c46] at H
                                    exact absurd H (by simp)
                              · rw [if_neg c32] at H
                                have c32b0 : decide (0 < x23_2) = false := decide_eq_false c32
                                clear c32
                                by_cases c51 : x7_2.size + (rdOf ByteArray.empty l1 x23_2).size ≤ 9223372036854775807
                                · rw [if_pos c51] at H
                                  have c51b0 := eq_true c51
                                  have c51b1 : decide (x7_2.size + (rdOf ByteArray.empty l1 x23_2).size ≤ 9223372036854775807) = true := decide_eq_true c51
                                  try have c51b2 : (9223372036854775807 < x7_2.size + (rdOf ByteArray.empty l1 x23_2).size) = False := eq_false (Nat.not_lt.2 c51)
                                  have H' := Aside0.mk H
                                  clear H
                                  go_wp2
                                  go_roundg k4
                                  case measure => have := HJ3.out; have := HK2.out; have := HJ10.out; have := HK4.out; omega
                                  case rel => exact ⟨(x7_2 ++ (rdOf ByteArray.empty l1 x23_2)), (wrap64 (x23_2 + 1)), (by first | rfl | (simp; done) | (simp [*]; done) | (simp [xt_ne_nil]; done)), (by first | rfl | (simp; done) | (simp [*]; done) | (simp [xt_ne_nil]; done)), H', ⟨by have := HJ3.out; have := HK2.out; have := HJ10.out; have := HK4.out; omega⟩, ⟨by repeat (first | (with_reducible first | exact HB.out | apply below_alloc | apply pw_below_drewN | apply below_drew1) | exact HB.out)⟩⟩
                                · rw [if_neg c51] at H
                                  exact absurd H (by simp)
                · rw [if_neg c10] at H
                  exact absurd H (by simp)
              · rw [if_neg c9] at H
                exact absurd H (by simp)
            · rw [if_neg c8] at H
              have c8b0 : decide (x23_2 < (l1.length : Int)) = false := decide_eq_false c8
              clear c8
              replace H := Option.bind_eq_some_iff.mp H
              obtain ⟨t104, A520, H⟩ := H
              replace H : (if t104.toList = x7_2.toList then ((impl_NameDecode.f a0 x7_2).bind fun t105 => (if t105.toList = x7_2.toList then ((impl_NameEncode.f a0 (⟨#[120]⟩ : ByteArray)).bind fun t106 => (some (t106.toList == ([120] : List UInt8)))) else (some false))) else (some false)) = some r := H
              have A52 := Aside0.mk A520
              clear A520
              by_cases c53 : t104.toList = x7_2.toList
              · rw [if_pos c53] at H
                have c53b0 : (t104.toList == x7_2.toList) = true := beq_iff_eq.mpr c53
                have c53b1 : (t104.toList != x7_2.toList) = false := bne_eq_false_iff_eq.mpr c53
                clear c53
                replace H := Option.bind_eq_some_iff.mp H
                obtain ⟨t105, A540, H⟩ := H
                replace H : (if t105.toList = x7_2.toList then ((impl_NameEncode.f a0 (⟨#[120]⟩ : ByteArray)).bind fun t106 => (some (t106.toList == ([120] : List UInt8)))) else (some false)) = some r := H
                have A54 := Aside0.mk A540
                clear A540
                by_cases c55 : t105.toList = x7_2.toList
                · rw [if_pos c55] at H
                  have c55b0 : (t105.toList == x7_2.toList) = true := beq_iff_eq.mpr c55
                  have c55b1 : (t105.toList != x7_2.toList) = false := bne_eq_false_iff_eq.mpr c55
                  clear c55
                  replace H := Option.bind_eq_some_iff.mp H
                  obtain ⟨t106, A560, H⟩ := H
                  replace H : (some (t106.toList == ([120] : List UInt8))) = some r := H
                  have A56 := Aside0.mk A560
                  clear A560
                  obtain rfl := Option.some.inj H
                  go_wp2_with (first | ((with_reducible refine gate_callee (f := 14) rfl ?_); refine goesL_ (some 89) rfl rfl Tryd.func14 (by kernel_rfl) rfl #[.int .u64 a0, .string x7_2] rfl (by (try simp only [List.map_toArray, List.map_cons, List.map_nil]); first | done | rfl | (simp only [List.length_drop, List.length_take]; rfl)) ?_; (with_reducible refine (impl_NameEncode.calls a0 x7_2 t104 _ ?glob A52.out).mono ?_); (case glob => exact Glob.below HGL.out (by repeat (first | (with_reducible first | exact HB.out | apply below_alloc | apply pw_below_drewN | apply below_drew1) | exact HB.out))); rintro e w57 ⟨rfl, hb⟩; refine ⟨_, rfl, ?_⟩; have n0_ := Aside0.mk (below_step (by repeat (first | (with_reducible first | exact HB.out | apply below_alloc | apply pw_below_drewN | apply below_drew1) | exact HB.out)) hb); clear HB; have HB := n0_; clear n0_; (try clear hb); (try clear hb2); (try clear hk); (try clear hi)) | (go_at_call 16; (with_reducible refine (impl_NameDecode.calls a0 x7_2 t105 _ ?glob A54.out).mono ?_); (case glob => exact Glob.below HGL.out (by repeat (first | (with_reducible first | exact HB.out | apply below_alloc | apply pw_below_drewN | apply below_drew1) | exact HB.out))); rintro e w58 ⟨rfl, hb⟩; have n0_ := Aside0.mk (below_step (by repeat (first | (with_reducible first | exact HB.out | apply below_alloc | apply pw_below_drewN | apply below_drew1) | exact HB.out)) hb); clear HB; have HB := n0_; clear n0_; (try clear hb); (try clear hb2); (try clear hk); (try clear hi)) | (go_at_call 14; (with_reducible refine (impl_NameEncode.calls a0 (⟨#[120]⟩ : ByteArray) t106 _ ?glob A56.out).mono ?_); (case glob => exact Glob.below HGL.out (by repeat (first | (with_reducible first | exact HB.out | apply below_alloc | apply pw_below_drewN | apply below_drew1) | exact HB.out))); rintro e w59 ⟨rfl, hb⟩; have n0_ := Aside0.mk (below_step (by repeat (first | (with_reducible first | exact HB.out | apply below_alloc | apply pw_below_drewN | apply below_drew1) | exact HB.out)) hb); clear HB; have HB := n0_; clear n0_; (try clear hb); (try clear hb2); (try clear hk); (try clear hi)))
                  go_ret
                  exact ⟨by first | rfl | (simp [errW_none, errW_some] <;> rfl) | (simp [*, errW_none, errW_some] <;> rfl), by repeat (first | (with_reducible first | exact HB.out | apply below_alloc | apply pw_below_drewN | apply below_drew1) | exact HB.out)⟩
                · rw [if_neg c55] at H
                  have c55b0 : (t105.toList == x7_2.toList) = false := beq_eq_false_iff_ne.mpr c55
                  have c55b1 : (t105.toList != x7_2.toList) = true := bne_iff_ne.mpr c55
                  obtain rfl := Option.some.inj H
                  go_wp2_with (first | ((with_reducible refine gate_callee (f := 14) rfl ?_); refine goesL_ (some 89) rfl rfl Tryd.func14 (by kernel_rfl) rfl #[.int .u64 a0, .string x7_2] rfl (by (try simp only [List.map_toArray, List.map_cons, List.map_nil]); first | done | rfl | (simp only [List.length_drop, List.length_take]; rfl)) ?_; (with_reducible refine (impl_NameEncode.calls a0 x7_2 t104 _ ?glob A52.out).mono ?_); (case glob => exact Glob.below HGL.out (by repeat (first | (with_reducible first | exact HB.out | apply below_alloc | apply pw_below_drewN | apply below_drew1) | exact HB.out))); rintro e w60 ⟨rfl, hb⟩; refine ⟨_, rfl, ?_⟩; have n0_ := Aside0.mk (below_step (by repeat (first | (with_reducible first | exact HB.out | apply below_alloc | apply pw_below_drewN | apply below_drew1) | exact HB.out)) hb); clear HB; have HB := n0_; clear n0_; (try clear hb); (try clear hb2); (try clear hk); (try clear hi)) | (go_at_call 16; (with_reducible refine (impl_NameDecode.calls a0 x7_2 t105 _ ?glob A54.out).mono ?_); (case glob => exact Glob.below HGL.out (by repeat (first | (with_reducible first | exact HB.out | apply below_alloc | apply pw_below_drewN | apply below_drew1) | exact HB.out))); rintro e w61 ⟨rfl, hb⟩; have n0_ := Aside0.mk (below_step (by repeat (first | (with_reducible first | exact HB.out | apply below_alloc | apply pw_below_drewN | apply below_drew1) | exact HB.out)) hb); clear HB; have HB := n0_; clear n0_; (try clear hb); (try clear hb2); (try clear hk); (try clear hi)))
                  go_ret
                  exact ⟨by first | rfl | (simp [errW_none, errW_some] <;> rfl) | (simp [*, errW_none, errW_some] <;> rfl), by repeat (first | (with_reducible first | exact HB.out | apply below_alloc | apply pw_below_drewN | apply below_drew1) | exact HB.out)⟩
              · rw [if_neg c53] at H
                have c53b0 : (t104.toList == x7_2.toList) = false := beq_eq_false_iff_ne.mpr c53
                have c53b1 : (t104.toList != x7_2.toList) = true := bne_iff_ne.mpr c53
                obtain rfl := Option.some.inj H
                go_wp2_with (first | ((with_reducible refine gate_callee (f := 14) rfl ?_); refine goesL_ (some 89) rfl rfl Tryd.func14 (by kernel_rfl) rfl #[.int .u64 a0, .string x7_2] rfl (by (try simp only [List.map_toArray, List.map_cons, List.map_nil]); first | done | rfl | (simp only [List.length_drop, List.length_take]; rfl)) ?_; (with_reducible refine (impl_NameEncode.calls a0 x7_2 t104 _ ?glob A52.out).mono ?_); (case glob => exact Glob.below HGL.out (by repeat (first | (with_reducible first | exact HB.out | apply below_alloc | apply pw_below_drewN | apply below_drew1) | exact HB.out))); rintro e w62 ⟨rfl, hb⟩; refine ⟨_, rfl, ?_⟩; have n0_ := Aside0.mk (below_step (by repeat (first | (with_reducible first | exact HB.out | apply below_alloc | apply pw_below_drewN | apply below_drew1) | exact HB.out)) hb); clear HB; have HB := n0_; clear n0_; (try clear hb); (try clear hb2); (try clear hk); (try clear hi)))
                go_ret
                exact ⟨by first | rfl | (simp [errW_none, errW_some] <;> rfl) | (simp [*, errW_none, errW_some] <;> rfl), by repeat (first | (with_reducible first | exact HB.out | apply below_alloc | apply pw_below_drewN | apply below_drew1) | exact HB.out)⟩

end Go.Proofs.YtlgoghonnnobfaaDoor.PFnNameLetters

-- Written by a program of this session's (over the kit's print), with contracts proved by hand among what it calls.
import Derived.Test.YtlgoghonnnobfaaDoorProg
import Derived.Below
import Derived.Deep.Draws
import Derived.Deep.AppendLies
import Derived.Maps.AppendAt
import Derived.OwnWalk
import Derived.Laws.BytesArg
import Derived.Laws.MakeOwn
import Derived.Laws.OwnMore
import Derived.Deep.OwnRows
import Derived.Tactics
import Derived.Lib.ConvBytes
import Derived.Laws.Slices
import Derived.WalkKit
import Derived.KernelRfl
import Derived.RowKit3
import Derived.Deep.LoopGhost
import Derived.Deep.QuietTactic
import Derived.BigQuiet
import Derived.WideLaws
import Derived.Deep.DeepCutAuto
import Derived.Deep.CutBlock
import Derived.Deep.RegionHeld3
import Derived.Laws.Rows
import Derived.Lib.AppendStr
import Derived.ArgAppend
import Derived.Laws.IdiomCopy
import Derived.OrdersHeld
import Derived.Laws.BitsLemmas
import Derived.RowKit
import Derived.Lib.Hide

import Derived.Test.YtlgoghonnnobfaaDoorWWords
import Derived.Test.YtlgoghonnnobfaaDoorWLast
import Derived.Test.YtlgoghonnnobfaaDoorWTab
import Derived.Test.YtlgoghonnnobfaaDoorWFour
import Derived.Test.YtlgoghonnnobfaaDoorWQPut
import Derived.Test.YtlgoghonnnobfaaDoorWApart
import Derived.Test.YtlgoghonnnobfaaDoorWArr
import Derived.Test.YtlgoghonnnobfaaDoorWZeros
import Derived.Test.YtlgoghonnnobfaaDoorWFoot
import Derived.Test.YtlgoghonnnobfaaDoorWKept
import Derived.Test.YtlgoghonnnobfaaDoorWShare
import Derived.Test.YtlgoghonnnobfaaDoorWN
import Derived.Test.YtlgoghonnnobfaaDoorWFootNe
import Derived.Test.YtlgoghonnnobfaaDoorWAt
import Derived.Test.YtlgoghonnnobfaaDoorWEqStruct
import Derived.Test.YtlgoghonnnobfaaDoorWRepsOne
import Derived.Test.YtlgoghonnnobfaaDoorWInv
import Derived.Test.YtlgoghonnnobfaaDoorWInvWords
import Derived.Test.YtlgoghonnnobfaaDoorWGuard
import Derived.Test.YtlgoghonnnobfaaDoorWNEv
import Derived.Test.YtlgoghonnnobfaaDoorWMore
namespace Go.Proofs.YtlgoghonnnobfaaDoor.Sfn
open Go.RowKit Go.Proofs.YtlgoghonnnobfaaDoorW.PrintWords Go.Proofs.YtlgoghonnnobfaaDoorW.PrintLast Go.Proofs.YtlgoghonnnobfaaDoorW.PrintMore
attribute [local go_sem] max2_int min2_int max_two min_two max_three min_three max_four min_four   -- for this text's walks alone
set_option linter.unusedVariables false
set_option linter.unusedSimpArgs false



def errW : Option Int → Value
  | none => .nilIface
  | some c => .iface 0 (.int .i64 c)
theorem errW_none : errW none = .nilIface := rfl
theorem errW_some (c : Int) : errW (some c) = .iface 0 (.int .i64 c) := rfl

theorem xt_ne_nil (l : List UInt8) : (l != ([] : List UInt8)) = !l.isEmpty := by cases l <;> rfl
theorem info5 : (Tryd.prog.info? 5).map (fun i => (i.zero, i.size, i.bytes)) = some (some (.int .u8 0), 1, 1) := by kernel_rfl
-- the values' own types
/-! #### struct type 37 -/
structure S37 where
  f0 : ByteArray
  f1 : Int
  f2 : Bool
def z37 : S37 := ⟨(⟨#[]⟩ : ByteArray), (0 : Int), false⟩
def k37 : Kd S37 := Kd.iso (Kd.pair Kd.string (Kd.pair (Kd.int .i32) Kd.bool)) (fun x : S37 => (x.f0, x.f1, x.f2))
theorem k37_open {w : World} {x : S37} {cs : List Value} (h : k37.K w x cs) : cs = [.string x.f0, .int .i32 x.f1, .bool x.f2] := by
  obtain ⟨_, _, rfl, rfl, ⟨_, _, rfl, rfl, rfl⟩⟩ := h
  exact rfl
theorem k37_openM {w : World} {base : Nat} {ok : Nat → Prop} {x : S37} {cs : List Value} (h : k37.M w base ok x cs) : cs = [.string x.f0, .int .i32 x.f1, .bool x.f2] := by
  obtain ⟨_, _, rfl, rfl, ⟨_, _, rfl, rfl, rfl⟩⟩ := h
  exact rfl
theorem k37_mk (w : World) (x : S37)  : k37.K w x [.string x.f0, .int .i32 x.f1, .bool x.f2] := ⟨[.string x.f0], [.int .i32 x.f1, .bool x.f2], rfl, rfl, ⟨[.int .i32 x.f1], [.bool x.f2], rfl, rfl, rfl⟩⟩
theorem k37_mkM (w : World) (base : Nat) (ok : Nat → Prop) (x : S37)  : k37.M w base ok x [.string x.f0, .int .i32 x.f1, .bool x.f2] := ⟨[.string x.f0], [.int .i32 x.f1, .bool x.f2], rfl, rfl, ⟨[.int .i32 x.f1], [.bool x.f2], rfl, rfl, rfl⟩⟩
def rd_T37 (xs : List S37) (i : Int) : S37 := xs.getD i.toNat z37
theorem at_T37 {w : World} {A : Option Addr} {n : Nat} {xs : List S37} (h : Kd.C k37 w A n xs) (i : Int) (h0 : 0 ≤ i) (h1 : i < n) : ∃ ad , A = some ad ∧ w.cell? (ad.add (i.toNat * 3)) = some (.string (rd_T37 xs i).f0) ∧ w.cell? ⟨(ad.add (i.toNat * 3)).block, (ad.add (i.toNat * 3)).off + 1, none⟩ = some (.int .i32 (rd_T37 xs i).f1) ∧ w.cell? ⟨(ad.add (i.toNat * 3)).block, (ad.add (i.toNat * 3)).off + 2, none⟩ = some (.bool (rd_T37 xs i).f2) := by
  obtain ⟨ad, c, e, _, hK, hc0⟩ := Kd.C_get h z37 i h0 h1
  have hc : ∀ j u, c[j]? = some u → w.cell? (ad.add (i.toNat * 3 + j)) = some u := hc0
  obtain rfl := k37_open hK
  exact ⟨ad, e, hc 0 _ rfl, by rw [← add_field _ _ 1 (by omega)]; exact hc 1 _ rfl, by rw [← add_field _ _ 2 (by omega)]; exact hc 2 _ rfl⟩

/-! ### spec_bit: function 39 -/
mutual
def spec_bit.j0 : Nat → Int → Int → Bool → Option (Int)
  | 0, _, _, _ => none
  | k + 1, x0, x3, x6 => if x6 = true then (some 4) else (if x3 = 34 then (some 8) else (if x3 = 39 then (some 16) else (if x3 = 96 then (some 32) else (if x3 = 36 then (some 64) else (if x3 = 58 then (some 128) else (if x3 = 63 then (some 256) else (if x3 = 42 then (some 512) else (if x3 = 124 then (some 1024) else (if x3 = 35 then (some 2048) else (if x3 = 37 then (some 4096) else (if x3 = 92 then (some 8192) else (if x3 = 91 then (spec_bit.j1 k x0 x3 (x3 == 91)) else (spec_bit.j1 k x0 x3 (x3 == 93))))))))))))))
def spec_bit.j1 : Nat → Int → Int → Bool → Option (Int)
  | 0, _, _, _ => none
  | k + 1, x0, x3, x31 => if x31 = true then (some 67108864) else (if x3 = 59 then (some 134217728) else (if x3 = 33 then (some 268435456) else (if x3 = 127 then (some 32768) else (if x3 = 13 then (spec_bit.j2 k x0 (x3 == 13)) else (spec_bit.j2 k x0 (x3 == 10))))))
def spec_bit.j2 : Nat → Int → Bool → Option (Int)
  | 0, _, _ => none
  | k + 1, x0, x40 => if x40 = true then (some 81920) else (if 0 < x0 then (if x0 < 32 then (some 65536) else (some 0)) else (some 0))
end
def spec_bit.f (k : Nat) (a0 : Int) : Option (Int) := if a0 = 47 then (some 2) else (if a0 = 60 then (spec_bit.j0 k a0 a0 (a0 == 60)) else (spec_bit.j0 k a0 a0 (a0 == 62)))
theorem spec_bit.mono_l : ∀ k, (∀ y0 y1 y2, LeO (spec_bit.j0 k y0 y1 y2) (spec_bit.j0 (k + 1) y0 y1 y2)) ∧ (∀ y0 y1 y2, LeO (spec_bit.j1 k y0 y1 y2) (spec_bit.j1 (k + 1) y0 y1 y2)) ∧ (∀ y0 y1, LeO (spec_bit.j2 k y0 y1) (spec_bit.j2 (k + 1) y0 y1))
  | 0 => ⟨fun _ _ _ r h => by simp [spec_bit.j0] at h, fun _ _ _ r h => by simp [spec_bit.j1] at h, fun _ _ r h => by simp [spec_bit.j2] at h⟩
  | k + 1 => by
    obtain ⟨ih0, ih1, ih2⟩ := spec_bit.mono_l k
    refine ⟨?_, ?_, ?_⟩
    · intro y0 y1 y2
      unfold spec_bit.j0
      repeat' first
      | (with_reducible exact ih0 _ _ _)
      | (with_reducible exact ih1 _ _ _)
      | (with_reducible exact ih2 _ _)
      | (with_reducible exact LeO.refl _)
      | (with_reducible exact LeO.none _)
      | (with_reducible refine LeO.ite ?_ ?_)
      | (with_reducible refine LeO.bind ?_ (fun _ => ?_))
      | exact ih0 _ _ _
      | exact ih1 _ _ _
      | exact ih2 _ _
      | exact LeO.none _
      | refine LeO.ite ?_ ?_
      | refine LeO.bind ?_ (fun _ => ?_)
    · intro y0 y1 y2
      unfold spec_bit.j1
      repeat' first
      | (with_reducible exact ih0 _ _ _)
      | (with_reducible exact ih1 _ _ _)
      | (with_reducible exact ih2 _ _)
      | (with_reducible exact LeO.refl _)
      | (with_reducible exact LeO.none _)
      | (with_reducible refine LeO.ite ?_ ?_)
      | (with_reducible refine LeO.bind ?_ (fun _ => ?_))
      | exact ih0 _ _ _
      | exact ih1 _ _ _
      | exact ih2 _ _
      | exact LeO.none _
      | refine LeO.ite ?_ ?_
      | refine LeO.bind ?_ (fun _ => ?_)
    · intro y0 y1
      unfold spec_bit.j2
      repeat' first
      | (with_reducible exact ih0 _ _ _)
      | (with_reducible exact ih1 _ _ _)
      | (with_reducible exact ih2 _ _)
      | (with_reducible exact LeO.refl _)
      | (with_reducible exact LeO.none _)
      | (with_reducible refine LeO.ite ?_ ?_)
      | (with_reducible refine LeO.bind ?_ (fun _ => ?_))
      | exact ih0 _ _ _
      | exact ih1 _ _ _
      | exact ih2 _ _
      | exact LeO.none _
      | refine LeO.ite ?_ ?_
      | refine LeO.bind ?_ (fun _ => ?_)
theorem spec_bit.mono : ∀ a0 k, LeO (spec_bit.f k a0) (spec_bit.f (k + 1) a0) := by
  intro a0 k
  obtain ⟨ih0, ih1, ih2⟩ := spec_bit.mono_l k
  unfold spec_bit.f
  repeat' first
      | (with_reducible exact ih0 _ _ _)
      | (with_reducible exact ih1 _ _ _)
      | (with_reducible exact ih2 _ _)
      | (with_reducible exact LeO.refl _)
      | (with_reducible exact LeO.none _)
      | (with_reducible refine LeO.ite ?_ ?_)
      | (with_reducible refine LeO.bind ?_ (fun _ => ?_))
      | exact ih0 _ _ _
      | exact ih1 _ _ _
      | exact ih2 _ _
      | exact LeO.none _
      | refine LeO.ite ?_ ?_
      | refine LeO.bind ?_ (fun _ => ?_)
set_option maxHeartbeats 8000000 in
set_option maxRecDepth 100000 in
theorem spec_bit.calls (k : Nat) (a0 : Int) (r : Int) (w : World) (h : spec_bit.f k a0 = some r) :
    Calls Tryd.prog 39 #[.int .i32 a0] w fun e w' => e = .returned (.int .u64 r) ∧ Drawn0 w w' := by
  have H : (if a0 = 47 then (some 2) else (if a0 = 60 then (spec_bit.j0 k a0 a0 (a0 == 60)) else (spec_bit.j0 k a0 a0 (a0 == 62)))) = some r := h
  clear h
  by_cases c2 : a0 = 47
  · rw [if_pos c2] at H
    have c2b0 : (a0 == 47) = true := beq_iff_eq.mpr c2
    have c2b1 : (a0 != 47) = false := bne_eq_false_iff_eq.mpr c2
    clear c2
    obtain rfl := Option.some.inj H
    go_enter Tryd.func39, Tryd.ntmps39
    go_wp2
    go_ret
    exact ⟨by first | rfl | (simp; done) | (simp [*]; done) | (simp [xt_ne_nil]; done), by repeat (first | exact Drawn0.refl _ | apply Drawn0.step)⟩
  · rw [if_neg c2] at H
    have c2b0 : (a0 == 47) = false := beq_eq_false_iff_ne.mpr c2
    have c2b1 : (a0 != 47) = true := bne_iff_ne.mpr c2
    have HC3 := Aside0.mk H
    clear H
    go_enter Tryd.func39, Tryd.ntmps39
    go_upto_if 6 with (fail)
    go_cut [6] (fun v6 wc => ∃ (kq : Nat) (x6_2 : Bool), v6 = .bool x6_2 ∧ Aside0 (spec_bit.j0 kq a0 a0 x6_2 = some r) ∧ Aside0 (kq ≤ k) ∧ Drawn0 w wc)
    case first =>
      have H := HC3.out
      clear HC3
      by_cases c4 : a0 = 60
      · rw [if_pos c4] at H
        have c4b0 : (a0 == 60) = true := beq_iff_eq.mpr c4
        have c4b1 : (a0 != 60) = false := bne_eq_false_iff_eq.mpr c4
        clear c4
        (first | rw [c4b0] | (simp only [i64_w, i32_w]; rw [c4b0]) | skip)
        have H' := Aside0.mk H
        clear H
        go_wp2
        go_meet
        case rel => exact ⟨_, ((a0 == 60)), (by first | rfl | (simp; done) | (simp [*]; done) | (simp [xt_ne_nil]; done)), H', ⟨by first | omega | exact Nat.le_refl _⟩, by repeat (first | exact Drawn0.refl _ | apply Drawn0.step)⟩
      · rw [if_neg c4] at H
        have c4b0 : (a0 == 60) = false := beq_eq_false_iff_ne.mpr c4
        have c4b1 : (a0 != 60) = true := bne_iff_ne.mpr c4
        (first | rw [c4b0] | (simp only [i64_w, i32_w]; rw [c4b0]) | skip)
        have H' := Aside0.mk H
        clear H
        go_wp2
        go_meet
        case rel => exact ⟨_, ((a0 == 62)), (by first | rfl | (simp; done) | (simp [*]; done) | (simp [xt_ne_nil]; done)), H', ⟨by first | omega | exact Nat.le_refl _⟩, by repeat (first | exact Drawn0.refl _ | apply Drawn0.step)⟩
    case rest =>
      clear HC3
      try clear c2
      try clear c2b0
      try clear c2b1
      try clear p2
      try clear c3
      try clear c4
      try clear c4b0
      try clear c4b1
      obtain ⟨kq, x6_2, rfl, HA, HJ2, ⟨mc2, rfl⟩⟩ := hcut
      cases kq with
      | zero => exact absurd HA.out (by simp [spec_bit.j0])
      | succ kj2 =>
        have H := HA.out
        clear HA
        simp only [spec_bit.j0] at H
        by_cases c5 : x6_2 = true
        · subst c5
          have H1 : (some 4) = some r := by rw [if_pos rfl] at H; exact H
          clear H
          have H := H1
          clear H1
          obtain rfl := Option.some.inj H
          go_wp2
          go_ret
          exact ⟨by first | rfl | (simp; done) | (simp [*]; done) | (simp [xt_ne_nil]; done), by repeat (first | exact Drawn0.refl _ | apply Drawn0.step)⟩
        · replace c5 := Bool.eq_false_iff.mpr c5
          subst c5
          have H1 : (if a0 = 34 then (some 8) else (if a0 = 39 then (some 16) else (if a0 = 96 then (some 32) else (if a0 = 36 then (some 64) else (if a0 = 58 then (some 128) else (if a0 = 63 then (some 256) else (if a0 = 42 then (some 512) else (if a0 = 124 then (some 1024) else (if a0 = 35 then (some 2048) else (if a0 = 37 then (some 4096) else (if a0 = 92 then (some 8192) else (if a0 = 91 then (spec_bit.j1 kj2 a0 a0 (a0 == 91)) else (spec_bit.j1 kj2 a0 a0 (a0 == 93)))))))))))))) = some r := by rw [if_neg (show ¬ (false = true) by decide)] at H; exact H
          clear H
          have H := H1
          clear H1
          by_cases c6 : a0 = 34
          · rw [if_pos c6] at H
            have c6b0 : (a0 == 34) = true := beq_iff_eq.mpr c6
            have c6b1 : (a0 != 34) = false := bne_eq_false_iff_eq.mpr c6
            clear c6
            obtain rfl := Option.some.inj H
            go_wp2
            go_ret
            exact ⟨by first | rfl | (simp; done) | (simp [*]; done) | (simp [xt_ne_nil]; done), by repeat (first | exact Drawn0.refl _ | apply Drawn0.step)⟩
          · rw [if_neg c6] at H
            have c6b0 : (a0 == 34) = false := beq_eq_false_iff_ne.mpr c6
            have c6b1 : (a0 != 34) = true := bne_iff_ne.mpr c6
            by_cases c7 : a0 = 39
            · rw [if_pos c7] at H
              have c7b0 : (a0 == 39) = true := beq_iff_eq.mpr c7
              have c7b1 : (a0 != 39) = false := bne_eq_false_iff_eq.mpr c7
              clear c7
              obtain rfl := Option.some.inj H
              go_wp2
              go_ret
              exact ⟨by first | rfl | (simp; done) | (simp [*]; done) | (simp [xt_ne_nil]; done), by repeat (first | exact Drawn0.refl _ | apply Drawn0.step)⟩
            · rw [if_neg c7] at H
              have c7b0 : (a0 == 39) = false := beq_eq_false_iff_ne.mpr c7
              have c7b1 : (a0 != 39) = true := bne_iff_ne.mpr c7
              by_cases c8 : a0 = 96
              · rw [if_pos c8] at H
                have c8b0 : (a0 == 96) = true := beq_iff_eq.mpr c8
                have c8b1 : (a0 != 96) = false := bne_eq_false_iff_eq.mpr c8
                clear c8
                obtain rfl := Option.some.inj H
                go_wp2
                go_ret
                exact ⟨by first | rfl | (simp; done) | (simp [*]; done) | (simp [xt_ne_nil]; done), by repeat (first | exact Drawn0.refl _ | apply Drawn0.step)⟩
              · rw [if_neg c8] at H
                have c8b0 : (a0 == 96) = false := beq_eq_false_iff_ne.mpr c8
                have c8b1 : (a0 != 96) = true := bne_iff_ne.mpr c8
                by_cases c9 : a0 = 36
                · rw [if_pos c9] at H
                  have c9b0 : (a0 == 36) = true := beq_iff_eq.mpr c9
                  have c9b1 : (a0 != 36) = false := bne_eq_false_iff_eq.mpr c9
                  clear c9
                  obtain rfl := Option.some.inj H
                  go_wp2
                  go_ret
                  exact ⟨by first | rfl | (simp; done) | (simp [*]; done) | (simp [xt_ne_nil]; done), by repeat (first | exact Drawn0.refl _ | apply Drawn0.step)⟩
                · rw [if_neg c9] at H
                  have c9b0 : (a0 == 36) = false := beq_eq_false_iff_ne.mpr c9
                  have c9b1 : (a0 != 36) = true := bne_iff_ne.mpr c9
                  by_cases c10 : a0 = 58
                  · rw [if_pos c10] at H
                    have c10b0 : (a0 == 58) = true := beq_iff_eq.mpr c10
                    have c10b1 : (a0 != 58) = false := bne_eq_false_iff_eq.mpr c10
                    clear c10
                    obtain rfl := Option.some.inj H
                    go_wp2
                    go_ret
                    exact ⟨by first | rfl | (simp; done) | (simp [*]; done) | (simp [xt_ne_nil]; done), by repeat (first | exact Drawn0.refl _ | apply Drawn0.step)⟩
                  · rw [if_neg c10] at H
                    have c10b0 : (a0 == 58) = false := beq_eq_false_iff_ne.mpr c10
                    have c10b1 : (a0 != 58) = true := bne_iff_ne.mpr c10
                    by_cases c11 : a0 = 63
                    · rw [if_pos c11] at H
                      have c11b0 : (a0 == 63) = true := beq_iff_eq.mpr c11
                      have c11b1 : (a0 != 63) = false := bne_eq_false_iff_eq.mpr c11
                      clear c11
                      obtain rfl := Option.some.inj H
                      go_wp2
                      go_ret
                      exact ⟨by first | rfl | (simp; done) | (simp [*]; done) | (simp [xt_ne_nil]; done), by repeat (first | exact Drawn0.refl _ | apply Drawn0.step)⟩
                    · rw [if_neg c11] at H
                      have c11b0 : (a0 == 63) = false := beq_eq_false_iff_ne.mpr c11
                      have c11b1 : (a0 != 63) = true := bne_iff_ne.mpr c11
                      by_cases c12 : a0 = 42
                      · rw [if_pos c12] at H
                        have c12b0 : (a0 == 42) = true := beq_iff_eq.mpr c12
                        have c12b1 : (a0 != 42) = false := bne_eq_false_iff_eq.mpr c12
                        clear c12
                        obtain rfl := Option.some.inj H
                        go_wp2
                        go_ret
                        exact ⟨by first | rfl | (simp; done) | (simp [*]; done) | (simp [xt_ne_nil]; done), by repeat (first | exact Drawn0.refl _ | apply Drawn0.step)⟩
                      · rw [if_neg c12] at H
                        have c12b0 : (a0 == 42) = false := beq_eq_false_iff_ne.mpr c12
                        have c12b1 : (a0 != 42) = true := bne_iff_ne.mpr c12
                        by_cases c13 : a0 = 124
                        · rw [if_pos c13] at H
                          have c13b0 : (a0 == 124) = true := beq_iff_eq.mpr c13
                          have c13b1 : (a0 != 124) = false := bne_eq_false_iff_eq.mpr c13
                          clear c13
                          obtain rfl := Option.some.inj H
                          go_wp2
                          go_ret
                          exact ⟨by first | rfl | (simp; done) | (simp [*]; done) | (simp [xt_ne_nil]; done), by repeat (first | exact Drawn0.refl _ | apply Drawn0.step)⟩
                        · rw [if_neg c13] at H
                          have c13b0 : (a0 == 124) = false := beq_eq_false_iff_ne.mpr c13
                          have c13b1 : (a0 != 124) = true := bne_iff_ne.mpr c13
                          by_cases c14 : a0 = 35
                          · rw [if_pos c14] at H
                            have c14b0 : (a0 == 35) = true := beq_iff_eq.mpr c14
                            have c14b1 : (a0 != 35) = false := bne_eq_false_iff_eq.mpr c14
                            clear c14
                            obtain rfl := Option.some.inj H
                            go_wp2
                            go_ret
                            exact ⟨by first | rfl | (simp; done) | (simp [*]; done) | (simp [xt_ne_nil]; done), by repeat (first | exact Drawn0.refl _ | apply Drawn0.step)⟩
                          · rw [if_neg c14] at H
                            have c14b0 : (a0 == 35) = false := beq_eq_false_iff_ne.mpr c14
                            have c14b1 : (a0 != 35) = true := bne_iff_ne.mpr c14
                            by_cases c15 : a0 = 37
                            · rw [if_pos c15] at H
                              have c15b0 : (a0 == 37) = true := beq_iff_eq.mpr c15
                              have c15b1 : (a0 != 37) = false := bne_eq_false_iff_eq.mpr c15
                              clear c15
                              obtain rfl := Option.some.inj H
                              go_wp2
                              go_ret
                              exact ⟨by first | rfl | (simp; done) | (simp [*]; done) | (simp [xt_ne_nil]; done), by repeat (first | exact Drawn0.refl _ | apply Drawn0.step)⟩
                            · rw [if_neg c15] at H
                              have c15b0 : (a0 == 37) = false := beq_eq_false_iff_ne.mpr c15
                              have c15b1 : (a0 != 37) = true := bne_iff_ne.mpr c15
                              by_cases c16 : a0 = 92
                              · rw [if_pos c16] at H
                                have c16b0 : (a0 == 92) = true := beq_iff_eq.mpr c16
                                have c16b1 : (a0 != 92) = false := bne_eq_false_iff_eq.mpr c16
                                clear c16
                                obtain rfl := Option.some.inj H
                                go_wp2
                                go_ret
                                exact ⟨by first | rfl | (simp; done) | (simp [*]; done) | (simp [xt_ne_nil]; done), by repeat (first | exact Drawn0.refl _ | apply Drawn0.step)⟩
                              · rw [if_neg c16] at H
                                have c16b0 : (a0 == 92) = false := beq_eq_false_iff_ne.mpr c16
                                have c16b1 : (a0 != 92) = true := bne_iff_ne.mpr c16
                                have HC17 := Aside0.mk H
                                clear H
                                go_upto_if 31 with (fail)
                                go_cut [31] (fun v31 wc => ∃ (kq : Nat) (x31_16 : Bool), v31 = .bool x31_16 ∧ Aside0 (spec_bit.j1 kq a0 a0 x31_16 = some r) ∧ Aside0 (kq ≤ kj2) ∧ Drawn0 w wc)
                                case first =>
                                  have H := HC17.out
                                  clear HC17
                                  by_cases c18 : a0 = 91
                                  · rw [if_pos c18] at H
                                    have c18b0 : (a0 == 91) = true := beq_iff_eq.mpr c18
                                    have c18b1 : (a0 != 91) = false := bne_eq_false_iff_eq.mpr c18
                                    clear c18
                                    (first | rw [c18b0] | (simp only [i64_w, i32_w]; rw [c18b0]) | skip)
                                    have H' := Aside0.mk H
                                    clear H
                                    go_wp2
                                    go_meet
                                    case rel => exact ⟨_, ((a0 == 91)), (by first | rfl | (simp; done) | (simp [*]; done) | (simp [xt_ne_nil]; done)), H', ⟨by have := HJ2.out; first | omega | exact Nat.le_refl _⟩, by repeat (first | exact Drawn0.refl _ | apply Drawn0.step)⟩
                                  · rw [if_neg c18] at H
                                    have c18b0 : (a0 == 91) = false := beq_eq_false_iff_ne.mpr c18
                                    have c18b1 : (a0 != 91) = true := bne_iff_ne.mpr c18
                                    (first | rw [c18b0] | (simp only [i64_w, i32_w]; rw [c18b0]) | skip)
                                    have H' := Aside0.mk H
                                    clear H
                                    go_wp2
                                    go_meet
                                    case rel => exact ⟨_, ((a0 == 93)), (by first | rfl | (simp; done) | (simp [*]; done) | (simp [xt_ne_nil]; done)), H', ⟨by have := HJ2.out; first | omega | exact Nat.le_refl _⟩, by repeat (first | exact Drawn0.refl _ | apply Drawn0.step)⟩
                                case rest =>
                                  clear HC17
                                  try clear c1
                                  try clear c2
                                  try clear c2b0
                                  try clear c2b1
                                  try clear p2
                                  try clear c3
                                  try clear c4
                                  try clear c4b0
                                  try clear c4b1
                                  try clear c5
                                  try clear c6
                                  try clear c6b0
                                  try clear c6b1
                                  try clear c7
                                  try clear c7b0
                                  try clear c7b1
                                  try clear c8
                                  try clear c8b0
                                  try clear c8b1
                                  try clear c9
                                  try clear c9b0
                                  try clear c9b1
                                  try clear c10
                                  try clear c10b0
                                  try clear c10b1
                                  try clear c11
                                  try clear c11b0
                                  try clear c11b1
                                  try clear c12
                                  try clear c12b0
                                  try clear c12b1
                                  try clear c13
                                  try clear c13b0
                                  try clear c13b1
                                  try clear c14
                                  try clear c14b0
                                  try clear c14b1
                                  try clear c15
                                  try clear c15b0
                                  try clear c15b1
                                  try clear c16
                                  try clear c16b0
                                  try clear c16b1
                                  try clear c18
                                  try clear c18b0
                                  try clear c18b1
                                  try clear p2
                                  obtain ⟨kq, x31_16, rfl, HA, HJ16, ⟨mc16, rfl⟩⟩ := hcut
                                  cases kq with
                                  | zero => exact absurd HA.out (by simp [spec_bit.j1])
                                  | succ kj16 =>
                                    have H := HA.out
                                    clear HA
                                    simp only [spec_bit.j1] at H
                                    by_cases c19 : x31_16 = true
                                    · subst c19
                                      have H1 : (some 67108864) = some r := by rw [if_pos rfl] at H; exact H
                                      clear H
                                      have H := H1
                                      clear H1
                                      obtain rfl := Option.some.inj H
                                      go_wp2
                                      go_ret
                                      exact ⟨by first | rfl | (simp; done) | (simp [*]; done) | (simp [xt_ne_nil]; done), by repeat (first | exact Drawn0.refl _ | apply Drawn0.step)⟩
                                    · replace c19 := Bool.eq_false_iff.mpr c19
                                      subst c19
                                      have H1 : (if a0 = 59 then (some 134217728) else (if a0 = 33 then (some 268435456) else (if a0 = 127 then (some 32768) else (if a0 = 13 then (spec_bit.j2 kj16 a0 (a0 == 13)) else (spec_bit.j2 kj16 a0 (a0 == 10)))))) = some r := by rw [if_neg (show ¬ (false = true) by decide)] at H; exact H
                                      clear H
                                      have H := H1
                                      clear H1
                                      by_cases c20 : a0 = 59
                                      · rw [if_pos c20] at H
                                        have c20b0 : (a0 == 59) = true := beq_iff_eq.mpr c20
                                        have c20b1 : (a0 != 59) = false := bne_eq_false_iff_eq.mpr c20
                                        clear c20
                                        obtain rfl := Option.some.inj H
                                        go_wp2
                                        go_ret
                                        exact ⟨by first | rfl | (simp; done) | (simp [*]; done) | (simp [xt_ne_nil]; done), by repeat (first | exact Drawn0.refl _ | apply Drawn0.step)⟩
                                      · rw [if_neg c20] at H
                                        have c20b0 : (a0 == 59) = false := beq_eq_false_iff_ne.mpr c20
                                        have c20b1 : (a0 != 59) = true := bne_iff_ne.mpr c20
                                        by_cases c21 : a0 = 33
                                        · rw [if_pos c21] at H
                                          have c21b0 : (a0 == 33) = true := beq_iff_eq.mpr c21
                                          have c21b1 : (a0 != 33) = false := bne_eq_false_iff_eq.mpr c21
                                          clear c21
                                          obtain rfl := Option.some.inj H
                                          go_wp2
                                          go_ret
                                          exact ⟨by first | rfl | (simp; done) | (simp [*]; done) | (simp [xt_ne_nil]; done), by repeat (first | exact Drawn0.refl _ | apply Drawn0.step)⟩
                                        · rw [if_neg c21] at H
                                          have c21b0 : (a0 == 33) = false := beq_eq_false_iff_ne.mpr c21
                                          have c21b1 : (a0 != 33) = true := bne_iff_ne.mpr c21
                                          by_cases c22 : a0 = 127
                                          · rw [if_pos c22] at H
                                            have c22b0 : (a0 == 127) = true := beq_iff_eq.mpr c22
                                            have c22b1 : (a0 != 127) = false := bne_eq_false_iff_eq.mpr c22
                                            clear c22
                                            obtain rfl := Option.some.inj H
                                            go_wp2
                                            go_ret
                                            exact ⟨by first | rfl | (simp; done) | (simp [*]; done) | (simp [xt_ne_nil]; done), by repeat (first | exact Drawn0.refl _ | apply Drawn0.step)⟩
                                          · rw [if_neg c22] at H
                                            have c22b0 : (a0 == 127) = false := beq_eq_false_iff_ne.mpr c22
                                            have c22b1 : (a0 != 127) = true := bne_iff_ne.mpr c22
                                            have HC23 := Aside0.mk H
                                            clear H
                                            go_upto_if 40 with (fail)
                                            go_cut [40] (fun v40 wc => ∃ (kq : Nat) (x40_22 : Bool), v40 = .bool x40_22 ∧ Aside0 (spec_bit.j2 kq a0 x40_22 = some r) ∧ Aside0 (kq ≤ kj16) ∧ Drawn0 w wc)
                                            case first =>
                                              have H := HC23.out
                                              clear HC23
                                              by_cases c24 : a0 = 13
                                              · rw [if_pos c24] at H
                                                have c24b0 : (a0 == 13) = true := beq_iff_eq.mpr c24
                                                have c24b1 : (a0 != 13) = false := bne_eq_false_iff_eq.mpr c24
                                                clear c24
                                                (first | rw [c24b0] | (simp only [i64_w, i32_w]; rw [c24b0]) | skip)
                                                have H' := Aside0.mk H
                                                clear H
                                                go_wp2
                                                go_meet
                                                case rel => exact ⟨_, ((a0 == 13)), (by first | rfl | (simp; done) | (simp [*]; done) | (simp [xt_ne_nil]; done)), H', ⟨by have := HJ2.out; have := HJ16.out; first | omega | exact Nat.le_refl _⟩, by repeat (first | exact Drawn0.refl _ | apply Drawn0.step)⟩
                                              · rw [if_neg c24] at H
                                                have c24b0 : (a0 == 13) = false := beq_eq_false_iff_ne.mpr c24
                                                have c24b1 : (a0 != 13) = true := bne_iff_ne.mpr c24
                                                (first | rw [c24b0] | (simp only [i64_w, i32_w]; rw [c24b0]) | skip)
                                                have H' := Aside0.mk H
                                                clear H
                                                go_wp2
                                                go_meet
                                                case rel => exact ⟨_, ((a0 == 10)), (by first | rfl | (simp; done) | (simp [*]; done) | (simp [xt_ne_nil]; done)), H', ⟨by have := HJ2.out; have := HJ16.out; first | omega | exact Nat.le_refl _⟩, by repeat (first | exact Drawn0.refl _ | apply Drawn0.step)⟩
                                            case rest =>
                                              clear HC23
                                              try clear c1
                                              try clear c2
                                              try clear c2b0
                                              try clear c2b1
                                              try clear p2
                                              try clear c3
                                              try clear c4
                                              try clear c4b0
                                              try clear c4b1
                                              try clear c5
                                              try clear c6
                                              try clear c6b0
                                              try clear c6b1
                                              try clear c7
                                              try clear c7b0
                                              try clear c7b1
                                              try clear c8
                                              try clear c8b0
                                              try clear c8b1
                                              try clear c9
                                              try clear c9b0
                                              try clear c9b1
                                              try clear c10
                                              try clear c10b0
                                              try clear c10b1
                                              try clear c11
                                              try clear c11b0
                                              try clear c11b1
                                              try clear c12
                                              try clear c12b0
                                              try clear c12b1
                                              try clear c13
                                              try clear c13b0
                                              try clear c13b1
                                              try clear c14
                                              try clear c14b0
                                              try clear c14b1
                                              try clear c15
                                              try clear c15b0
                                              try clear c15b1
                                              try clear c16
                                              try clear c16b0
                                              try clear c16b1
                                              try clear c18
                                              try clear c18b0
                                              try clear c18b1
                                              try clear c19
                                              try clear c20
                                              try clear c20b0
                                              try clear c20b1
                                              try clear c21
                                              try clear c21b0
                                              try clear c21b1
                                              try clear c22
                                              try clear c22b0
                                              try clear c22b1
                                              try clear c24
                                              try clear c24b0
                                              try clear c24b1
                                              try clear p2
                                              obtain ⟨kq, x40_22, rfl, HA, HJ22, ⟨mc22, rfl⟩⟩ := hcut
                                              cases kq with
                                              | zero => exact absurd HA.out (by simp [spec_bit.j2])
                                              | succ kj22 =>
                                                have H := HA.out
                                                clear HA
                                                simp only [spec_bit.j2] at H
                                                by_cases c25 : x40_22 = true
                                                · subst c25
                                                  have H1 : (some 81920) = some r := by rw [if_pos rfl] at H; exact H
                                                  clear H
                                                  have H := H1
                                                  clear H1
                                                  obtain rfl := Option.some.inj H
                                                  go_wp2
                                                  go_ret
                                                  exact ⟨by first | rfl | (simp; done) | (simp [*]; done) | (simp [xt_ne_nil]; done), by repeat (first | exact Drawn0.refl _ | apply Drawn0.step)⟩
                                                · replace c25 := Bool.eq_false_iff.mpr c25
                                                  subst c25
                                                  have H1 : (if 0 < a0 then (if a0 < 32 then (some 65536) else (some 0)) else (some 0)) = some r := by rw [if_neg (show ¬ (false = true) by decide)] at H; exact H
                                                  clear H
                                                  have H := H1
                                                  clear H1
                                                  by_cases c26 : 0 < a0
                                                  · rw [if_pos c26] at H
                                                    have c26b0 : decide (0 < a0) = true := decide_eq_true c26
                                                    clear c26
                                                    by_cases c27 : a0 < 32
                                                    · rw [if_pos c27] at H
                                                      have c27b0 : decide (a0 < 32) = true := decide_eq_true c27
                                                      clear c27
                                                      obtain rfl := Option.some.inj H
                                                      go_wp2
                                                      go_ret
                                                      exact ⟨by first | rfl | (simp; done) | (simp [*]; done) | (simp [xt_ne_nil]; done), by repeat (first | exact Drawn0.refl _ | apply Drawn0.step)⟩
                                                    · rw [if_neg c27] at H
                                                      have c27b0 : decide (a0 < 32) = false := decide_eq_false c27
                                                      clear c27
                                                      obtain rfl := Option.some.inj H
                                                      go_wp2
                                                      go_ret
                                                      exact ⟨by first | rfl | (simp; done) | (simp [*]; done) | (simp [xt_ne_nil]; done), by repeat (first | exact Drawn0.refl _ | apply Drawn0.step)⟩
                                                  · rw [if_neg c26] at H
                                                    have c26b0 : decide (0 < a0) = false := decide_eq_false c26
                                                    clear c26
                                                    obtain rfl := Option.some.inj H
                                                    go_wp2
                                                    go_ret
                                                    exact ⟨by first | rfl | (simp; done) | (simp [*]; done) | (simp [xt_ne_nil]; done), by repeat (first | exact Drawn0.refl _ | apply Drawn0.step)⟩
/-! ### spec_Takes: function 26 -/
def spec_Takes.f (k : Nat) (a0 : Int) (a1 : Int) : Option (Bool) := if a1 = 0 then (some true) else (if a1 > 0 then ((spec_bit.f k a1).bind fun t142 => (some ((Go.bits .and .u64 a0 t142) != 0))) else (some false))
theorem spec_Takes.mono : ∀ a0 a1 k, LeO (spec_Takes.f k a0 a1) (spec_Takes.f (k + 1) a0 a1) := by
  intro a0 a1 k
  unfold spec_Takes.f
  repeat' first
      | (with_reducible exact spec_bit.mono _ _)
      | (with_reducible exact LeO.refl _)
      | (with_reducible exact LeO.none _)
      | (with_reducible refine LeO.ite ?_ ?_)
      | (with_reducible refine LeO.bind ?_ (fun _ => ?_))
      | exact spec_bit.mono _ _
      | exact LeO.none _
      | refine LeO.ite ?_ ?_
      | refine LeO.bind ?_ (fun _ => ?_)
set_option maxHeartbeats 8000000 in
set_option maxRecDepth 100000 in
theorem spec_Takes.calls (k : Nat) (a0 : Int) (a1 : Int) (r : Bool) (w : World) (h : spec_Takes.f k a0 a1 = some r) :
    Calls Tryd.prog 26 #[.int .u64 a0, .int .i32 a1] w fun e w' => e = .returned (.bool r) ∧ Drawn0 w w' := by
  have H : (if a1 = 0 then (some true) else (if a1 > 0 then ((spec_bit.f k a1).bind fun t142 => (some ((Go.bits .and .u64 a0 t142) != 0))) else (some false))) = some r := h
  clear h
  by_cases c3 : a1 = 0
  · rw [if_pos c3] at H
    have c3b0 : (a1 == 0) = true := beq_iff_eq.mpr c3
    have c3b1 : (a1 != 0) = false := bne_eq_false_iff_eq.mpr c3
    clear c3
    obtain rfl := Option.some.inj H
    go_enter Tryd.func26, Tryd.ntmps26
    go_wp2
    go_ret
    exact ⟨by first | rfl | (simp; done) | (simp [*]; done) | (simp [xt_ne_nil]; done), by repeat (first | exact Drawn0.refl _ | apply Drawn0.step)⟩
  · rw [if_neg c3] at H
    have c3b0 : (a1 == 0) = false := beq_eq_false_iff_ne.mpr c3
    have c3b1 : (a1 != 0) = true := bne_iff_ne.mpr c3
    by_cases c4 : a1 > 0
    · rw [if_pos c4] at H
      have c4b0 : decide (0 < a1) = true := decide_eq_true c4
      clear c4
      replace H := Option.bind_eq_some_iff.mp H
      obtain ⟨t142, A50, H⟩ := H
      replace H : (some ((Go.bits .and .u64 a0 t142) != 0)) = some r := H
      have A5 := Aside0.mk A50
      clear A50
      obtain rfl := Option.some.inj H
      go_enter Tryd.func26, Tryd.ntmps26
      go_wp2_with (first | (go_at_call 39; (with_reducible refine (spec_bit.calls k a1 t142 _ A5.out).mono ?_); rintro e w' ⟨rfl, ⟨nd, rfl⟩⟩))
      go_ret
      exact ⟨by first | rfl | (simp; done) | (simp [*]; done) | (simp [xt_ne_nil]; done), by repeat (first | exact Drawn0.refl _ | apply Drawn0.step)⟩
    · rw [if_neg c4] at H
      have c4b0 : decide (0 < a1) = false := decide_eq_false c4
      clear c4
      obtain rfl := Option.some.inj H
      go_enter Tryd.func26, Tryd.ntmps26
      go_wp2
      go_ret
      exact ⟨by first | rfl | (simp; done) | (simp [*]; done) | (simp [xt_ne_nil]; done), by repeat (first | exact Drawn0.refl _ | apply Drawn0.step)⟩
/-! ### spec_TakesLeft: function 27 -/
def spec_TakesLeft.f (a0 : Int) (a1 : Int) : Option (Bool) := if a1 = 32 then (some ((Go.bits .and .u64 a0 131072) != 0)) else (if a1 = 46 then (some ((Go.bits .and .u64 a0 262144) != 0)) else (if a1 = 126 then (some ((Go.bits .and .u64 a0 524288) != 0)) else (if a1 = 13 then (some ((Go.bits .and .u64 a0 1048576) != 0)) else (if a1 = 10 then (some ((Go.bits .and .u64 a0 1048576) != 0)) else (if a1 = 9 then (some ((Go.bits .and .u64 a0 1048576) != 0)) else (if a1 = 11 then (some ((Go.bits .and .u64 a0 1048576) != 0)) else (some false)))))))
set_option maxHeartbeats 8000000 in
set_option maxRecDepth 100000 in
theorem spec_TakesLeft.calls (a0 : Int) (a1 : Int) (r : Bool) (w : World) (h : spec_TakesLeft.f a0 a1 = some r) :
    Calls Tryd.prog 27 #[.int .u64 a0, .int .i32 a1] w fun e w' => e = .returned (.bool r) ∧ Drawn0 w w' := by
  have H : (if a1 = 32 then (some ((Go.bits .and .u64 a0 131072) != 0)) else (if a1 = 46 then (some ((Go.bits .and .u64 a0 262144) != 0)) else (if a1 = 126 then (some ((Go.bits .and .u64 a0 524288) != 0)) else (if a1 = 13 then (some ((Go.bits .and .u64 a0 1048576) != 0)) else (if a1 = 10 then (some ((Go.bits .and .u64 a0 1048576) != 0)) else (if a1 = 9 then (some ((Go.bits .and .u64 a0 1048576) != 0)) else (if a1 = 11 then (some ((Go.bits .and .u64 a0 1048576) != 0)) else (some false)))))))) = some r := h
  clear h
  by_cases c3 : a1 = 32
  · rw [if_pos c3] at H
    have c3b0 : (a1 == 32) = true := beq_iff_eq.mpr c3
    have c3b1 : (a1 != 32) = false := bne_eq_false_iff_eq.mpr c3
    clear c3
    obtain rfl := Option.some.inj H
    go_enter Tryd.func27, Tryd.ntmps27
    go_wp2
    go_ret
    exact ⟨by first | rfl | (simp; done) | (simp [*]; done) | (simp [xt_ne_nil]; done), by repeat (first | exact Drawn0.refl _ | apply Drawn0.step)⟩
  · rw [if_neg c3] at H
    have c3b0 : (a1 == 32) = false := beq_eq_false_iff_ne.mpr c3
    have c3b1 : (a1 != 32) = true := bne_iff_ne.mpr c3
    by_cases c4 : a1 = 46
    · rw [if_pos c4] at H
      have c4b0 : (a1 == 46) = true := beq_iff_eq.mpr c4
      have c4b1 : (a1 != 46) = false := bne_eq_false_iff_eq.mpr c4
      clear c4
      obtain rfl := Option.some.inj H
      go_enter Tryd.func27, Tryd.ntmps27
      go_wp2
      go_ret
      exact ⟨by first | rfl | (simp; done) | (simp [*]; done) | (simp [xt_ne_nil]; done), by repeat (first | exact Drawn0.refl _ | apply Drawn0.step)⟩
    · rw [if_neg c4] at H
      have c4b0 : (a1 == 46) = false := beq_eq_false_iff_ne.mpr c4
      have c4b1 : (a1 != 46) = true := bne_iff_ne.mpr c4
      by_cases c5 : a1 = 126
      · rw [if_pos c5] at H
        have c5b0 : (a1 == 126) = true := beq_iff_eq.mpr c5
        have c5b1 : (a1 != 126) = false := bne_eq_false_iff_eq.mpr c5
        clear c5
        obtain rfl := Option.some.inj H
        go_enter Tryd.func27, Tryd.ntmps27
        go_wp2
        go_ret
        exact ⟨by first | rfl | (simp; done) | (simp [*]; done) | (simp [xt_ne_nil]; done), by repeat (first | exact Drawn0.refl _ | apply Drawn0.step)⟩
      · rw [if_neg c5] at H
        have c5b0 : (a1 == 126) = false := beq_eq_false_iff_ne.mpr c5
        have c5b1 : (a1 != 126) = true := bne_iff_ne.mpr c5
        by_cases c6 : a1 = 13
        · rw [if_pos c6] at H
          have c6b0 : (a1 == 13) = true := beq_iff_eq.mpr c6
          have c6b1 : (a1 != 13) = false := bne_eq_false_iff_eq.mpr c6
          clear c6
          obtain rfl := Option.some.inj H
          go_enter Tryd.func27, Tryd.ntmps27
          go_wp2
          go_ret
          exact ⟨by first | rfl | (simp; done) | (simp [*]; done) | (simp [xt_ne_nil]; done), by repeat (first | exact Drawn0.refl _ | apply Drawn0.step)⟩
        · rw [if_neg c6] at H
          have c6b0 : (a1 == 13) = false := beq_eq_false_iff_ne.mpr c6
          have c6b1 : (a1 != 13) = true := bne_iff_ne.mpr c6
          by_cases c7 : a1 = 10
          · rw [if_pos c7] at H
            have c7b0 : (a1 == 10) = true := beq_iff_eq.mpr c7
            have c7b1 : (a1 != 10) = false := bne_eq_false_iff_eq.mpr c7
            clear c7
            obtain rfl := Option.some.inj H
            go_enter Tryd.func27, Tryd.ntmps27
            go_wp2
            go_ret
            exact ⟨by first | rfl | (simp; done) | (simp [*]; done) | (simp [xt_ne_nil]; done), by repeat (first | exact Drawn0.refl _ | apply Drawn0.step)⟩
          · rw [if_neg c7] at H
            have c7b0 : (a1 == 10) = false := beq_eq_false_iff_ne.mpr c7
            have c7b1 : (a1 != 10) = true := bne_iff_ne.mpr c7
            by_cases c8 : a1 = 9
            · rw [if_pos c8] at H
              have c8b0 : (a1 == 9) = true := beq_iff_eq.mpr c8
              have c8b1 : (a1 != 9) = false := bne_eq_false_iff_eq.mpr c8
              clear c8
              obtain rfl := Option.some.inj H
              go_enter Tryd.func27, Tryd.ntmps27
              go_wp2
              go_ret
              exact ⟨by first | rfl | (simp; done) | (simp [*]; done) | (simp [xt_ne_nil]; done), by repeat (first | exact Drawn0.refl _ | apply Drawn0.step)⟩
            · rw [if_neg c8] at H
              have c8b0 : (a1 == 9) = false := beq_eq_false_iff_ne.mpr c8
              have c8b1 : (a1 != 9) = true := bne_iff_ne.mpr c8
              by_cases c9 : a1 = 11
              · rw [if_pos c9] at H
                have c9b0 : (a1 == 11) = true := beq_iff_eq.mpr c9
                have c9b1 : (a1 != 11) = false := bne_eq_false_iff_eq.mpr c9
                clear c9
                obtain rfl := Option.some.inj H
                go_enter Tryd.func27, Tryd.ntmps27
                go_wp2
                go_ret
                exact ⟨by first | rfl | (simp; done) | (simp [*]; done) | (simp [xt_ne_nil]; done), by repeat (first | exact Drawn0.refl _ | apply Drawn0.step)⟩
              · rw [if_neg c9] at H
                have c9b0 : (a1 == 11) = false := beq_eq_false_iff_ne.mpr c9
                have c9b1 : (a1 != 11) = true := bne_iff_ne.mpr c9
                obtain rfl := Option.some.inj H
                go_enter Tryd.func27, Tryd.ntmps27
                go_wp2
                go_ret
                exact ⟨by first | rfl | (simp; done) | (simp [*]; done) | (simp [xt_ne_nil]; done), by repeat (first | exact Drawn0.refl _ | apply Drawn0.step)⟩
/-! ### spec_TakesRight: function 28 -/
def spec_TakesRight.f (a0 : Int) (a1 : Int) : Option (Bool) := if a1 = 32 then (some ((Go.bits .and .u64 a0 2097152) != 0)) else (if a1 = 46 then (some ((Go.bits .and .u64 a0 4194304) != 0)) else (if a1 = 13 then (some ((Go.bits .and .u64 a0 8388608) != 0)) else (if a1 = 10 then (some ((Go.bits .and .u64 a0 8388608) != 0)) else (if a1 = 9 then (some ((Go.bits .and .u64 a0 8388608) != 0)) else (if a1 = 11 then (some ((Go.bits .and .u64 a0 8388608) != 0)) else (some false))))))
set_option maxHeartbeats 8000000 in
set_option maxRecDepth 100000 in
theorem spec_TakesRight.calls (a0 : Int) (a1 : Int) (r : Bool) (w : World) (h : spec_TakesRight.f a0 a1 = some r) :
    Calls Tryd.prog 28 #[.int .u64 a0, .int .i32 a1] w fun e w' => e = .returned (.bool r) ∧ Drawn0 w w' := by
  have H : (if a1 = 32 then (some ((Go.bits .and .u64 a0 2097152) != 0)) else (if a1 = 46 then (some ((Go.bits .and .u64 a0 4194304) != 0)) else (if a1 = 13 then (some ((Go.bits .and .u64 a0 8388608) != 0)) else (if a1 = 10 then (some ((Go.bits .and .u64 a0 8388608) != 0)) else (if a1 = 9 then (some ((Go.bits .and .u64 a0 8388608) != 0)) else (if a1 = 11 then (some ((Go.bits .and .u64 a0 8388608) != 0)) else (some false))))))) = some r := h
  clear h
  by_cases c3 : a1 = 32
  · rw [if_pos c3] at H
    have c3b0 : (a1 == 32) = true := beq_iff_eq.mpr c3
    have c3b1 : (a1 != 32) = false := bne_eq_false_iff_eq.mpr c3
    clear c3
    obtain rfl := Option.some.inj H
    go_enter Tryd.func28, Tryd.ntmps28
    go_wp2
    go_ret
    exact ⟨by first | rfl | (simp; done) | (simp [*]; done) | (simp [xt_ne_nil]; done), by repeat (first | exact Drawn0.refl _ | apply Drawn0.step)⟩
  · rw [if_neg c3] at H
    have c3b0 : (a1 == 32) = false := beq_eq_false_iff_ne.mpr c3
    have c3b1 : (a1 != 32) = true := bne_iff_ne.mpr c3
    by_cases c4 : a1 = 46
    · rw [if_pos c4] at H
      have c4b0 : (a1 == 46) = true := beq_iff_eq.mpr c4
      have c4b1 : (a1 != 46) = false := bne_eq_false_iff_eq.mpr c4
      clear c4
      obtain rfl := Option.some.inj H
      go_enter Tryd.func28, Tryd.ntmps28
      go_wp2
      go_ret
      exact ⟨by first | rfl | (simp; done) | (simp [*]; done) | (simp [xt_ne_nil]; done), by repeat (first | exact Drawn0.refl _ | apply Drawn0.step)⟩
    · rw [if_neg c4] at H
      have c4b0 : (a1 == 46) = false := beq_eq_false_iff_ne.mpr c4
      have c4b1 : (a1 != 46) = true := bne_iff_ne.mpr c4
      by_cases c5 : a1 = 13
      · rw [if_pos c5] at H
        have c5b0 : (a1 == 13) = true := beq_iff_eq.mpr c5
        have c5b1 : (a1 != 13) = false := bne_eq_false_iff_eq.mpr c5
        clear c5
        obtain rfl := Option.some.inj H
        go_enter Tryd.func28, Tryd.ntmps28
        go_wp2
        go_ret
        exact ⟨by first | rfl | (simp; done) | (simp [*]; done) | (simp [xt_ne_nil]; done), by repeat (first | exact Drawn0.refl _ | apply Drawn0.step)⟩
      · rw [if_neg c5] at H
        have c5b0 : (a1 == 13) = false := beq_eq_false_iff_ne.mpr c5
        have c5b1 : (a1 != 13) = true := bne_iff_ne.mpr c5
        by_cases c6 : a1 = 10
        · rw [if_pos c6] at H
          have c6b0 : (a1 == 10) = true := beq_iff_eq.mpr c6
          have c6b1 : (a1 != 10) = false := bne_eq_false_iff_eq.mpr c6
          clear c6
          obtain rfl := Option.some.inj H
          go_enter Tryd.func28, Tryd.ntmps28
          go_wp2
          go_ret
          exact ⟨by first | rfl | (simp; done) | (simp [*]; done) | (simp [xt_ne_nil]; done), by repeat (first | exact Drawn0.refl _ | apply Drawn0.step)⟩
        · rw [if_neg c6] at H
          have c6b0 : (a1 == 10) = false := beq_eq_false_iff_ne.mpr c6
          have c6b1 : (a1 != 10) = true := bne_iff_ne.mpr c6
          by_cases c7 : a1 = 9
          · rw [if_pos c7] at H
            have c7b0 : (a1 == 9) = true := beq_iff_eq.mpr c7
            have c7b1 : (a1 != 9) = false := bne_eq_false_iff_eq.mpr c7
            clear c7
            obtain rfl := Option.some.inj H
            go_enter Tryd.func28, Tryd.ntmps28
            go_wp2
            go_ret
            exact ⟨by first | rfl | (simp; done) | (simp [*]; done) | (simp [xt_ne_nil]; done), by repeat (first | exact Drawn0.refl _ | apply Drawn0.step)⟩
          · rw [if_neg c7] at H
            have c7b0 : (a1 == 9) = false := beq_eq_false_iff_ne.mpr c7
            have c7b1 : (a1 != 9) = true := bne_iff_ne.mpr c7
            by_cases c8 : a1 = 11
            · rw [if_pos c8] at H
              have c8b0 : (a1 == 11) = true := beq_iff_eq.mpr c8
              have c8b1 : (a1 != 11) = false := bne_eq_false_iff_eq.mpr c8
              clear c8
              obtain rfl := Option.some.inj H
              go_enter Tryd.func28, Tryd.ntmps28
              go_wp2
              go_ret
              exact ⟨by first | rfl | (simp; done) | (simp [*]; done) | (simp [xt_ne_nil]; done), by repeat (first | exact Drawn0.refl _ | apply Drawn0.step)⟩
            · rw [if_neg c8] at H
              have c8b0 : (a1 == 11) = false := beq_eq_false_iff_ne.mpr c8
              have c8b1 : (a1 != 11) = true := bne_iff_ne.mpr c8
              obtain rfl := Option.some.inj H
              go_enter Tryd.func28, Tryd.ntmps28
              go_wp2
              go_ret
              exact ⟨by first | rfl | (simp; done) | (simp [*]; done) | (simp [xt_ne_nil]; done), by repeat (first | exact Drawn0.refl _ | apply Drawn0.step)⟩

-- NOT PRINTED: function 31 (spec_dots)
/-! ### spec_SignOf: function 33 -/
def spec_SignOf.j0 : Nat → Int → Bool → Option (Int)
  | 0, _, _ => none
  | k + 1, x0, x3 => if x3 = true then (some (wrap32 (x0 - 9216))) else (if x0 = 9249 then (some 127) else (if 65281 ≤ x0 then (if x0 ≤ 65374 then (some (wrap32 (x0 - 65248))) else (some (-1))) else (some (-1))))
def spec_SignOf.f (k : Nat) (a0 : Int) : Option (Int) := if 9216 ≤ a0 then (spec_SignOf.j0 k a0 (decide (a0 ≤ 9248))) else (spec_SignOf.j0 k a0 false)
theorem spec_SignOf.mono_l : ∀ k, (∀ y0 y1, LeO (spec_SignOf.j0 k y0 y1) (spec_SignOf.j0 (k + 1) y0 y1))
  | 0 => fun _ _ r h => by simp [spec_SignOf.j0] at h
  | k + 1 => by
    have ih0 := spec_SignOf.mono_l k
    · intro y0 y1
      unfold spec_SignOf.j0
      repeat' first
      | (with_reducible exact ih0 _ _)
      | (with_reducible exact LeO.refl _)
      | (with_reducible exact LeO.none _)
      | (with_reducible refine LeO.ite ?_ ?_)
      | (with_reducible refine LeO.bind ?_ (fun _ => ?_))
      | exact ih0 _ _
      | exact LeO.none _
      | refine LeO.ite ?_ ?_
      | refine LeO.bind ?_ (fun _ => ?_)
theorem spec_SignOf.mono : ∀ a0 k, LeO (spec_SignOf.f k a0) (spec_SignOf.f (k + 1) a0) := by
  intro a0 k
  have ih0 := spec_SignOf.mono_l k
  unfold spec_SignOf.f
  repeat' first
      | (with_reducible exact ih0 _ _)
      | (with_reducible exact LeO.refl _)
      | (with_reducible exact LeO.none _)
      | (with_reducible refine LeO.ite ?_ ?_)
      | (with_reducible refine LeO.bind ?_ (fun _ => ?_))
      | exact ih0 _ _
      | exact LeO.none _
      | refine LeO.ite ?_ ?_
      | refine LeO.bind ?_ (fun _ => ?_)
set_option maxHeartbeats 8000000 in
set_option maxRecDepth 100000 in
theorem spec_SignOf.calls (k : Nat) (a0 : Int) (r : Int) (w : World) (h : spec_SignOf.f k a0 = some r) :
    Calls Tryd.prog 33 #[.int .i32 a0] w fun e w' => e = .returned (.int .i32 r) ∧ Drawn0 w w' := by
  have H : (if 9216 ≤ a0 then (spec_SignOf.j0 k a0 (decide (a0 ≤ 9248))) else (spec_SignOf.j0 k a0 false)) = some r := h
  clear h
  have HC2 := Aside0.mk H
  clear H
  go_enter Tryd.func33, Tryd.ntmps33
  go_upto_region 1 with (fail)
  go_cut [3] (fun v3 wc => ∃ (kq : Nat) (x3_1 : Bool), v3 = .bool x3_1 ∧ Aside0 (spec_SignOf.j0 kq a0 x3_1 = some r) ∧ Aside0 (kq ≤ k) ∧ Drawn0 w wc)
  case first =>
    have H := HC2.out
    clear HC2
    by_cases c3 : 9216 ≤ a0
    · rw [if_pos c3] at H
      have c3b0 : decide (9216 ≤ a0) = true := decide_eq_true c3
      clear c3
      (first | rw [c3b0] | (simp only [i64_w, i32_w]; rw [c3b0]) | skip)
      have H' := Aside0.mk H
      clear H
      go_wp2
      go_meet
      case rel => exact ⟨_, (decide (a0 ≤ 9248)), (by first | rfl | (simp; done) | (simp [*]; done) | (simp [xt_ne_nil]; done)), H', ⟨by first | omega | exact Nat.le_refl _⟩, by repeat (first | exact Drawn0.refl _ | apply Drawn0.step)⟩
    · rw [if_neg c3] at H
      have c3b0 : decide (9216 ≤ a0) = false := decide_eq_false c3
      clear c3
      (first | rw [c3b0] | (simp only [i64_w, i32_w]; rw [c3b0]) | skip)
      have H' := Aside0.mk H
      clear H
      go_wp2
      go_meet
      case rel => exact ⟨_, (false), (by first | rfl | (simp; done) | (simp [*]; done) | (simp [xt_ne_nil]; done)), H', ⟨by first | omega | exact Nat.le_refl _⟩, by repeat (first | exact Drawn0.refl _ | apply Drawn0.step)⟩
  case rest =>
    clear HC2
    try clear p2
    try clear c3
    try clear c3b0
    obtain ⟨kq, x3_1, rfl, HA, HJ1, ⟨mc1, rfl⟩⟩ := hcut
    cases kq with
    | zero => exact absurd HA.out (by simp [spec_SignOf.j0])
    | succ kj1 =>
      have H := HA.out
      clear HA
      simp only [spec_SignOf.j0] at H
      by_cases c4 : x3_1 = true
      · subst c4
        have H1 : (some (wrap32 (a0 - 9216))) = some r := by rw [if_pos rfl] at H; exact H
        clear H
        have H := H1
        clear H1
        obtain rfl := Option.some.inj H
        go_wp2
        go_ret
        exact ⟨by first | rfl | (simp; done) | (simp [*]; done) | (simp [xt_ne_nil]; done), by repeat (first | exact Drawn0.refl _ | apply Drawn0.step)⟩
      · replace c4 := Bool.eq_false_iff.mpr c4
        subst c4
        have H1 : (if a0 = 9249 then (some 127) else (if 65281 ≤ a0 then (if a0 ≤ 65374 then (some (wrap32 (a0 - 65248))) else (some (-1))) else (some (-1)))) = some r := by rw [if_neg (show ¬ (false = true) by decide)] at H; exact H
        clear H
        have H := H1
        clear H1
        by_cases c5 : a0 = 9249
        · rw [if_pos c5] at H
          have c5b0 : (a0 == 9249) = true := beq_iff_eq.mpr c5
          have c5b1 : (a0 != 9249) = false := bne_eq_false_iff_eq.mpr c5
          clear c5
          obtain rfl := Option.some.inj H
          go_wp2
          go_ret
          exact ⟨by first | rfl | (simp; done) | (simp [*]; done) | (simp [xt_ne_nil]; done), by repeat (first | exact Drawn0.refl _ | apply Drawn0.step)⟩
        · rw [if_neg c5] at H
          have c5b0 : (a0 == 9249) = false := beq_eq_false_iff_ne.mpr c5
          have c5b1 : (a0 != 9249) = true := bne_iff_ne.mpr c5
          by_cases c6 : 65281 ≤ a0
          · rw [if_pos c6] at H
            have c6b0 : decide (65281 ≤ a0) = true := decide_eq_true c6
            clear c6
            by_cases c7 : a0 ≤ 65374
            · rw [if_pos c7] at H
              have c7b0 : decide (a0 ≤ 65374) = true := decide_eq_true c7
              clear c7
              obtain rfl := Option.some.inj H
              go_wp2
              go_ret
              exact ⟨by first | rfl | (simp; done) | (simp [*]; done) | (simp [xt_ne_nil]; done), by repeat (first | exact Drawn0.refl _ | apply Drawn0.step)⟩
            · rw [if_neg c7] at H
              have c7b0 : decide (a0 ≤ 65374) = false := decide_eq_false c7
              clear c7
              obtain rfl := Option.some.inj H
              go_wp2
              go_ret
              exact ⟨by first | rfl | (simp; done) | (simp [*]; done) | (simp [xt_ne_nil]; done), by repeat (first | exact Drawn0.refl _ | apply Drawn0.step)⟩
          · rw [if_neg c6] at H
            have c6b0 : decide (65281 ≤ a0) = false := decide_eq_false c6
            clear c6
            obtain rfl := Option.some.inj H
            go_wp2
            go_ret
            exact ⟨by first | rfl | (simp; done) | (simp [*]; done) | (simp [xt_ne_nil]; done), by repeat (first | exact Drawn0.refl _ | apply Drawn0.step)⟩
/-! ### spec_Sign: function 68 -/
def spec_Sign.f (a0 : Int) : Option (Int) := if a0 ≤ 32 then (some (wrap32 (9216 + a0))) else (if a0 = 127 then (some 9249) else (some (wrap32 (a0 + 65248))))
set_option maxHeartbeats 8000000 in
set_option maxRecDepth 100000 in
theorem spec_Sign.calls (a0 : Int) (r : Int) (w : World) (h : spec_Sign.f a0 = some r) :
    Calls Tryd.prog 68 #[.int .i32 a0] w fun e w' => e = .returned (.int .i32 r) ∧ Drawn0 w w' := by
  have H : (if a0 ≤ 32 then (some (wrap32 (9216 + a0))) else (if a0 = 127 then (some 9249) else (some (wrap32 (a0 + 65248))))) = some r := h
  clear h
  by_cases c2 : a0 ≤ 32
  · rw [if_pos c2] at H
    have c2b0 : decide (a0 ≤ 32) = true := decide_eq_true c2
    clear c2
    obtain rfl := Option.some.inj H
    go_enter Tryd.func68, Tryd.ntmps68
    go_wp2
    go_ret
    exact ⟨by first | rfl | (simp; done) | (simp [*]; done) | (simp [xt_ne_nil]; done), by repeat (first | exact Drawn0.refl _ | apply Drawn0.step)⟩
  · rw [if_neg c2] at H
    have c2b0 : decide (a0 ≤ 32) = false := decide_eq_false c2
    clear c2
    by_cases c3 : a0 = 127
    · rw [if_pos c3] at H
      have c3b0 : (a0 == 127) = true := beq_iff_eq.mpr c3
      have c3b1 : (a0 != 127) = false := bne_eq_false_iff_eq.mpr c3
      clear c3
      obtain rfl := Option.some.inj H
      go_enter Tryd.func68, Tryd.ntmps68
      go_wp2
      go_ret
      exact ⟨by first | rfl | (simp; done) | (simp [*]; done) | (simp [xt_ne_nil]; done), by repeat (first | exact Drawn0.refl _ | apply Drawn0.step)⟩
    · rw [if_neg c3] at H
      have c3b0 : (a0 == 127) = false := beq_eq_false_iff_ne.mpr c3
      have c3b1 : (a0 != 127) = true := bne_iff_ne.mpr c3
      obtain rfl := Option.some.inj H
      go_enter Tryd.func68, Tryd.ntmps68
      go_wp2
      go_ret
      exact ⟨by first | rfl | (simp; done) | (simp [*]; done) | (simp [xt_ne_nil]; done), by repeat (first | exact Drawn0.refl _ | apply Drawn0.step)⟩

-- NOT PRINTED: function 54 (spec_signed)

-- NOT PRINTED: function 57 (spec_between)

-- NOT PRINTED: function 36 (spec_NameEncode)
/-! ### spec_hexValue: function 52 -/
mutual
def spec_hexValue.j0 : Nat → Bool → ByteArray → Int → Bool → Option (Int)
  | 0, _, _, _, _ => none
  | k + 1, x6, x144000, x144001, x144002 => if x6 = true then (some (wrap64 (wrap32 (x144001 - 48)))) else (if 97 ≤ x144001 then (spec_hexValue.j1 k (decide (x144001 ≤ 102)) x144000 x144001 x144002) else (spec_hexValue.j1 k false x144000 x144001 x144002))
def spec_hexValue.j1 : Nat → Bool → ByteArray → Int → Bool → Option (Int)
  | 0, _, _, _, _ => none
  | k + 1, x19, x144000, x144001, x144002 => if x19 = true then (some (wrap64 ((wrap64 (wrap32 (x144001 - 97))) + 10))) else (if 65 ≤ x144001 then (if x144001 ≤ 70 then (some (wrap64 ((wrap64 (wrap32 (x144001 - 65))) + 10))) else (some (-1))) else (some (-1)))
end
def spec_hexValue.f (k : Nat) (a0_0 : ByteArray) (a0_1 : Int) (a0_2 : Bool) : Option (Int) := if a0_2 = true then (some (-1)) else (if 48 ≤ a0_1 then (spec_hexValue.j0 k (decide (a0_1 ≤ 57)) a0_0 a0_1 a0_2) else (spec_hexValue.j0 k false a0_0 a0_1 a0_2))
theorem spec_hexValue.mono_l : ∀ k, (∀ y0 y1 y2 y3, LeO (spec_hexValue.j0 k y0 y1 y2 y3) (spec_hexValue.j0 (k + 1) y0 y1 y2 y3)) ∧ (∀ y0 y1 y2 y3, LeO (spec_hexValue.j1 k y0 y1 y2 y3) (spec_hexValue.j1 (k + 1) y0 y1 y2 y3))
  | 0 => ⟨fun _ _ _ _ r h => by simp [spec_hexValue.j0] at h, fun _ _ _ _ r h => by simp [spec_hexValue.j1] at h⟩
  | k + 1 => by
    obtain ⟨ih0, ih1⟩ := spec_hexValue.mono_l k
    refine ⟨?_, ?_⟩
    · intro y0 y1 y2 y3
      unfold spec_hexValue.j0
      repeat' first
      | (with_reducible exact ih0 _ _ _ _)
      | (with_reducible exact ih1 _ _ _ _)
      | (with_reducible exact LeO.refl _)
      | (with_reducible exact LeO.none _)
      | (with_reducible refine LeO.ite ?_ ?_)
      | (with_reducible refine LeO.bind ?_ (fun _ => ?_))
      | exact ih0 _ _ _ _
      | exact ih1 _ _ _ _
      | exact LeO.none _
      | refine LeO.ite ?_ ?_
      | refine LeO.bind ?_ (fun _ => ?_)
    · intro y0 y1 y2 y3
      unfold spec_hexValue.j1
      repeat' first
      | (with_reducible exact ih0 _ _ _ _)
      | (with_reducible exact ih1 _ _ _ _)
      | (with_reducible exact LeO.refl _)
      | (with_reducible exact LeO.none _)
      | (with_reducible refine LeO.ite ?_ ?_)
      | (with_reducible refine LeO.bind ?_ (fun _ => ?_))
      | exact ih0 _ _ _ _
      | exact ih1 _ _ _ _
      | exact LeO.none _
      | refine LeO.ite ?_ ?_
      | refine LeO.bind ?_ (fun _ => ?_)
theorem spec_hexValue.mono : ∀ a0 a1 a2 k, LeO (spec_hexValue.f k a0 a1 a2) (spec_hexValue.f (k + 1) a0 a1 a2) := by
  intro a0 a1 a2 k
  obtain ⟨ih0, ih1⟩ := spec_hexValue.mono_l k
  unfold spec_hexValue.f
  repeat' first
      | (with_reducible exact ih0 _ _ _ _)
      | (with_reducible exact ih1 _ _ _ _)
      | (with_reducible exact LeO.refl _)
      | (with_reducible exact LeO.none _)
      | (with_reducible refine LeO.ite ?_ ?_)
      | (with_reducible refine LeO.bind ?_ (fun _ => ?_))
      | exact ih0 _ _ _ _
      | exact ih1 _ _ _ _
      | exact LeO.none _
      | refine LeO.ite ?_ ?_
      | refine LeO.bind ?_ (fun _ => ?_)
set_option maxHeartbeats 8000000 in
set_option maxRecDepth 100000 in
theorem spec_hexValue.calls (k : Nat) (a0_0 : ByteArray) (a0_1 : Int) (a0_2 : Bool) (r : Int) (w : World) (h : spec_hexValue.f k a0_0 a0_1 a0_2 = some r) :
    Calls Tryd.prog 52 #[.agg #[.string a0_0, .int .i32 a0_1, .bool a0_2]] w fun e w' => e = .returned (.int .i64 r) ∧ Below w.heap.size w w' := by
  have hu37 := Tryd.underlying37
  have HB := Aside0.mk (Below.refl w.heap.size w)
  have H : (if a0_2 = true then (some (-1)) else (if 48 ≤ a0_1 then (spec_hexValue.j0 k (decide (a0_1 ≤ 57)) a0_0 a0_1 a0_2) else (spec_hexValue.j0 k false a0_0 a0_1 a0_2))) = some r := h
  clear h
  by_cases c2 : a0_2 = true
  · subst c2
    have H1 : (some (-1)) = some r := by rw [if_pos rfl] at H; exact H
    clear H
    have H := H1
    clear H1
    obtain rfl := Option.some.inj H
    go_enter Tryd.func52, Tryd.ntmps52
    go_wp2_with (first | ((with_reducible refine gate_dst (N := 1) rfl ?_); refine box_event ?hg (N := 1) ?hd (cs := #[.string a0_0, .int .i32 a0_1, .bool true]) (t := 37) ?hr ?_; (case hd => rfl); (case hg => rfl); (case hr => first | (go_simp; done) | (go_simp; rfl)); intro gb143 hg w3 hbox hb; have n0_ := Aside0.mk (below_step (by repeat (first | (with_reducible first | exact HB.out | apply below_alloc | apply pw_below_drewN | apply below_drew1) | exact HB.out)) hb); have n1_ := Aside0.mk (hbox); have n2_ := Aside0.mk ((by rw [hg]; exact (below_size (by repeat (first | (with_reducible first | exact HB.out | apply below_alloc | apply pw_below_drewN | apply below_drew1) | exact HB.out))) : w.heap.size ≤ gb143)); have n3_ := Aside0.mk ((by rw [hg]; exact (below_size (by repeat (first | (with_reducible first | exact HB.out | apply below_alloc | apply pw_below_drewN | apply below_drew1) | exact HB.out))) : w.heap.size ≤ gb143)); clear HB; have HB := n0_; have BK143 := n1_; have GW143 := n2_; have GE143 := n3_; clear n0_ n1_ n2_ n3_; clear hb hbox hg; have hcz4_0 : w3.cell? ⟨gb143, 0, none⟩ = some (.string a0_0) := (blk_cell BK143.out 0).trans rfl; have hcz4_1 : w3.cell? ⟨gb143, 1, none⟩ = some (.int .i32 a0_1) := (blk_cell BK143.out 1).trans rfl; have hcz4_2 : w3.cell? ⟨gb143, 2, none⟩ = some (.bool true) := (blk_cell BK143.out 2).trans rfl; have hfz4_0 := blk_frozen BK143.out 0; have hfz4_1 := blk_frozen BK143.out 1; have hfz4_2 := blk_frozen BK143.out 2))
    go_ret
    exact ⟨by first | rfl | (simp [errW_none, errW_some] <;> rfl) | (simp [*, errW_none, errW_some] <;> rfl), by repeat (first | (with_reducible first | exact HB.out | apply below_alloc | apply pw_below_drewN | apply below_drew1 | refine below_set ?_ GE143.out) | exact HB.out)⟩
  · replace c2 := Bool.eq_false_iff.mpr c2
    subst c2
    have H1 : (if 48 ≤ a0_1 then (spec_hexValue.j0 k (decide (a0_1 ≤ 57)) a0_0 a0_1 false) else (spec_hexValue.j0 k false a0_0 a0_1 false)) = some r := by rw [if_neg (show ¬ (false = true) by decide)] at H; exact H
    clear H
    have H := H1
    clear H1
    have HC5 := Aside0.mk H
    clear H
    go_enter Tryd.func52, Tryd.ntmps52
    go_upto_region 3 with (first | ((with_reducible refine gate_dst (N := 1) rfl ?_); refine box_event ?hg (N := 1) ?hd (cs := #[.string a0_0, .int .i32 a0_1, .bool false]) (t := 37) ?hr ?_; (case hd => rfl); (case hg => rfl); (case hr => first | (go_simp; done) | (go_simp; rfl)); intro gb143 hg w6 hbox hb; have n0_ := Aside0.mk (below_step (by repeat (first | (with_reducible first | exact HB.out | apply below_alloc | apply pw_below_drewN | apply below_drew1) | exact HB.out)) hb); have n1_ := Aside0.mk (hbox); have n2_ := Aside0.mk ((by rw [hg]; exact (below_size (by repeat (first | (with_reducible first | exact HB.out | apply below_alloc | apply pw_below_drewN | apply below_drew1) | exact HB.out))) : w.heap.size ≤ gb143)); have n3_ := Aside0.mk ((by rw [hg]; exact (below_size (by repeat (first | (with_reducible first | exact HB.out | apply below_alloc | apply pw_below_drewN | apply below_drew1) | exact HB.out))) : w.heap.size ≤ gb143)); clear HB; have HB := n0_; have BK143 := n1_; have GW143 := n2_; have GE143 := n3_; clear n0_ n1_ n2_ n3_; clear hb hbox hg; have hcz7_0 : w6.cell? ⟨gb143, 0, none⟩ = some (.string a0_0) := (blk_cell BK143.out 0).trans rfl; have hcz7_1 : w6.cell? ⟨gb143, 1, none⟩ = some (.int .i32 a0_1) := (blk_cell BK143.out 1).trans rfl; have hcz7_2 : w6.cell? ⟨gb143, 2, none⟩ = some (.bool false) := (blk_cell BK143.out 2).trans rfl; have hfz7_0 := blk_frozen BK143.out 0; have hfz7_1 := blk_frozen BK143.out 1; have hfz7_2 := blk_frozen BK143.out 2))
    (try simp only [Act.put, List.setIfInBounds_toArray, List.set_cons_zero, List.set_cons_succ])
    go_cut [6] (fun v6 wc => ∃ (kq : Nat) (x6_4 : Bool), v6 = .bool x6_4 ∧ Aside0 (spec_hexValue.j0 kq x6_4 a0_0 a0_1 false = some r) ∧ Aside0 (kq ≤ k) ∧ Aside0 (wc.heap[gb143]? = some (.cells #[.string a0_0, .int .i32 a0_1, .bool false] 37 (0, 0))) ∧ Aside0 (Below w.heap.size w wc))
    case first =>
      have H := HC5.out
      clear HC5
      by_cases c8 : 48 ≤ a0_1
      · rw [if_pos c8] at H
        have c8b0 : decide (48 ≤ a0_1) = true := decide_eq_true c8
        clear c8
        (first | rw [c8b0] | (simp only [i64_w, i32_w]; rw [c8b0]) | skip)
        have H' := Aside0.mk H
        clear H
        have hcz9_0 : w6.cell? ⟨gb143, 0, none⟩ = some (.string a0_0) := (blk_cell BK143.out 0).trans rfl
        have hcz9_1 : w6.cell? ⟨gb143, 1, none⟩ = some (.int .i32 a0_1) := (blk_cell BK143.out 1).trans rfl
        have hcz9_2 : w6.cell? ⟨gb143, 2, none⟩ = some (.bool false) := (blk_cell BK143.out 2).trans rfl
        have hfz9_0 := blk_frozen BK143.out 0
        have hfz9_1 := blk_frozen BK143.out 1
        have hfz9_2 := blk_frozen BK143.out 2
        go_wp2
        go_meet
        case rel => exact ⟨_, (decide (a0_1 ≤ 57)), (by first | rfl | (simp; done) | (simp [*]; done) | (simp [xt_ne_nil]; done)), H', ⟨by first | omega | exact Nat.le_refl _⟩, ⟨by (with_reducible repeat (first | refine blk_drewN ?_ _ | refine blk_drew ?_ | refine blk_alloc ?_ _)); exact BK143.out⟩, ⟨by repeat (first | (with_reducible first | exact HB.out | apply below_alloc | apply pw_below_drewN | apply below_drew1 | refine below_set ?_ GE143.out) | exact HB.out)⟩⟩
      · rw [if_neg c8] at H
        have c8b0 : decide (48 ≤ a0_1) = false := decide_eq_false c8
        clear c8
        (first | rw [c8b0] | (simp only [i64_w, i32_w]; rw [c8b0]) | skip)
        have H' := Aside0.mk H
        clear H
        have hcz10_0 : w6.cell? ⟨gb143, 0, none⟩ = some (.string a0_0) := (blk_cell BK143.out 0).trans rfl
        have hcz10_1 : w6.cell? ⟨gb143, 1, none⟩ = some (.int .i32 a0_1) := (blk_cell BK143.out 1).trans rfl
        have hcz10_2 : w6.cell? ⟨gb143, 2, none⟩ = some (.bool false) := (blk_cell BK143.out 2).trans rfl
        have hfz10_0 := blk_frozen BK143.out 0
        have hfz10_1 := blk_frozen BK143.out 1
        have hfz10_2 := blk_frozen BK143.out 2
        go_wp2
        go_meet
        case rel => exact ⟨_, (false), (by first | rfl | (simp; done) | (simp [*]; done) | (simp [xt_ne_nil]; done)), H', ⟨by first | omega | exact Nat.le_refl _⟩, ⟨by (with_reducible repeat (first | refine blk_drewN ?_ _ | refine blk_drew ?_ | refine blk_alloc ?_ _)); exact BK143.out⟩, ⟨by repeat (first | (with_reducible first | exact HB.out | apply below_alloc | apply pw_below_drewN | apply below_drew1 | refine below_set ?_ GE143.out) | exact HB.out)⟩⟩
    case rest =>
      clear HC5
      try clear c2
      try clear p2
      try clear c5
      try clear c8
      try clear c8b0
      try clear hcz10_0
      try clear hcz10_1
      try clear hcz10_2
      try clear hcz4_0
      try clear hcz4_1
      try clear hcz4_2
      try clear hcz7_0
      try clear hcz7_1
      try clear hcz7_2
      try clear hcz9_0
      try clear hcz9_1
      try clear hcz9_2
      try clear hfz10_0
      try clear hfz10_1
      try clear hfz10_2
      try clear hfz4_0
      try clear hfz4_1
      try clear hfz4_2
      try clear hfz7_0
      try clear hfz7_1
      try clear hfz7_2
      try clear hfz9_0
      try clear hfz9_1
      try clear hfz9_2
      obtain ⟨kq, x6_4, rfl, HA, HJ4, BK143, HB⟩ := hcut
      cases kq with
      | zero => exact absurd HA.out (by simp [spec_hexValue.j0])
      | succ kj4 =>
        have H := HA.out
        clear HA
        simp only [spec_hexValue.j0] at H
        by_cases c11 : x6_4 = true
        · subst c11
          have H1 : (some (wrap64 (wrap32 (a0_1 - 48)))) = some r := by rw [if_pos rfl] at H; exact H
          clear H
          have H := H1
          clear H1
          obtain rfl := Option.some.inj H
          have hcz12_0 : wc.cell? ⟨gb143, 0, none⟩ = some (.string a0_0) := (blk_cell BK143.out 0).trans rfl
          have hcz12_1 : wc.cell? ⟨gb143, 1, none⟩ = some (.int .i32 a0_1) := (blk_cell BK143.out 1).trans rfl
          have hcz12_2 : wc.cell? ⟨gb143, 2, none⟩ = some (.bool false) := (blk_cell BK143.out 2).trans rfl
          have hfz12_0 := blk_frozen BK143.out 0
          have hfz12_1 := blk_frozen BK143.out 1
          have hfz12_2 := blk_frozen BK143.out 2
          go_wp2
          go_ret
          exact ⟨by first | rfl | (simp [errW_none, errW_some] <;> rfl) | (simp [*, errW_none, errW_some] <;> rfl), by repeat (first | (with_reducible first | exact HB.out | apply below_alloc | apply pw_below_drewN | apply below_drew1 | refine below_set ?_ GE143.out) | exact HB.out)⟩
        · replace c11 := Bool.eq_false_iff.mpr c11
          subst c11
          have H1 : (if 97 ≤ a0_1 then (spec_hexValue.j1 kj4 (decide (a0_1 ≤ 102)) a0_0 a0_1 false) else (spec_hexValue.j1 kj4 false a0_0 a0_1 false)) = some r := by rw [if_neg (show ¬ (false = true) by decide)] at H; exact H
          clear H
          have H := H1
          clear H1
          have HC13 := Aside0.mk H
          clear H
          go_upto_region 5 with (fail)
          go_cut [19] (fun v19 wc => ∃ (kq : Nat) (x19_12 : Bool), v19 = .bool x19_12 ∧ Aside0 (spec_hexValue.j1 kq x19_12 a0_0 a0_1 false = some r) ∧ Aside0 (kq ≤ kj4) ∧ Aside0 (wc.heap[gb143]? = some (.cells #[.string a0_0, .int .i32 a0_1, .bool false] 37 (0, 0))) ∧ Aside0 (Below w.heap.size w wc))
          case first =>
            have H := HC13.out
            clear HC13
            by_cases c14 : 97 ≤ a0_1
            · rw [if_pos c14] at H
              have c14b0 : decide (97 ≤ a0_1) = true := decide_eq_true c14
              clear c14
              (first | rw [c14b0] | (simp only [i64_w, i32_w]; rw [c14b0]) | skip)
              have H' := Aside0.mk H
              clear H
              have hcz15_0 : wc.cell? ⟨gb143, 0, none⟩ = some (.string a0_0) := (blk_cell BK143.out 0).trans rfl
              have hcz15_1 : wc.cell? ⟨gb143, 1, none⟩ = some (.int .i32 a0_1) := (blk_cell BK143.out 1).trans rfl
              have hcz15_2 : wc.cell? ⟨gb143, 2, none⟩ = some (.bool false) := (blk_cell BK143.out 2).trans rfl
              have hfz15_0 := blk_frozen BK143.out 0
              have hfz15_1 := blk_frozen BK143.out 1
              have hfz15_2 := blk_frozen BK143.out 2
              go_wp2
              go_meet
              case rel => exact ⟨_, (decide (a0_1 ≤ 102)), (by first | rfl | (simp; done) | (simp [*]; done) | (simp [xt_ne_nil]; done)), H', ⟨by have := HJ4.out; first | omega | exact Nat.le_refl _⟩, ⟨by (with_reducible repeat (first | refine blk_drewN ?_ _ | refine blk_drew ?_ | refine blk_alloc ?_ _)); exact BK143.out⟩, ⟨by repeat (first | (with_reducible first | exact HB.out | apply below_alloc | apply pw_below_drewN | apply below_drew1 | refine below_set ?_ GE143.out) | exact HB.out)⟩⟩
            · rw [if_neg c14] at H
              have c14b0 : decide (97 ≤ a0_1) = false := decide_eq_false c14
              clear c14
              (first | rw [c14b0] | (simp only [i64_w, i32_w]; rw [c14b0]) | skip)
              have H' := Aside0.mk H
              clear H
              have hcz16_0 : wc.cell? ⟨gb143, 0, none⟩ = some (.string a0_0) := (blk_cell BK143.out 0).trans rfl
              have hcz16_1 : wc.cell? ⟨gb143, 1, none⟩ = some (.int .i32 a0_1) := (blk_cell BK143.out 1).trans rfl
              have hcz16_2 : wc.cell? ⟨gb143, 2, none⟩ = some (.bool false) := (blk_cell BK143.out 2).trans rfl
              have hfz16_0 := blk_frozen BK143.out 0
              have hfz16_1 := blk_frozen BK143.out 1
              have hfz16_2 := blk_frozen BK143.out 2
              go_wp2
              go_meet
              case rel => exact ⟨_, (false), (by first | rfl | (simp; done) | (simp [*]; done) | (simp [xt_ne_nil]; done)), H', ⟨by have := HJ4.out; first | omega | exact Nat.le_refl _⟩, ⟨by (with_reducible repeat (first | refine blk_drewN ?_ _ | refine blk_drew ?_ | refine blk_alloc ?_ _)); exact BK143.out⟩, ⟨by repeat (first | (with_reducible first | exact HB.out | apply below_alloc | apply pw_below_drewN | apply below_drew1 | refine below_set ?_ GE143.out) | exact HB.out)⟩⟩
          case rest =>
            clear HC13
            try clear c1
            try clear c2
            try clear p2
            try clear p3
            try clear c5
            try clear p6
            try clear c8
            try clear c8b0
            try clear c11
            try clear c14
            try clear c14b0
            try clear hcz10_0
            try clear hcz10_1
            try clear hcz10_2
            try clear hcz12_0
            try clear hcz12_1
            try clear hcz12_2
            try clear hcz15_0
            try clear hcz15_1
            try clear hcz15_2
            try clear hcz16_0
            try clear hcz16_1
            try clear hcz16_2
            try clear hcz4_0
            try clear hcz4_1
            try clear hcz4_2
            try clear hcz7_0
            try clear hcz7_1
            try clear hcz7_2
            try clear hcz9_0
            try clear hcz9_1
            try clear hcz9_2
            try clear hfz10_0
            try clear hfz10_1
            try clear hfz10_2
            try clear hfz12_0
            try clear hfz12_1
            try clear hfz12_2
            try clear hfz15_0
            try clear hfz15_1
            try clear hfz15_2
            try clear hfz16_0
            try clear hfz16_1
            try clear hfz16_2
            try clear hfz4_0
            try clear hfz4_1
            try clear hfz4_2
            try clear hfz7_0
            try clear hfz7_1
            try clear hfz7_2
            try clear hfz9_0
            try clear hfz9_1
            try clear hfz9_2
            try clear p2
            obtain ⟨kq, x19_12, rfl, HA, HJ12, BK143, HB⟩ := hcut
            cases kq with
            | zero => exact absurd HA.out (by simp [spec_hexValue.j1])
            | succ kj12 =>
              have H := HA.out
              clear HA
              simp only [spec_hexValue.j1] at H
              by_cases c17 : x19_12 = true
              · subst c17
                have H1 : (some (wrap64 ((wrap64 (wrap32 (a0_1 - 97))) + 10))) = some r := by rw [if_pos rfl] at H; exact H
                clear H
                have H := H1
                clear H1
                obtain rfl := Option.some.inj H
                have hcz18_0 : wc.cell? ⟨gb143, 0, none⟩ = some (.string a0_0) := (blk_cell BK143.out 0).trans rfl
                have hcz18_1 : wc.cell? ⟨gb143, 1, none⟩ = some (.int .i32 a0_1) := (blk_cell BK143.out 1).trans rfl
                have hcz18_2 : wc.cell? ⟨gb143, 2, none⟩ = some (.bool false) := (blk_cell BK143.out 2).trans rfl
                have hfz18_0 := blk_frozen BK143.out 0
                have hfz18_1 := blk_frozen BK143.out 1
                have hfz18_2 := blk_frozen BK143.out 2
                go_wp2
                go_ret
                exact ⟨by first | rfl | (simp [errW_none, errW_some] <;> rfl) | (simp [*, errW_none, errW_some] <;> rfl), by repeat (first | (with_reducible first | exact HB.out | apply below_alloc | apply pw_below_drewN | apply below_drew1 | refine below_set ?_ GE143.out) | exact HB.out)⟩
              · replace c17 := Bool.eq_false_iff.mpr c17
                subst c17
                have H1 : (if 65 ≤ a0_1 then (if a0_1 ≤ 70 then (some (wrap64 ((wrap64 (wrap32 (a0_1 - 65))) + 10))) else (some (-1))) else (some (-1))) = some r := by rw [if_neg (show ¬ (false = true) by decide)] at H; exact H
                clear H
                have H := H1
                clear H1
                by_cases c19 : 65 ≤ a0_1
                · rw [if_pos c19] at H
                  have c19b0 : decide (65 ≤ a0_1) = true := decide_eq_true c19
                  clear c19
                  by_cases c20 : a0_1 ≤ 70
                  · rw [if_pos c20] at H
                    have c20b0 : decide (a0_1 ≤ 70) = true := decide_eq_true c20
                    clear c20
                    obtain rfl := Option.some.inj H
                    have hcz21_0 : wc.cell? ⟨gb143, 0, none⟩ = some (.string a0_0) := (blk_cell BK143.out 0).trans rfl
                    have hcz21_1 : wc.cell? ⟨gb143, 1, none⟩ = some (.int .i32 a0_1) := (blk_cell BK143.out 1).trans rfl
                    have hcz21_2 : wc.cell? ⟨gb143, 2, none⟩ = some (.bool false) := (blk_cell BK143.out 2).trans rfl
                    have hfz21_0 := blk_frozen BK143.out 0
                    have hfz21_1 := blk_frozen BK143.out 1
                    have hfz21_2 := blk_frozen BK143.out 2
                    go_wp2
                    go_ret
                    exact ⟨by first | rfl | (simp [errW_none, errW_some] <;> rfl) | (simp [*, errW_none, errW_some] <;> rfl), by repeat (first | (with_reducible first | exact HB.out | apply below_alloc | apply pw_below_drewN | apply below_drew1 | refine below_set ?_ GE143.out) | exact HB.out)⟩
                  · rw [if_neg c20] at H
                    have c20b0 : decide (a0_1 ≤ 70) = false := decide_eq_false c20
                    clear c20
                    obtain rfl := Option.some.inj H
                    have hcz22_0 : wc.cell? ⟨gb143, 0, none⟩ = some (.string a0_0) := (blk_cell BK143.out 0).trans rfl
                    have hcz22_1 : wc.cell? ⟨gb143, 1, none⟩ = some (.int .i32 a0_1) := (blk_cell BK143.out 1).trans rfl
                    have hcz22_2 : wc.cell? ⟨gb143, 2, none⟩ = some (.bool false) := (blk_cell BK143.out 2).trans rfl
                    have hfz22_0 := blk_frozen BK143.out 0
                    have hfz22_1 := blk_frozen BK143.out 1
                    have hfz22_2 := blk_frozen BK143.out 2
                    go_wp2
                    go_ret
                    exact ⟨by first | rfl | (simp [errW_none, errW_some] <;> rfl) | (simp [*, errW_none, errW_some] <;> rfl), by repeat (first | (with_reducible first | exact HB.out | apply below_alloc | apply pw_below_drewN | apply below_drew1 | refine below_set ?_ GE143.out) | exact HB.out)⟩
                · rw [if_neg c19] at H
                  have c19b0 : decide (65 ≤ a0_1) = false := decide_eq_false c19
                  clear c19
                  obtain rfl := Option.some.inj H
                  have hcz23_0 : wc.cell? ⟨gb143, 0, none⟩ = some (.string a0_0) := (blk_cell BK143.out 0).trans rfl
                  have hcz23_1 : wc.cell? ⟨gb143, 1, none⟩ = some (.int .i32 a0_1) := (blk_cell BK143.out 1).trans rfl
                  have hcz23_2 : wc.cell? ⟨gb143, 2, none⟩ = some (.bool false) := (blk_cell BK143.out 2).trans rfl
                  have hfz23_0 := blk_frozen BK143.out 0
                  have hfz23_1 := blk_frozen BK143.out 1
                  have hfz23_2 := blk_frozen BK143.out 2
                  go_wp2
                  go_ret
                  exact ⟨by first | rfl | (simp [errW_none, errW_some] <;> rfl) | (simp [*, errW_none, errW_some] <;> rfl), by repeat (first | (with_reducible first | exact HB.out | apply below_alloc | apply pw_below_drewN | apply below_drew1 | refine below_set ?_ GE143.out) | exact HB.out)⟩
/-! ### spec_unquoted: function 34 -/
mutual
def spec_unquoted.j0 : Nat → Int → List (S37) → Bool → Option (ByteArray × Int)
  | 0, _, _, _ => none
  | k + 1, x0, x1, x32 => if x32 = true then (if 1 < (x1.length : Int) then (some ((rd_T37 x1 1).f0, 2)) else (none)) else (if (Go.bits .and .u64 x0 16777216) = 0 then (spec_unquoted.j1 k x1 false) else (if (x1.length : Int) > 2 then (if 1 < (x1.length : Int) then ((spec_hexValue.f k ((rd_T37 x1 1).f0) ((rd_T37 x1 1).f1) ((rd_T37 x1 1).f2)).bind fun t152 => (if t152 ≥ 0 then (if 2 < (x1.length : Int) then ((spec_hexValue.f k ((rd_T37 x1 2).f0) ((rd_T37 x1 2).f1) ((rd_T37 x1 2).f2)).bind fun t154 => (spec_unquoted.j1 k x1 (decide (t154 ≥ 0)))) else (none)) else (spec_unquoted.j1 k x1 false))) else (none)) else (spec_unquoted.j1 k x1 false)))
def spec_unquoted.j1 : Nat → List (S37) → Bool → Option (ByteArray × Int)
  | 0, _, _ => none
  | k + 1, x1, x58 => if x58 = true then (if 1 < (x1.length : Int) then ((spec_hexValue.f k ((rd_T37 x1 1).f0) ((rd_T37 x1 1).f1) ((rd_T37 x1 1).f2)).bind fun t156 => (if 2 < (x1.length : Int) then ((spec_hexValue.f k ((rd_T37 x1 2).f0) ((rd_T37 x1 2).f1) ((rd_T37 x1 2).f2)).bind fun t158 => (some (strOfNums (([(wrap64 ((wrap64 (16 * t156)) + t158)) % 256] : List Int)), 3))) else (none))) else (none)) else (if 0 < (x1.length : Int) then (some ((rd_T37 x1 0).f0, 1)) else (none))
end
def spec_unquoted.f (k : Nat) (a0 : Int) (l1 : List (S37)) : Option (ByteArray × Int) := if (l1.length : Int) > 1 then (if 1 < (l1.length : Int) then (if ((rd_T37 l1 1).f1) = 8219 then (spec_unquoted.j0 k a0 l1 true) else ((spec_SignOf.f k ((rd_T37 l1 1).f1)).bind fun t146 => (if t146 ≥ 0 then ((spec_SignOf.f k ((rd_T37 l1 1).f1)).bind fun t148 => ((spec_Takes.f k a0 t148).bind fun t149 => (spec_unquoted.j0 k a0 l1 t149))) else (spec_unquoted.j0 k a0 l1 false)))) else (none)) else (spec_unquoted.j0 k a0 l1 false)
theorem spec_unquoted.mono_l : ∀ k, (∀ y0 y1 y2, LeO (spec_unquoted.j0 k y0 y1 y2) (spec_unquoted.j0 (k + 1) y0 y1 y2)) ∧ (∀ y0 y1, LeO (spec_unquoted.j1 k y0 y1) (spec_unquoted.j1 (k + 1) y0 y1))
  | 0 => ⟨fun _ _ _ r h => by simp [spec_unquoted.j0] at h, fun _ _ r h => by simp [spec_unquoted.j1] at h⟩
  | k + 1 => by
    obtain ⟨ih0, ih1⟩ := spec_unquoted.mono_l k
    refine ⟨?_, ?_⟩
    · intro y0 y1 y2
      unfold spec_unquoted.j0
      repeat' first
      | (with_reducible exact ih0 _ _ _)
      | (with_reducible exact ih1 _ _)
      | (with_reducible exact spec_SignOf.mono _ _)
      | (with_reducible exact spec_Takes.mono _ _ _)
      | (with_reducible exact spec_hexValue.mono _ _ _ _)
      | (with_reducible exact LeO.refl _)
      | (with_reducible exact LeO.none _)
      | (with_reducible refine LeO.ite ?_ ?_)
      | (with_reducible refine LeO.bind ?_ (fun _ => ?_))
      | exact ih0 _ _ _
      | exact ih1 _ _
      | exact spec_SignOf.mono _ _
      | exact spec_Takes.mono _ _ _
      | exact spec_hexValue.mono _ _ _ _
      | exact LeO.none _
      | refine LeO.ite ?_ ?_
      | refine LeO.bind ?_ (fun _ => ?_)
    · intro y0 y1
      unfold spec_unquoted.j1
      repeat' first
      | (with_reducible exact ih0 _ _ _)
      | (with_reducible exact ih1 _ _)
      | (with_reducible exact spec_SignOf.mono _ _)
      | (with_reducible exact spec_Takes.mono _ _ _)
      | (with_reducible exact spec_hexValue.mono _ _ _ _)
      | (with_reducible exact LeO.refl _)
      | (with_reducible exact LeO.none _)
      | (with_reducible refine LeO.ite ?_ ?_)
      | (with_reducible refine LeO.bind ?_ (fun _ => ?_))
      | exact ih0 _ _ _
      | exact ih1 _ _
      | exact spec_SignOf.mono _ _
      | exact spec_Takes.mono _ _ _
      | exact spec_hexValue.mono _ _ _ _
      | exact LeO.none _
      | refine LeO.ite ?_ ?_
      | refine LeO.bind ?_ (fun _ => ?_)
theorem spec_unquoted.mono : ∀ a0 a1 k, LeO (spec_unquoted.f k a0 a1) (spec_unquoted.f (k + 1) a0 a1) := by
  intro a0 a1 k
  obtain ⟨ih0, ih1⟩ := spec_unquoted.mono_l k
  unfold spec_unquoted.f
  repeat' first
      | (with_reducible exact ih0 _ _ _)
      | (with_reducible exact ih1 _ _)
      | (with_reducible exact spec_SignOf.mono _ _)
      | (with_reducible exact spec_Takes.mono _ _ _)
      | (with_reducible exact spec_hexValue.mono _ _ _ _)
      | (with_reducible exact LeO.refl _)
      | (with_reducible exact LeO.none _)
      | (with_reducible refine LeO.ite ?_ ?_)
      | (with_reducible refine LeO.bind ?_ (fun _ => ?_))
      | exact ih0 _ _ _
      | exact ih1 _ _
      | exact spec_SignOf.mono _ _
      | exact spec_Takes.mono _ _ _
      | exact spec_hexValue.mono _ _ _ _
      | exact LeO.none _
      | refine LeO.ite ?_ ?_
      | refine LeO.bind ?_ (fun _ => ?_)
def spec_unquoted.T4 : Bool × List (List Nat × List Nat) := (true, [([], []), ([0], [0]), ([1], [1]), ([2], [2]), ([3], [3]), ([], []), ([5], [5]), ([6], [6]), ([7, 3], [7]), ([4, 8], [4, 8]), ([9], [9]), ([10], [10]), ([11], [11]), ([12, 8, 0, 1, 2, 3, 4, 5, 6, 7, 8, 9, 10, 11, 12], [12]), ([13, 0, 1, 2, 3, 4, 5, 6, 7, 8, 9, 10, 11, 12, 13], [])])
def spec_unquoted.B4 : List Nat := [0, 1, 3, 7, 15, 0, 32, 96, 239, 511, 1023, 2047, 4095, 8191, 16383]
theorem spec_unquoted.tab4 : rtab .any (opsOf Tryd.f34 4) = spec_unquoted.T4 := by kernel_rfl
theorem spec_unquoted.bits4 : waitsOk spec_unquoted.T4.2 spec_unquoted.B4 = true := by kernel_rfl
set_option maxHeartbeats 8000000 in
set_option maxRecDepth 100000 in
theorem spec_unquoted.calls (k : Nat) (a0 : Int) (A1 : Option Addr) (c1 : Nat) (l1 : List (S37)) (r1 : ByteArray) (r2 : Int) (w : World) (hr1 : Kd.C k37 w A1 l1.length l1) (hc1 : l1.length ≤ c1) (h : spec_unquoted.f k a0 l1 = some (r1, r2)) :
    Calls Tryd.prog 34 #[.int .u64 a0, .slice A1 l1.length c1] w fun e w' => e = .returned (.tuple #[.string r1, .int .i64 r2]) ∧ Below w.heap.size w w' := by
  have hu37 := Tryd.underlying37
  have HR1 := Aside0.mk hr1
  have HC1 := Aside0.mk hc1
  clear hr1 hc1
  have HB := Aside0.mk (Below.refl w.heap.size w)
  have H : (if (l1.length : Int) > 1 then (if 1 < (l1.length : Int) then (if ((rd_T37 l1 1).f1) = 8219 then (spec_unquoted.j0 k a0 l1 true) else ((spec_SignOf.f k ((rd_T37 l1 1).f1)).bind fun t146 => (if t146 ≥ 0 then ((spec_SignOf.f k ((rd_T37 l1 1).f1)).bind fun t148 => ((spec_Takes.f k a0 t148).bind fun t149 => (spec_unquoted.j0 k a0 l1 t149))) else (spec_unquoted.j0 k a0 l1 false)))) else (none)) else (spec_unquoted.j0 k a0 l1 false)) = some (r1, r2) := h
  clear h
  have HC3 := Aside0.mk H
  clear H
  go_enter Tryd.func34, Tryd.ntmps34
  go_upto_region 1 with (fail)
  go_cut [32] (fun v32 wc => ∃ (kq : Nat) (x32_2 : Bool), v32 = .bool x32_2 ∧ Aside0 (spec_unquoted.j0 kq a0 l1 x32_2 = some (r1, r2)) ∧ Aside0 (kq ≤ k) ∧ Aside0 (Below w.heap.size w wc))
  case first =>
    have H := HC3.out
    clear HC3
    by_cases c4 : (l1.length : Int) > 1
    · rw [if_pos c4] at H
      have c4b0 : decide (1 < (l1.length : Int)) = true := decide_eq_true c4
      have c4b1 : decide (1 < l1.length) = true := decide_eq_true (by omega)
      clear c4
      (first | rw [c4b0] | (simp only [i64_w, i32_w]; rw [c4b0]) | skip)
      by_cases c5 : 1 < (l1.length : Int)
      · rw [if_pos c5] at H
        have c5b0 : decide (1 < (l1.length : Int)) = true := decide_eq_true c5
        have c5b1 : decide (1 < l1.length) = true := decide_eq_true (by omega)
        clear c5
        by_cases c6 : ((rd_T37 l1 1).f1) = 8219
        · rw [if_pos c6] at H
          have c6b0 : (((rd_T37 l1 1).f1) == 8219) = true := beq_iff_eq.mpr c6
          have c6b1 : (((rd_T37 l1 1).f1) != 8219) = false := bne_eq_false_iff_eq.mpr c6
          clear c6
          have H' := Aside0.mk H
          clear H
          have p144 : 0 ≤ (1 : Int) := (by omega)
          have q144 : 1 < (l1.length : Int) := of_decide_eq_true (by first | (with_reducible assumption) | assumption)
          obtain ⟨ad144, e144, hx144_0, hx144_1, hx144_2⟩ := at_T37 HR1.out 1 p144 q144
          cases e144
          (try simp only [show (1 : Int).toNat = 1 from rfl, Nat.reduceMul, Nat.reduceEqDiff, Go.Addr.add, ↓reduceIte] at hx144_0)
          (try simp only [show (1 : Int).toNat = 1 from rfl, Nat.reduceMul, Nat.reduceEqDiff, Go.Addr.add, ↓reduceIte] at hx144_1)
          (try simp only [show (1 : Int).toNat = 1 from rfl, Nat.reduceMul, Nat.reduceEqDiff, Go.Addr.add, ↓reduceIte] at hx144_2)
          have qi144 : (1 < l1.length) = True := eq_true (by omega)
          (try rw [show ((1 : Int)).toNat = 1 from rfl] at hx144_0)
          (try rw [show 1 * 3 = 3 from rfl] at hx144_0)
          (try rw [show ((1 : Int)).toNat = 1 from rfl] at hx144_1)
          (try rw [show 1 * 3 = 3 from rfl] at hx144_1)
          (try rw [show ((1 : Int)).toNat = 1 from rfl] at hx144_2)
          (try rw [show 1 * 3 = 3 from rfl] at hx144_2)
          replace hx144_0 := (HB.out.cell (World.block_lt_of_cell? w _ hx144_0)).trans hx144_0
          replace hx144_1 := (HB.out.cell (World.block_lt_of_cell? w _ hx144_1)).trans hx144_1
          replace hx144_2 := (HB.out.cell (World.block_lt_of_cell? w _ hx144_2)).trans hx144_2
          replace p144 := eq_true p144
          replace q144 := eq_true q144
          go_wp2
          go_meet
          case rel => exact ⟨_, (true), (by first | rfl | (simp; done) | (simp [*]; done) | (simp [xt_ne_nil]; done)), H', ⟨by first | omega | exact Nat.le_refl _⟩, ⟨by repeat (first | (with_reducible first | exact HB.out | apply below_alloc | apply pw_below_drewN | apply below_drew1) | exact HB.out)⟩⟩
        · rw [if_neg c6] at H
          have c6b0 : (((rd_T37 l1 1).f1) == 8219) = false := beq_eq_false_iff_ne.mpr c6
          have c6b1 : (((rd_T37 l1 1).f1) != 8219) = true := bne_iff_ne.mpr c6
          replace H := Option.bind_eq_some_iff.mp H
          obtain ⟨t146, A70, H⟩ := H
          replace H : (if t146 ≥ 0 then ((spec_SignOf.f k ((rd_T37 l1 1).f1)).bind fun t148 => ((spec_Takes.f k a0 t148).bind fun t149 => (spec_unquoted.j0 k a0 l1 t149))) else (spec_unquoted.j0 k a0 l1 false)) = some (r1, r2) := H
          have A7 := Aside0.mk A70
          clear A70
          by_cases c8 : t146 ≥ 0
          · rw [if_pos c8] at H
            have c8b0 : decide (0 ≤ t146) = true := decide_eq_true c8
            clear c8
            replace H := Option.bind_eq_some_iff.mp H
            obtain ⟨t148, A90, H⟩ := H
            replace H : ((spec_Takes.f k a0 t148).bind fun t149 => (spec_unquoted.j0 k a0 l1 t149)) = some (r1, r2) := H
            have A9 := Aside0.mk A90
            clear A90
            replace H := Option.bind_eq_some_iff.mp H
            obtain ⟨t149, A100, H⟩ := H
            replace H : (spec_unquoted.j0 k a0 l1 t149) = some (r1, r2) := H
            have A10 := Aside0.mk A100
            clear A100
            have H' := Aside0.mk H
            clear H
            have p144 : 0 ≤ (1 : Int) := (by omega)
            have q144 : 1 < (l1.length : Int) := of_decide_eq_true (by first | (with_reducible assumption) | assumption)
            obtain ⟨ad144, e144, hx144_0, hx144_1, hx144_2⟩ := at_T37 HR1.out 1 p144 q144
            cases e144
            (try simp only [show (1 : Int).toNat = 1 from rfl, Nat.reduceMul, Nat.reduceEqDiff, Go.Addr.add, ↓reduceIte] at hx144_0)
            (try simp only [show (1 : Int).toNat = 1 from rfl, Nat.reduceMul, Nat.reduceEqDiff, Go.Addr.add, ↓reduceIte] at hx144_1)
            (try simp only [show (1 : Int).toNat = 1 from rfl, Nat.reduceMul, Nat.reduceEqDiff, Go.Addr.add, ↓reduceIte] at hx144_2)
            have qi144 : (1 < l1.length) = True := eq_true (by omega)
            (try rw [show ((1 : Int)).toNat = 1 from rfl] at hx144_0)
            (try rw [show 1 * 3 = 3 from rfl] at hx144_0)
            (try rw [show ((1 : Int)).toNat = 1 from rfl] at hx144_1)
            (try rw [show 1 * 3 = 3 from rfl] at hx144_1)
            (try rw [show ((1 : Int)).toNat = 1 from rfl] at hx144_2)
            (try rw [show 1 * 3 = 3 from rfl] at hx144_2)
            replace hx144_0 := (HB.out.cell (World.block_lt_of_cell? w _ hx144_0)).trans hx144_0
            replace hx144_1 := (HB.out.cell (World.block_lt_of_cell? w _ hx144_1)).trans hx144_1
            replace hx144_2 := (HB.out.cell (World.block_lt_of_cell? w _ hx144_2)).trans hx144_2
            replace p144 := eq_true p144
            replace q144 := eq_true q144
            have p145 : 0 ≤ (1 : Int) := (by omega)
            have q145 : 1 < (l1.length : Int) := of_decide_eq_true (by first | (with_reducible assumption) | assumption)
            obtain ⟨ad145, e145, hx145_0, hx145_1, hx145_2⟩ := at_T37 HR1.out 1 p145 q145
            obtain rfl : ad144 = ad145 := (by injection e145)
            (try simp only [show (1 : Int).toNat = 1 from rfl, Nat.reduceMul, Nat.reduceEqDiff, Go.Addr.add, ↓reduceIte] at hx145_0)
            (try simp only [show (1 : Int).toNat = 1 from rfl, Nat.reduceMul, Nat.reduceEqDiff, Go.Addr.add, ↓reduceIte] at hx145_1)
            (try simp only [show (1 : Int).toNat = 1 from rfl, Nat.reduceMul, Nat.reduceEqDiff, Go.Addr.add, ↓reduceIte] at hx145_2)
            have qi145 : (1 < l1.length) = True := eq_true (by omega)
            (try rw [show ((1 : Int)).toNat = 1 from rfl] at hx145_0)
            (try rw [show 1 * 3 = 3 from rfl] at hx145_0)
            (try rw [show ((1 : Int)).toNat = 1 from rfl] at hx145_1)
            (try rw [show 1 * 3 = 3 from rfl] at hx145_1)
            (try rw [show ((1 : Int)).toNat = 1 from rfl] at hx145_2)
            (try rw [show 1 * 3 = 3 from rfl] at hx145_2)
            replace hx145_0 := (HB.out.cell (World.block_lt_of_cell? w _ hx145_0)).trans hx145_0
            replace hx145_1 := (HB.out.cell (World.block_lt_of_cell? w _ hx145_1)).trans hx145_1
            replace hx145_2 := (HB.out.cell (World.block_lt_of_cell? w _ hx145_2)).trans hx145_2
            replace p145 := eq_true p145
            replace q145 := eq_true q145
            obtain rfl : t146 = t148 := Option.some.inj (A7.out.symm.trans A9.out)
            go_wp2_with (first | (go_at_call 33; (with_reducible refine (spec_SignOf.calls k ((rd_T37 l1 1).f1) t146 _ A7.out).mono ?_); rintro e w' ⟨rfl, ⟨nd, rfl⟩⟩; have p147 : 0 ≤ (1 : Int) := (by omega); have q147 : 1 < (l1.length : Int) := of_decide_eq_true (by first | (with_reducible assumption) | assumption); obtain ⟨ad147, e147, hx147_0, hx147_1, hx147_2⟩ := at_T37 HR1.out 1 p147 q147; obtain rfl : ad144 = ad147 := (by injection e147); (try simp only [show (1 : Int).toNat = 1 from rfl, Nat.reduceMul, Nat.reduceEqDiff, Go.Addr.add, ↓reduceIte] at hx147_0); (try simp only [show (1 : Int).toNat = 1 from rfl, Nat.reduceMul, Nat.reduceEqDiff, Go.Addr.add, ↓reduceIte] at hx147_1); (try simp only [show (1 : Int).toNat = 1 from rfl, Nat.reduceMul, Nat.reduceEqDiff, Go.Addr.add, ↓reduceIte] at hx147_2); have qi147 : (1 < l1.length) = True := eq_true (by omega); (try rw [show ((1 : Int)).toNat = 1 from rfl] at hx147_0); (try rw [show 1 * 3 = 3 from rfl] at hx147_0); (try rw [show ((1 : Int)).toNat = 1 from rfl] at hx147_1); (try rw [show 1 * 3 = 3 from rfl] at hx147_1); (try rw [show ((1 : Int)).toNat = 1 from rfl] at hx147_2); (try rw [show 1 * 3 = 3 from rfl] at hx147_2); replace hx147_0 := (HB.out.cell (World.block_lt_of_cell? w _ hx147_0)).trans hx147_0; replace hx147_1 := (HB.out.cell (World.block_lt_of_cell? w _ hx147_1)).trans hx147_1; replace hx147_2 := (HB.out.cell (World.block_lt_of_cell? w _ hx147_2)).trans hx147_2; replace p147 := eq_true p147; replace q147 := eq_true q147) | (go_at_call 33; (with_reducible refine (spec_SignOf.calls k ((rd_T37 l1 1).f1) t146 _ A9.out).mono ?_); rintro e w' ⟨rfl, ⟨nd, rfl⟩⟩) | (go_at_call 26; (with_reducible refine (spec_Takes.calls k a0 t146 t149 _ A10.out).mono ?_); rintro e w' ⟨rfl, ⟨nd, rfl⟩⟩))
            go_meet
            case rel => exact ⟨_, (t149), (by first | rfl | (simp; done) | (simp [*]; done) | (simp [xt_ne_nil]; done)), H', ⟨by first | omega | exact Nat.le_refl _⟩, ⟨by repeat (first | (with_reducible first | exact HB.out | apply below_alloc | apply pw_below_drewN | apply below_drew1) | exact HB.out)⟩⟩
          · rw [if_neg c8] at H
            have c8b0 : decide (0 ≤ t146) = false := decide_eq_false c8
            clear c8
            have H' := Aside0.mk H
            clear H
            have p144 : 0 ≤ (1 : Int) := (by omega)
            have q144 : 1 < (l1.length : Int) := of_decide_eq_true (by first | (with_reducible assumption) | assumption)
            obtain ⟨ad144, e144, hx144_0, hx144_1, hx144_2⟩ := at_T37 HR1.out 1 p144 q144
            cases e144
            (try simp only [show (1 : Int).toNat = 1 from rfl, Nat.reduceMul, Nat.reduceEqDiff, Go.Addr.add, ↓reduceIte] at hx144_0)
            (try simp only [show (1 : Int).toNat = 1 from rfl, Nat.reduceMul, Nat.reduceEqDiff, Go.Addr.add, ↓reduceIte] at hx144_1)
            (try simp only [show (1 : Int).toNat = 1 from rfl, Nat.reduceMul, Nat.reduceEqDiff, Go.Addr.add, ↓reduceIte] at hx144_2)
            have qi144 : (1 < l1.length) = True := eq_true (by omega)
            (try rw [show ((1 : Int)).toNat = 1 from rfl] at hx144_0)
            (try rw [show 1 * 3 = 3 from rfl] at hx144_0)
            (try rw [show ((1 : Int)).toNat = 1 from rfl] at hx144_1)
            (try rw [show 1 * 3 = 3 from rfl] at hx144_1)
            (try rw [show ((1 : Int)).toNat = 1 from rfl] at hx144_2)
            (try rw [show 1 * 3 = 3 from rfl] at hx144_2)
            replace hx144_0 := (HB.out.cell (World.block_lt_of_cell? w _ hx144_0)).trans hx144_0
            replace hx144_1 := (HB.out.cell (World.block_lt_of_cell? w _ hx144_1)).trans hx144_1
            replace hx144_2 := (HB.out.cell (World.block_lt_of_cell? w _ hx144_2)).trans hx144_2
            replace p144 := eq_true p144
            replace q144 := eq_true q144
            have p145 : 0 ≤ (1 : Int) := (by omega)
            have q145 : 1 < (l1.length : Int) := of_decide_eq_true (by first | (with_reducible assumption) | assumption)
            obtain ⟨ad145, e145, hx145_0, hx145_1, hx145_2⟩ := at_T37 HR1.out 1 p145 q145
            obtain rfl : ad144 = ad145 := (by injection e145)
            (try simp only [show (1 : Int).toNat = 1 from rfl, Nat.reduceMul, Nat.reduceEqDiff, Go.Addr.add, ↓reduceIte] at hx145_0)
            (try simp only [show (1 : Int).toNat = 1 from rfl, Nat.reduceMul, Nat.reduceEqDiff, Go.Addr.add, ↓reduceIte] at hx145_1)
            (try simp only [show (1 : Int).toNat = 1 from rfl, Nat.reduceMul, Nat.reduceEqDiff, Go.Addr.add, ↓reduceIte] at hx145_2)
            have qi145 : (1 < l1.length) = True := eq_true (by omega)
            (try rw [show ((1 : Int)).toNat = 1 from rfl] at hx145_0)
            (try rw [show 1 * 3 = 3 from rfl] at hx145_0)
            (try rw [show ((1 : Int)).toNat = 1 from rfl] at hx145_1)
            (try rw [show 1 * 3 = 3 from rfl] at hx145_1)
            (try rw [show ((1 : Int)).toNat = 1 from rfl] at hx145_2)
            (try rw [show 1 * 3 = 3 from rfl] at hx145_2)
            replace hx145_0 := (HB.out.cell (World.block_lt_of_cell? w _ hx145_0)).trans hx145_0
            replace hx145_1 := (HB.out.cell (World.block_lt_of_cell? w _ hx145_1)).trans hx145_1
            replace hx145_2 := (HB.out.cell (World.block_lt_of_cell? w _ hx145_2)).trans hx145_2
            replace p145 := eq_true p145
            replace q145 := eq_true q145
            go_wp2_with (first | (go_at_call 33; (with_reducible refine (spec_SignOf.calls k ((rd_T37 l1 1).f1) t146 _ A7.out).mono ?_); rintro e w' ⟨rfl, ⟨nd, rfl⟩⟩))
            go_meet
            case rel => exact ⟨_, (false), (by first | rfl | (simp; done) | (simp [*]; done) | (simp [xt_ne_nil]; done)), H', ⟨by first | omega | exact Nat.le_refl _⟩, ⟨by repeat (first | (with_reducible first | exact HB.out | apply below_alloc | apply pw_below_drewN | apply below_drew1) | exact HB.out)⟩⟩
      · rw [if_neg c5] at H
        exact absurd H (by simp)
    · rw [if_neg c4] at H
      have c4b0 : decide (1 < (l1.length : Int)) = false := decide_eq_false c4
      have c4b1 : decide (1 < l1.length) = false := decide_eq_false (by omega)
      clear c4
      (first | rw [c4b0] | (simp only [i64_w, i32_w]; rw [c4b0]) | skip)
      have H' := Aside0.mk H
      clear H
      go_wp2
      go_meet
      case rel => exact ⟨_, (false), (by first | rfl | (simp; done) | (simp [*]; done) | (simp [xt_ne_nil]; done)), H', ⟨by first | omega | exact Nat.le_refl _⟩, ⟨by repeat (first | (with_reducible first | exact HB.out | apply below_alloc | apply pw_below_drewN | apply below_drew1) | exact HB.out)⟩⟩
  case rest =>
    clear HC3
    try clear c1
    try clear p1
    try clear q1
    try clear hx1
    try clear qi1
    try clear p2
    try clear c3
    try clear c4
    try clear c4b0
    try clear c4b1
    try clear c5
    try clear c5b0
    try clear c5b1
    try clear c6
    try clear c6b0
    try clear c6b1
    try clear c8
    try clear c8b0
    try clear hx144_0
    try clear hx144_1
    try clear hx144_2
    try clear hx145_0
    try clear hx145_1
    try clear hx145_2
    try clear hx147_0
    try clear hx147_1
    try clear hx147_2
    try clear p144
    try clear p145
    try clear p147
    try clear q144
    try clear q145
    try clear q147
    obtain ⟨kq, x32_2, rfl, HA, HJ2, HB⟩ := hcut
    cases kq with
    | zero => exact absurd HA.out (by simp [spec_unquoted.j0])
    | succ kj2 =>
      have H := HA.out
      clear HA
      simp only [spec_unquoted.j0] at H
      by_cases c11 : x32_2 = true
      · subst c11
        have H1 : (if 1 < (l1.length : Int) then (some ((rd_T37 l1 1).f0, 2)) else (none)) = some (r1, r2) := by rw [if_pos rfl] at H; exact H
        clear H
        have H := H1
        clear H1
        by_cases c12 : 1 < (l1.length : Int)
        · rw [if_pos c12] at H
          have c12b0 : decide (1 < (l1.length : Int)) = true := decide_eq_true c12
          have c12b1 : decide (1 < l1.length) = true := decide_eq_true (by omega)
          clear c12
          simp only [Option.some.injEq, Prod.mk.injEq] at H
          obtain ⟨rfl, rfl⟩ := H
          have p150 : 0 ≤ (1 : Int) := (by omega)
          have q150 : 1 < (l1.length : Int) := of_decide_eq_true (by first | (with_reducible assumption) | assumption)
          obtain ⟨ad150, e150, hx150_0, hx150_1, hx150_2⟩ := at_T37 HR1.out 1 p150 q150
          cases e150
          (try simp only [show (1 : Int).toNat = 1 from rfl, Nat.reduceMul, Nat.reduceEqDiff, Go.Addr.add, ↓reduceIte] at hx150_0)
          (try simp only [show (1 : Int).toNat = 1 from rfl, Nat.reduceMul, Nat.reduceEqDiff, Go.Addr.add, ↓reduceIte] at hx150_1)
          (try simp only [show (1 : Int).toNat = 1 from rfl, Nat.reduceMul, Nat.reduceEqDiff, Go.Addr.add, ↓reduceIte] at hx150_2)
          have qi150 : (1 < l1.length) = True := eq_true (by omega)
          (try rw [show ((1 : Int)).toNat = 1 from rfl] at hx150_0)
          (try rw [show 1 * 3 = 3 from rfl] at hx150_0)
          (try rw [show ((1 : Int)).toNat = 1 from rfl] at hx150_1)
          (try rw [show 1 * 3 = 3 from rfl] at hx150_1)
          (try rw [show ((1 : Int)).toNat = 1 from rfl] at hx150_2)
          (try rw [show 1 * 3 = 3 from rfl] at hx150_2)
          replace hx150_0 := (HB.out.cell (World.block_lt_of_cell? w _ hx150_0)).trans hx150_0
          replace hx150_1 := (HB.out.cell (World.block_lt_of_cell? w _ hx150_1)).trans hx150_1
          replace hx150_2 := (HB.out.cell (World.block_lt_of_cell? w _ hx150_2)).trans hx150_2
          replace p150 := eq_true p150
          replace q150 := eq_true q150
          go_wp2
          go_ret2
          exact ⟨by first | rfl | (simp [errW_none, errW_some] <;> rfl) | (simp [*, errW_none, errW_some] <;> rfl), by repeat (first | (with_reducible first | exact HB.out | apply below_alloc | apply pw_below_drewN | apply below_drew1) | exact HB.out)⟩
        · rw [if_neg c12] at H
          exact absurd H (by simp)
      · replace c11 := Bool.eq_false_iff.mpr c11
        subst c11
        have H1 : (if (Go.bits .and .u64 a0 16777216) = 0 then (spec_unquoted.j1 kj2 l1 false) else (if (l1.length : Int) > 2 then (if 1 < (l1.length : Int) then ((spec_hexValue.f kj2 ((rd_T37 l1 1).f0) ((rd_T37 l1 1).f1) ((rd_T37 l1 1).f2)).bind fun t152 => (if t152 ≥ 0 then (if 2 < (l1.length : Int) then ((spec_hexValue.f kj2 ((rd_T37 l1 2).f0) ((rd_T37 l1 2).f1) ((rd_T37 l1 2).f2)).bind fun t154 => (spec_unquoted.j1 kj2 l1 (decide (t154 ≥ 0)))) else (none)) else (spec_unquoted.j1 kj2 l1 false))) else (none)) else (spec_unquoted.j1 kj2 l1 false))) = some (r1, r2) := by rw [if_neg (show ¬ (false = true) by decide)] at H; exact H
        clear H
        have H := H1
        clear H1
        have HC13 := Aside0.mk H
        clear H
        go_upto_region 3 with (fail)
        go_cut [58] (fun v58 wc => ∃ (kq : Nat) (x58_12 : Bool), v58 = .bool x58_12 ∧ Aside0 (spec_unquoted.j1 kq l1 x58_12 = some (r1, r2)) ∧ Aside0 (kq ≤ kj2) ∧ Aside0 (Below w.heap.size w wc))
        case first =>
          have H := HC13.out
          clear HC13
          by_cases c14 : (Go.bits .and .u64 a0 16777216) = 0
          · rw [if_pos c14] at H
            have c14b0 : ((Go.bits .and .u64 a0 16777216) == 0) = true := beq_iff_eq.mpr c14
            have c14b1 : ((Go.bits .and .u64 a0 16777216) != 0) = false := bne_eq_false_iff_eq.mpr c14
            clear c14
            (first | rw [c14b0] | (simp only [i64_w, i32_w]; rw [c14b0]) | skip)
            have H' := Aside0.mk H
            clear H
            go_wp2
            go_meet
            case rel => exact ⟨_, (false), (by first | rfl | (simp; done) | (simp [*]; done) | (simp [xt_ne_nil]; done)), H', ⟨by have := HJ2.out; first | omega | exact Nat.le_refl _⟩, ⟨by repeat (first | (with_reducible first | exact HB.out | apply below_alloc | apply pw_below_drewN | apply below_drew1) | exact HB.out)⟩⟩
          · rw [if_neg c14] at H
            have c14b0 : ((Go.bits .and .u64 a0 16777216) == 0) = false := beq_eq_false_iff_ne.mpr c14
            have c14b1 : ((Go.bits .and .u64 a0 16777216) != 0) = true := bne_iff_ne.mpr c14
            (first | rw [c14b0] | (simp only [i64_w, i32_w]; rw [c14b0]) | skip)
            by_cases c15 : (l1.length : Int) > 2
            · rw [if_pos c15] at H
              have c15b0 : decide (2 < (l1.length : Int)) = true := decide_eq_true c15
              have c15b1 : decide (2 < l1.length) = true := decide_eq_true (by omega)
              clear c15
              by_cases c16 : 1 < (l1.length : Int)
              · rw [if_pos c16] at H
                have c16b0 : decide (1 < (l1.length : Int)) = true := decide_eq_true c16
                have c16b1 : decide (1 < l1.length) = true := decide_eq_true (by omega)
                clear c16
                replace H := Option.bind_eq_some_iff.mp H
                obtain ⟨t152, A170, H⟩ := H
                replace H : (if t152 ≥ 0 then (if 2 < (l1.length : Int) then ((spec_hexValue.f kj2 ((rd_T37 l1 2).f0) ((rd_T37 l1 2).f1) ((rd_T37 l1 2).f2)).bind fun t154 => (spec_unquoted.j1 kj2 l1 (decide (t154 ≥ 0)))) else (none)) else (spec_unquoted.j1 kj2 l1 false)) = some (r1, r2) := H
                have A17 := Aside0.mk A170
                clear A170
                by_cases c18 : t152 ≥ 0
                · rw [if_pos c18] at H
                  have c18b0 : decide (0 ≤ t152) = true := decide_eq_true c18
                  clear c18
                  by_cases c19 : 2 < (l1.length : Int)
                  · rw [if_pos c19] at H
                    have c19b0 : decide (2 < (l1.length : Int)) = true := decide_eq_true c19
                    have c19b1 : decide (2 < l1.length) = true := decide_eq_true (by omega)
                    clear c19
                    replace H := Option.bind_eq_some_iff.mp H
                    obtain ⟨t154, A200, H⟩ := H
                    replace H : (spec_unquoted.j1 kj2 l1 (decide (t154 ≥ 0))) = some (r1, r2) := H
                    have A20 := Aside0.mk A200
                    clear A200
                    have H' := Aside0.mk H
                    clear H
                    have p151 : 0 ≤ (1 : Int) := (by omega)
                    have q151 : 1 < (l1.length : Int) := of_decide_eq_true (by first | (with_reducible assumption) | assumption)
                    obtain ⟨ad151, e151, hx151_0, hx151_1, hx151_2⟩ := at_T37 HR1.out 1 p151 q151
                    cases e151
                    (try simp only [show (1 : Int).toNat = 1 from rfl, Nat.reduceMul, Nat.reduceEqDiff, Go.Addr.add, ↓reduceIte] at hx151_0)
                    (try simp only [show (1 : Int).toNat = 1 from rfl, Nat.reduceMul, Nat.reduceEqDiff, Go.Addr.add, ↓reduceIte] at hx151_1)
                    (try simp only [show (1 : Int).toNat = 1 from rfl, Nat.reduceMul, Nat.reduceEqDiff, Go.Addr.add, ↓reduceIte] at hx151_2)
                    have qi151 : (1 < l1.length) = True := eq_true (by omega)
                    (try rw [show ((1 : Int)).toNat = 1 from rfl] at hx151_0)
                    (try rw [show 1 * 3 = 3 from rfl] at hx151_0)
                    (try rw [show ((1 : Int)).toNat = 1 from rfl] at hx151_1)
                    (try rw [show 1 * 3 = 3 from rfl] at hx151_1)
                    (try rw [show ((1 : Int)).toNat = 1 from rfl] at hx151_2)
                    (try rw [show 1 * 3 = 3 from rfl] at hx151_2)
                    replace hx151_0 := (HB.out.cell (World.block_lt_of_cell? w _ hx151_0)).trans hx151_0
                    replace hx151_1 := (HB.out.cell (World.block_lt_of_cell? w _ hx151_1)).trans hx151_1
                    replace hx151_2 := (HB.out.cell (World.block_lt_of_cell? w _ hx151_2)).trans hx151_2
                    replace p151 := eq_true p151
                    replace q151 := eq_true q151
                    go_wp2_with (first | (go_at_call 52; (with_reducible refine (spec_hexValue.calls kj2 ((rd_T37 l1 1).f0) ((rd_T37 l1 1).f1) ((rd_T37 l1 1).f2) t152 _ A17.out).mono ?_); rintro e w21 ⟨rfl, hb⟩; have n0_ := Aside0.mk (below_step (by repeat (first | (with_reducible first | exact HB.out | apply below_alloc | apply pw_below_drewN | apply below_drew1) | exact HB.out)) hb); clear HB; have HB := n0_; clear n0_; (try clear hb); (try clear hb2); (try clear hk); (try clear hi); have p153 : 0 ≤ (2 : Int) := (by omega); have q153 : 2 < (l1.length : Int) := of_decide_eq_true (by first | (with_reducible assumption) | assumption); obtain ⟨ad153, e153, hx153_0, hx153_1, hx153_2⟩ := at_T37 HR1.out 2 p153 q153; obtain rfl : ad151 = ad153 := (by injection e153); (try simp only [show (2 : Int).toNat = 2 from rfl, Nat.reduceMul, Nat.reduceEqDiff, Go.Addr.add, ↓reduceIte] at hx153_0); (try simp only [show (2 : Int).toNat = 2 from rfl, Nat.reduceMul, Nat.reduceEqDiff, Go.Addr.add, ↓reduceIte] at hx153_1); (try simp only [show (2 : Int).toNat = 2 from rfl, Nat.reduceMul, Nat.reduceEqDiff, Go.Addr.add, ↓reduceIte] at hx153_2); have qi153 : (2 < l1.length) = True := eq_true (by omega); (try rw [show ((2 : Int)).toNat = 2 from rfl] at hx153_0); (try rw [show 2 * 3 = 6 from rfl] at hx153_0); (try rw [show ((2 : Int)).toNat = 2 from rfl] at hx153_1); (try rw [show 2 * 3 = 6 from rfl] at hx153_1); (try rw [show ((2 : Int)).toNat = 2 from rfl] at hx153_2); (try rw [show 2 * 3 = 6 from rfl] at hx153_2); replace hx153_0 := (HB.out.cell (World.block_lt_of_cell? w _ hx153_0)).trans hx153_0; replace hx153_1 := (HB.out.cell (World.block_lt_of_cell? w _ hx153_1)).trans hx153_1; replace hx153_2 := (HB.out.cell (World.block_lt_of_cell? w _ hx153_2)).trans hx153_2; replace p153 := eq_true p153; replace q153 := eq_true q153) | (go_at_call 52; (with_reducible refine (spec_hexValue.calls kj2 ((rd_T37 l1 2).f0) ((rd_T37 l1 2).f1) ((rd_T37 l1 2).f2) t154 _ A20.out).mono ?_); rintro e w22 ⟨rfl, hb⟩; have n0_ := Aside0.mk (below_step (by repeat (first | (with_reducible first | exact HB.out | apply below_alloc | apply pw_below_drewN | apply below_drew1) | exact HB.out)) hb); clear HB; have HB := n0_; clear n0_; (try clear hb); (try clear hb2); (try clear hk); (try clear hi)))
                    go_meet
                    case rel => exact ⟨_, (decide (t154 ≥ 0)), (by first | rfl | (simp; done) | (simp [*]; done) | (simp [xt_ne_nil]; done)), H', ⟨by have := HJ2.out; first | omega | exact Nat.le_refl _⟩, ⟨by repeat (first | (with_reducible first | exact HB.out | apply below_alloc | apply pw_below_drewN | apply below_drew1) | exact HB.out)⟩⟩
                  · rw [if_neg c19] at H
                    exact absurd H (by simp)
                · rw [if_neg c18] at H
                  have c18b0 : decide (0 ≤ t152) = false := decide_eq_false c18
                  clear c18
                  have H' := Aside0.mk H
                  clear H
                  have p151 : 0 ≤ (1 : Int) := (by omega)
                  have q151 : 1 < (l1.length : Int) := of_decide_eq_true (by first | (with_reducible assumption) | assumption)
                  obtain ⟨ad151, e151, hx151_0, hx151_1, hx151_2⟩ := at_T37 HR1.out 1 p151 q151
                  cases e151
                  (try simp only [show (1 : Int).toNat = 1 from rfl, Nat.reduceMul, Nat.reduceEqDiff, Go.Addr.add, ↓reduceIte] at hx151_0)
                  (try simp only [show (1 : Int).toNat = 1 from rfl, Nat.reduceMul, Nat.reduceEqDiff, Go.Addr.add, ↓reduceIte] at hx151_1)
                  (try simp only [show (1 : Int).toNat = 1 from rfl, Nat.reduceMul, Nat.reduceEqDiff, Go.Addr.add, ↓reduceIte] at hx151_2)
                  have qi151 : (1 < l1.length) = True := eq_true (by omega)
                  (try rw [show ((1 : Int)).toNat = 1 from rfl] at hx151_0)
                  (try rw [show 1 * 3 = 3 from rfl] at hx151_0)
                  (try rw [show ((1 : Int)).toNat = 1 from rfl] at hx151_1)
                  (try rw [show 1 * 3 = 3 from rfl] at hx151_1)
                  (try rw [show ((1 : Int)).toNat = 1 from rfl] at hx151_2)
                  (try rw [show 1 * 3 = 3 from rfl] at hx151_2)
                  replace hx151_0 := (HB.out.cell (World.block_lt_of_cell? w _ hx151_0)).trans hx151_0
                  replace hx151_1 := (HB.out.cell (World.block_lt_of_cell? w _ hx151_1)).trans hx151_1
                  replace hx151_2 := (HB.out.cell (World.block_lt_of_cell? w _ hx151_2)).trans hx151_2
                  replace p151 := eq_true p151
                  replace q151 := eq_true q151
                  go_wp2_with (first | (go_at_call 52; (with_reducible refine (spec_hexValue.calls kj2 ((rd_T37 l1 1).f0) ((rd_T37 l1 1).f1) ((rd_T37 l1 1).f2) t152 _ A17.out).mono ?_); rintro e w23 ⟨rfl, hb⟩; have n0_ := Aside0.mk (below_step (by repeat (first | (with_reducible first | exact HB.out | apply below_alloc | apply pw_below_drewN | apply below_drew1) | exact HB.out)) hb); clear HB; have HB := n0_; clear n0_; (try clear hb); (try clear hb2); (try clear hk); (try clear hi)))
                  go_meet
                  case rel => exact ⟨_, (false), (by first | rfl | (simp; done) | (simp [*]; done) | (simp [xt_ne_nil]; done)), H', ⟨by have := HJ2.out; first | omega | exact Nat.le_refl _⟩, ⟨by repeat (first | (with_reducible first | exact HB.out | apply below_alloc | apply pw_below_drewN | apply below_drew1) | exact HB.out)⟩⟩
              · rw [if_neg c16] at H
                exact absurd H (by simp)
            · rw [if_neg c15] at H
              have c15b0 : decide (2 < (l1.length : Int)) = false := decide_eq_false c15
              have c15b1 : decide (2 < l1.length) = false := decide_eq_false (by omega)
              clear c15
              have H' := Aside0.mk H
              clear H
              go_wp2
              go_meet
              case rel => exact ⟨_, (false), (by first | rfl | (simp; done) | (simp [*]; done) | (simp [xt_ne_nil]; done)), H', ⟨by have := HJ2.out; first | omega | exact Nat.le_refl _⟩, ⟨by repeat (first | (with_reducible first | exact HB.out | apply below_alloc | apply pw_below_drewN | apply below_drew1) | exact HB.out)⟩⟩
        case rest =>
          clear HC13
          try clear c1
          try clear p1
          try clear q1
          try clear hx1
          try clear qi1
          try clear p2
          try clear c3
          try clear c4
          try clear c4b0
          try clear c4b1
          try clear c5
          try clear c5b0
          try clear c5b1
          try clear c6
          try clear c6b0
          try clear c6b1
          try clear c8
          try clear c8b0
          try clear c11
          try clear c12
          try clear c12b0
          try clear c12b1
          try clear c14
          try clear c14b0
          try clear c14b1
          try clear p14
          try clear q14
          try clear hx14
          try clear qi14
          try clear c15
          try clear c15b0
          try clear c15b1
          try clear p15
          try clear q15
          try clear hx15
          try clear qi15
          try clear c16
          try clear c16b0
          try clear c16b1
          try clear c18
          try clear c18b0
          try clear c19
          try clear c19b0
          try clear c19b1
          try clear hx144_0
          try clear hx144_1
          try clear hx144_2
          try clear hx145_0
          try clear hx145_1
          try clear hx145_2
          try clear hx147_0
          try clear hx147_1
          try clear hx147_2
          try clear hx150_0
          try clear hx150_1
          try clear hx150_2
          try clear hx151_0
          try clear hx151_1
          try clear hx151_2
          try clear hx153_0
          try clear hx153_1
          try clear hx153_2
          try clear p1
          try clear p144
          try clear p145
          try clear p147
          try clear p150
          try clear p151
          try clear p153
          try clear p2
          try clear q1
          try clear q144
          try clear q145
          try clear q147
          try clear q150
          try clear q151
          try clear q153
          obtain ⟨kq, x58_12, rfl, HA, HJ12, HB⟩ := hcut
          cases kq with
          | zero => exact absurd HA.out (by simp [spec_unquoted.j1])
          | succ kj12 =>
            have H := HA.out
            clear HA
            simp only [spec_unquoted.j1] at H
            by_cases c24 : x58_12 = true
            · subst c24
              have H1 : (if 1 < (l1.length : Int) then ((spec_hexValue.f kj12 ((rd_T37 l1 1).f0) ((rd_T37 l1 1).f1) ((rd_T37 l1 1).f2)).bind fun t156 => (if 2 < (l1.length : Int) then ((spec_hexValue.f kj12 ((rd_T37 l1 2).f0) ((rd_T37 l1 2).f1) ((rd_T37 l1 2).f2)).bind fun t158 => (some (strOfNums (([(wrap64 ((wrap64 (16 * t156)) + t158)) % 256] : List Int)), 3))) else (none))) else (none)) = some (r1, r2) := by rw [if_pos rfl] at H; exact H
              clear H
              have H := H1
              clear H1
              by_cases c25 : 1 < (l1.length : Int)
              · rw [if_pos c25] at H
                have c25b0 : decide (1 < (l1.length : Int)) = true := decide_eq_true c25
                have c25b1 : decide (1 < l1.length) = true := decide_eq_true (by omega)
                clear c25
                replace H := Option.bind_eq_some_iff.mp H
                obtain ⟨t156, A260, H⟩ := H
                replace H : (if 2 < (l1.length : Int) then ((spec_hexValue.f kj12 ((rd_T37 l1 2).f0) ((rd_T37 l1 2).f1) ((rd_T37 l1 2).f2)).bind fun t158 => (some (strOfNums (([(wrap64 ((wrap64 (16 * t156)) + t158)) % 256] : List Int)), 3))) else (none)) = some (r1, r2) := H
                have A26 := Aside0.mk A260
                clear A260
                by_cases c27 : 2 < (l1.length : Int)
                · rw [if_pos c27] at H
                  have c27b0 : decide (2 < (l1.length : Int)) = true := decide_eq_true c27
                  have c27b1 : decide (2 < l1.length) = true := decide_eq_true (by omega)
                  clear c27
                  replace H := Option.bind_eq_some_iff.mp H
                  obtain ⟨t158, A280, H⟩ := H
                  replace H : (some (strOfNums (([(wrap64 ((wrap64 (16 * t156)) + t158)) % 256] : List Int)), 3)) = some (r1, r2) := H
                  have A28 := Aside0.mk A280
                  clear A280
                  obtain ⟨y159, hy159⟩ : ∃ y_ : List Int, y_ = (([(wrap64 ((wrap64 (16 * t156)) + t158)) % 256] : List Int)) := ⟨_, rfl⟩
                  replace H : (some (strOfNums y159, 3)) = some (r1, r2) := by first | (rw [hy159]; with_reducible exact H) | (have H2_ := (Option.bind_some _ _).symm.trans H; rw [hy159]; with_reducible exact H2_) | (have H2_ := (Option.bind_some _ _).symm.trans H; with_reducible exact H2_) | with_reducible exact H | (rw [hy159]; exact H) | exact H
                  have Ny159 := Aside0.mk hy159
                  clear hy159
                  simp only [Option.some.injEq, Prod.mk.injEq] at H
                  obtain ⟨rfl, rfl⟩ := H
                  try go_wp2
                  have n0_ := Aside0.mk (below_drew1 HB.out)
                  clear HB
                  have HB := n0_
                  clear n0_
                  have p155 : 0 ≤ (1 : Int) := (by omega)
                  have q155 : 1 < (l1.length : Int) := of_decide_eq_true (by first | (with_reducible assumption) | assumption)
                  obtain ⟨ad155, e155, hx155_0, hx155_1, hx155_2⟩ := at_T37 HR1.out 1 p155 q155
                  have hw155_2 := hx155_2
                  (try rw [show ((1 : Int)).toNat = 1 from rfl] at hw155_2)
                  (try rw [show 1 * 3 = 3 from rfl] at hw155_2)
                  (try simp only [Nat.reduceMul, Nat.reduceEqDiff, Go.Addr.add, ↓reduceIte] at hw155_2)
                  have hw155_1 := hx155_1
                  (try rw [show ((1 : Int)).toNat = 1 from rfl] at hw155_1)
                  (try rw [show 1 * 3 = 3 from rfl] at hw155_1)
                  (try simp only [Nat.reduceMul, Nat.reduceEqDiff, Go.Addr.add, ↓reduceIte] at hw155_1)
                  have hw155_0 := hx155_0
                  (try rw [show ((1 : Int)).toNat = 1 from rfl] at hw155_0)
                  (try rw [show 1 * 3 = 3 from rfl] at hw155_0)
                  (try simp only [Nat.reduceMul, Nat.reduceEqDiff, Go.Addr.add, ↓reduceIte] at hw155_0)
                  cases e155
                  (try simp only [show (1 : Int).toNat = 1 from rfl, Nat.reduceMul, Nat.reduceEqDiff, Go.Addr.add, ↓reduceIte] at hx155_0)
                  (try simp only [show (1 : Int).toNat = 1 from rfl, Nat.reduceMul, Nat.reduceEqDiff, Go.Addr.add, ↓reduceIte] at hx155_1)
                  (try simp only [show (1 : Int).toNat = 1 from rfl, Nat.reduceMul, Nat.reduceEqDiff, Go.Addr.add, ↓reduceIte] at hx155_2)
                  have qi155 : (1 < l1.length) = True := eq_true (by omega)
                  (try rw [show ((1 : Int)).toNat = 1 from rfl] at hx155_0)
                  (try rw [show 1 * 3 = 3 from rfl] at hx155_0)
                  (try rw [show ((1 : Int)).toNat = 1 from rfl] at hx155_1)
                  (try rw [show 1 * 3 = 3 from rfl] at hx155_1)
                  (try rw [show ((1 : Int)).toNat = 1 from rfl] at hx155_2)
                  (try rw [show 1 * 3 = 3 from rfl] at hx155_2)
                  replace hx155_0 := (HB.out.cell (World.block_lt_of_cell? w _ hx155_0)).trans hx155_0
                  replace hx155_1 := (HB.out.cell (World.block_lt_of_cell? w _ hx155_1)).trans hx155_1
                  replace hx155_2 := (HB.out.cell (World.block_lt_of_cell? w _ hx155_2)).trans hx155_2
                  replace p155 := eq_true p155
                  replace q155 := eq_true q155
                  have p157 : 0 ≤ (2 : Int) := (by omega)
                  have q157 : 2 < (l1.length : Int) := of_decide_eq_true (by first | (with_reducible assumption) | assumption)
                  obtain ⟨ad157, e157, hx157_0, hx157_1, hx157_2⟩ := at_T37 HR1.out 2 p157 q157
                  have hw157_2 := hx157_2
                  (try rw [show ((2 : Int)).toNat = 2 from rfl] at hw157_2)
                  (try rw [show 2 * 3 = 6 from rfl] at hw157_2)
                  (try simp only [Nat.reduceMul, Nat.reduceEqDiff, Go.Addr.add, ↓reduceIte] at hw157_2)
                  have hw157_1 := hx157_1
                  (try rw [show ((2 : Int)).toNat = 2 from rfl] at hw157_1)
                  (try rw [show 2 * 3 = 6 from rfl] at hw157_1)
                  (try simp only [Nat.reduceMul, Nat.reduceEqDiff, Go.Addr.add, ↓reduceIte] at hw157_1)
                  have hw157_0 := hx157_0
                  (try rw [show ((2 : Int)).toNat = 2 from rfl] at hw157_0)
                  (try rw [show 2 * 3 = 6 from rfl] at hw157_0)
                  (try simp only [Nat.reduceMul, Nat.reduceEqDiff, Go.Addr.add, ↓reduceIte] at hw157_0)
                  obtain rfl : ad155 = ad157 := (by injection e157)
                  (try simp only [show (2 : Int).toNat = 2 from rfl, Nat.reduceMul, Nat.reduceEqDiff, Go.Addr.add, ↓reduceIte] at hx157_0)
                  (try simp only [show (2 : Int).toNat = 2 from rfl, Nat.reduceMul, Nat.reduceEqDiff, Go.Addr.add, ↓reduceIte] at hx157_1)
                  (try simp only [show (2 : Int).toNat = 2 from rfl, Nat.reduceMul, Nat.reduceEqDiff, Go.Addr.add, ↓reduceIte] at hx157_2)
                  have qi157 : (2 < l1.length) = True := eq_true (by omega)
                  (try rw [show ((2 : Int)).toNat = 2 from rfl] at hx157_0)
                  (try rw [show 2 * 3 = 6 from rfl] at hx157_0)
                  (try rw [show ((2 : Int)).toNat = 2 from rfl] at hx157_1)
                  (try rw [show 2 * 3 = 6 from rfl] at hx157_1)
                  (try rw [show ((2 : Int)).toNat = 2 from rfl] at hx157_2)
                  (try rw [show 2 * 3 = 6 from rfl] at hx157_2)
                  replace hx157_0 := (HB.out.cell (World.block_lt_of_cell? w _ hx157_0)).trans hx157_0
                  replace hx157_1 := (HB.out.cell (World.block_lt_of_cell? w _ hx157_1)).trans hx157_1
                  replace hx157_2 := (HB.out.cell (World.block_lt_of_cell? w _ hx157_2)).trans hx157_2
                  replace p157 := eq_true p157
                  replace q157 := eq_true q157
                  refine start_ (n := 15) (S := fun w' => w'.cell? ⟨ad155.block, ad155.off + 3, none⟩ = some (.string ((rd_T37 l1 1).f0)) ∧ w'.cell? ⟨ad155.block, ad155.off + 3 + 1, none⟩ = some (.int .i32 ((rd_T37 l1 1).f1)) ∧ w'.cell? ⟨ad155.block, ad155.off + 3 + 2, none⟩ = some (.bool ((rd_T37 l1 1).f2)) ∧ w'.cell? ⟨ad155.block, ad155.off + 6, none⟩ = some (.string ((rd_T37 l1 2).f0)) ∧ w'.cell? ⟨ad155.block, ad155.off + 6 + 1, none⟩ = some (.int .i32 ((rd_T37 l1 2).f1)) ∧ w'.cell? ⟨ad155.block, ad155.off + 6 + 2, none⟩ = some (.bool ((rd_T37 l1 2).f2))) (ds := []) #[false, false, false, false, false, false, false, false, false, false, false, false, false, false, false] (by kernel_rfl) rfl rfl ⟨((HB.out.cell (World.block_lt_of_cell? w _ hw155_0)).trans hw155_0), ((HB.out.cell (World.block_lt_of_cell? w _ hw155_1)).trans hw155_1), ((HB.out.cell (World.block_lt_of_cell? w _ hw155_2)).trans hw155_2), ((HB.out.cell (World.block_lt_of_cell? w _ hw157_0)).trans hw157_0), ((HB.out.cell (World.block_lt_of_cell? w _ hw157_1)).trans hw157_1), ((HB.out.cell (World.block_lt_of_cell? w _ hw157_2)).trans hw157_2)⟩ (fun hHeld => ?_); refine with_tabW spec_unquoted.tab4 spec_unquoted.bits4 (fun HT_ HW_ => ?_)
                  generalize wc.drew = w29 at HB hx155_0 hx155_1 hx155_2 hx157_0 hx157_1 hx157_2 hHeld ⊢
                  refine pure_ (i := 0) (N := some 59) (v := ?_) (a' := ?_) #[true, false, false, false, false, false, false, false, false, false, false, false, false, false, false] rfl rfl (any_of HT_.out (by kernel_rfl)) (fun _ _ _ h => h) (Or.inl ⟨by rfl, ?_⟩) ?_ ?_
                  rotate_left
                  · intro w'
                    go_simp
                    with_reducible rfl
                  rotate_left
                  · simp only [Act.put, List.setIfInBounds_toArray, List.set_cons_zero, List.set_cons_succ, i64_w, i32_w]
                    rfl
                  refine pure_ (i := 1) (N := some 60) (v := ?_) (a' := ?_) #[true, true, false, false, false, false, false, false, false, false, false, false, false, false, false] rfl rfl (any_of HT_.out (by kernel_rfl)) (fun _ _ _ h => h) (Or.inl ⟨by rfl, ?_⟩) ?_ ?_
                  rotate_left
                  · intro w'
                    go_simp
                    with_reducible rfl
                  rotate_left
                  · simp only [Act.put, List.setIfInBounds_toArray, List.set_cons_zero, List.set_cons_succ, i64_w, i32_w]
                    rfl
                  refine pure_ (i := 5) (N := some 64) (v := ?_) (a' := ?_) #[true, true, false, false, false, true, false, false, false, false, false, false, false, false, false] rfl rfl (any_of HT_.out (by kernel_rfl)) (fun _ _ _ h => h) (Or.inl ⟨by rfl, ?_⟩) ?_ ?_
                  rotate_left
                  · intro w'
                    go_simp
                    with_reducible rfl
                  rotate_left
                  · simp only [Act.put, List.setIfInBounds_toArray, List.set_cons_zero, List.set_cons_succ, i64_w, i32_w]
                    rfl
                  refine pure_ (i := 6) (N := some 65) (v := ?_) (a' := ?_) #[true, true, false, false, false, true, true, false, false, false, false, false, false, false, false] rfl rfl (any_of HT_.out (by kernel_rfl)) (fun _ _ _ h => h) (Or.inl ⟨by rfl, ?_⟩) ?_ ?_
                  rotate_left
                  · intro w'
                    go_simp
                    with_reducible rfl
                  rotate_left
                  · simp only [Act.put, List.setIfInBounds_toArray, List.set_cons_zero, List.set_cons_succ, i64_w, i32_w]
                    rfl
                  refine take_ (i := 2) (N := some 61) (v := ?_) (a' := ?_) #[true, true, true, false, false, true, true, false, false, false, false, false, false, false, false] rfl rfl (take_ofW HT_.out HW_.out (by kernel_rfl)) (fun _ _ _ h => h) (Or.inl ⟨by rfl, ?_⟩) hHeld ?_ ?_
                  rotate_left
                  · rintro w' ⟨s0, s1, s2, s3, s4, s5⟩
                    go_simp
                    with_reducible rfl
                  rotate_left
                  · simp only [Act.put, List.setIfInBounds_toArray, List.set_cons_zero, List.set_cons_succ, i64_w, i32_w]
                    rfl
                  refine take_ (i := 7) (N := some 66) (v := ?_) (a' := ?_) #[true, true, true, false, false, true, true, true, false, false, false, false, false, false, false] rfl rfl (take_ofW HT_.out HW_.out (by kernel_rfl)) (fun _ _ _ h => h) (Or.inl ⟨by rfl, ?_⟩) hHeld ?_ ?_
                  rotate_left
                  · rintro w' ⟨s0, s1, s2, s3, s4, s5⟩
                    go_simp
                    with_reducible rfl
                  rotate_left
                  · simp only [Act.put, List.setIfInBounds_toArray, List.set_cons_zero, List.set_cons_succ, i64_w, i32_w]
                    rfl
                  refine one_ (i := 3) (N := some 62) #[true, true, true, true, false, true, true, true, false, false, false, false, false, false, false] rfl rfl (one_of HT_.out (by kernel_rfl)) (by decide) (fun K hK => ?_)
                  refine goes_ Tryd.func52 (by kernel_rfl) rfl #[.agg #[.string ((rd_T37 l1 1).f0), .int .i32 ((rd_T37 l1 1).f1), .bool ((rd_T37 l1 1).f2)]] (by rfl) rfl rfl (by (try simp only [List.map_toArray, List.map_cons, List.map_nil]); first | done | rfl | (simp only [List.length_drop, List.length_take]; rfl)) ?_
                  with_reducible refine (spec_hexValue.calls kj12 ((rd_T37 l1 1).f0) ((rd_T37 l1 1).f1) ((rd_T37 l1 1).f2) t156 _ A26.out).mono ?_
                  rintro e w30 ⟨rfl, hb⟩
                  refine ⟨_, rfl, ?_⟩
                  have n0_ := Aside0.mk (below_step (by repeat (first | (with_reducible first | exact HB.out | apply below_alloc | apply pw_below_drewN | apply below_drew1) | exact HB.out)) hb)
                  clear HB
                  have HB := n0_
                  clear n0_
                  (try clear hb)
                  (try clear hb2)
                  (try clear hk)
                  (try clear hi)
                  refine hK.out _ _ ⟨((HB.out.cell (World.block_lt_of_cell? w _ hw155_0)).trans hw155_0), ((HB.out.cell (World.block_lt_of_cell? w _ hw155_1)).trans hw155_1), ((HB.out.cell (World.block_lt_of_cell? w _ hw155_2)).trans hw155_2), ((HB.out.cell (World.block_lt_of_cell? w _ hw157_0)).trans hw157_0), ((HB.out.cell (World.block_lt_of_cell? w _ hw157_1)).trans hw157_1), ((HB.out.cell (World.block_lt_of_cell? w _ hw157_2)).trans hw157_2)⟩ (fun hHeld => ?_)
                  clear hK K
                  refine norm_ (a' := ?_) ?_ ?_
                  rotate_left
                  · show Act.put _ (some 62) _ = _
                    simp only [Act.put, List.setIfInBounds_toArray, List.set_cons_zero, List.set_cons_succ, i64_w, i32_w]
                    rfl
                  refine pure_ (i := 4) (N := some 63) (v := ?_) (a' := ?_) #[true, true, true, true, true, true, true, true, false, false, false, false, false, false, false] rfl rfl (any_of HT_.out (by kernel_rfl)) (fun _ _ _ h => h) (Or.inl ⟨by rfl, ?_⟩) ?_ ?_
                  rotate_left
                  · intro w'
                    go_simp
                    with_reducible rfl
                  rotate_left
                  · simp only [Act.put, List.setIfInBounds_toArray, List.set_cons_zero, List.set_cons_succ, i64_w, i32_w]
                    rfl
                  refine one_ (i := 8) (N := some 67) #[true, true, true, true, true, true, true, true, true, false, false, false, false, false, false] rfl rfl (one_of HT_.out (by kernel_rfl)) (by decide) (fun K hK => ?_)
                  refine goes_ Tryd.func52 (by kernel_rfl) rfl #[.agg #[.string ((rd_T37 l1 2).f0), .int .i32 ((rd_T37 l1 2).f1), .bool ((rd_T37 l1 2).f2)]] (by rfl) rfl rfl (by (try simp only [List.map_toArray, List.map_cons, List.map_nil]); first | done | rfl | (simp only [List.length_drop, List.length_take]; rfl)) ?_
                  with_reducible refine (spec_hexValue.calls kj12 ((rd_T37 l1 2).f0) ((rd_T37 l1 2).f1) ((rd_T37 l1 2).f2) t158 _ A28.out).mono ?_
                  rintro e w31 ⟨rfl, hb⟩
                  refine ⟨_, rfl, ?_⟩
                  have n0_ := Aside0.mk (below_step (by repeat (first | (with_reducible first | exact HB.out | apply below_alloc | apply pw_below_drewN | apply below_drew1) | exact HB.out)) hb)
                  clear HB
                  have HB := n0_
                  clear n0_
                  (try clear hb)
                  (try clear hb2)
                  (try clear hk)
                  (try clear hi)
                  refine hK.out _ _ ⟨((HB.out.cell (World.block_lt_of_cell? w _ hw155_0)).trans hw155_0), ((HB.out.cell (World.block_lt_of_cell? w _ hw155_1)).trans hw155_1), ((HB.out.cell (World.block_lt_of_cell? w _ hw155_2)).trans hw155_2), ((HB.out.cell (World.block_lt_of_cell? w _ hw157_0)).trans hw157_0), ((HB.out.cell (World.block_lt_of_cell? w _ hw157_1)).trans hw157_1), ((HB.out.cell (World.block_lt_of_cell? w _ hw157_2)).trans hw157_2)⟩ (fun hHeld => ?_)
                  clear hK K
                  refine norm_ (a' := ?_) ?_ ?_
                  rotate_left
                  · show Act.put _ (some 67) _ = _
                    simp only [Act.put, List.setIfInBounds_toArray, List.set_cons_zero, List.set_cons_succ, i64_w, i32_w]
                    rfl
                  refine pure_ (i := 9) (N := some 68) (v := ?_) (a' := ?_) #[true, true, true, true, true, true, true, true, true, true, false, false, false, false, false] rfl rfl (any_of HT_.out (by kernel_rfl)) (fun _ _ _ h => h) (Or.inl ⟨by rfl, ?_⟩) ?_ ?_
                  rotate_left
                  · intro w'
                    go_simp
                    with_reducible rfl
                  rotate_left
                  · simp only [Act.put, List.setIfInBounds_toArray, List.set_cons_zero, List.set_cons_succ, i64_w, i32_w]
                    rfl
                  refine pure_ (i := 10) (N := some 69) (v := ?_) (a' := ?_) #[true, true, true, true, true, true, true, true, true, true, true, false, false, false, false] rfl rfl (any_of HT_.out (by kernel_rfl)) (fun _ _ _ h => h) (Or.inl ⟨by rfl, ?_⟩) ?_ ?_
                  rotate_left
                  · intro w'
                    go_simp
                    with_reducible rfl
                  rotate_left
                  · simp only [Act.put, List.setIfInBounds_toArray, List.set_cons_zero, List.set_cons_succ, i64_w, i32_w]
                    rfl
                  refine one_ (i := 11) (N := some 70) #[true, true, true, true, true, true, true, true, true, true, true, true, false, false, false] rfl rfl (one_of HT_.out (by kernel_rfl)) (by decide) (fun K hK => ?_)
                  refine Kd.R_lit_step (Kd.int .u8) _ 5 ?hg (N := 70) ?hd (xs := ([(wrap64 ((wrap64 (16 * t156)) + t158)) % 256] : List Int)) (inner := [.int .u8 ((wrap64 ((wrap64 (16 * t156)) + t158)) % 256)]) (ok := fun _ => True) (okp := fun _ => True) ?hr ?hp (fun _ hk => hk) trivial (Below.refl _ _) (Nat.le_refl _) (by simp) ?_; (case hd => rfl); (case hg => rfl); (case hr => first | (go_simp; done) | (go_simp; rfl)); (case hp => exact (Reps.one (show Kd.M (Kd.int .u8) _ _ _ ((wrap64 ((wrap64 (16 * t156)) + t158)) % 256) [.int .u8 ((wrap64 ((wrap64 (16 * t156)) + t158)) % 256)] from rfl) (Reps.none _ _)))
                  intro v160 w32 ho33 hb hg_ hnew_
                  clear hg_ hnew_
                  (first | rw [← Ny159.out] at ho33 | (simp only [Int.reduceToNat] at ho33; rw [← Ny159.out] at ho33))
                  have n0_ := Aside0.mk (Kd.R_lower ho33 (below_size (by repeat (first | (with_reducible first | exact HB.out | apply below_alloc | apply pw_below_drewN | apply below_drew1) | exact HB.out))))
                  have n1_ := Aside0.mk (below_step (by repeat (first | (with_reducible first | exact HB.out | apply below_alloc | apply pw_below_drewN | apply below_drew1) | exact HB.out)) hb)
                  clear HB
                  have HO161 := n0_
                  have HB := n1_
                  clear n0_ n1_
                  clear hb ho33
                  refine hK.out _ _ ⟨((HB.out.cell (World.block_lt_of_cell? w _ hw155_0)).trans hw155_0), ((HB.out.cell (World.block_lt_of_cell? w _ hw155_1)).trans hw155_1), ((HB.out.cell (World.block_lt_of_cell? w _ hw155_2)).trans hw155_2), ((HB.out.cell (World.block_lt_of_cell? w _ hw157_0)).trans hw157_0), ((HB.out.cell (World.block_lt_of_cell? w _ hw157_1)).trans hw157_1), ((HB.out.cell (World.block_lt_of_cell? w _ hw157_2)).trans hw157_2)⟩ (fun hHeld => ?_)
                  clear hK K
                  refine norm_ (a' := ?_) ?_ ?_
                  rotate_left
                  · show Act.put _ (some 70) _ = _
                    simp only [Act.put, List.setIfInBounds_toArray, List.set_cons_zero, List.set_cons_succ, i64_w, i32_w]
                    rfl
                  refine one_ (i := 12) (N := some 71) #[true, true, true, true, true, true, true, true, true, true, true, true, true, false, false] rfl rfl (one_of HT_.out (by kernel_rfl)) (by decide) (fun K hK => ?_)
                  have hcv34 := own_string (P := Tryd.prog) Tryd.underlying28 Tryd.underlying5 Tryd.underlying9 (Kd.own_of_R HO161.out)
                  refine value_ (w1 := ?_) (v := ?_) (by rfl) rfl ?_ ?_
                  rotate_left 2
                  · go_simp
                    constructor
                    · rfl
                    · rfl
                  clear hcv34
                  refine hK.out _ _ ⟨((HB.out.cell (World.block_lt_of_cell? w _ hw155_0)).trans hw155_0), ((HB.out.cell (World.block_lt_of_cell? w _ hw155_1)).trans hw155_1), ((HB.out.cell (World.block_lt_of_cell? w _ hw155_2)).trans hw155_2), ((HB.out.cell (World.block_lt_of_cell? w _ hw157_0)).trans hw157_0), ((HB.out.cell (World.block_lt_of_cell? w _ hw157_1)).trans hw157_1), ((HB.out.cell (World.block_lt_of_cell? w _ hw157_2)).trans hw157_2)⟩ (fun hHeld => ?_)
                  clear hK K
                  refine norm_ (a' := ?_) ?_ ?_
                  rotate_left
                  · show Act.put _ (some 71) _ = _
                    simp only [Act.put, List.setIfInBounds_toArray, List.set_cons_zero, List.set_cons_succ, i64_w, i32_w]
                    rfl
                  refine pure_ (i := 13) (N := some 4) (v := ?_) (a' := ?_) #[true, true, true, true, true, true, true, true, true, true, true, true, true, true, false] rfl rfl (any_of HT_.out (by kernel_rfl)) (fun _ _ _ h => h) (Or.inl ⟨by rfl, ?_⟩) ?_ ?_
                  rotate_left
                  · intro w'
                    go_simp
                    with_reducible rfl
                  rotate_left
                  · simp only [Act.put, List.setIfInBounds_toArray, List.set_cons_zero, List.set_cons_succ, i64_w, i32_w]
                    rfl
                  refine pure_ (i := 14) (N := some 5) (v := ?_) (a' := ?_) #[true, true, true, true, true, true, true, true, true, true, true, true, true, true, true] rfl rfl (any_of HT_.out (by kernel_rfl)) (fun _ _ _ h => h) (Or.inl ⟨by rfl, ?_⟩) ?_ ?_
                  rotate_left
                  · intro w'
                    go_simp
                    with_reducible rfl
                  rotate_left
                  · simp only [Act.put, List.setIfInBounds_toArray, List.set_cons_zero, List.set_cons_succ, i64_w, i32_w]
                    rfl
                  refine done_ (done_of HT_.out (by kernel_rfl)) ?_
                  try go_wp2
                  go_ret2
                  exact ⟨by first | rfl | (simp [errW_none, errW_some] <;> rfl) | (simp [*, errW_none, errW_some] <;> rfl), by repeat (first | (with_reducible first | exact HB.out | apply below_alloc | apply pw_below_drewN | apply below_drew1) | exact HB.out)⟩
                · rw [if_neg c27] at H
                  exact absurd H (by simp)
              · rw [if_neg c25] at H
                exact absurd H (by simp)
            · replace c24 := Bool.eq_false_iff.mpr c24
              subst c24
              have H1 : (if 0 < (l1.length : Int) then (some ((rd_T37 l1 0).f0, 1)) else (none)) = some (r1, r2) := by rw [if_neg (show ¬ (false = true) by decide)] at H; exact H
              clear H
              have H := H1
              clear H1
              by_cases c35 : 0 < (l1.length : Int)
              · rw [if_pos c35] at H
                have c35b0 : decide (0 < (l1.length : Int)) = true := decide_eq_true c35
                have c35b1 : decide (0 < l1.length) = true := decide_eq_true (by omega)
                clear c35
                simp only [Option.some.injEq, Prod.mk.injEq] at H
                obtain ⟨rfl, rfl⟩ := H
                have p162 : 0 ≤ (0 : Int) := (by omega)
                have q162 : 0 < (l1.length : Int) := of_decide_eq_true (by first | (with_reducible assumption) | assumption)
                obtain ⟨ad162, e162, hx162_0, hx162_1, hx162_2⟩ := at_T37 HR1.out 0 p162 q162
                cases e162
                have qi162 : (0 < l1.length) = True := eq_true (by omega)
                (try rw [show ((0 : Int)).toNat = 0 from rfl] at hx162_0)
                (try rw [show 0 * 3 = 0 from rfl] at hx162_0)
                (try rw [Addr.add_zero'] at hx162_0)
                (try rw [show ((0 : Int)).toNat = 0 from rfl] at hx162_1)
                (try rw [show 0 * 3 = 0 from rfl] at hx162_1)
                (try rw [Addr.add_zero'] at hx162_1)
                (try rw [show ((0 : Int)).toNat = 0 from rfl] at hx162_2)
                (try rw [show 0 * 3 = 0 from rfl] at hx162_2)
                (try rw [Addr.add_zero'] at hx162_2)
                replace hx162_0 := (HB.out.cell (World.block_lt_of_cell? w _ hx162_0)).trans hx162_0
                replace hx162_1 := (HB.out.cell (World.block_lt_of_cell? w _ hx162_1)).trans hx162_1
                replace hx162_2 := (HB.out.cell (World.block_lt_of_cell? w _ hx162_2)).trans hx162_2
                replace p162 := eq_true p162
                replace q162 := eq_true q162
                go_wp2
                go_ret2
                exact ⟨by first | rfl | (simp [errW_none, errW_some] <;> rfl) | (simp [*, errW_none, errW_some] <;> rfl), by repeat (first | (with_reducible first | exact HB.out | apply below_alloc | apply pw_below_drewN | apply below_drew1) | exact HB.out)⟩
              · rw [if_neg c35] at H
                exact absurd H (by simp)

-- NOT PRINTED: function 17 (spec_NameDecode)
end Go.Proofs.YtlgoghonnnobfaaDoor.Sfn

import Derived.Below
import Derived.Deep.Draws
import Derived.Deep.AppendLies
import Derived.Maps.AppendAt
import Derived.OwnWalk
import Derived.Laws.BytesArg
import Derived.Laws.MakeOwn
import Derived.Laws.OwnMore
import Derived.Deep.OwnRows
import Derived.Tactics
import Derived.Lib.ConvBytes
import Derived.Laws.Slices
import Derived.WalkKit
import Derived.KernelRfl
import Derived.RowKit3
import Derived.Deep.LoopGhost
import Derived.Deep.QuietTactic
import Derived.BigQuiet
import Derived.WideLaws
import Derived.Deep.DeepCutAuto
import Derived.Deep.CutBlock
import Derived.Deep.RegionHeld3
import Derived.Laws.Rows
import Derived.Lib.AppendStr
import Derived.ArgAppend
import Derived.Laws.IdiomCopy
import Derived.OrdersHeld
import Derived.Laws.BitsLemmas
import Derived.RowKit
import Derived.Test.YtfegihmnpcjdgaaProg
import Derived.Test.YtfegihmnpcjdgaaWWords
import Derived.Lib.Hide
import Derived.RegionCalls
import Derived.Deep.RegionWith
import Derived.WalkSmall
namespace Go.Proofs.Ytfegihmnpcjdgaa.Rang
open Go.RowKit Go.Proofs.YtfegihmnpcjdgaaW.PrintWords
set_option linter.unusedVariables false

/-- A range's end. -/
def en (p : Int × Int) : Int := wrap64 (p.1 + p.2)
theorem end_is (a b : Int) (w : World) : Calls Try.prog 49 #[.agg #[.int .i64 a, .int .i64 b]] w fun e w' => e = .returned (.int .i64 (wrap64 (a + b))) ∧ Below w.heap.size w w' := by
  go_enter Try.func49, Try.ntmps49
  go_wp2
  go_ret
  exact ⟨rfl, (Below.refl _ _).alloc (Nat.le_refl _) _⟩
theorem empty_is (a b : Int) (w : World) : Calls Try.prog 48 #[.agg #[.int .i64 a, .int .i64 b]] w fun e w' => e = .returned (.bool (decide (b ≤ 0))) ∧ Below w.heap.size w w' := by
  go_enter Try.func48, Try.ntmps48
  go_wp2
  go_ret
  exact ⟨rfl, (Below.refl _ _).alloc (Nat.le_refl _) _⟩

/-- Nothing is turned but the block g. -/
structure Only (g : Nat) (w w' : World) : Prop where
  os : w'.os = w.os
  tape : w'.tape = w.tape
  output : w'.output = w.output
  size : w.heap.size ≤ w'.heap.size
  block : ∀ k, k < w.heap.size → k ≠ g → w'.heap[k]? = w.heap[k]?
theorem Only.refl (g : Nat) (w : World) : Only g w w := ⟨rfl, rfl, rfl, Nat.le_refl _, fun _ _ _ => rfl⟩
theorem Only.trans {g : Nat} {w w1 w2 : World} (h : Only g w w1) (h2 : Only g w1 w2) : Only g w w2 :=
  ⟨h2.os.trans h.os, h2.tape.trans h.tape, h2.output.trans h.output, Nat.le_trans h.size h2.size, fun k hk hne => (h2.block k (Nat.lt_of_lt_of_le hk h.size) hne).trans (h.block k hk hne)⟩
theorem Only.of_below {g : Nat} {w w1 : World} (h : Below w.heap.size w w1) : Only g w w1 := ⟨h.os, h.tape, h.output, h.size, fun k hk _ => h.block k hk⟩
theorem Only.drew {g : Nat} {w w1 : World} (h : Only g w w1) : Only g w w1.drew := ⟨h.os, h.tape, h.output, h.size, h.block⟩
theorem Only.set {g : Nat} {w w1 : World} (h : Only g w w1) (o : Nat) (v : Value) : Only g w (w1.setCell ⟨g, o, none⟩ v) :=
  ⟨h.os, h.tape, h.output, by have := h.size; simpa using this, fun k hk hne => (Below.heap_setCell w1 _ v k hne).trans (h.block k hk hne)⟩
theorem Below.only {B g : Nat} {w0 w w' : World} (hb : Below B w0 w) (h : Only g w w') (hg : B ≤ g) (hB : B ≤ w.heap.size) : Below B w0 w' :=
  ⟨h.os.trans hb.os, h.tape.trans hb.tape, h.output.trans hb.output, Nat.le_trans hb.size h.size, fun k hk => (h.block k (by omega) (by omega)).trans (hb.block k hk)⟩

/-- What merging leaves of the later range. -/
def mg (n d : Int × Int) : Int × Int := (n.1, if en d < en n then n.2 else wrap64 (d.2 + wrap64 (d.1 - n.1)))
/-- Cells in a block. -/
def Blk (b : Nat) (cur : Array Value) (w : World) : Prop := w.heap[b]? = some (.cells cur 61 (0, 0))
theorem Blk.cell {b : Nat} {cur : Array Value} {w : World} (h : Blk b cur w) (i : Nat) (v : Value) (hi : cur[i]? = some v) : w.cell? ⟨b, i, none⟩ = some v := by
  unfold Blk at h; simp [World.cell?, h, hi]
theorem Blk.frozen {b : Nat} {cur : Array Value} {w : World} (h : Blk b cur w) (i : Nat) : w.frozen? ⟨b, i, none⟩ = false := by
  unfold Blk at h; simp [World.frozen?, h]
theorem Blk.lt {b : Nat} {cur : Array Value} {w : World} (h : Blk b cur w) : b < w.heap.size := (Array.getElem?_eq_some_iff.1 h).1

set_option maxHeartbeats 4000000 in
theorem merge_any (b0 o0 b1 o1 : Nat) (c0 cur : Array Value) (n0 n1 d0 d1 : Int) (w : World) (h0 : Blk b0 c0 w) (h1 : Blk b1 cur w)
    (a0 : c0[o0]? = some (.int .i64 n0)) (a1 : c0[o0 + 1]? = some (.int .i64 n1)) (e0 : cur[o1]? = some (.int .i64 d0)) (e1 : cur[o1 + 1]? = some (.int .i64 d1)) (hne : b0 = b1 → o0 + 1 < o1) :
    Calls Try.prog 57 #[.pointer (some ⟨b0, o0, none⟩), .pointer (some ⟨b1, o1, none⟩)] w fun e w' => e = .returned (.bool (!decide (wrap64 (n0 + n1) < d0))) ∧ Only b1 w w' ∧
      Blk b1 (if wrap64 (n0 + n1) < d0 then cur else (cur.setIfInBounds (o1 + 1) (.int .i64 (mg (n0, n1) (d0, d1)).2)).setIfInBounds o1 (.int .i64 n0)) w' := by
  have k0 := h0.cell _ _ a0
  have k1 := h0.cell _ _ a1
  have k2 := h1.cell _ _ e0
  have k3 := h1.cell _ _ e1
  have l0 := h0.lt
  have l1 := h1.lt
  have f0 := h1.frozen o1
  have f1 := h1.frozen (o1 + 1)
  have hxx : (⟨b1, o1 + 1, none⟩ : Addr) ≠ ⟨b0, o0, none⟩ := by
    intro h; simp only [Addr.mk.injEq] at h; have := hne h.1.symm; omega
  have HX := Lib.hid hxx
  clear hne hxx
  by_cases hm : wrap64 (n0 + n1) < d0
  · have hd : decide (wrap64 (n0 + n1) < d0) = true := decide_eq_true hm
    simp only [hm, if_true]
    have H1 := Lib.hid h1
    clear h0 h1 hm
    go_enter Try.func57, Try.ntmps57
    go_upto_region 1 with (fail)
    -- SLOW
    go_region_with (go_at_call 49; ((with_reducible refine (end_is _ _ _).mono ?_); rintro e w1 ⟨rfl, hb1⟩; have q2 := (hb1.cell (p := ⟨b1, o1, none⟩) l1).trans k2))
    all_goals go_wp2
    all_goals go_ret
    all_goals exact ⟨rfl, (Only.refl _ _).drew.trans (Only.of_below hb1), (hb1.block b1 l1).trans H1.out⟩
    -- END
  · have hd : decide (wrap64 (n0 + n1) < d0) = false := decide_eq_false hm
    simp only [hm, if_false]
    have H1 := Lib.hid h1
    have HM := Lib.hid hm
    clear h1 hm
    go_enter Try.func57, Try.ntmps57
    go_upto_region 1 with (fail)
    go_cut [13] (fun v wc => v = .bool false ∧ Only b1 w wc ∧ Blk b1 cur wc ∧ Blk b0 c0 wc)
    case first =>
      -- SLOW
      have H0 := Lib.hid h0
      clear h0
      go_region_with (go_at_call 49; ((with_reducible refine (end_is _ _ _).mono ?_); rintro e w1 ⟨rfl, hb1⟩; have q2 := (hb1.cell (p := ⟨b1, o1, none⟩) l1).trans k2))
      all_goals go_wp2
      all_goals go_meet
      all_goals (case rel => exact ⟨rfl, (Only.refl _ _).drew.trans (Only.of_below hb1), (hb1.block b1 l1).trans H1.out, (hb1.block b0 l0).trans H0.out⟩)
      -- END
    case rest =>
      obtain ⟨rfl, hO, hB1, hB0⟩ := hcut
      clear k0 k1 k2 k3 l0 l1 f0 f1 h0 H1 hd
      have HO := Lib.hid hO; clear hO
      have k0 := hB0.cell _ _ a0
      have k1 := hB0.cell _ _ a1
      have k2 := hB1.cell _ _ e0
      have k3 := hB1.cell _ _ e1
      have l0 := hB0.lt
      have l1 := hB1.lt
      have H1 := Lib.hid hB1
      have H0 := Lib.hid hB0
      clear hB0 hB1
      go_upto_region 3 with (fail)
      go_cut [22] (fun v w3 => v = .bool (decide (wrap64 (d0 + d1) < wrap64 (n0 + n1))) ∧ Only b1 w w3 ∧ Blk b1 cur w3 ∧ Blk b0 c0 w3)
      case first =>
        -- SLOW
        go_region_with (go_at_call 49; first
          | ((with_reducible refine (end_is n0 n1 _).mono ?_); rintro e w1 ⟨rfl, hb1⟩; try (have q2 := (hb1.cell (p := ⟨b1, o1, none⟩) l1).trans k2; have q3 := (hb1.cell (p := ⟨b1, o1 + 1, none⟩) l1).trans k3))
          | ((with_reducible refine (end_is d0 d1 _).mono ?_); rintro e w2 ⟨rfl, hb2⟩; try (have q0 := (hb2.cell (p := ⟨b0, o0, none⟩) l0).trans k0; have q1 := (hb2.cell (p := ⟨b0, o0 + 1, none⟩) l0).trans k1)))
        all_goals go_wp2
        all_goals go_meet
        all_goals (case rel => first
          | exact ⟨rfl, (HO.out.drew.trans (Only.of_below hb1)).trans (Only.of_below hb2), (hb2.block b1 (Nat.lt_of_lt_of_le l1 hb1.size)).trans ((hb1.block b1 l1).trans H1.out), (hb2.block b0 (Nat.lt_of_lt_of_le l0 hb1.size)).trans ((hb1.block b0 l0).trans H0.out)⟩
          | exact ⟨rfl, (HO.out.drew.trans (Only.of_below hb2)).trans (Only.of_below hb1), (hb1.block b1 (Nat.lt_of_lt_of_le l1 hb2.size)).trans ((hb2.block b1 l1).trans H1.out), (hb1.block b0 (Nat.lt_of_lt_of_le l0 hb2.size)).trans ((hb2.block b0 l0).trans H0.out)⟩)
        -- END
      case rest =>
        obtain ⟨rfl, hO, hB1, hB0⟩ := hcut
        clear k0 k1 k2 k3 l0 l1 HO H1 H0
        have HO := Lib.hid hO; clear hO
        have k0 := hB0.cell _ _ a0
        have k1 := hB0.cell _ _ a1
        have k2 := hB1.cell _ _ e0
        have k3 := hB1.cell _ _ e1
        have f0 := hB1.frozen o1
        have f1 := hB1.frozen (o1 + 1)
        have H1 := Lib.hid hB1
        have H0 := Lib.hid hB0
        clear hB0 hB1
        go_upto_if 22 with (fail)
        go_cut [] (fun w5 => Only b1 w w5 ∧ Blk b1 (cur.setIfInBounds (o1 + 1) (.int .i64 (mg (n0, n1) (d0, d1)).2)) w5 ∧ w5.cell? ⟨b0, o0, none⟩ = some (.int .i64 n0))
        case first =>
          by_cases hgt : wrap64 (d0 + d1) < wrap64 (n0 + n1)
          · have hd : decide (wrap64 (d0 + d1) < wrap64 (n0 + n1)) = true := decide_eq_true hgt
            go_wp2
            go_meet
            case rel =>
              have hv : (mg (n0, n1) (d0, d1)).2 = n1 := by simp [mg, en, hgt]
              exact ⟨HO.out.set _ _, by rw [hv]; exact blk_put H1.out _ _ rfl, (World.cell?_setCell_other _ _ _ _ HX.out).trans k0⟩
          · have hd : decide (wrap64 (d0 + d1) < wrap64 (n0 + n1)) = false := decide_eq_false hgt
            go_upto_region 5 with (fail)
            -- SLOW
            go_region
            all_goals go_wp2
            all_goals go_meet
            all_goals (case rel =>
              have hv : (mg (n0, n1) (d0, d1)).2 = wrap64 (d1 + wrap64 (d0 - n0)) := if_neg (of_decide_eq_false hd)
              exact ⟨HO.out.drew.set _ _, by rw [hv]; exact blk_put H1.out _ _ rfl, (World.cell?_setCell_other _ _ _ _ HX.out).trans k0⟩)
            -- END
        case rest =>
          obtain ⟨hO, hB1, hc⟩ := hcut
          clear k0 k1 k2 k3 f0 f1 HO H1 H0
          have HO := Lib.hid hO; clear hO
          have f0 := hB1.frozen o1
          have k2 : wc.cell? ⟨b1, o1, none⟩ = some (.int .i64 d0) := hB1.cell _ _ (by rw [Array.getElem?_setIfInBounds_ne (by omega)]; exact e0)
          have H1 := Lib.hid hB1
          clear hB1
          go_wp2
          go_ret
          refine ⟨rfl, HO.out.set _ _, blk_put H1.out _ _ rfl⟩
end Go.Proofs.Ytfegihmnpcjdgaa.Rang

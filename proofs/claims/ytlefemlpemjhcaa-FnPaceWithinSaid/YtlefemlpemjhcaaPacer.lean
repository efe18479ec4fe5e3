import Derived.Test.YtlefemlpemjhcaaProg
import Derived.Below
import Derived.Deep.Draws
import Derived.Deep.AppendLies
import Derived.Maps.AppendAt
import Derived.OwnWalk
import Derived.Laws.BytesArg
import Derived.Laws.MakeOwn
import Derived.Laws.OwnMore
import Derived.Deep.OwnRows
import Derived.Tactics
import Derived.Lib.ConvBytes
import Derived.Laws.Slices
import Derived.WalkKit
import Derived.KernelRfl
import Derived.RowKit3
import Derived.Deep.LoopGhost
import Derived.Deep.QuietTactic
import Derived.BigQuiet
import Derived.WideLaws
import Derived.Deep.DeepCutAuto
import Derived.Deep.CutBlock
import Derived.Deep.RegionHeld3
import Derived.Laws.Rows
import Derived.Lib.AppendStr
import Derived.ArgAppend
import Derived.Laws.IdiomCopy
import Derived.OrdersHeld
import Derived.Laws.BitsLemmas
import Derived.RowKit
import Derived.Test.YtlefemlpemjhcaaWWords
import Derived.Test.YtlefemlpemjhcaaWLast
import Derived.Test.YtlefemlpemjhcaaWTab
import Derived.Test.YtlefemlpemjhcaaWFour
import Derived.Test.YtlefemlpemjhcaaWQPut
import Derived.Test.YtlefemlpemjhcaaWApart
import Derived.Test.YtlefemlpemjhcaaWArr
import Derived.Test.YtlefemlpemjhcaaWZeros
import Derived.Test.YtlefemlpemjhcaaWFoot
import Derived.Test.YtlefemlpemjhcaaWKept
import Derived.Test.YtlefemlpemjhcaaWShare
import Derived.Test.YtlefemlpemjhcaaWN
import Derived.Test.YtlefemlpemjhcaaWFootNe
import Derived.Test.YtlefemlpemjhcaaWAt
import Derived.Test.YtlefemlpemjhcaaWEqStruct
import Derived.Test.YtlefemlpemjhcaaWRepsOne
import Derived.Test.YtlefemlpemjhcaaWInv
import Derived.Test.YtlefemlpemjhcaaWInvWords
import Derived.Test.YtlefemlpemjhcaaWGuard
import Derived.Test.YtlefemlpemjhcaaWNEv
import Derived.Test.YtlefemlpemjhcaaWMore
import Derived.Test.YtlefemlpemjhcaaPacee
namespace Go.Proofs.Ytlefemlpemjhcaa.Pace
open Go.RowKit Go.Proofs.YtlefemlpemjhcaaW.PrintWords Go.Proofs.YtlefemlpemjhcaaW.PrintLast Go.Proofs.YtlefemlpemjhcaaW.PrintMore
set_option linter.unusedVariables false

/-- What a retry's error tells at a place. -/
def aft (after : List Int) (i : Nat) : Int := if i < after.length then after.getD i 0 else -1
/-- One step: how many retries there were, and the next sleep. -/
def nextR (g : Bool) (r : Int) : Int := if g then 0 else r + 1
def nextS (M X D A : Int) (after : List Int) (g : Bool) (i : Nat) (s r : Int) : Int :=
  calcAll M X D A s (nextR g r) (tells (nextR g r) (if g then -1 else aft after i) 0)
def goOn (M X D A : Int) (after : List Int) : List Bool → Nat → Int → Int → Option (List Int)
  | [], _, _, _ => some []
  | g :: gs, i, s, r => if 0 ≤ s ∧ s ≤ 1099511627776 then (goOn M X D A after gs (i + 1) (nextS M X D A after g i s r) (nextR g r)).map (nextS M X D A after g i s r :: ·) else none
theorem info3 : (Try.prog.info? 3).map (fun i => (i.zero, i.size, i.bytes)) = some (some (.int .i64 0), 1, 8) := by kernel_rfl

def Blk (b : Nat) (s r a : Int) (w : World) : Prop := w.heap[b]? = some (.cells #[.int .i64 s, .int .i64 r, .int .i64 a, .int .i64 0] 28 (0, 0))

theorem Blk.cell {b : Nat} {s r a : Int} {w : World} (h : Blk b s r a w) : w.cell? ⟨b, 0, none⟩ = some (.int .i64 s) ∧ w.cell? ⟨b, 1, none⟩ = some (.int .i64 r) ∧ w.cell? ⟨b, 2, none⟩ = some (.int .i64 a) ∧ w.cell? ⟨b, 3, none⟩ = some (.int .i64 0) := by
  unfold Blk at h; simp [World.cell?, h]
theorem Blk.frozen {b : Nat} {s r a : Int} {w : World} (h : Blk b s r a w) (i : Nat) : w.frozen? ⟨b, i, none⟩ = false := by
  unfold Blk at h; simp [World.frozen?, h]
theorem Blk.below {b B : Nat} {s r a : Int} {w w' : World} (h : Blk b s r a w) (hb : Below B w w') (hB : b < B) : Blk b s r a w' := by
  unfold Blk at *; rw [hb.block b hB]; exact h
theorem Blk.set0 {b : Nat} {s r a : Int} {w : World} (h : Blk b s r a w) (y : Int) : Blk b y r a (w.setCell ⟨b, 0, none⟩ (.int .i64 y)) := blk_put (cs := #[.int .i64 s, .int .i64 r, .int .i64 a, .int .i64 0]) h 0 _ rfl
theorem Blk.set1 {b : Nat} {s r a : Int} {w : World} (h : Blk b s r a w) (y : Int) : Blk b s y a (w.setCell ⟨b, 1, none⟩ (.int .i64 y)) := blk_put (cs := #[.int .i64 s, .int .i64 r, .int .i64 a, .int .i64 0]) h 1 _ rfl
theorem Blk.set2 {b : Nat} {s r a : Int} {w : World} (h : Blk b s r a w) (y : Int) : Blk b s r y (w.setCell ⟨b, 2, none⟩ (.int .i64 y)) := blk_put (cs := #[.int .i64 s, .int .i64 r, .int .i64 a, .int .i64 0]) h 2 _ rfl
theorem Opt.far {b c i : Nat} {m x d a : Int} {w : World} (h : Opt b m x d a w) (hne : c ≠ b) (v : Value) : Opt b m x d a (w.setCell ⟨c, i, none⟩ v) := by
  unfold Opt at *; rw [Below.heap_setCell w _ _ b (fun e => hne (by simpa using e.symm))]; exact h

theorem Opt.drew {b : Nat} {m x d a : Int} {w : World} (h : Opt b m x d a w) : Opt b m x d a w.drew := h
theorem stated0 (s0 s1 s2 : Int) (w : World) : Calls Try.prog 19 #[.agg #[.int .i64 s0, .int .i64 s1, .int .i64 s2, .int .i64 0]] w (Stated s0 s1 s2 0 0 w) := stated s0 s1 s2 0 (by omega) w
def Mid3 (B c sb : Nat) (M X D A s r a : Int) (outs : List Int) (w : World) (v : Value) (w' : World) : Prop :=
  Opt c M X D A w' ∧ Blk sb s r a w' ∧ Kd.R (Kd.int .i64) 3 w' B (fun _ => True) v outs ∧ Below B w w' ∧ B < c

set_option maxHeartbeats 8000000 in
set_option maxRecDepth 100000 in
theorem runs_any (o0 o1 o2 o3 s : Int) (A0 A1 : Option Addr) (c0 c1 : Nat) (good : List Bool) (after : List Int) (res : List Int) (w : World) (h2 : o2 ≤ 16) (h3 : o3 ≤ 16)
    (hr0 : Kd.C Kd.bool w A0 good.length good) (hc0 : good.length ≤ c0) (hr1 : Kd.C (Kd.int .i64) w A1 after.length after) (hc1 : after.length ≤ c1) (hlen : good.length ≤ 1000000)
    (h : goOn (orElse o0 10000000) (orElse o1 2000000000) (orElse o2 2) (orElse o3 1) after good 0 s 0 = some res) :
    Calls Try.prog 22 #[.agg #[.int .i64 o0, .int .i64 o1, .int .i64 o2, .int .i64 o3], .bool false, .int .i64 s, .slice A0 good.length c0, .slice A1 after.length c1] w fun e w' =>
      ∃ v, e = .returned v ∧ Kd.R (Kd.int .i64) 3 w' w.heap.size (fun _ => True) v res ∧ Below w.heap.size w w' := by
  have d0 : 0 ≤ orElse o2 2 ∧ orElse o2 2 ≤ 16 := by unfold orElse; split <;> omega
  have a0 : 0 ≤ orElse o3 1 ∧ orElse o3 1 ≤ 16 := by unfold orElse; split <;> omega
  have H := Lib.hid h; clear h
  have HR0 := Lib.hid hr0; have HR1 := Lib.hid hr1
  clear hr0 hr1
  go_enter Try.func22, Try.ntmps22
  go_wp2_with (go_at_call 17; (with_reducible refine (new_of _ _ _ _ _ (by omega) (by omega)).mono ?_); rintro e w1 ⟨c, rfl, hO, hbO, hle⟩; obtain ⟨hcO, hfO⟩ := bcell hbO; have hzO := hbO.size; try simp at hzO; try simp at hle)
  have hsb : c < w1.heap.size := hO.lt
  have START : Mid3 w.heap.size c w1.heap.size (orElse o0 10000000) (orElse o1 2000000000) (orElse o2 2) (orElse o3 1) s 0 0 [] w (.slice none 0 0) (w1.alloc (.cells #[.int .i64 s, .int .i64 0, .int .i64 0, .int .i64 0] 28 (0, 0))) :=
    ⟨hO.alloc _, heap_alloc_new w1 _, Kd.R_nil _ _ _ _ _, (((Below.refl _ _).alloc (Nat.le_refl _) _).trans (hbO.mono (by simp))).alloc (by omega) _, by omega⟩
  have START := Lib.hid START
  clear hO hbO hcO hfO
  go_loopg [27, 13] good.length (fun k v27 v13 w' => ∃ (x s r a : Int) (outs rest : List Int), v27 = .int .i64 x ∧ Hid (0 ≤ x ∧ x + k = good.length ∧ outs.length = x ∧ 0 ≤ r ∧ r ≤ x ∧ goOn (orElse o0 10000000) (orElse o1 2000000000) (orElse o2 2) (orElse o3 1) after (good.drop x.toNat) x.toNat s r = some rest ∧ outs ++ rest = res) ∧ Hid (Mid3 w.heap.size c w1.heap.size (orElse o0 10000000) (orElse o1 2000000000) (orElse o2 2) (orElse o3 1) s r a outs w v13 w'))
  case atStart => exact ⟨0, s, 0, 0, [], res, rfl, Lib.hid ⟨by omega, by simp, rfl, by omega, by omega, by simpa using H.out, rfl⟩, START⟩
  case round =>
    clear START
    obtain ⟨x, s', r, a, outs, rest, rfl, hN, hM⟩ := hrel
    have hx0 : 0 ≤ x := hN.out.1
    have hxk := hN.out.2.1
    by_cases hlt : x < (good.length : Int)
    · have b0 : decide (x < (good.length : Int)) = true := decide_eq_true hlt
      have p0 : decide (0 ≤ x) = true := decide_eq_true hx0
      obtain ⟨ad, e0, hcell⟩ := Kd.at_bool HR0.out x hx0 hlt
      cases e0
      replace hcell := (hM.out.2.2.2.1.cell (World.block_lt_of_cell? w _ hcell)).trans hcell
      obtain ⟨hO, hB, hR, hb, hBc⟩ := hM.out
      obtain ⟨k0, k1, k2, k3⟩ := hB.cell
      have f1 := hB.frozen 1
      have f2 := hB.frozen 2
      go_upto_if 37 with (fail)
      have hcl : c ≠ w1.heap.size := by omega
      have hr1 : wrap64 (r + 1) = r + 1 := by have := hN.out; unfold wrap64; omega
      have M9 : Mid3 w.heap.size c w1.heap.size (orElse o0 10000000) (orElse o1 2000000000) (orElse o2 2) (orElse o3 1) s' (r + 1) (-1) outs w u13 ((wr.setCell ⟨w1.heap.size, 1, none⟩ (.int .i64 (wrap64 (r + 1)))).setCell ⟨w1.heap.size, 2, none⟩ (.int .i64 (-1))) := by
        rw [hr1]
        exact ⟨(hO.far hcl.symm _).far hcl.symm _, (hB.set1 _).set2 _, Kd.R_mono (Kd.R_far (p := ⟨w1.heap.size, 2, none⟩) (Kd.R_far (p := ⟨w1.heap.size, 1, none⟩) (Kd.R_types hR hB (by decide)) (fun _ hk => hk.2) _) (fun _ hk => hk.2) _) (fun _ _ => trivial), below_set (below_set hb (by show w.heap.size ≤ w1.heap.size; omega)) (by show w.heap.size ≤ w1.heap.size; omega), hBc⟩
      clear hO hB hR hb k0 k1 k2 k3 f1 f2 hcell
      generalize ((wr.setCell ⟨w1.heap.size, 1, none⟩ (.int .i64 (wrap64 (r + 1)))).setCell ⟨w1.heap.size, 2, none⟩ (.int .i64 (-1))) = w9 at M9 ⊢
      obtain ⟨hO, hB, hR, hb, -⟩ := M9
      generalize hgg : rdOf false good x = g
      have HG := Lib.hid hgg
      clear hgg
      go_cut [] (fun wc => Mid3 w.heap.size c w1.heap.size (orElse o0 10000000) (orElse o1 2000000000) (orElse o2 2) (orElse o3 1) s' (nextR g r) (if g then -1 else aft after x.toNat) outs w u13 wc)
      case first =>
        clear HG
        obtain ⟨k0, k1, k2, k3⟩ := hB.cell
        have f1 := hB.frozen 1
        have f2 := hB.frozen 2
        have hB' := Lib.hid hB; have hO' := Lib.hid hO; have hR' := Lib.hid hR; have hb' := Lib.hid hb
        cases g with
        | true =>
          clear hB hO hR hb
          go_wp2
          go_meet
          case rel =>
            exact ⟨hO'.out.far hcl.symm _, hB'.out.set1 0, Kd.R_mono (Kd.R_far (p := ⟨w1.heap.size, 1, none⟩) (Kd.R_types hR'.out hB'.out (by decide)) (fun _ hk => hk.2) _) (fun _ _ => trivial), below_set hb'.out (by show w.heap.size ≤ w1.heap.size; omega), hBc⟩
        | false =>
          by_cases hj : x < (after.length : Int)
          · have bj : decide (x < (after.length : Int)) = true := decide_eq_true hj
            obtain ⟨ad1, e1, hcell1⟩ := Kd.at_int HR1.out x hx0 hj
            cases e1
            replace hcell1 := (hb.cell (World.block_lt_of_cell? w _ hcell1)).trans hcell1
            have ha : aft after x.toNat = rd after x := by
              unfold aft rd; rw [if_pos (by omega)]
            clear hB hO hR hb
            go_wp2
            go_meet
            case rel =>
              refine ⟨hO'.out.far hcl.symm _, ?_, Kd.R_mono (Kd.R_far (p := ⟨w1.heap.size, 2, none⟩) (Kd.R_types hR'.out hB'.out (by decide)) (fun _ hk => hk.2) _) (fun _ _ => trivial), below_set hb'.out (by show w.heap.size ≤ w1.heap.size; omega), hBc⟩
              simp only [Bool.false_eq_true, if_false, nextR, ha]
              exact hB'.out.set2 _
          · have bj : decide (x < (after.length : Int)) = false := decide_eq_false hj
            have ha : aft after x.toNat = -1 := by
              unfold aft; rw [if_neg (by omega)]
            clear hB hO hR hb
            go_wp2
            go_meet
            case rel =>
              refine ⟨hO'.out, ?_, hR'.out, hb'.out, hBc⟩
              simp only [Bool.false_eq_true, if_false, nextR, ha]
              exact hB'.out
      case rest =>
        generalize hr2 : nextR g r = r2 at hcut
        generalize ha2 : (if g = true then (-1 : Int) else aft after x.toNat) = a2 at hcut
        have HR2 := Lib.hid hr2
        have HA2 := Lib.hid ha2
        clear hr2 ha2
        have hC := Lib.hid hcut
        obtain ⟨hO, hB, hR, hb, -⟩ := hcut
        have hg := hN.out.2.2.2.2.2.1
        rw [List.drop_eq_getElem_cons (show x.toNat < good.length by omega)] at hg
        have hge : good[x.toNat]'(show x.toNat < good.length by omega) = rdOf false good x := by
          unfold rdOf; rw [List.getD_eq_getElem?_getD, List.getElem?_eq_getElem (by omega)]; rfl
        rw [hge, HG.out] at hg
        have hN2 := Lib.hid hg
        clear hg
        clear hge HG
        have m1 : ∀ (v : Value) (W : World), (method 226 47 v "Calculate").run Try.prog W = .ok (18, v) W := fun v W => by kernel_rfl
        have m2 : ∀ (W : World), (nilAhead 226 47 (.pointer (some ⟨c, 0, none⟩)) "Calculate").run Try.prog W = .ok (some false) W := fun W => by kernel_rfl
        have hm := hmf
        have hs : 0 ≤ s' ∧ s' ≤ 1099511627776 := by
          have := hN2.out
          simp only [goOn] at this
          split at this
          · assumption
          · cases this
        obtain ⟨k0, k1, k2, k3⟩ := hB.cell
        have f0 := hB.frozen 0
        have hB' := Lib.hid hB; have hO' := Lib.hid hO; have hR' := Lib.hid hR; have hb' := Lib.hid hb
        have hsbl : w1.heap.size < wc.heap.size := by
          have h := hB'.out; unfold Blk at h; exact (Array.getElem?_eq_some_iff.1 h).1
        clear hB hO hR hb
        have HD : Hid (Opt c (orElse o0 10000000) (orElse o1 2000000000) (orElse o2 2) (orElse o3 1) wc.drew ∧ c < wc.drew.heap.size) := Lib.hid ⟨hO'.out, hO'.out.lt⟩
        go_upto_region 14 with (fail)
        go_region_with (first
          | (go_at_call 19; (with_reducible refine (stated0 _ _ _ _).mono ?_); rintro e w2 ⟨v, rfl, hl, hbS⟩; obtain ⟨hcS, hfS⟩ := bcell hbS; have hzS := hbS.size; try simp at hzS)
          | (go_at_call 18; (with_reducible refine (calc_any _ _ _ _ _ _ _ _ 0 _ _ (Opt.below HD.out.1 hbS HD.out.2) hl hs.1 hs.2 d0.1 d0.2 a0.1 a0.2).mono ?_); rintro e w3 ⟨rfl, hb3⟩; obtain ⟨hc3, hf3⟩ := bcell hb3; have q0 : w3.cell? ⟨w1.heap.size, 0, none⟩ = some (.int .i64 s') := (hc3 _ 0 (Nat.lt_of_lt_of_le hsbl hzS)).trans ((hcS _ 0 hsbl).trans k0); have q1 : w3.frozen? ⟨w1.heap.size, 0, none⟩ = false := (hf3 _ 0 (Nat.lt_of_lt_of_le hsbl hzS)).trans ((hfS _ 0 hsbl).trans f0)))
        all_goals
          have hBl : w.heap.size ≤ wc.heap.size := by omega
          have hO3 := Opt.below (Opt.below HD.out.1 hbS HD.out.2) hb3 (Nat.lt_of_lt_of_le (show c < wc.heap.size by omega) hzS)
          have hB3 : Blk w1.heap.size s' r2 a2 w3 := Blk.below (Blk.below (show Blk w1.heap.size s' r2 a2 wc.drew from hB'.out) hbS hsbl) hb3 (Nat.lt_of_lt_of_le hsbl hzS)
          have hR3 := Kd.R_below (Kd.R_below (Kd.R_drew hR'.out) hbS) hb3
          have hb4 : Below w.heap.size w w3 := ((hb'.out.drew).trans (hbS.mono hBl)).trans (hb3.mono (by omega))
          generalize hS : calcAll (orElse o0 10000000) (orElse o1 2000000000) (orElse o2 2) (orElse o3 1) s' r2 (tells r2 a2 0) = S
          have HS := Lib.hid hS
          clear hS
          have M4 : Hid (Mid3 w.heap.size c w1.heap.size (orElse o0 10000000) (orElse o1 2000000000) (orElse o2 2) (orElse o3 1) S r2 a2 outs w u13 (w3.setCell ⟨w1.heap.size, 0, none⟩ (.int .i64 S))) :=
            ⟨hO3.far hcl.symm _, hB3.set0 S, Kd.R_mono (Kd.R_far (p := ⟨w1.heap.size, 0, none⟩) (Kd.R_types hR3 hB3 (by decide)) (fun _ hk => hk.2) _) (fun _ _ => trivial), below_set hb4 (by show w.heap.size ≤ w1.heap.size; omega), hBc⟩
          clear hO3 hB3 hR3 hb4 q0 q1 hc3 hf3 hb3 hcS hfS hbS hl k0 k1 k2 k3 f0 hO' hB' hR' hb' HD
          generalize (w3.setCell ⟨w1.heap.size, 0, none⟩ (.int .i64 S)) = w4 at M4 ⊢
          obtain ⟨k0, k1, k2, k3⟩ := M4.out.2.1.cell
          have hol : (outs.length + 1) * 8 ≤ 140737488355328 := by have := hN.out.2.2.1; omega
          go_wp2_with (first | ((with_reducible refine gate_builtin (b := .append) (xs := #[.tmp 56, .tmp 59]) rfl ?_); at_builtin; refine Kd.R_append (Kd.int .i64) (w0 := w) w.heap.size rfl (.tmp 56) (.tmp 59) 37 3 (.int .i64 0) 8 rfl Try.underlying37 info3 rfl (by decide) (by omega) u13 outs S [.int .i64 S] (fun _ => True) (fun _ => False) rfl rfl ?aP (fun _ hk => hk.elim) ?aF ?aO ?aB ?aS ?aL ?_; (case aP => exact rfl); (case aB => exact M4.out.2.2.2.1); (case aF => exact (fun _ _ => trivial)); (case aO => exact M4.out.2.2.1); (case aS => exact below_size M4.out.2.2.2.1); (case aL => exact hol); intro v5 w5 ho hb hg hat; have HP := Lib.hid ho; have HQ := Lib.hid hb; have HT := Lib.hid hg; clear ho hb hg hat))
          have hk1 : gk - 1 < gk := by omega
          go_roundg (gk - 1)
          case measure => omega
          case rel =>
            have hne1 := Kd.R_ne M4.out.2.2.1 (show w4.heap[c]? = some (.cells #[.int .i64 (orElse o0 10000000), .int .i64 (orElse o1 2000000000), .int .u64 (orElse o2 2), .int .u64 (orElse o3 1)] 75 (0, 0)) from M4.out.1) (by decide)
            have hne2 := Kd.R_ne M4.out.2.2.1 (show w4.heap[w1.heap.size]? = some (.cells #[.int .i64 S, .int .i64 r2, .int .i64 a2, .int .i64 0] 28 (0, 0)) from M4.out.2.1) (by decide)
            have hx1 : wrap64 (x + 1) = x + 1 := by unfold wrap64; omega
            have hn := hN2.out
            simp only [goOn] at hn
            rw [if_pos hs] at hn
            have hnS : nextS (orElse o0 10000000) (orElse o1 2000000000) (orElse o2 2) (orElse o3 1) after g x.toNat s' r = S := by
              unfold nextS; rw [HR2.out, HA2.out, HS.out]
            rw [hnS, HR2.out] at hn
            obtain ⟨rest', hn1, hn2⟩ := Option.map_eq_some_iff.mp hn
            have hN3 := hN.out
            have hr2b : 0 ≤ r2 ∧ r2 ≤ x + 1 := by rw [← HR2.out]; unfold nextR; split <;> omega
            refine ⟨x + 1, S, r2, a2, outs ++ [S], rest', rfl, ?_, ?_⟩
            · skip
              refine Lib.hid ⟨by omega, by omega, by simp; omega, hr2b.1, hr2b.2, ?_, ?_⟩
              · rw [show (x + 1).toNat = x.toNat + 1 by omega]; exact hn1
              · rw [List.append_assoc, List.singleton_append, hn2]; exact hN3.2.2.2.2.2.2
            · refine Lib.hid ⟨?_, ?_, HP.out, HQ.out, hBc⟩
              · have h := M4.out.1
                unfold Opt at h ⊢
                rw [HT.out.block c (by exact (Array.getElem?_eq_some_iff.1 h).1) hne1]; exact h
              · have h := M4.out.2.1
                unfold Blk at h ⊢
                rw [HT.out.block w1.heap.size (by exact (Array.getElem?_eq_some_iff.1 h).1) hne2]; exact h
    · have b0 : decide (x < (good.length : Int)) = false := decide_eq_false hlt
      go_wp2
      go_ret
      have h := hN.out
      have hx : x = good.length := by omega
      have hd : good.drop x.toNat = [] := List.drop_eq_nil_of_le (by omega)
      have hres : outs = res := by
        have h6 := h.2.2.2.2.2.1
        rw [hd] at h6
        simp only [goOn, Option.some.injEq] at h6
        have h7 := h.2.2.2.2.2.2
        rw [← h6] at h7; simpa using h7
      exact ⟨_, rfl, hres ▸ hM.out.2.2.1, hM.out.2.2.2.1⟩
end Go.Proofs.Ytlefemlpemjhcaa.Pace

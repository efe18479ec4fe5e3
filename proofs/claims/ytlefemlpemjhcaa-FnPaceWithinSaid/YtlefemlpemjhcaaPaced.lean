import Derived.Test.YtlefemlpemjhcaaPace
import Derived.Deep.DeepCutAuto
import Derived.Deep.CutBlock
import Derived.Deep.QuietTactic
import Derived.BigQuiet
import Derived.WalkSmall
namespace Go.Proofs.Ytlefemlpemjhcaa.Pace
open Go.RowKit

/-- A calculator's options, in block b. -/
def Opt (b : Nat) (m x d a : Int) (w : World) : Prop := w.heap[b]? = some (.cells #[.int .i64 m, .int .i64 x, .int .u64 d, .int .u64 a] 75 (0, 0))

theorem Opt.lt {b : Nat} {m x d a : Int} {w : World} (h : Opt b m x d a w) : b < w.heap.size := by
  rcases Nat.lt_or_ge b w.heap.size with h' | h'
  · exact h'
  · unfold Opt at h; rw [Array.getElem?_eq_none h'] at h; cases h
theorem Opt.cell {b : Nat} {m x d a : Int} {w : World} (h : Opt b m x d a w) : w.cell? ⟨b, 0, none⟩ = some (.int .i64 m) ∧ w.cell? ⟨b, 1, none⟩ = some (.int .i64 x) ∧ w.cell? ⟨b, 2, none⟩ = some (.int .u64 d) ∧ w.cell? ⟨b, 3, none⟩ = some (.int .u64 a) := by
  unfold Opt at h
  simp [World.cell?, h]
theorem Opt.frozen {b : Nat} {m x d a : Int} {w : World} (h : Opt b m x d a w) (i : Nat) : w.frozen? ⟨b, i, none⟩ = false := by
  unfold Opt at h
  simp [World.frozen?, h]
theorem Opt.alloc {b : Nat} {m x d a : Int} {w : World} (h : Opt b m x d a w) (o : Obj) : Opt b m x d a (w.alloc o) := by
  have := h.lt
  unfold Opt at h ⊢
  rw [Below.heap_alloc _ _ _ this]; exact h
theorem Opt.below {b B : Nat} {m x d a : Int} {w w' : World} (h : Opt b m x d a w) (hb : Below B w w') (hB : b < B) : Opt b m x d a w' := by
  unfold Opt at h ⊢
  rw [hb.block b hB]; exact h
theorem Opt.set0 {b : Nat} {m x d a : Int} {w : World} (h : Opt b m x d a w) (y : Int) : Opt b y x d a (w.setCell ⟨b, 0, none⟩ (.int .i64 y)) := by
  unfold Opt at h ⊢; simp [World.setCell, Array.getElem?_modify, h]
theorem Opt.set1 {b : Nat} {m x d a : Int} {w : World} (h : Opt b m x d a w) (y : Int) : Opt b m y d a (w.setCell ⟨b, 1, none⟩ (.int .i64 y)) := by
  unfold Opt at h ⊢; simp [World.setCell, Array.getElem?_modify, h]
theorem Opt.set2 {b : Nat} {m x d a : Int} {w : World} (h : Opt b m x d a w) (y : Int) : Opt b m x y a (w.setCell ⟨b, 2, none⟩ (.int .u64 y)) := by
  unfold Opt at h ⊢; simp [World.setCell, Array.getElem?_modify, h]
theorem Opt.set3 {b : Nat} {m x d a : Int} {w : World} (h : Opt b m x d a w) (y : Int) : Opt b m x d y (w.setCell ⟨b, 3, none⟩ (.int .u64 y)) := by
  unfold Opt at h ⊢; simp [World.setCell, Array.getElem?_modify, h]

set_option maxHeartbeats 1000000 in
set_option maxRecDepth 100000 in
theorem up0 (b g : Nat) (m x d a y : Int) (w : World) (h : Opt b m x d a w) (hg : w.cell? ⟨g, 0, none⟩ = some (.iface 69 (.int .i64 y))) :
    Calls Try.prog 27 #[.pointer (some ⟨b, 0, none⟩), .slice (some ⟨g, 0, none⟩) 1 1] w fun e w' => e = .returned (.tuple #[]) ∧ Opt b y x d a w' ∧ Below b w w' := by
  obtain ⟨c0, c1, c2, c3⟩ := h.cell
  have f0 := h.frozen 0
  have m1 : ∀ (v : Value) (W : World), (method 226 69 v "ApplyDefault").run Try.prog W = .ok (56, v) W := fun v W => by kernel_rfl
  have HO := Lib.hid h; clear h
  go_enter Try.func27, Try.ntmps27
  go_wp2
  refine wp_loop_rounds 2 ?_; rw [rounds_succ]
  go_wp2
  go_end0
  go_wp2
  rw [rounds_succ]
  go_wp2
  go_end0
  exact ⟨rfl, HO.out.set0 y, (Below.refl _ _).setCell (p := ⟨b, 0, none⟩) (Nat.le_refl _) _⟩

set_option maxHeartbeats 1000000 in
set_option maxRecDepth 100000 in
theorem up1 (b g : Nat) (m x d a y : Int) (w : World) (h : Opt b m x d a w) (hg : w.cell? ⟨g, 0, none⟩ = some (.iface 70 (.int .i64 y))) :
    Calls Try.prog 27 #[.pointer (some ⟨b, 0, none⟩), .slice (some ⟨g, 0, none⟩) 1 1] w fun e w' => e = .returned (.tuple #[]) ∧ Opt b m y d a w' ∧ Below b w w' := by
  obtain ⟨c0, c1, c2, c3⟩ := h.cell
  have f0 := h.frozen 1
  have m1 : ∀ (v : Value) (W : World), (method 226 70 v "ApplyDefault").run Try.prog W = .ok (58, v) W := fun v W => by kernel_rfl
  have HO := Lib.hid h; clear h
  go_enter Try.func27, Try.ntmps27
  go_wp2
  refine wp_loop_rounds 2 ?_; rw [rounds_succ]
  go_wp2
  go_end0
  go_wp2
  rw [rounds_succ]
  go_wp2
  go_end0
  exact ⟨rfl, HO.out.set1 y, (Below.refl _ _).setCell (p := ⟨b, 1, none⟩) (Nat.le_refl _) _⟩

set_option maxHeartbeats 1000000 in
set_option maxRecDepth 100000 in
theorem up2 (b g : Nat) (m x d a y : Int) (w : World) (h : Opt b m x d a w) (hg : w.cell? ⟨g, 0, none⟩ = some (.iface 72 (.int .u64 y))) :
    Calls Try.prog 27 #[.pointer (some ⟨b, 0, none⟩), .slice (some ⟨g, 0, none⟩) 1 1] w fun e w' => e = .returned (.tuple #[]) ∧ Opt b m x y a w' ∧ Below b w w' := by
  obtain ⟨c0, c1, c2, c3⟩ := h.cell
  have f0 := h.frozen 2
  have m1 : ∀ (v : Value) (W : World), (method 226 72 v "ApplyDefault").run Try.prog W = .ok (60, v) W := fun v W => by kernel_rfl
  have HO := Lib.hid h; clear h
  go_enter Try.func27, Try.ntmps27
  go_wp2
  refine wp_loop_rounds 2 ?_; rw [rounds_succ]
  go_wp2
  go_end0
  go_wp2
  rw [rounds_succ]
  go_wp2
  go_end0
  exact ⟨rfl, HO.out.set2 y, (Below.refl _ _).setCell (p := ⟨b, 2, none⟩) (Nat.le_refl _) _⟩

set_option maxHeartbeats 1000000 in
set_option maxRecDepth 100000 in
theorem up3 (b g : Nat) (m x d a y : Int) (w : World) (h : Opt b m x d a w) (hg : w.cell? ⟨g, 0, none⟩ = some (.iface 73 (.int .u64 y))) :
    Calls Try.prog 27 #[.pointer (some ⟨b, 0, none⟩), .slice (some ⟨g, 0, none⟩) 1 1] w fun e w' => e = .returned (.tuple #[]) ∧ Opt b m x d y w' ∧ Below b w w' := by
  obtain ⟨c0, c1, c2, c3⟩ := h.cell
  have f0 := h.frozen 3
  have m1 : ∀ (v : Value) (W : World), (method 226 73 v "ApplyDefault").run Try.prog W = .ok (62, v) W := fun v W => by kernel_rfl
  have HO := Lib.hid h; clear h
  go_enter Try.func27, Try.ntmps27
  go_wp2
  refine wp_loop_rounds 2 ?_; rw [rounds_succ]
  go_wp2
  go_end0
  go_wp2
  rw [rounds_succ]
  go_wp2
  go_end0
  exact ⟨rfl, HO.out.set3 y, (Below.refl _ _).setCell (p := ⟨b, 3, none⟩) (Nat.le_refl _) _⟩


/-- An option, or what is there where it is not given. -/
def orElse (y d : Int) : Int := if 0 ≤ y then y else d
theorem orElse_yes {y d : Int} (h : 0 ≤ y) : orElse y d = y := if_pos h
theorem orElse_no {y d : Int} (h : ¬ 0 ≤ y) : orElse y d = d := if_neg h

/-- A new calculator of options. -/
def NewOpt (m x d a : Int) (w : World) (e : Ending) (w' : World) : Prop := ∃ b : Nat, e = .returned (.pointer (some ⟨b, 0, none⟩)) ∧ Opt b m x d a w' ∧ Below w.heap.size w w' ∧ w.heap.size ≤ b

set_option maxHeartbeats 1000000 in
set_option maxRecDepth 100000 in
theorem new_default (w : World) : Calls Try.prog 26 #[.slice none 0 0] w (NewOpt 10000000 2000000000 2 1 w) := by
  go_enter Try.func26, Try.ntmps26
  go_wp2
  refine wp_loop_rounds 1 ?_; rw [rounds_succ]
  go_wp2
  go_end0
  go_wp2
  go_ret
  exact ⟨w.heap.size, rfl, heap_alloc_new w _, (Below.refl _ _).alloc (Nat.le_refl _) _, Nat.le_refl _⟩

theorem bcell {W w1 : World} (hb : Below W.heap.size W w1) : (∀ b o, b < W.heap.size → w1.cell? ⟨b, o, none⟩ = W.cell? ⟨b, o, none⟩) ∧ (∀ b o, b < W.heap.size → w1.frozen? ⟨b, o, none⟩ = W.frozen? ⟨b, o, none⟩) :=
  ⟨fun b o h => hb.cell (p := ⟨b, o, none⟩) h, fun b o h => hb.frozen (p := ⟨b, o, none⟩) h⟩

/-- What holds between the options: the calculator in block c, and the argument's own block b. -/
def Mid (b c : Nat) (o0 o1 o2 o3 m x d a : Int) (w w' : World) : Prop :=
  Opt c m x d a w' ∧ w'.cell? ⟨b, 0, none⟩ = some (.int .i64 o0) ∧ w'.cell? ⟨b, 1, none⟩ = some (.int .i64 o1) ∧ w'.cell? ⟨b, 2, none⟩ = some (.int .i64 o2) ∧ w'.cell? ⟨b, 3, none⟩ = some (.int .i64 o3) ∧ Below b w w' ∧ b < c

set_option maxHeartbeats 4000000 in
set_option maxRecDepth 100000 in
theorem new_of (o0 o1 o2 o3 : Int) (w : World) (h2 : o2 ≤ 9223372036854775807) (h3 : o3 ≤ 9223372036854775807) :
    Calls Try.prog 17 #[.agg #[.int .i64 o0, .int .i64 o1, .int .i64 o2, .int .i64 o3]] w (NewOpt (orElse o0 10000000) (orElse o1 2000000000) (orElse o2 2) (orElse o3 1) w) := by
  go_enter Try.func17, Try.ntmps17
  go_upto_if 7 with (go_at_call 26; (with_reducible refine (new_default _).mono ?_); rintro e w1 ⟨c, rfl, hO, hb, hle⟩; have k0 : w1.cell? ⟨w.heap.size, 0, none⟩ = some (.int .i64 o0) := (by rw [hb.cell (by simp)]; simp [go_sem]); have k1 : w1.cell? ⟨w.heap.size, 1, none⟩ = some (.int .i64 o1) := (by rw [hb.cell (by simp)]; simp [go_sem]); have k2 : w1.cell? ⟨w.heap.size, 2, none⟩ = some (.int .i64 o2) := (by rw [hb.cell (by simp)]; simp [go_sem]); have k3 : w1.cell? ⟨w.heap.size, 3, none⟩ = some (.int .i64 o3) := (by rw [hb.cell (by simp)]; simp [go_sem]); simp at hle)
  have hm : Mid w.heap.size c o0 o1 o2 o3 10000000 2000000000 2 1 w w1 := ⟨hO, k0, k1, k2, k3, ((Below.refl _ _).alloc (Nat.le_refl _) _).trans (hb.mono (by simp)), hle⟩
  clear hO hb k0 k1 k2 k3 hle
  go_cut [] (fun wc => Mid w.heap.size c o0 o1 o2 o3 (orElse o0 10000000) 2000000000 2 1 w wc)
  case first =>
    by_cases ho : 0 ≤ o0
    · rw [show decide (0 ≤ o0) = true from decide_eq_true ho]
      obtain ⟨hO, k0, k1, k2, k3, hb, hlt⟩ := hm
      have hz := hO.lt
      have HO := Lib.hid hO
      have HB := Lib.hid hb
      have HE := Lib.hid (orElse_yes (d := 10000000) ho)
      clear hO hb
      go_wp2_with (go_at_call 27; (with_reducible refine (up0 _ _ _ _ _ _ o0 _ (HO.out.alloc _) (by simp [go_sem])).mono ?_); rintro e w2 ⟨rfl, hO2, hb2⟩)
      go_meet
      case rel =>
        refine ⟨by rw [HE.out]; exact hO2, ?_, ?_, ?_, ?_, (HB.out.alloc (by omega) _).trans (hb2.mono (by omega)), hlt⟩
        all_goals (rw [hb2.cell (by exact hlt), World.cell?_alloc_lt _ _ _ (by exact Nat.lt_trans hlt hz)]; assumption)
    · rw [show decide (0 ≤ o0) = false from decide_eq_false ho]
      have HE := Lib.hid (orElse_no (d := 10000000) ho)
      have HM := Lib.hid hm; clear hm ho
      go_wp2
      go_meet
      case rel => rw [HE.out]; exact HM.out
  case rest =>
    clear hm
    have hm := hcut
    clear hcut
    obtain ⟨hO, k0, k1, k2, k3, hb, hlt⟩ := hm
    have hm : Mid w.heap.size c o0 o1 o2 o3 (orElse o0 10000000) 2000000000 2 1 w wc := ⟨hO, k0, k1, k2, k3, hb, hlt⟩
    have HMM := Lib.hid hm
    clear hm hO hb
    have hm := HMM.out
    clear HMM
    go_upto_if 16 with (fail)
    go_cut [] (fun wc => Mid w.heap.size c o0 o1 o2 o3 (orElse o0 10000000) (orElse o1 2000000000) 2 1 w wc)
    case first =>
      by_cases ho : 0 ≤ o1
      · rw [show decide (0 ≤ o1) = true from decide_eq_true ho]
        obtain ⟨hO, k0, k1, k2, k3, hb, hlt⟩ := hm
        have hz := hO.lt
        have HO := Lib.hid hO
        have HB := Lib.hid hb
        have HE := Lib.hid (orElse_yes (d := 2000000000) ho)
        clear hO hb
        go_wp2_with (go_at_call 27; (with_reducible refine (up1 _ _ _ _ _ _ o1 _ (HO.out.alloc _) (by simp [go_sem])).mono ?_); rintro e w2 ⟨rfl, hO2, hb2⟩)
        go_meet
        case rel =>
          refine ⟨by rw [HE.out]; exact hO2, ?_, ?_, ?_, ?_, (HB.out.alloc (by omega) _).trans (hb2.mono (by omega)), hlt⟩
          all_goals (rw [hb2.cell (by exact hlt), World.cell?_alloc_lt _ _ _ (by exact Nat.lt_trans hlt hz)]; assumption)
      · rw [show decide (0 ≤ o1) = false from decide_eq_false ho]
        have HE := Lib.hid (orElse_no (d := 2000000000) ho)
        have HM := Lib.hid hm; clear hm ho
        go_wp2
        go_meet
        case rel => rw [HE.out]; exact HM.out
    case rest =>
      clear hm
      have hm := hcut
      clear hcut
      obtain ⟨hO, k0, k1, k2, k3, hb, hlt⟩ := hm
      have hm : Mid w.heap.size c o0 o1 o2 o3 (orElse o0 10000000) (orElse o1 2000000000) 2 1 w wc := ⟨hO, k0, k1, k2, k3, hb, hlt⟩
      have HMM := Lib.hid hm
      clear hm hO hb
      have hm := HMM.out
      clear HMM
      go_upto_if 25 with (fail)
      go_cut [] (fun wc => Mid w.heap.size c o0 o1 o2 o3 (orElse o0 10000000) (orElse o1 2000000000) (orElse o2 2) 1 w wc)
      case first =>
        by_cases ho : 0 ≤ o2
        · rw [show decide (0 ≤ o2) = true from decide_eq_true ho]
          obtain ⟨hO, k0, k1, k2, k3, hb, hlt⟩ := hm
          have hz := hO.lt
          have HO := Lib.hid hO
          have HB := Lib.hid hb
          have HE := Lib.hid (orElse_yes (d := 2) ho)
          clear hO hb
          go_wp2_with (go_at_call 27; (with_reducible refine (up2 _ _ _ _ _ _ o2 _ (HO.out.alloc _) (by simp [go_sem])).mono ?_); rintro e w2 ⟨rfl, hO2, hb2⟩)
          go_meet
          case rel =>
            refine ⟨by rw [HE.out]; exact hO2, ?_, ?_, ?_, ?_, (HB.out.alloc (by omega) _).trans (hb2.mono (by omega)), hlt⟩
            all_goals (rw [hb2.cell (by exact hlt), World.cell?_alloc_lt _ _ _ (by exact Nat.lt_trans hlt hz)]; assumption)
        · rw [show decide (0 ≤ o2) = false from decide_eq_false ho]
          have HE := Lib.hid (orElse_no (d := 2) ho)
          have HM := Lib.hid hm; clear hm ho
          go_wp2
          go_meet
          case rel => rw [HE.out]; exact HM.out
      case rest =>
        clear hm
        have hm := hcut
        clear hcut
        obtain ⟨hO, k0, k1, k2, k3, hb, hlt⟩ := hm
        have hm : Mid w.heap.size c o0 o1 o2 o3 (orElse o0 10000000) (orElse o1 2000000000) (orElse o2 2) 1 w wc := ⟨hO, k0, k1, k2, k3, hb, hlt⟩
        have HMM := Lib.hid hm
        clear hm hO hb
        have hm := HMM.out
        clear HMM
        go_upto_if 35 with (fail)
        go_cut [] (fun wc => Mid w.heap.size c o0 o1 o2 o3 (orElse o0 10000000) (orElse o1 2000000000) (orElse o2 2) (orElse o3 1) w wc)
        case first =>
          by_cases ho : 0 ≤ o3
          · rw [show decide (0 ≤ o3) = true from decide_eq_true ho]
            obtain ⟨hO, k0, k1, k2, k3, hb, hlt⟩ := hm
            have hz := hO.lt
            have HO := Lib.hid hO
            have HB := Lib.hid hb
            have HE := Lib.hid (orElse_yes (d := 1) ho)
            clear hO hb
            go_wp2_with (go_at_call 27; (with_reducible refine (up3 _ _ _ _ _ _ o3 _ (HO.out.alloc _) (by simp [go_sem])).mono ?_); rintro e w2 ⟨rfl, hO2, hb2⟩)
            go_meet
            case rel =>
              refine ⟨by rw [HE.out]; exact hO2, ?_, ?_, ?_, ?_, (HB.out.alloc (by omega) _).trans (hb2.mono (by omega)), hlt⟩
              all_goals (rw [hb2.cell (by exact hlt), World.cell?_alloc_lt _ _ _ (by exact Nat.lt_trans hlt hz)]; assumption)
          · rw [show decide (0 ≤ o3) = false from decide_eq_false ho]
            have HE := Lib.hid (orElse_no (d := 1) ho)
            have HM := Lib.hid hm; clear hm ho
            go_wp2
            go_meet
            case rel => rw [HE.out]; exact HM.out
        case rest =>
          clear hm
          have hm := hcut
          clear hcut
          obtain ⟨hO, k0, k1, k2, k3, hb, hlt⟩ := hm
          have hm : Mid w.heap.size c o0 o1 o2 o3 (orElse o0 10000000) (orElse o1 2000000000) (orElse o2 2) (orElse o3 1) w wc := ⟨hO, k0, k1, k2, k3, hb, hlt⟩
          have HMM := Lib.hid hm
          clear hm hO hb
          go_wp2
          go_ret
          exact ⟨c, rfl, HMM.out.1, HMM.out.2.2.2.2.2.1, Nat.le_of_lt hlt⟩

/-- An error at a new block, which is none of those that were there. -/
def MadeN (after : Int) (n : Nat) (w : World) (e : Ending) (w' : World) : Prop := ∃ b, e = .returned (chain b n) ∧ After b after w' ∧ Below w.heap.size w w' ∧ w.heap.size ≤ b

set_option maxHeartbeats 400000 in
theorem made_n (after : Int) (w : World) : Calls Try.prog 25 #[.int .i64 after] w (MadeN after 0 w) := by
  go_enter Try.func25, Try.ntmps25
  go_wp2
  go_ret
  exact ⟨_, rfl, ⟨by simp [go_sem], by simp⟩, ((Below.refl _ _).alloc (Nat.le_refl _) _).alloc (by simp) _, by omega⟩

set_option maxHeartbeats 400000 in
theorem wrap_n (after : Int) (n : Nat) (hn : n ≤ 1000) (w : World) : Calls Try.prog 16 #[.int .i64 after, .int .i64 n] w (MadeN after n w) := by
  go_enter Try.func16, Try.ntmps16
  go_wp2_with (go_at_call 25; (with_reducible refine (made_n _ _).mono ?_); rintro e w1 ⟨b, rfl, ha, hb, hle⟩)
  go_loop [5, 9] (fun v i => ∃ k : Nat, k ≤ n ∧ i = .int .i64 k ∧ v = chain b k) (fun _ i => n - (intOf i).toNat)
  case atStart => exact ⟨0, by omega, rfl, rfl⟩
  case round =>
    obtain ⟨k, hk, rfl, rfl⟩ := hrel
    by_cases hlt : k < n
    · go_wp2
      go_round
      case rel => exact ⟨k + 1, by omega, by go_num, rfl⟩
      case measure => simp [intOf]; omega
    · obtain rfl : k = n := by omega
      go_wp2
      go_ret
      exact ⟨b, rfl, ha, hb, hle⟩

theorem After.setCell {b c i : Nat} {after : Int} {w : World} (h : After b after w) (hne : c ≠ b) (v : Value) : After b after (w.setCell ⟨c, i, none⟩ v) := by
  refine ⟨?_, by simpa [World.setCell] using h.2⟩
  rw [World.cell?_setCell_other _ _ _ _ (by intro e; injection e with e; exact hne e)]
  exact h.1

/-- The last error of a state: the time that it tells, if it tells one. -/
def tells (s1 s2 s3 : Int) : Option Int := if 0 ≤ s2 ∧ (0 < s1 ∨ 0 < s2 ∨ 0 < s3) then some s2 else none
def LastIs (o : Option Int) (n : Nat) (v : Value) (w : World) : Prop := match o with
  | some after => ∃ b, v = chain b n ∧ After b after w
  | none => Plain v
/-- A state is handed back. -/
def Stated (s0 s1 s2 s3 : Int) (n : Nat) (w : World) (e : Ending) (w' : World) : Prop :=
  ∃ v, e = .returned (.agg #[.int .i64 s0, .int .i64 s1, v]) ∧ LastIs (tells s1 s2 s3) n v w' ∧ Below w.heap.size w w'

set_option maxHeartbeats 400000 in
theorem new_err (a0 : ByteArray) (w : World) : Calls Try.prog 28 #[.string a0] w fun e w' => (∃ b : Nat, e = .returned (.iface 97 (.pointer (some ⟨b, 0, none⟩)))) ∧ Below w.heap.size w w' := by
  go_enter Try.func28, Try.ntmps28
  go_wp2
  go_ret
  exact ⟨⟨_, rfl⟩, (Below.refl _ _).alloc (Nat.le_refl _) _⟩

/-- An interface value: nil, or one of a type. -/
def IsIface (v : Value) : Prop := v = .nilIface ∨ ∃ T x, v = .iface T x

theorem chain_iface (b n : Nat) : IsIface (chain b n) := .inr ⟨_, _, rfl⟩
theorem nil_iface : IsIface .nilIface := .inl rfl
theorem err_iface (b : Nat) : IsIface (.iface 97 (.pointer (some ⟨b, 0, none⟩))) := .inr ⟨_, _, rfl⟩

theorem two_new (w : World) (o1 o2 : Obj) : ((w.alloc o1).alloc o2).heap[w.heap.size + 1]? = some o2 := by
  rw [show w.heap.size + 1 = (w.alloc o1).heap.size by simp]; exact heap_alloc_new _ _
theorem blk3 {w : World} {b : Nat} {v0 v1 v2 : Value} {T : TypeId} (h : w.heap[b]? = some (.cells #[v0, v1, v2] T (0, 0))) :
    w.cell? ⟨b, 0, none⟩ = some v0 ∧ w.cell? ⟨b, 1, none⟩ = some v1 ∧ w.cell? ⟨b, 2, none⟩ = some v2 ∧ w.frozen? ⟨b, 0, none⟩ = false ∧ w.frozen? ⟨b, 1, none⟩ = false ∧ w.frozen? ⟨b, 2, none⟩ = false := by
  simp [World.cell?, World.frozen?, h]

set_option maxHeartbeats 400000 in
theorem zz (s0 s1 : Int) (v : Value) (hv : IsIface v) (w : World) : Calls Try.prog 29 #[.int .i64 s0, .int .i64 s1, v] w fun e w' => e = .returned (.agg #[.int .i64 s0, .int .i64 s1, v]) ∧ Below w.heap.size w w' := by
  rcases hv with rfl | ⟨T, x, rfl⟩
  · go_enter Try.func29, Try.ntmps29
    go_wp2
    refine bodyPost_ret (v := .agg #[.int .i64 s0, .int .i64 s1, .nilIface]) (by simp [results, Try.results29, go_sem]) rfl ⟨rfl, ?_⟩
    exact (Below.refl _ _).alloc (Nat.le_refl _) _
  · go_enter Try.func29, Try.ntmps29
    go_wp2
    refine bodyPost_ret (v := .agg #[.int .i64 s0, .int .i64 s1, .iface T x]) (by simp [results, Try.results29, go_sem]) rfl ⟨rfl, ?_⟩
    exact (Below.refl _ _).alloc (Nat.le_refl _) _

set_option maxHeartbeats 4000000 in
set_option maxRecDepth 100000 in
theorem state_yes (s0 s1 s2 : Int) (n : Nat) (hn : n ≤ 1000) (w : World) (h : 0 ≤ s2 ∧ (0 < s1 ∨ 0 < s2 ∨ 0 < (n : Int))) :
    Calls Try.prog 19 #[.agg #[.int .i64 s0, .int .i64 s1, .int .i64 s2, .int .i64 n]] w (Stated s0 s1 s2 n n w) := by
  have ht : tells s1 s2 n = some s2 := by unfold tells; rw [if_pos h]
  have HT := Lib.hid ht; clear ht
  obtain ⟨h0, h⟩ := h
  have e1 : decide (0 ≤ s2) = true := decide_eq_true h0
  by_cases h1 : 0 < s1
  · have e2 : decide (0 < s1) = true := decide_eq_true h1
    clear h h1 h0
    go_enter Try.func19, Try.ntmps19
    go_wp2_with (first | (go_at_call 16; (with_reducible refine (wrap_n _ _ hn _).mono ?_); rintro e w1 ⟨b, rfl, ha, hb, hle⟩; obtain ⟨hc, hf⟩ := bcell hb; have hz := hb.size; simp at hz; simp at hle) | (go_at_call 29; (with_reducible refine (zz _ _ _ (chain_iface _ _) _).mono ?_); rintro e w2 ⟨rfl, hb2⟩; have x3 := (hb2.block _ (by omega)).trans ((hb.block _ (by simp)).trans (two_new _ _ _)); obtain ⟨k0, k1, k2, f0, f1, f2⟩ := blk3 x3; clear x3; have hz2 := hb2.size))
    refine bodyPost_ret (v := .agg #[.int .i64 s0, .int .i64 s1, chain b n]) (by simp [results, Try.results19, go_sem, k0, k1, k2]) rfl ⟨chain b n, rfl, ?_, ?_⟩
    · rw [HT.out]; exact ⟨b, rfl, (((ha.below hb2).setCell (by omega) _).setCell (by omega) _).setCell (by omega) _⟩
    · (repeat (first | exact (((((Below.refl _ _).alloc (Nat.le_refl _) _).alloc (by simp) _).trans (hb.mono (by simp; omega))).trans (hb2.mono (by omega))) | refine Below.setCell ?_ (by simp) _))
  · have e2 : decide (0 < s1) = false := decide_eq_false h1
    by_cases h3 : 0 < s2
    · have e3 : decide (0 < s2) = true := decide_eq_true h3
      clear h h1 h0 h3
      go_enter Try.func19, Try.ntmps19
      go_wp2_with (first | (go_at_call 16; (with_reducible refine (wrap_n _ _ hn _).mono ?_); rintro e w1 ⟨b, rfl, ha, hb, hle⟩; obtain ⟨hc, hf⟩ := bcell hb; have hz := hb.size; simp at hz; simp at hle) | (go_at_call 29; (with_reducible refine (zz _ _ _ (chain_iface _ _) _).mono ?_); rintro e w2 ⟨rfl, hb2⟩; have x3 := (hb2.block _ (by omega)).trans ((hb.block _ (by simp)).trans (two_new _ _ _)); obtain ⟨k0, k1, k2, f0, f1, f2⟩ := blk3 x3; clear x3; have hz2 := hb2.size))
      refine bodyPost_ret (v := .agg #[.int .i64 s0, .int .i64 s1, chain b n]) (by simp [results, Try.results19, go_sem, k0, k1, k2]) rfl ⟨chain b n, rfl, ?_, ?_⟩
      · rw [HT.out]; exact ⟨b, rfl, (((ha.below hb2).setCell (by omega) _).setCell (by omega) _).setCell (by omega) _⟩
      · (repeat (first | exact (((((Below.refl _ _).alloc (Nat.le_refl _) _).alloc (by simp) _).trans (hb.mono (by simp; omega))).trans (hb2.mono (by omega))) | refine Below.setCell ?_ (by simp) _))
    · have e3 : decide (0 < s2) = false := decide_eq_false h3
      have h4 : 0 < (n : Int) := by omega
      have e4 : decide (0 < (n : Int)) = true := decide_eq_true h4
      have e5 : decide (0 < n) = true := decide_eq_true (by omega)
      clear h h1 h0 h3 h4
      go_enter Try.func19, Try.ntmps19
      go_wp2_with (first | (go_at_call 16; (with_reducible refine (wrap_n _ _ hn _).mono ?_); rintro e w1 ⟨b, rfl, ha, hb, hle⟩; obtain ⟨hc, hf⟩ := bcell hb; have hz := hb.size; simp at hz; simp at hle) | (go_at_call 29; (with_reducible refine (zz _ _ _ (chain_iface _ _) _).mono ?_); rintro e w2 ⟨rfl, hb2⟩; have x3 := (hb2.block _ (by omega)).trans ((hb.block _ (by simp)).trans (two_new _ _ _)); obtain ⟨k0, k1, k2, f0, f1, f2⟩ := blk3 x3; clear x3; have hz2 := hb2.size))
      refine bodyPost_ret (v := .agg #[.int .i64 s0, .int .i64 s1, chain b n]) (by simp [results, Try.results19, go_sem, k0, k1, k2]) rfl ⟨chain b n, rfl, ?_, ?_⟩
      · rw [HT.out]; exact ⟨b, rfl, (((ha.below hb2).setCell (by omega) _).setCell (by omega) _).setCell (by omega) _⟩
      · (repeat (first | exact (((((Below.refl _ _).alloc (Nat.le_refl _) _).alloc (by simp) _).trans (hb.mono (by simp; omega))).trans (hb2.mono (by omega))) | refine Below.setCell ?_ (by simp) _))

set_option maxHeartbeats 4000000 in
set_option maxRecDepth 100000 in
theorem state_no (s0 s1 s2 : Int) (n : Nat) (w : World) (h : ¬ (0 ≤ s2 ∧ (0 < s1 ∨ 0 < s2 ∨ 0 < (n : Int)))) :
    Calls Try.prog 19 #[.agg #[.int .i64 s0, .int .i64 s1, .int .i64 s2, .int .i64 n]] w (Stated s0 s1 s2 n n w) := by
  have ht : tells s1 s2 n = none := by unfold tells; rw [if_neg h]
  have HT := Lib.hid ht; clear ht
  by_cases h0 : 0 ≤ s2
  · have e1 : decide (0 ≤ s2) = true := decide_eq_true h0
    have e2 : decide (0 < s1) = false := decide_eq_false (by omega)
    have e3 : decide (0 < s2) = false := decide_eq_false (by omega)
    have e4 : decide (0 < (n : Int)) = false := decide_eq_false (by omega)
    have e5 : decide (0 < n) = false := decide_eq_false (by omega)
    clear h h0
    go_enter Try.func19, Try.ntmps19
    go_wp2_with (first | (go_at_call 29; (with_reducible refine (zz _ _ _ (nil_iface) _).mono ?_); rintro e w2 ⟨rfl, hb2⟩; have x3 := (hb2.block _ (by simp)).trans (two_new _ _ _); obtain ⟨k0, k1, k2, f0, f1, f2⟩ := blk3 x3; clear x3; have hz2 := hb2.size))
    refine bodyPost_ret (v := .agg #[.int .i64 s0, .int .i64 s1, .nilIface]) (by simp [results, Try.results19, go_sem, k0, k1, k2]) rfl ⟨_, rfl, ?_, ?_⟩
    · rw [HT.out]; exact .inl rfl
    · (repeat (first | exact ((((Below.refl _ _).alloc (Nat.le_refl _) _).alloc (by simp) _).trans (hb2.mono (by simp; omega))) | refine Below.setCell ?_ (by simp) _))
  · have e1 : decide (0 ≤ s2) = false := decide_eq_false h0
    by_cases h1 : 0 < s1
    · have e2 : decide (0 < s1) = true := decide_eq_true h1
      clear h h0 h1
      go_enter Try.func19, Try.ntmps19
      go_wp2_with (first | (go_at_call 28; (with_reducible refine (new_err _ _).mono ?_); rintro e w1 ⟨⟨b, rfl⟩, hb⟩; obtain ⟨hc, hf⟩ := bcell hb; have hz := hb.size; simp at hz) | (go_at_call 29; (with_reducible refine (zz _ _ _ (err_iface _) _).mono ?_); rintro e w2 ⟨rfl, hb2⟩; have x3 := (hb2.block _ (by omega)).trans ((hb.block _ (by simp)).trans (two_new _ _ _)); obtain ⟨k0, k1, k2, f0, f1, f2⟩ := blk3 x3; clear x3; have hz2 := hb2.size))
      refine bodyPost_ret (v := .agg #[.int .i64 s0, .int .i64 s1, .iface 97 (.pointer (some ⟨b, 0, none⟩))]) (by simp [results, Try.results19, go_sem, k0, k1, k2]) rfl ⟨_, rfl, ?_, ?_⟩
      · rw [HT.out]; exact .inr ⟨b, rfl⟩
      · (repeat (first | exact (((((Below.refl _ _).alloc (Nat.le_refl _) _).alloc (by simp) _).trans (hb.mono (by simp; omega))).trans (hb2.mono (by omega))) | refine Below.setCell ?_ (by simp) _))
    · have e2 : decide (0 < s1) = false := decide_eq_false h1
      clear h h0 h1
      go_enter Try.func19, Try.ntmps19
      go_wp2_with (first | (go_at_call 29; (with_reducible refine (zz _ _ _ (nil_iface) _).mono ?_); rintro e w2 ⟨rfl, hb2⟩; have x3 := (hb2.block _ (by simp)).trans (two_new _ _ _); obtain ⟨k0, k1, k2, f0, f1, f2⟩ := blk3 x3; clear x3; have hz2 := hb2.size))
      refine bodyPost_ret (v := .agg #[.int .i64 s0, .int .i64 s1, .nilIface]) (by simp [results, Try.results19, go_sem, k0, k1, k2]) rfl ⟨_, rfl, ?_, ?_⟩
      · rw [HT.out]; exact .inl rfl
      · (repeat (first | exact ((((Below.refl _ _).alloc (Nat.le_refl _) _).alloc (by simp) _).trans (hb2.mono (by simp; omega))) | refine Below.setCell ?_ (by simp) _))

theorem stated (s0 s1 s2 : Int) (n : Nat) (hn : n ≤ 1000) (w : World) :
    Calls Try.prog 19 #[.agg #[.int .i64 s0, .int .i64 s1, .int .i64 s2, .int .i64 n]] w (Stated s0 s1 s2 n n w) := by
  by_cases h : 0 ≤ s2 ∧ (0 < s1 ∨ 0 < s2 ∨ 0 < (n : Int))
  · exact state_yes s0 s1 s2 n hn w h
  · exact state_no s0 s1 s2 n w h

theorem ret_int {k : IntKind} {a b : Int} (h : a = b) : Ending.returned (.int k a) = .returned (.int k b) := by rw [h]
/-- What a calculator tells: behind an error that tells how long to wait. -/
def calcAfter (m t : Int) : Int := if t < m then m else t
/-- Behind a retry. -/
def calcRetry (x a s : Int) : Int := if a = 0 then x else if x < s * 2 ^ a.toNat / (2 ^ a.toNat - 1) then x else s * 2 ^ a.toNat / (2 ^ a.toNat - 1)
/-- Else. -/
def calcRest (m d s : Int) : Int := if (s * 2 ^ d.toNat - s) / 2 ^ d.toNat < m then m else (s * 2 ^ d.toNat - s) / 2 ^ d.toNat
def calcAll (m x d a s r : Int) (last : Option Int) : Int := match last with
  | some t => calcAfter m t
  | none => if 0 < r then calcRetry x a s else calcRest m d s

set_option maxHeartbeats 4000000 in
set_option maxRecDepth 100000 in
theorem calc_after (b : Nat) (m x d a s r t : Int) (c n : Nat) (w : World) (hO : Opt b m x d a w) (ha : After c t w) :
    Calls Try.prog 18 #[.pointer (some ⟨b, 0, none⟩), .agg #[.int .i64 s, .int .i64 r, chain c n]] w fun e w' => e = .returned (.int .i64 (calcAfter m t)) ∧ Below w.heap.size w w' := by
  obtain ⟨c0, c1, c2, c3⟩ := hO.cell
  have HO := Lib.hid hO; clear hO
  by_cases h : t < m
  · have e1 : decide (t < m) = true := decide_eq_true h
    have HC := Lib.hid (show calcAfter m t = m from if_pos h); clear h
    go_enter Try.func18, Try.ntmps18
    go_wp2_with (go_at_call 15; (with_reducible refine (is_found _ _ _ _ (ha.below ((Below.refl _ _).alloc (Nat.le_refl _) _))).mono ?_); rintro e w1 ⟨rfl, hb⟩; obtain ⟨k0, k1, k2, k3⟩ := ((HO.out.alloc _).below hb (by have := HO.out.lt; simp; omega)).cell)
    go_ret
    exact ⟨ret_int HC.out.symm, ((Below.refl _ _).alloc (Nat.le_refl _) _).trans (hb.mono (by simp))⟩
  · have e1 : decide (t < m) = false := decide_eq_false h
    have HC := Lib.hid (show calcAfter m t = t from if_neg h); clear h
    go_enter Try.func18, Try.ntmps18
    go_wp2_with (go_at_call 15; (with_reducible refine (is_found _ _ _ _ (ha.below ((Below.refl _ _).alloc (Nat.le_refl _) _))).mono ?_); rintro e w1 ⟨rfl, hb⟩; obtain ⟨k0, k1, k2, k3⟩ := ((HO.out.alloc _).below hb (by have := HO.out.lt; simp; omega)).cell)
    go_ret
    exact ⟨ret_int HC.out.symm, ((Below.refl _ _).alloc (Nat.le_refl _) _).trans (hb.mono (by simp))⟩

theorem two_pow (k : Nat) : ((2 ^ k : Nat) : Int) = 2 ^ k := by
  induction k with
  | zero => rfl
  | succ k ih => rw [Nat.pow_succ, Int.pow_succ, ← ih]; simp
theorem pow_bounds (k : Nat) (h : k ≤ 16) : (1 : Int) ≤ 2 ^ k ∧ (2 : Int) ^ k ≤ 65536 := by
  have h1 : 1 ≤ 2 ^ k := Nat.one_le_two_pow
  have h2 : 2 ^ k ≤ 2 ^ 16 := Nat.pow_le_pow_right (by decide) h
  rw [← two_pow]
  omega
theorem shl_bounds (s : Int) (k : Nat) (h : k ≤ 16) (s0 : 0 ≤ s) (s1 : s ≤ 1099511627776) : s ≤ s * 2 ^ k ∧ s * 2 ^ k ≤ 72057594037927936 := by
  obtain ⟨p1, p2⟩ := pow_bounds k h
  have h1 := Int.mul_le_mul_of_nonneg_left p1 s0
  have h2 := Int.mul_le_mul_of_nonneg_left p2 s0
  rw [Int.mul_one] at h1
  omega

set_option maxHeartbeats 4000000 in
set_option maxRecDepth 100000 in
theorem calc_rest (b : Nat) (m x d a s r : Int) (v : Value) (hv : Plain v) (hi : IsIface v) (w : World) (hO : Opt b m x d a w) (hr : ¬ 0 < r) (s0 : 0 ≤ s) (s1 : s ≤ 1099511627776) (d0 : 0 ≤ d) (d1 : d ≤ 16) :
    Calls Try.prog 18 #[.pointer (some ⟨b, 0, none⟩), .agg #[.int .i64 s, .int .i64 r, v]] w fun e w' => e = .returned (.int .i64 (calcRest m d s)) ∧ Below w.heap.size w w' := by
  obtain ⟨c0, c1, c2, c3⟩ := hO.cell
  have HO := Lib.hid hO; clear hO
  have e1 : decide (0 < r) = false := decide_eq_false hr
  obtain ⟨p1, p2⟩ := pow_bounds d.toNat (by omega)
  obtain ⟨q0, q1⟩ := shl_bounds s d.toNat (by omega) s0 s1
  have u0 : d ≤ 64 := by omega
  by_cases hlt : (s * 2 ^ d.toNat - s) / 2 ^ d.toNat < m
  · have HC := Lib.hid (show calcRest m d s = m from if_pos hlt)
    have e2 : decide ((s * 2 ^ d.toNat - s) / 2 ^ d.toNat < m) = true := decide_eq_true hlt
    rcases hi with rfl | ⟨T, y, rfl⟩
    all_goals
      go_enter Try.func18, Try.ntmps18
      go_wp2_with (go_at_call 15; (with_reducible refine (is_none _ hv _).mono ?_); rintro e w1 ⟨rfl, hb⟩; obtain ⟨k0, k1, k2, k3⟩ := ((HO.out.alloc _).below hb (by have := HO.out.lt; simp; omega)).cell; obtain ⟨hc, hf⟩ := bcell hb)
      go_quiet (fail)
      go_wp2
      go_ret
      exact ⟨ret_int HC.out.symm, below_drewN (((Below.refl _ _).alloc (Nat.le_refl _) _).trans (hb.mono (by simp))) _⟩
  · have HC := Lib.hid (show calcRest m d s = (s * 2 ^ d.toNat - s) / 2 ^ d.toNat from if_neg hlt)
    have e2 : decide ((s * 2 ^ d.toNat - s) / 2 ^ d.toNat < m) = false := decide_eq_false hlt
    rcases hi with rfl | ⟨T, y, rfl⟩
    all_goals
      go_enter Try.func18, Try.ntmps18
      go_wp2_with (go_at_call 15; (with_reducible refine (is_none _ hv _).mono ?_); rintro e w1 ⟨rfl, hb⟩; obtain ⟨k0, k1, k2, k3⟩ := ((HO.out.alloc _).below hb (by have := HO.out.lt; simp; omega)).cell; obtain ⟨hc, hf⟩ := bcell hb)
      go_quiet (fail)
      go_wp2
      go_ret
      exact ⟨ret_int HC.out.symm, below_drewN (((Below.refl _ _).alloc (Nat.le_refl _) _).trans (hb.mono (by simp))) _⟩

set_option maxHeartbeats 4000000 in
set_option maxRecDepth 100000 in
theorem calc_retry0 (b : Nat) (m x d s r : Int) (v : Value) (hv : Plain v) (hi : IsIface v) (w : World) (hO : Opt b m x d 0 w) (hr : 0 < r) :
    Calls Try.prog 18 #[.pointer (some ⟨b, 0, none⟩), .agg #[.int .i64 s, .int .i64 r, v]] w fun e w' => e = .returned (.int .i64 x) ∧ Below w.heap.size w w' := by
  obtain ⟨c0, c1, c2, c3⟩ := hO.cell
  have HO := Lib.hid hO; clear hO
  have e1 : decide (0 < r) = true := decide_eq_true hr
  rcases hi with rfl | ⟨T, y, rfl⟩
  all_goals
    go_enter Try.func18, Try.ntmps18
    go_wp2_with (go_at_call 15; (with_reducible refine (is_none _ hv _).mono ?_); rintro e w1 ⟨rfl, hb⟩; obtain ⟨k0, k1, k2, k3⟩ := ((HO.out.alloc _).below hb (by have := HO.out.lt; simp; omega)).cell; obtain ⟨hc, hf⟩ := bcell hb)
    go_ret
    exact ⟨rfl, ((Below.refl _ _).alloc (Nat.le_refl _) _).trans (hb.mono (by simp))⟩

set_option maxHeartbeats 4000000 in
set_option maxRecDepth 100000 in
theorem calc_retry (b : Nat) (m x d a s r : Int) (v : Value) (hv : Plain v) (hi : IsIface v) (w : World) (hO : Opt b m x d a w) (hr : 0 < r) (s0 : 0 ≤ s) (s1 : s ≤ 1099511627776) (a0 : 1 ≤ a) (a1 : a ≤ 16) :
    Calls Try.prog 18 #[.pointer (some ⟨b, 0, none⟩), .agg #[.int .i64 s, .int .i64 r, v]] w fun e w' => e = .returned (.int .i64 (calcRetry x a s)) ∧ Below w.heap.size w w' := by
  obtain ⟨c0, c1, c2, c3⟩ := hO.cell
  have HO := Lib.hid hO; clear hO
  have e1 : decide (0 < r) = true := decide_eq_true hr
  obtain ⟨p1, p2⟩ := pow_bounds a.toNat (by omega)
  have p3 : (2 : Int) ≤ 2 ^ a.toNat := by
    obtain ⟨k, hk⟩ : ∃ k, a.toNat = k + 1 := ⟨a.toNat - 1, by omega⟩
    rw [hk, Int.pow_succ]
    have := (pow_bounds k (by omega)).1
    omega
  obtain ⟨q0, q1⟩ := shl_bounds s a.toNat (by omega) s0 s1
  have u0 : a ≤ 64 := by omega
  have u1 : (a == 0) = false := by simp; omega
  have u2 : (a != 0) = true := by simp; omega
  by_cases hlt : x < s * 2 ^ a.toNat / (2 ^ a.toNat - 1)
  · have HC := Lib.hid (show calcRetry x a s = x by unfold calcRetry; rw [if_neg (by omega), if_pos hlt])
    have e2 : decide (x < s * 2 ^ a.toNat / (2 ^ a.toNat - 1)) = true := decide_eq_true hlt
    rcases hi with rfl | ⟨T, y, rfl⟩
    all_goals
      go_enter Try.func18, Try.ntmps18
      go_wp2_with (go_at_call 15; (with_reducible refine (is_none _ hv _).mono ?_); rintro e w1 ⟨rfl, hb⟩; obtain ⟨k0, k1, k2, k3⟩ := ((HO.out.alloc _).below hb (by have := HO.out.lt; simp; omega)).cell; obtain ⟨hc, hf⟩ := bcell hb)
      go_quiet (fail)
      go_wp2
      go_ret
      exact ⟨ret_int HC.out.symm, below_drewN (((Below.refl _ _).alloc (Nat.le_refl _) _).trans (hb.mono (by simp))) _⟩
  · have HC := Lib.hid (show calcRetry x a s = s * 2 ^ a.toNat / (2 ^ a.toNat - 1) by unfold calcRetry; rw [if_neg (by omega), if_neg hlt])
    have e2 : decide (x < s * 2 ^ a.toNat / (2 ^ a.toNat - 1)) = false := decide_eq_false hlt
    rcases hi with rfl | ⟨T, y, rfl⟩
    all_goals
      go_enter Try.func18, Try.ntmps18
      go_wp2_with (go_at_call 15; (with_reducible refine (is_none _ hv _).mono ?_); rintro e w1 ⟨rfl, hb⟩; obtain ⟨k0, k1, k2, k3⟩ := ((HO.out.alloc _).below hb (by have := HO.out.lt; simp; omega)).cell; obtain ⟨hc, hf⟩ := bcell hb)
      go_quiet (fail)
      go_wp2
      go_ret
      exact ⟨ret_int HC.out.symm, below_drewN (((Below.refl _ _).alloc (Nat.le_refl _) _).trans (hb.mono (by simp))) _⟩
end Go.Proofs.Ytlefemlpemjhcaa.Pace

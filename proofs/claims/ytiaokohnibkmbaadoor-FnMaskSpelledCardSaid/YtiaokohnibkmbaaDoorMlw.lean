import Derived.Test.YtiaokohnibkmbaaDoorMpl
namespace Go.Proofs.YtiaokohnibkmbaaDoor.Mset
open Go Go.RowKit Go.Proofs.YtiaokohnibkmbaaDoor.Fr
open Go.Proofs.YtiaokohnibkmbaaDoor.PFnMaskSpelled (S35 k35 rd_T35 z35 k35_open spec_MaskNames.f spec_MaskNames.calls)
open Go.Proofs.YtiaokohnibkmbaaDoor.Spl (pieces)
open Go.Proofs.YtiaokohnibkmbaaDoor.Sym Go.Proofs.YtiaokohnibkmbaaDoorW.PrintWords Go.Proofs.YtiaokohnibkmbaaDoorW.PrintLast Go.Proofs.YtiaokohnibkmbaaDoorW.PrintMore
set_option linter.unusedVariables false
set_option linter.unusedSimpArgs false
/-! ### laws.FnMaskSpelled, walked -/
theorem enters11 : Enters Tryd.prog 11 := enters_of Tryd.func11 (by kernel_rfl) rfl
theorem enters9 : Enters Tryd.prog 9 := enters_of Tryd.func9 (by kernel_rfl) rfl
theorem lk3 {x y z : Value} : ∀ s v, lk [(0, x), (1, y), (2, z)] s = some v → (#[x, y, z] : Array Value)[s]? = some v
  | 0, _, h => h
  | 1, _, h => h
  | 2, _, h => h
  | _ + 3, _, h => by cases h
theorem tmod_nat (a b : Nat) (hb : b ≠ 0) : Int.tmod (a : Int) (b : Int) = ((a % b : Nat) : Int) := rfl
theorem tdiv_nat (a b : Nat) : Int.tdiv (a : Int) (b : Int) = ((a / b : Nat) : Int) := rfl
theorem wrap8 (n : Nat) (h : n < 256) : IntKind.u8.wrap (n : Int) = n := by
  have : ∀ k : Fin 256, IntKind.u8.wrap (k.val : Int) = k.val := by decide +kernel
  exact this ⟨n, h⟩
set_option maxRecDepth 100000 in
set_option maxHeartbeats 8000000 in
theorem law_any (a0 : Int) (A1 : Option Addr) (c1 : Nat) (l1 : List Int) (A2 : Option Addr) (c2 : Nat) (l2 : List Int) (w0 : World) (hg : Glob w0) (hC1 : Kd.C (Kd.int .u8) w0 A1 l1.length l1) (hb1 : ∀ i (h : i < l1.length), 0 ≤ l1[i] ∧ l1[i] < 256) (hC2 : Kd.C (Kd.int .u8) w0 A2 l2.length l2) (hb2 : ∀ i (h : i < l2.length), 0 ≤ l2[i] ∧ l2[i] < 256) :
    Calls Tryd.prog 5 #[.int .u64 a0, .slice A1 l1.length c1, .slice A2 l2.length c2] w0 fun e w' => e = .returned (.bool true) ∧ Below w0.heap.size w0 w' := by
  refine calls_of_wp Tryd.func5 rfl ?_
  have h : Fm 92 [(0, .int .u64 a0), (1, .slice A1 l1.length c1), (2, .slice A2 l2.length c2)] ⟨#[Value.int .u64 a0, .slice A1 l1.length c1, .slice A2 l2.length c2] ++ Array.replicate (Tryd.f5.ntmps - (#[Value.int .u64 a0, .slice A1 l1.length c1, .slice A2 l2.length c2] : Array Value).size) undef, []⟩ := Fm.start _ _ _ (by kernel_rfl) lk3
  generalize (⟨#[Value.int .u64 a0, .slice A1 l1.length c1, .slice A2 l2.length c2] ++ Array.replicate (Tryd.f5.ntmps - (#[Value.int .u64 a0, .slice A1 l1.length c1, .slice A2 l2.length c2] : Array Value).size) undef, []⟩ : Act) = a at h
  refine wp_seq ?_
  refine wp_region_lit ?_
  refine Sym.step h rfl (by decide) (wanted_none rfl) (x_assign rfl) fun a h => ?_
  refine wpList_nil ?_
  show Code.wp _ _ _ _ _
  refine wp_seq ?_
  refine wp_seq ?_
  refine wp_region_lit ?_
  by_cases k1 : decide (2147483647 < (l1.length : Int)) = true
  case pos =>
    refine Sym.step h rfl (by decide) (wanted_none rfl) (x_move rfl) fun a h => ?_
    refine Sym.step h rfl (by decide) (wanted_none rfl) (x_lenr Tryd.underlying31 rfl) fun a h => ?_
    refine Sym.step h rfl (by decide) (wanted_none rfl) (Ex.to (x_gtri Tryd.underlying3 rfl rfl) (congrArg Value.bool k1)) fun a h => ?_
    refine Sym.step h rfl (by decide) (wanted_none rfl) (x_move rfl) fun a h => ?_
    refine Sym.off h rfl (by decide) (woff h rfl rfl rfl (by decide)) fun a h => ?_
    refine Sym.off h rfl (by decide) (woff h rfl rfl rfl (by decide)) fun a h => ?_
    refine Sym.off h rfl (by decide) (woff h rfl rfl rfl (by decide)) fun a h => ?_
    refine Sym.step h rfl (by decide) (wanted_none rfl) (x_pick_t rfl rfl rfl) fun a h => ?_
    refine wpList_nil ?_
    show Code.wp _ _ _ _ _
    refine wp_cond_true (h.slot 23 _ rfl) ?_
    refine wp_seq ?_
    refine wp_region_lit ?_
    refine Sym.step h rfl (by decide) (wanted_none rfl) (x_assign rfl) fun a h => ?_
    refine wpList_nil ?_
    show Code.wp _ _ _ _ _
    refine wp_ret ?_
    exact (show bodyPost Tryd.prog Tryd.f5 (fun e w' => e = .returned (.bool true) ∧ Below w0.heap.size w0 w') .ret _ _ from ret_slot h rfl (by decide) rfl ⟨rfl, Below.refl _ _⟩)
  replace k1 := Bool.eq_false_iff.2 k1
  by_cases k2 : decide (2147483647 < (l2.length : Int)) = true
  case pos =>
    refine Sym.step h rfl (by decide) (wanted_none rfl) (x_move rfl) fun a h => ?_
    refine Sym.step h rfl (by decide) (wanted_none rfl) (x_lenr Tryd.underlying31 rfl) fun a h => ?_
    refine Sym.step h rfl (by decide) (wanted_none rfl) (Ex.to (x_gtri Tryd.underlying3 rfl rfl) (congrArg Value.bool k1)) fun a h => ?_
    refine Sym.step h rfl (by decide) (wanted_none rfl) (x_move rfl) fun a h => ?_
    refine Sym.step h rfl (by decide) (won h rfl rfl rfl (by decide)) (x_move rfl) fun a h => ?_
    refine Sym.step h rfl (by decide) (won h rfl rfl rfl (by decide)) (x_lenr Tryd.underlying31 rfl) fun a h => ?_
    refine Sym.step h rfl (by decide) (won h rfl rfl rfl (by decide)) (Ex.to (x_gtri Tryd.underlying3 rfl rfl) (congrArg Value.bool k2)) fun a h => ?_
    refine Sym.step h rfl (by decide) (wanted_none rfl) (x_pick_f rfl rfl rfl) fun a h => ?_
    refine wpList_nil ?_
    show Code.wp _ _ _ _ _
    refine wp_cond_true (h.slot 23 _ rfl) ?_
    refine wp_seq ?_
    refine wp_region_lit ?_
    refine Sym.step h rfl (by decide) (wanted_none rfl) (x_assign rfl) fun a h => ?_
    refine wpList_nil ?_
    show Code.wp _ _ _ _ _
    refine wp_ret ?_
    exact (show bodyPost Tryd.prog Tryd.f5 (fun e w' => e = .returned (.bool true) ∧ Below w0.heap.size w0 w') .ret _ _ from ret_slot h rfl (by decide) rfl ⟨rfl, Below.refl _ _⟩)
  refine Sym.step h rfl (by decide) (wanted_none rfl) (x_move rfl) fun a h => ?_
  refine Sym.step h rfl (by decide) (wanted_none rfl) (x_lenr Tryd.underlying31 rfl) fun a h => ?_
  refine Sym.step h rfl (by decide) (wanted_none rfl) (Ex.to (x_gtri Tryd.underlying3 rfl rfl) (congrArg Value.bool k1)) fun a h => ?_
  refine Sym.step h rfl (by decide) (wanted_none rfl) (x_move rfl) fun a h => ?_
  refine Sym.step h rfl (by decide) (won h rfl rfl rfl (by decide)) (x_move rfl) fun a h => ?_
  refine Sym.step h rfl (by decide) (won h rfl rfl rfl (by decide)) (x_lenr Tryd.underlying31 rfl) fun a h => ?_
  refine Sym.step h rfl (by decide) (won h rfl rfl rfl (by decide)) (Ex.to (x_gtri Tryd.underlying3 rfl rfl) (congrArg Value.bool (Bool.eq_false_iff.2 k2))) fun a h => ?_
  refine Sym.step h rfl (by decide) (wanted_none rfl) (x_pick_f rfl rfl rfl) fun a h => ?_
  refine wpList_nil ?_
  show Code.wp _ _ _ _ _
  refine wp_cond_false (h.slot 23 _ rfl) (wp_skip ?_)
  show Code.wp _ _ _ _ _
  refine wp_seq ?_
  refine wp_seq ?_
  refine wp_region_lit ?_
  by_cases k3 : ((l1.length : Int) == 0) = true
  case pos =>
    refine Sym.step h rfl (by decide) (wanted_none rfl) (x_move rfl) fun a h => ?_
    refine Sym.step h rfl (by decide) (wanted_none rfl) (x_lenr Tryd.underlying31 rfl) fun a h => ?_
    refine Sym.step h rfl (by decide) (wanted_none rfl) (Ex.to (x_eqli Tryd.underlying3 rfl rfl) (congrArg Value.bool k3)) fun a h => ?_
    refine Sym.step h rfl (by decide) (wanted_none rfl) (x_move rfl) fun a h => ?_
    refine Sym.off h rfl (by decide) (woff h rfl rfl rfl (by decide)) fun a h => ?_
    refine Sym.off h rfl (by decide) (woff h rfl rfl rfl (by decide)) fun a h => ?_
    refine Sym.off h rfl (by decide) (woff h rfl rfl rfl (by decide)) fun a h => ?_
    refine Sym.step h rfl (by decide) (wanted_none rfl) (x_pick_t rfl rfl rfl) fun a h => ?_
    refine wpList_nil ?_
    show Code.wp _ _ _ _ _
    refine wp_cond_true (h.slot 31 _ rfl) ?_
    refine wp_seq ?_
    refine wp_region_lit ?_
    refine Sym.step h rfl (by decide) (wanted_none rfl) (x_assign rfl) fun a h => ?_
    refine wpList_nil ?_
    show Code.wp _ _ _ _ _
    refine wp_ret ?_
    exact (show bodyPost Tryd.prog Tryd.f5 (fun e w' => e = .returned (.bool true) ∧ Below w0.heap.size w0 w') .ret _ _ from ret_slot h rfl (by decide) rfl ⟨rfl, Below.refl _ _⟩)
  replace k3 := Bool.eq_false_iff.2 k3
  by_cases k4 : decide (1000 < (l1.length : Int)) = true
  case pos =>
    refine Sym.step h rfl (by decide) (wanted_none rfl) (x_move rfl) fun a h => ?_
    refine Sym.step h rfl (by decide) (wanted_none rfl) (x_lenr Tryd.underlying31 rfl) fun a h => ?_
    refine Sym.step h rfl (by decide) (wanted_none rfl) (Ex.to (x_eqli Tryd.underlying3 rfl rfl) (congrArg Value.bool k3)) fun a h => ?_
    refine Sym.step h rfl (by decide) (wanted_none rfl) (x_move rfl) fun a h => ?_
    refine Sym.step h rfl (by decide) (won h rfl rfl rfl (by decide)) (x_move rfl) fun a h => ?_
    refine Sym.step h rfl (by decide) (won h rfl rfl rfl (by decide)) (x_lenr Tryd.underlying31 rfl) fun a h => ?_
    refine Sym.step h rfl (by decide) (won h rfl rfl rfl (by decide)) (Ex.to (x_gtri Tryd.underlying3 rfl rfl) (congrArg Value.bool k4)) fun a h => ?_
    refine Sym.step h rfl (by decide) (wanted_none rfl) (x_pick_f rfl rfl rfl) fun a h => ?_
    refine wpList_nil ?_
    show Code.wp _ _ _ _ _
    refine wp_cond_true (h.slot 31 _ rfl) ?_
    refine wp_seq ?_
    refine wp_region_lit ?_
    refine Sym.step h rfl (by decide) (wanted_none rfl) (x_assign rfl) fun a h => ?_
    refine wpList_nil ?_
    show Code.wp _ _ _ _ _
    refine wp_ret ?_
    exact (show bodyPost Tryd.prog Tryd.f5 (fun e w' => e = .returned (.bool true) ∧ Below w0.heap.size w0 w') .ret _ _ from ret_slot h rfl (by decide) rfl ⟨rfl, Below.refl _ _⟩)
  refine Sym.step h rfl (by decide) (wanted_none rfl) (x_move rfl) fun a h => ?_
  refine Sym.step h rfl (by decide) (wanted_none rfl) (x_lenr Tryd.underlying31 rfl) fun a h => ?_
  refine Sym.step h rfl (by decide) (wanted_none rfl) (Ex.to (x_eqli Tryd.underlying3 rfl rfl) (congrArg Value.bool k3)) fun a h => ?_
  refine Sym.step h rfl (by decide) (wanted_none rfl) (x_move rfl) fun a h => ?_
  refine Sym.step h rfl (by decide) (won h rfl rfl rfl (by decide)) (x_move rfl) fun a h => ?_
  refine Sym.step h rfl (by decide) (won h rfl rfl rfl (by decide)) (x_lenr Tryd.underlying31 rfl) fun a h => ?_
  refine Sym.step h rfl (by decide) (won h rfl rfl rfl (by decide)) (Ex.to (x_gtri Tryd.underlying3 rfl rfl) (congrArg Value.bool (Bool.eq_false_iff.2 k4))) fun a h => ?_
  refine Sym.step h rfl (by decide) (wanted_none rfl) (x_pick_f rfl rfl rfl) fun a h => ?_
  refine wpList_nil ?_
  show Code.wp _ _ _ _ _
  refine wp_cond_false (h.slot 31 _ rfl) (wp_skip ?_)
  show Code.wp _ _ _ _ _
  have n0 : 0 < l1.length := by have : ¬ ((l1.length : Int) = 0) := by simpa using k3
                                omega
  have n1 : l1.length ≤ 1000 := by have : ¬ (1000 < (l1.length : Int)) := by simpa using k4
                                   omega
  clear k1 k2 k3 k4
  refine wp_seq ?_
  refine wp_region_lit ?_
  refine Sym.call h rfl (by decide) (wanted_none rfl) rfl enters11 (fun a h => (Array.map_empty : (#[] : Array Operand).map a.eval = #[])) ?_
  refine (spec_MaskNames.calls L29 w0 rfl).mono ?_
  rintro e w1 ⟨v, rfl, hR, hbw⟩
  refine ⟨_, rfl, fun a h => ?_⟩
  obtain ⟨A7, c7, rfl, hcap7, hC7⟩ := Kd.R_reads hR
  rw [L29_len] at h
  refine Sym.step h rfl (by decide) (wanted_none rfl) (x_assign rfl) fun a h => ?_
  refine wpList_nil ?_
  show Code.wp _ _ _ _ _
  refine wp_seq ?_
  refine wp_region_lit ?_
  refine Sym.step h rfl (by decide) (wanted_none rfl) (x_assign rfl) fun a h => ?_
  refine Sym.step h rfl (by decide) (wanted_none rfl) (x_assign rfl) fun a h => ?_
  refine wpList_nil ?_
  show Code.wp _ _ _ _ _
  refine wp_seq ?_
  refine wp_seq ?_
  refine wp_region_lit ?_
  refine Sym.step h rfl (by decide) (wanted_none rfl) (x_move rfl) fun a h => ?_
  refine Sym.step h rfl (by decide) (wanted_none rfl) (x_lenr Tryd.underlying31 rfl) fun a h => ?_
  refine Sym.step h rfl (by decide) (wanted_none rfl) (x_move rfl) fun a h => ?_
  refine wpList_nil ?_
  show Code.wp _ _ _ _ _
  refine wp_block ?_
  refine wp_loop_ghost (fun n a' W => ∃ (i : Nat) (ps : List ByteArray) (acc : Int), i ≤ l1.length ∧ n = l1.length - i ∧ Fm 92 [(0, .int .u64 a0), (1, .slice A1 l1.length c1), (2, .slice A2 l2.length c2), (7, .slice A7 29 c7), (8, .string (J ps)), (9, .int .u64 acc), (33, .slice A1 l1.length c1), (34, .int .i64 (l1.length : Int)), (35, .int .i64 (i : Int))] a' ∧ Below w1.heap.size w1 W ∧ ps.length = i ∧ orAll ps 0 = some acc ∧ ∀ p ∈ ps, (44 : UInt8) ∉ p.data.toList ∧ p.size ≤ 20 ∧ ∀ b ∈ p.data.toList, b.toNat < 128) l1.length ⟨0, [], 0, by omega, rfl, by exact h.pick [0, 1, 2, 7, 8, 9, 33, 34, 35] rfl, Below.refl _ _, rfl, rfl, fun p hp => by cases hp⟩ ?_
  clear h
  rintro n a W ⟨i, ps, acc, hi, rfl, h, hBW, hps, hacc, hgood⟩
  have hB0 := hbw.trans (hBW.mono hbw.size)
  have hW1 : Kd.C (Kd.int .u8) W A1 l1.length l1 := Kd.C_below hC1 hB0
  have hW7 : Kd.C k35 W A7 L29.length L29 := Kd.C_below hC7 hBW
  refine wp_seq ?_
  refine wp_region_lit ?_
  by_cases hlt : decide ((i : Int) < (l1.length : Int)) = true
  case neg =>
    refine Sym.step h rfl (by decide) (wanted_none rfl) (Ex.to (x_lssi Tryd.underlying3 rfl rfl) (congrArg Value.bool (Bool.eq_false_iff.2 hlt))) fun a h => ?_
    refine wpList_nil ?_
    show Code.wp _ _ _ _ _
    refine wp_seq ?_
    refine wp_cond_false (h.slot 36 _ rfl) (wp_exit ?_)
    show Code.wp _ _ _ _ _
    have hi' : i = l1.length := by
      rcases Nat.lt_or_ge i l1.length with h' | h'
      · exact absurd (decide_eq_true (by omega)) hlt
      · omega
    obtain ⟨t1, t2, t3⟩ := text_read ps acc (by intro e; rw [e] at hps; simp at hps; omega) (by omega) hgood hacc
    refine wp_seq ?_
    refine wp_region_lit ?_
    refine Sym.step h rfl (by decide) (wanted_none rfl) (x_move rfl) fun a h => ?_
    refine Sym.step h rfl (by decide) (wanted_none rfl) (x_move rfl) fun a h => ?_
    refine Sym.call h rfl (by decide) (wanted_none rfl) rfl enters9 (fun a h => map2 h rfl rfl) ?_
    refine (mask_set a0 (J ps) acc W (Glob.below hg hB0) t1 t2 t3).mono ?_
    rintro e W2 ⟨rfl, hb3⟩
    refine ⟨_, rfl, fun a h => ?_⟩
    refine Sym.step h rfl (by decide) (wanted_none rfl) (x_move rfl) fun a h => ?_
    refine Sym.step h rfl (by decide) (wanted_none rfl) (x_extract rfl rfl) fun a h => ?_
    refine Sym.step h rfl (by decide) (wanted_none rfl) (x_extract rfl rfl) fun a h => ?_
    refine Sym.step h rfl (by decide) (wanted_none rfl) (x_assign rfl) fun a h => ?_
    refine Sym.step h rfl (by decide) (wanted_none rfl) (x_assign rfl) fun a h => ?_
    refine wpList_nil ?_
    show Code.wp _ _ _ _ _
    refine wp_seq ?_
    refine wp_region_lit ?_
    refine Sym.step h rfl (by decide) (wanted_none rfl) (x_move rfl) fun a h => ?_
    refine Sym.step h rfl (by decide) (wanted_none rfl) (x_move rfl) fun a h => ?_
    refine Sym.step h rfl (by decide) (won h rfl rfl rfl (by decide)) (x_move rfl) fun a h => ?_
    refine Sym.step h rfl (by decide) (won h rfl rfl rfl (by decide)) (x_move rfl) fun a h => ?_
    refine Sym.step h rfl (by decide) (won h rfl rfl rfl (by decide)) (Ex.to (x_eqli Tryd.underlying22 rfl rfl) (congrArg Value.bool (show (acc == acc) = true by simp))) fun a h => ?_
    refine Sym.step h rfl (by decide) (wanted_none rfl) (x_pick_t rfl rfl rfl) fun a h => ?_
    refine Sym.step h rfl (by decide) (wanted_none rfl) (x_assign rfl) fun a h => ?_
    refine wpList_nil ?_
    show Code.wp _ _ _ _ _
    refine wp_ret ?_
    exact (show bodyPost Tryd.prog Tryd.f5 (fun e w' => e = .returned (.bool true) ∧ Below w0.heap.size w0 w') .ret _ _ from ret_slot h rfl (by decide) rfl ⟨rfl, hB0.trans (hb3.mono hB0.size)⟩)
  case pos =>
    have hil : i < l1.length := by have := of_decide_eq_true hlt; omega
    obtain ⟨ad, hA, c0⟩ := cell8 hW1 hil
    subst hA
    obtain ⟨q, hq⟩ := Int.eq_ofNat_of_zero_le (hb1 i hil).1
    have hq2 := (hb1 i hil).2
    rw [hq] at c0 hq2
    have hq3 : q < 256 := by omega
    have hq4 : q % 29 < L29.length := by rw [L29_len]; exact Nat.mod_lt _ (by decide)
    obtain ⟨ad7, hA7, d0, d1⟩ := cells35 hW7 hq4
    subst hA7
    have hget : L29[q % 29] = L29.getD (q % 29) z35 := by rw [List.getD_eq_getElem?_getD, List.getElem?_eq_getElem hq4]; rfl
    rw [hget] at d0 d1
    have hrem : Int.tmod (q : Int) (((29 : Nat) : Int)) = ((q % 29 : Nat) : Int) := rfl
    refine Sym.step h rfl (by decide) (wanted_none rfl) (Ex.to (x_lssi Tryd.underlying3 rfl rfl) (congrArg Value.bool hlt)) fun a h => ?_
    refine wpList_nil ?_
    show Code.wp _ _ _ _ _
    refine wp_seq ?_
    refine wp_cond_true (h.slot 36 _ rfl) (wp_skip ?_)
    show Code.wp _ _ _ _ _
    refine wp_seq ?_
    refine wp_block ?_
    refine wp_seq ?_
    refine wp_region_lit ?_
    refine Sym.step h rfl (by decide) (wanted_none rfl) (x_move rfl) fun a h => ?_
    refine Sym.step h rfl (by decide) (wanted_none rfl) (x_el31 rfl rfl hil) fun a h => ?_
    refine Sym.step h rfl (by decide) (wanted_none rfl) (x_loadi Tryd.underlying5 rfl c0) fun a h => ?_
    refine Sym.step h rfl (by decide) (wanted_none rfl) (x_assign rfl) fun a h => ?_
    refine Sym.step h rfl (by decide) (wanted_none rfl) (x_assign rfl) fun a h => ?_
    refine wpList_nil ?_
    show Code.wp _ _ _ _ _
    refine wp_seq ?_
    refine wp_region_lit ?_
    refine Sym.step h rfl (by decide) (wanted_none rfl) (x_move rfl) fun a h => ?_
    refine Sym.step h rfl (by decide) (wanted_none rfl) (x_move rfl) fun a h => ?_
    refine Sym.step h rfl (by decide) (wanted_none rfl) (x_conv53 rfl hq3) fun a h => ?_
    refine Sym.step h rfl (by decide) (wanted_none rfl) (x_move rfl) fun a h => ?_
    refine Sym.step h rfl (by decide) (wanted_none rfl) (x_lenr Tryd.underlying32 rfl) fun a h => ?_
    refine Sym.step h rfl (by decide) (wanted_none rfl) (x_remi Tryd.underlying3 rfl rfl (by decide) hrem) fun a h => ?_
    refine Sym.step h rfl (by decide) (wanted_none rfl) (x_el32 rfl rfl (by omega)) fun a h => ?_
    refine Sym.step h rfl (by decide) (wanted_none rfl) (x_load35 rfl d0 d1) fun a h => ?_
    refine Sym.step h rfl (by decide) (wanted_none rfl) (x_alloc35) fun a h => ?_
    have hnew := heap_alloc_new W (.cells #[.int .u64 0, .string ⟨#[]⟩] 35)
    have hba : Below W.heap.size W (W.alloc (.cells #[.int .u64 0, .string ⟨#[]⟩] 35)) := (Below.refl _ W).alloc (Nat.le_refl _) _
    refine Sym.effect h rfl rfl (run_store35 h rfl rfl hnew) ?_
    refine wpList_nil ?_
    show Code.wp _ _ _ _ _
    have hn1 := setRow_heap _ W.heap.size _ #[Value.int .u64 (L29.getD (q % 29) z35).f0, .string (L29.getD (q % 29) z35).f1] 35 _ hnew
    have hbW1 : Below W.heap.size W ((W.alloc (.cells #[.int .u64 0, .string ⟨#[]⟩] 35)).setRow W.heap.size #[.int .u64 (L29.getD (q % 29) z35).f0, .string (L29.getD (q % 29) z35).f1]) := hba.trans ⟨rfl, rfl, rfl, by simp, fun k hk => setRow_other _ _ k _ (by omega)⟩
    generalize (W.alloc (.cells #[.int .u64 0, .string ⟨#[]⟩] 35)).setRow W.heap.size #[.int .u64 (L29.getD (q % 29) z35).f0, .string (L29.getD (q % 29) z35).f1] = W1 at hn1 hbW1
    obtain ⟨G, hG⟩ : ∃ G, W.heap.size = G := ⟨_, rfl⟩
    rw [hG] at h hn1
    have cn : W1.cell? ((⟨G, 0, none⟩ : Addr).add 1) = some (.string (L29.getD (q % 29) z35).f1) := cell_at hn1 rfl
    have cb : W1.cell? ((⟨G, 0, none⟩ : Addr).add 0) = some (.int .u64 (L29.getD (q % 29) z35).f0) := cell_at hn1 rfl
    have hBW1 := hBW.trans (hbW1.mono hBW.size)
    have hB01 := hbw.trans (hBW1.mono hbw.size)
    have hW2 : Kd.C (Kd.int .u8) W1 A2 l2.length l2 := Kd.C_below hC2 hB01
    clear c0 d0 d1 hnew hba
    replace h := h.pick [0, 1, 2, 7, 8, 9, 10, 12, 33, 34, 35] rfl
    obtain ⟨JS, _⟩ := J_facts ps fun x hx => ⟨(hgood x hx).2.1, (hgood x hx).2.2⟩
    have hadd : IntKind.i64.wrap ((i : Int) + 1) = ((i + 1 : Nat) : Int) := by rw [IntKind.wrap_i64]; omega
    refine wp_seq ?_
    refine wp_region_lit ?_
    refine Sym.step h rfl (by decide) (wanted_none rfl) (x_assign rfl) fun a h => ?_
    refine wpList_nil ?_
    show Code.wp _ _ _ _ _
    refine wp_seq ?_
    refine wp_seq ?_
    refine wp_region_lit ?_
    by_cases hk : decide ((i : Int) < (l2.length : Int)) = true
    case pos =>
      have hkl : i < l2.length := by have := of_decide_eq_true hk; omega
      obtain ⟨ad2, hA2, e0⟩ := cell8 hW2 hkl
      subst hA2
      obtain ⟨kk, hkq⟩ := Int.eq_ofNat_of_zero_le (hb2 i hkl).1
      have hk2 := (hb2 i hkl).2
      rw [hkq] at e0 hk2
      refine Sym.step h rfl (by decide) (wanted_none rfl) (x_move rfl) fun a h => ?_
      refine Sym.step h rfl (by decide) (wanted_none rfl) (x_move rfl) fun a h => ?_
      refine Sym.step h rfl (by decide) (wanted_none rfl) (x_lenr Tryd.underlying31 rfl) fun a h => ?_
      refine Sym.step h rfl (by decide) (wanted_none rfl) (Ex.to (x_lssi Tryd.underlying3 rfl rfl) (congrArg Value.bool hk)) fun a h => ?_
      refine wpList_nil ?_
      show Code.wp _ _ _ _ _
      refine wp_cond_true (h.slot 51 _ rfl) ?_
      refine wp_region_lit ?_
      refine Sym.step h rfl (by decide) (wanted_none rfl) (x_move rfl) fun a h => ?_
      refine Sym.step h rfl (by decide) (wanted_none rfl) (x_move rfl) fun a h => ?_
      refine Sym.step h rfl (by decide) (wanted_none rfl) (x_el31 rfl rfl hkl) fun a h => ?_
      refine Sym.step h rfl (by decide) (wanted_none rfl) (x_loadi Tryd.underlying5 rfl e0) fun a h => ?_
      refine Sym.step h rfl (by decide) (wanted_none rfl) (x_assign rfl) fun a h => ?_
      refine wpList_nil ?_
      show Code.wp _ _ _ _ _
      have hkk : kk < 256 := by omega
      have h63 : Int.tmod ((kk : Nat) : Int) 4 = ((kk % 4 : Nat) : Int) := rfl
      have h70 : IntKind.u8.wrap (Int.tdiv ((kk : Nat) : Int) 4) = ((kk / 4 : Nat) : Int) := wrap8 (kk / 4) (by omega)
      have h71 : Int.tmod ((kk / 4 : Nat) : Int) 4 = ((kk / 4 % 4 : Nat) : Int) := rfl
      have sj : kk % 4 < 4 := Nat.mod_lt _ (by decide)
      have sk : kk / 4 % 4 < 4 := Nat.mod_lt _ (by decide)
      obtain ⟨f1, f2, f3, f4⟩ := spelled_facts (q := q % 29) (Nat.mod_lt _ (by decide)) sj sk
      have fs : ((B1.getD (kk % 4) ⟨#[]⟩) ++ (L29.getD (q % 29) z35).f1).size + (B2.getD (kk / 4 % 4) ⟨#[]⟩).size ≤ 20 := by
        unfold spelled at f3
        rw [ByteArray.size_append] at f3
        exact f3
      have fs2 := fs
      rw [ByteArray.size_append] at fs2
      replace h := h.pick [0, 1, 2, 7, 8, 9, 10, 12, 13, 33, 34, 35] rfl
      refine wp_seq ?_
      refine wp_seq ?_
      refine wp_region_lit ?_
      by_cases hp : decide (0 < (i : Int)) = true
      case pos =>
        refine Sym.step h rfl (by decide) (wanted_none rfl) (x_move rfl) fun a h => ?_
        refine Sym.step h rfl (by decide) (wanted_none rfl) (Ex.to (x_gtri Tryd.underlying3 rfl rfl) (congrArg Value.bool hp)) fun a h => ?_
        refine wpList_nil ?_
        show Code.wp _ _ _ _ _
        refine wp_cond_true (h.slot 57 _ rfl) ?_
        refine wp_region_lit ?_
        have hz : (⟨#[44]⟩ : ByteArray).size = 1 := rfl
        refine Sym.step h rfl (by decide) (wanted_none rfl) (x_move rfl) fun a h => ?_
        refine Sym.step h rfl (by decide) (wanted_none rfl) (x_adds Tryd.underlying9 rfl rfl (by omega)) fun a h => ?_
        refine Sym.step h rfl (by decide) (wanted_none rfl) (x_assign rfl) fun a h => ?_
        refine wpList_nil ?_
        show Code.wp _ _ _ _ _
        have e : (J ps ++ (⟨#[44]⟩ : ByteArray)) ++ ((B1.getD (kk % 4) ⟨#[]⟩ ++ (L29.getD (q % 29) z35).f1) ++ B2.getD (kk / 4 % 4) ⟨#[]⟩) = J (ps ++ [spelled (q % 29) (kk % 4) (kk / 4 % 4)]) := by
          have hi0 := of_decide_eq_true hp
          rw [J_snoc _ _ (by intro e; rw [e] at hps; simp at hps; omega)]
          rfl
        have hts : (J ps ++ (⟨#[44]⟩ : ByteArray)).size ≤ 100000 := by rw [ByteArray.size_append, hz]; omega
        have g67 : (B1.getD (kk % 4) ⟨#[]⟩).size + ((L29.getD (q % 29) z35).f1).size ≤ 9223372036854775807 := by omega
        have g73 : ((B1.getD (kk % 4) ⟨#[]⟩) ++ (L29.getD (q % 29) z35).f1).size + (B2.getD (kk / 4 % 4) ⟨#[]⟩).size ≤ 9223372036854775807 := Nat.le_trans fs (by decide)
        have g74 : ((J ps ++ (⟨#[44]⟩ : ByteArray))).size + (((B1.getD (kk % 4) ⟨#[]⟩) ++ (L29.getD (q % 29) z35).f1) ++ (B2.getD (kk / 4 % 4) ⟨#[]⟩)).size ≤ 9223372036854775807 := by
          have fs3 : (((B1.getD (kk % 4) ⟨#[]⟩) ++ (L29.getD (q % 29) z35).f1) ++ (B2.getD (kk / 4 % 4) ⟨#[]⟩)).size ≤ 20 := by rw [ByteArray.size_append]; exact fs
          exact Nat.le_trans (Nat.add_le_add hts fs3) (by decide)
        refine wp_seq ?_
        refine wp_region_quiet_lit (by kernel_rfl) (by kernel_rfl) ?_
        refine q_step h rfl (by decide) (wanted_none rfl) (fun w hw => x_move rfl) fun a h => ?_
        refine q_step h rfl (by decide) (wanted_none rfl) (fun w hw => x_build36) fun a h => ?_
        refine q_step h rfl (by decide) (wanted_none rfl) (fun w hw => x_move rfl) fun a h => ?_
        refine q_step h rfl (by decide) (wanted_none rfl) (fun w hw => x_remi Tryd.underlying5 rfl rfl (by decide) h63) fun a h => ?_
        refine q_step h rfl (by decide) (wanted_none rfl) (fun w hw => x_index36 rfl rfl sj) fun a h => ?_
        refine q_step h rfl (by decide) (wanted_none rfl) (fun w hw => x_field35 1 (by decide) rfl) fun a h => ?_
        refine q_step h rfl (by decide) (wanted_none rfl) (by intro w hw; exact x_loads Tryd.underlying9 rfl (q_cell hw cn)) fun a h => ?_
        refine q_step h rfl (by decide) (wanted_none rfl) (fun w hw => x_adds Tryd.underlying9 rfl rfl g67) fun a h => ?_
        refine q_step h rfl (by decide) (wanted_none rfl) (fun w hw => x_build36) fun a h => ?_
        refine q_step h rfl (by decide) (wanted_none rfl) (fun w hw => x_move rfl) fun a h => ?_
        refine q_step h rfl (by decide) (wanted_none rfl) (fun w hw => x_quoi Tryd.underlying5 rfl rfl (by decide) h70) fun a h => ?_
        refine q_step h rfl (by decide) (wanted_none rfl) (fun w hw => x_remi Tryd.underlying5 rfl rfl (by decide) h71) fun a h => ?_
        refine q_step h rfl (by decide) (wanted_none rfl) (fun w hw => x_index36 rfl rfl sk) fun a h => ?_
        refine q_step h rfl (by decide) (wanted_none rfl) (fun w hw => x_adds Tryd.underlying9 rfl rfl g73) fun a h => ?_
        refine q_step h rfl (by decide) (wanted_none rfl) (fun w hw => x_adds Tryd.underlying9 rfl rfl g74) fun a h => ?_
        refine q_step h rfl (by decide) (wanted_none rfl) (fun w hw => Ex.to (x_assign rfl) (congrArg Value.string e)) fun a h => ?_
        intro W2 hw2
        show Code.wp _ _ _ _ _
        have cb2 := q_cell hw2 cb
        have hBW2 := hBW1.trans ((quiet_below hw2).mono hBW1.size)
        refine wp_region_lit ?_
        refine Sym.step h rfl (by decide) (wanted_none rfl) (x_move rfl) fun a h => ?_
        refine Sym.step h rfl (by decide) (wanted_none rfl) (x_field35 0 (by decide) rfl) fun a h => ?_
        refine Sym.step h rfl (by decide) (wanted_none rfl) (x_loadi Tryd.underlying22 rfl cb2) fun a h => ?_
        refine Sym.step h rfl (by decide) (wanted_none rfl) (x_ori Tryd.underlying22 rfl rfl) fun a h => ?_
        refine Sym.step h rfl (by decide) (wanted_none rfl) (x_assign rfl) fun a h => ?_
        refine wpList_nil ?_
        show Code.wp _ _ _ _ _
        refine wp_region_lit ?_
        refine Sym.step h rfl (by decide) (wanted_none rfl) (x_addi Tryd.underlying3 rfl rfl hadd) fun a h => ?_
        refine Sym.step h rfl (by decide) (wanted_none rfl) (x_move rfl) fun a h => ?_
        refine wpList_nil ?_
        refine ⟨l1.length - (i + 1), by omega, i + 1, ps ++ [spelled (q % 29) (kk % 4) (kk / 4 % 4)], _, hil, rfl, h.pick [0, 1, 2, 7, 8, 9, 33, 34, 35] rfl, hBW2, by rw [List.length_append, hps]; rfl, orAll_snoc _ _ f1 ps 0 acc hacc, fun p hp => ?_⟩
        rcases List.mem_append.1 hp with hp | hp
        · exact hgood p hp
        · rw [List.mem_singleton.1 hp]; exact ⟨f2, f3, f4⟩
      case neg =>
        refine Sym.step h rfl (by decide) (wanted_none rfl) (x_move rfl) fun a h => ?_
        refine Sym.step h rfl (by decide) (wanted_none rfl) (Ex.to (x_gtri Tryd.underlying3 rfl rfl) (congrArg Value.bool (Bool.eq_false_iff.2 hp))) fun a h => ?_
        refine wpList_nil ?_
        show Code.wp _ _ _ _ _
        refine wp_cond_false (h.slot 57 _ rfl) (wp_skip ?_)
        show Code.wp _ _ _ _ _
        have e : J ps ++ ((B1.getD (kk % 4) ⟨#[]⟩ ++ (L29.getD (q % 29) z35).f1) ++ B2.getD (kk / 4 % 4) ⟨#[]⟩) = J (ps ++ [spelled (q % 29) (kk % 4) (kk / 4 % 4)]) := by
          have hi0 : ¬ (0 < (i : Int)) := fun hh => hp (decide_eq_true hh)
          have hn : ps = [] := List.length_eq_zero_iff.1 (by omega)
          subst hn
          rw [List.nil_append, J_one]
          have ez : J [] = ⟨#[]⟩ := rfl
          rw [ez]
          apply ByteArray.ext
          simp [ByteArray.data_append, spelled]
        have hts : (J ps).size ≤ 100000 := by omega
        have g67 : (B1.getD (kk % 4) ⟨#[]⟩).size + ((L29.getD (q % 29) z35).f1).size ≤ 9223372036854775807 := by omega
        have g73 : ((B1.getD (kk % 4) ⟨#[]⟩) ++ (L29.getD (q % 29) z35).f1).size + (B2.getD (kk / 4 % 4) ⟨#[]⟩).size ≤ 9223372036854775807 := Nat.le_trans fs (by decide)
        have g74 : (J ps).size + (((B1.getD (kk % 4) ⟨#[]⟩) ++ (L29.getD (q % 29) z35).f1) ++ (B2.getD (kk / 4 % 4) ⟨#[]⟩)).size ≤ 9223372036854775807 := by
          have fs3 : (((B1.getD (kk % 4) ⟨#[]⟩) ++ (L29.getD (q % 29) z35).f1) ++ (B2.getD (kk / 4 % 4) ⟨#[]⟩)).size ≤ 20 := by rw [ByteArray.size_append]; exact fs
          exact Nat.le_trans (Nat.add_le_add hts fs3) (by decide)
        refine wp_seq ?_
        refine wp_region_quiet_lit (by kernel_rfl) (by kernel_rfl) ?_
        refine q_step h rfl (by decide) (wanted_none rfl) (fun w hw => x_move rfl) fun a h => ?_
        refine q_step h rfl (by decide) (wanted_none rfl) (fun w hw => x_build36) fun a h => ?_
        refine q_step h rfl (by decide) (wanted_none rfl) (fun w hw => x_move rfl) fun a h => ?_
        refine q_step h rfl (by decide) (wanted_none rfl) (fun w hw => x_remi Tryd.underlying5 rfl rfl (by decide) h63) fun a h => ?_
        refine q_step h rfl (by decide) (wanted_none rfl) (fun w hw => x_index36 rfl rfl sj) fun a h => ?_
        refine q_step h rfl (by decide) (wanted_none rfl) (fun w hw => x_field35 1 (by decide) rfl) fun a h => ?_
        refine q_step h rfl (by decide) (wanted_none rfl) (by intro w hw; exact x_loads Tryd.underlying9 rfl (q_cell hw cn)) fun a h => ?_
        refine q_step h rfl (by decide) (wanted_none rfl) (fun w hw => x_adds Tryd.underlying9 rfl rfl g67) fun a h => ?_
        refine q_step h rfl (by decide) (wanted_none rfl) (fun w hw => x_build36) fun a h => ?_
        refine q_step h rfl (by decide) (wanted_none rfl) (fun w hw => x_move rfl) fun a h => ?_
        refine q_step h rfl (by decide) (wanted_none rfl) (fun w hw => x_quoi Tryd.underlying5 rfl rfl (by decide) h70) fun a h => ?_
        refine q_step h rfl (by decide) (wanted_none rfl) (fun w hw => x_remi Tryd.underlying5 rfl rfl (by decide) h71) fun a h => ?_
        refine q_step h rfl (by decide) (wanted_none rfl) (fun w hw => x_index36 rfl rfl sk) fun a h => ?_
        refine q_step h rfl (by decide) (wanted_none rfl) (fun w hw => x_adds Tryd.underlying9 rfl rfl g73) fun a h => ?_
        refine q_step h rfl (by decide) (wanted_none rfl) (fun w hw => x_adds Tryd.underlying9 rfl rfl g74) fun a h => ?_
        refine q_step h rfl (by decide) (wanted_none rfl) (fun w hw => Ex.to (x_assign rfl) (congrArg Value.string e)) fun a h => ?_
        intro W2 hw2
        show Code.wp _ _ _ _ _
        have cb2 := q_cell hw2 cb
        have hBW2 := hBW1.trans ((quiet_below hw2).mono hBW1.size)
        refine wp_region_lit ?_
        refine Sym.step h rfl (by decide) (wanted_none rfl) (x_move rfl) fun a h => ?_
        refine Sym.step h rfl (by decide) (wanted_none rfl) (x_field35 0 (by decide) rfl) fun a h => ?_
        refine Sym.step h rfl (by decide) (wanted_none rfl) (x_loadi Tryd.underlying22 rfl cb2) fun a h => ?_
        refine Sym.step h rfl (by decide) (wanted_none rfl) (x_ori Tryd.underlying22 rfl rfl) fun a h => ?_
        refine Sym.step h rfl (by decide) (wanted_none rfl) (x_assign rfl) fun a h => ?_
        refine wpList_nil ?_
        show Code.wp _ _ _ _ _
        refine wp_region_lit ?_
        refine Sym.step h rfl (by decide) (wanted_none rfl) (x_addi Tryd.underlying3 rfl rfl hadd) fun a h => ?_
        refine Sym.step h rfl (by decide) (wanted_none rfl) (x_move rfl) fun a h => ?_
        refine wpList_nil ?_
        refine ⟨l1.length - (i + 1), by omega, i + 1, ps ++ [spelled (q % 29) (kk % 4) (kk / 4 % 4)], _, hil, rfl, h.pick [0, 1, 2, 7, 8, 9, 33, 34, 35] rfl, hBW2, by rw [List.length_append, hps]; rfl, orAll_snoc _ _ f1 ps 0 acc hacc, fun p hp => ?_⟩
        rcases List.mem_append.1 hp with hp | hp
        · exact hgood p hp
        · rw [List.mem_singleton.1 hp]; exact ⟨f2, f3, f4⟩
    case neg =>
      refine Sym.step h rfl (by decide) (wanted_none rfl) (x_move rfl) fun a h => ?_
      refine Sym.step h rfl (by decide) (wanted_none rfl) (x_move rfl) fun a h => ?_
      refine Sym.step h rfl (by decide) (wanted_none rfl) (x_lenr Tryd.underlying31 rfl) fun a h => ?_
      refine Sym.step h rfl (by decide) (wanted_none rfl) (Ex.to (x_lssi Tryd.underlying3 rfl rfl) (congrArg Value.bool (Bool.eq_false_iff.2 hk))) fun a h => ?_
      refine wpList_nil ?_
      show Code.wp _ _ _ _ _
      refine wp_cond_false (h.slot 51 _ rfl) (wp_skip ?_)
      show Code.wp _ _ _ _ _
      obtain ⟨kk, hkz⟩ : ∃ kk : Nat, kk = 0 := ⟨0, rfl⟩
      replace h : Fm 92 _ a := h.pick [13, 0, 1, 2, 7, 8, 9, 10, 12, 33, 34, 35] rfl
      rw [show (0 : Int) = ((kk : Nat) : Int) by rw [hkz]; rfl] at h
      have hkk : kk < 256 := by omega
      have h63 : Int.tmod ((kk : Nat) : Int) 4 = ((kk % 4 : Nat) : Int) := rfl
      have h70 : IntKind.u8.wrap (Int.tdiv ((kk : Nat) : Int) 4) = ((kk / 4 : Nat) : Int) := wrap8 (kk / 4) (by omega)
      have h71 : Int.tmod ((kk / 4 : Nat) : Int) 4 = ((kk / 4 % 4 : Nat) : Int) := rfl
      have sj : kk % 4 < 4 := Nat.mod_lt _ (by decide)
      have sk : kk / 4 % 4 < 4 := Nat.mod_lt _ (by decide)
      obtain ⟨f1, f2, f3, f4⟩ := spelled_facts (q := q % 29) (Nat.mod_lt _ (by decide)) sj sk
      have fs : ((B1.getD (kk % 4) ⟨#[]⟩) ++ (L29.getD (q % 29) z35).f1).size + (B2.getD (kk / 4 % 4) ⟨#[]⟩).size ≤ 20 := by
        unfold spelled at f3
        rw [ByteArray.size_append] at f3
        exact f3
      have fs2 := fs
      rw [ByteArray.size_append] at fs2
      replace h := h.pick [0, 1, 2, 7, 8, 9, 10, 12, 13, 33, 34, 35] rfl
      refine wp_seq ?_
      refine wp_seq ?_
      refine wp_region_lit ?_
      by_cases hp : decide (0 < (i : Int)) = true
      case pos =>
        refine Sym.step h rfl (by decide) (wanted_none rfl) (x_move rfl) fun a h => ?_
        refine Sym.step h rfl (by decide) (wanted_none rfl) (Ex.to (x_gtri Tryd.underlying3 rfl rfl) (congrArg Value.bool hp)) fun a h => ?_
        refine wpList_nil ?_
        show Code.wp _ _ _ _ _
        refine wp_cond_true (h.slot 57 _ rfl) ?_
        refine wp_region_lit ?_
        have hz : (⟨#[44]⟩ : ByteArray).size = 1 := rfl
        refine Sym.step h rfl (by decide) (wanted_none rfl) (x_move rfl) fun a h => ?_
        refine Sym.step h rfl (by decide) (wanted_none rfl) (x_adds Tryd.underlying9 rfl rfl (by omega)) fun a h => ?_
        refine Sym.step h rfl (by decide) (wanted_none rfl) (x_assign rfl) fun a h => ?_
        refine wpList_nil ?_
        show Code.wp _ _ _ _ _
        have e : (J ps ++ (⟨#[44]⟩ : ByteArray)) ++ ((B1.getD (kk % 4) ⟨#[]⟩ ++ (L29.getD (q % 29) z35).f1) ++ B2.getD (kk / 4 % 4) ⟨#[]⟩) = J (ps ++ [spelled (q % 29) (kk % 4) (kk / 4 % 4)]) := by
          have hi0 := of_decide_eq_true hp
          rw [J_snoc _ _ (by intro e; rw [e] at hps; simp at hps; omega)]
          rfl
        have hts : (J ps ++ (⟨#[44]⟩ : ByteArray)).size ≤ 100000 := by rw [ByteArray.size_append, hz]; omega
        have g67 : (B1.getD (kk % 4) ⟨#[]⟩).size + ((L29.getD (q % 29) z35).f1).size ≤ 9223372036854775807 := by omega
        have g73 : ((B1.getD (kk % 4) ⟨#[]⟩) ++ (L29.getD (q % 29) z35).f1).size + (B2.getD (kk / 4 % 4) ⟨#[]⟩).size ≤ 9223372036854775807 := Nat.le_trans fs (by decide)
        have g74 : ((J ps ++ (⟨#[44]⟩ : ByteArray))).size + (((B1.getD (kk % 4) ⟨#[]⟩) ++ (L29.getD (q % 29) z35).f1) ++ (B2.getD (kk / 4 % 4) ⟨#[]⟩)).size ≤ 9223372036854775807 := by
          have fs3 : (((B1.getD (kk % 4) ⟨#[]⟩) ++ (L29.getD (q % 29) z35).f1) ++ (B2.getD (kk / 4 % 4) ⟨#[]⟩)).size ≤ 20 := by rw [ByteArray.size_append]; exact fs
          exact Nat.le_trans (Nat.add_le_add hts fs3) (by decide)
        refine wp_seq ?_
        refine wp_region_quiet_lit (by kernel_rfl) (by kernel_rfl) ?_
        refine q_step h rfl (by decide) (wanted_none rfl) (fun w hw => x_move rfl) fun a h => ?_
        refine q_step h rfl (by decide) (wanted_none rfl) (fun w hw => x_build36) fun a h => ?_
        refine q_step h rfl (by decide) (wanted_none rfl) (fun w hw => x_move rfl) fun a h => ?_
        refine q_step h rfl (by decide) (wanted_none rfl) (fun w hw => x_remi Tryd.underlying5 rfl rfl (by decide) h63) fun a h => ?_
        refine q_step h rfl (by decide) (wanted_none rfl) (fun w hw => x_index36 rfl rfl sj) fun a h => ?_
        refine q_step h rfl (by decide) (wanted_none rfl) (fun w hw => x_field35 1 (by decide) rfl) fun a h => ?_
        refine q_step h rfl (by decide) (wanted_none rfl) (by intro w hw; exact x_loads Tryd.underlying9 rfl (q_cell hw cn)) fun a h => ?_
        refine q_step h rfl (by decide) (wanted_none rfl) (fun w hw => x_adds Tryd.underlying9 rfl rfl g67) fun a h => ?_
        refine q_step h rfl (by decide) (wanted_none rfl) (fun w hw => x_build36) fun a h => ?_
        refine q_step h rfl (by decide) (wanted_none rfl) (fun w hw => x_move rfl) fun a h => ?_
        refine q_step h rfl (by decide) (wanted_none rfl) (fun w hw => x_quoi Tryd.underlying5 rfl rfl (by decide) h70) fun a h => ?_
        refine q_step h rfl (by decide) (wanted_none rfl) (fun w hw => x_remi Tryd.underlying5 rfl rfl (by decide) h71) fun a h => ?_
        refine q_step h rfl (by decide) (wanted_none rfl) (fun w hw => x_index36 rfl rfl sk) fun a h => ?_
        refine q_step h rfl (by decide) (wanted_none rfl) (fun w hw => x_adds Tryd.underlying9 rfl rfl g73) fun a h => ?_
        refine q_step h rfl (by decide) (wanted_none rfl) (fun w hw => x_adds Tryd.underlying9 rfl rfl g74) fun a h => ?_
        refine q_step h rfl (by decide) (wanted_none rfl) (fun w hw => Ex.to (x_assign rfl) (congrArg Value.string e)) fun a h => ?_
        intro W2 hw2
        show Code.wp _ _ _ _ _
        have cb2 := q_cell hw2 cb
        have hBW2 := hBW1.trans ((quiet_below hw2).mono hBW1.size)
        refine wp_region_lit ?_
        refine Sym.step h rfl (by decide) (wanted_none rfl) (x_move rfl) fun a h => ?_
        refine Sym.step h rfl (by decide) (wanted_none rfl) (x_field35 0 (by decide) rfl) fun a h => ?_
        refine Sym.step h rfl (by decide) (wanted_none rfl) (x_loadi Tryd.underlying22 rfl cb2) fun a h => ?_
        refine Sym.step h rfl (by decide) (wanted_none rfl) (x_ori Tryd.underlying22 rfl rfl) fun a h => ?_
        refine Sym.step h rfl (by decide) (wanted_none rfl) (x_assign rfl) fun a h => ?_
        refine wpList_nil ?_
        show Code.wp _ _ _ _ _
        refine wp_region_lit ?_
        refine Sym.step h rfl (by decide) (wanted_none rfl) (x_addi Tryd.underlying3 rfl rfl hadd) fun a h => ?_
        refine Sym.step h rfl (by decide) (wanted_none rfl) (x_move rfl) fun a h => ?_
        refine wpList_nil ?_
        refine ⟨l1.length - (i + 1), by omega, i + 1, ps ++ [spelled (q % 29) (kk % 4) (kk / 4 % 4)], _, hil, rfl, h.pick [0, 1, 2, 7, 8, 9, 33, 34, 35] rfl, hBW2, by rw [List.length_append, hps]; rfl, orAll_snoc _ _ f1 ps 0 acc hacc, fun p hp => ?_⟩
        rcases List.mem_append.1 hp with hp | hp
        · exact hgood p hp
        · rw [List.mem_singleton.1 hp]; exact ⟨f2, f3, f4⟩
      case neg =>
        refine Sym.step h rfl (by decide) (wanted_none rfl) (x_move rfl) fun a h => ?_
        refine Sym.step h rfl (by decide) (wanted_none rfl) (Ex.to (x_gtri Tryd.underlying3 rfl rfl) (congrArg Value.bool (Bool.eq_false_iff.2 hp))) fun a h => ?_
        refine wpList_nil ?_
        show Code.wp _ _ _ _ _
        refine wp_cond_false (h.slot 57 _ rfl) (wp_skip ?_)
        show Code.wp _ _ _ _ _
        have e : J ps ++ ((B1.getD (kk % 4) ⟨#[]⟩ ++ (L29.getD (q % 29) z35).f1) ++ B2.getD (kk / 4 % 4) ⟨#[]⟩) = J (ps ++ [spelled (q % 29) (kk % 4) (kk / 4 % 4)]) := by
          have hi0 : ¬ (0 < (i : Int)) := fun hh => hp (decide_eq_true hh)
          have hn : ps = [] := List.length_eq_zero_iff.1 (by omega)
          subst hn
          rw [List.nil_append, J_one]
          have ez : J [] = ⟨#[]⟩ := rfl
          rw [ez]
          apply ByteArray.ext
          simp [ByteArray.data_append, spelled]
        have hts : (J ps).size ≤ 100000 := by omega
        have g67 : (B1.getD (kk % 4) ⟨#[]⟩).size + ((L29.getD (q % 29) z35).f1).size ≤ 9223372036854775807 := by omega
        have g73 : ((B1.getD (kk % 4) ⟨#[]⟩) ++ (L29.getD (q % 29) z35).f1).size + (B2.getD (kk / 4 % 4) ⟨#[]⟩).size ≤ 9223372036854775807 := Nat.le_trans fs (by decide)
        have g74 : (J ps).size + (((B1.getD (kk % 4) ⟨#[]⟩) ++ (L29.getD (q % 29) z35).f1) ++ (B2.getD (kk / 4 % 4) ⟨#[]⟩)).size ≤ 9223372036854775807 := by
          have fs3 : (((B1.getD (kk % 4) ⟨#[]⟩) ++ (L29.getD (q % 29) z35).f1) ++ (B2.getD (kk / 4 % 4) ⟨#[]⟩)).size ≤ 20 := by rw [ByteArray.size_append]; exact fs
          exact Nat.le_trans (Nat.add_le_add hts fs3) (by decide)
        refine wp_seq ?_
        refine wp_region_quiet_lit (by kernel_rfl) (by kernel_rfl) ?_
        refine q_step h rfl (by decide) (wanted_none rfl) (fun w hw => x_move rfl) fun a h => ?_
        refine q_step h rfl (by decide) (wanted_none rfl) (fun w hw => x_build36) fun a h => ?_
        refine q_step h rfl (by decide) (wanted_none rfl) (fun w hw => x_move rfl) fun a h => ?_
        refine q_step h rfl (by decide) (wanted_none rfl) (fun w hw => x_remi Tryd.underlying5 rfl rfl (by decide) h63) fun a h => ?_
        refine q_step h rfl (by decide) (wanted_none rfl) (fun w hw => x_index36 rfl rfl sj) fun a h => ?_
        refine q_step h rfl (by decide) (wanted_none rfl) (fun w hw => x_field35 1 (by decide) rfl) fun a h => ?_
        refine q_step h rfl (by decide) (wanted_none rfl) (by intro w hw; exact x_loads Tryd.underlying9 rfl (q_cell hw cn)) fun a h => ?_
        refine q_step h rfl (by decide) (wanted_none rfl) (fun w hw => x_adds Tryd.underlying9 rfl rfl g67) fun a h => ?_
        refine q_step h rfl (by decide) (wanted_none rfl) (fun w hw => x_build36) fun a h => ?_
        refine q_step h rfl (by decide) (wanted_none rfl) (fun w hw => x_move rfl) fun a h => ?_
        refine q_step h rfl (by decide) (wanted_none rfl) (fun w hw => x_quoi Tryd.underlying5 rfl rfl (by decide) h70) fun a h => ?_
        refine q_step h rfl (by decide) (wanted_none rfl) (fun w hw => x_remi Tryd.underlying5 rfl rfl (by decide) h71) fun a h => ?_
        refine q_step h rfl (by decide) (wanted_none rfl) (fun w hw => x_index36 rfl rfl sk) fun a h => ?_
        refine q_step h rfl (by decide) (wanted_none rfl) (fun w hw => x_adds Tryd.underlying9 rfl rfl g73) fun a h => ?_
        refine q_step h rfl (by decide) (wanted_none rfl) (fun w hw => x_adds Tryd.underlying9 rfl rfl g74) fun a h => ?_
        refine q_step h rfl (by decide) (wanted_none rfl) (fun w hw => Ex.to (x_assign rfl) (congrArg Value.string e)) fun a h => ?_
        intro W2 hw2
        show Code.wp _ _ _ _ _
        have cb2 := q_cell hw2 cb
        have hBW2 := hBW1.trans ((quiet_below hw2).mono hBW1.size)
        refine wp_region_lit ?_
        refine Sym.step h rfl (by decide) (wanted_none rfl) (x_move rfl) fun a h => ?_
        refine Sym.step h rfl (by decide) (wanted_none rfl) (x_field35 0 (by decide) rfl) fun a h => ?_
        refine Sym.step h rfl (by decide) (wanted_none rfl) (x_loadi Tryd.underlying22 rfl cb2) fun a h => ?_
        refine Sym.step h rfl (by decide) (wanted_none rfl) (x_ori Tryd.underlying22 rfl rfl) fun a h => ?_
        refine Sym.step h rfl (by decide) (wanted_none rfl) (x_assign rfl) fun a h => ?_
        refine wpList_nil ?_
        show Code.wp _ _ _ _ _
        refine wp_region_lit ?_
        refine Sym.step h rfl (by decide) (wanted_none rfl) (x_addi Tryd.underlying3 rfl rfl hadd) fun a h => ?_
        refine Sym.step h rfl (by decide) (wanted_none rfl) (x_move rfl) fun a h => ?_
        refine wpList_nil ?_
        refine ⟨l1.length - (i + 1), by omega, i + 1, ps ++ [spelled (q % 29) (kk % 4) (kk / 4 % 4)], _, hil, rfl, h.pick [0, 1, 2, 7, 8, 9, 33, 34, 35] rfl, hBW2, by rw [List.length_append, hps]; rfl, orAll_snoc _ _ f1 ps 0 acc hacc, fun p hp => ?_⟩
        rcases List.mem_append.1 hp with hp | hp
        · exact hgood p hp
        · rw [List.mem_singleton.1 hp]; exact ⟨f2, f3, f4⟩
end Go.Proofs.YtiaokohnibkmbaaDoor.Mset

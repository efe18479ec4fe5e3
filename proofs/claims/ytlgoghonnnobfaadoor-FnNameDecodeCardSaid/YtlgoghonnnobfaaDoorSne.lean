import Derived.Test.YtlgoghonnnobfaaDoorSnd
import Derived.Test.YtlgoghonnnobfaaDoorUts
namespace Go.Proofs.YtlgoghonnnobfaaDoor.Snd
open Go Go.RowKit Go.Proofs.YtlgoghonnnobfaaDoor.Fr
open Go.Proofs.YtlgoghonnnobfaaDoor.Enc (piece)
open Go.Proofs.YtlgoghonnnobfaaDoor.Sym Go.Proofs.YtlgoghonnnobfaaDoor.Sfn Go.Proofs.YtlgoghonnnobfaaDoor.Spc Go.Proofs.YtlgoghonnnobfaaDoorW.PrintWords Go.Proofs.YtlgoghonnnobfaaDoorW.PrintLast Go.Proofs.YtlgoghonnnobfaaDoorW.PrintMore
set_option linter.unusedVariables false
set_option linter.unusedSimpArgs false
/-! ### spec.NameDecode, the whole of it -/
def unitsL (s : ByteArray) : List S37 := (Uts.units s).map fun x => (⟨x.1, x.2.1, x.2.2⟩ : S37)
theorem unitsFrom_facts (s : ByteArray) : ∀ f pos, (Uts.unitsFrom s f pos).length ≤ f ∧ ∀ u ∈ Uts.unitsFrom s f pos, u.1.size ≤ 8
  | 0, pos => ⟨by simp [Uts.unitsFrom], fun u hu => by simp [Uts.unitsFrom] at hu⟩
  | f + 1, pos => by
    rw [Uts.unitsFrom]
    split
    · obtain ⟨i1, i2⟩ := unitsFrom_facts s f (pos + (Utf8.decode s pos).2)
      refine ⟨by simp only [List.length_cons]; omega, fun u hu => ?_⟩
      rcases List.mem_cons.1 hu with rfl | hu
      · unfold Uts.unitAt
        split
        · show (s.extract pos (pos + 1)).size ≤ 8
          rw [ByteArray.size_extract]
          have := Nat.min_le_left (pos + 1) s.size
          omega
        · have h4 := encode_size ((Utf8.decode s pos).1 : Int)
          simp only
          exact Nat.le_trans h4 (by decide)
      · exact i2 u hu
    · exact ⟨by simp, fun u hu => by cases hu⟩
theorem units_facts (s : ByteArray) : (unitsL s).length ≤ s.size ∧ (∀ u ∈ unitsL s, u.f0.size ≤ 8) ∧ (0 < s.size → 0 < (unitsL s).length) := by
  obtain ⟨i1, i2⟩ := unitsFrom_facts s s.size 0
  unfold unitsL Uts.units
  refine ⟨by rw [List.length_map]; exact i1, fun u hu => ?_, fun h => ?_⟩
  · obtain ⟨x, hx, rfl⟩ := List.mem_map.1 hu
    exact i2 x hx
  · obtain ⟨n, hn⟩ : ∃ n, s.size = n + 1 := ⟨s.size - 1, by omega⟩
    rw [List.length_map, hn, Uts.unitsFrom, if_pos h]
    simp
theorem units_row {w : World} {base : Nat} {v : Value} {s : ByteArray} (h : Uts.ku.R 37 w base (fun _ => True) v (Uts.units s)) : ∃ A c, v = .slice A (unitsL s).length c ∧ (unitsL s).length ≤ c ∧ Kd.C k37 w A (unitsL s).length (unitsL s) := by
  have hR : k37.R 37 w base (fun _ => True) v (unitsL s) := by
    refine Uts.R_iso (f := fun x : S37 => (x.f0, x.f1, x.f2)) (d := Kd.pair Kd.string (Kd.pair (Kd.int .i32) Kd.bool)) ?_
    unfold unitsL
    rw [List.map_map, show ((fun x : S37 => (x.f0, x.f1, x.f2)) ∘ fun x : ByteArray × Int × Bool => (⟨x.1, x.2.1, x.2.2⟩ : S37)) = id from rfl, List.map_id]
    exact h
  exact Kd.R_reads hR
set_option maxRecDepth 100000 in
set_option maxHeartbeats 4000000 in
theorem mid_walk {R : Ending → World → Prop} {a : Act} {w0 w : World} {m : Int} {s : ByteArray}
    (h : Fm 186 [(1, .string s), (2, .pointer (some ⟨w0.heap.size, 0, none⟩))] a)
    (hm : w.heap[w0.heap.size]? = some (.cells #[.int .u64 m] 22 (0, 0))) (hB : Below w0.heap.size w0 w) (hs : s.size ≤ 1000000) (h0 : 0 < s.size)
    (H : ∀ w', Below w0.heap.size w0 w' → R (.returned (.string (bodyS m (unitsL s)))) w') :
    (piece [1, 1, 1] (Tryd.f17.body.getD .skip)).wp Tryd.prog (bodyPost Tryd.prog Tryd.f17 R) a w := by
  conv => arg 2; whnf
  obtain ⟨u1, u2, u3⟩ := units_facts s
  refine wp_seq ?_
  refine wp_region_lit ?_
  refine Sym.step h rfl (by decide) (wanted_none rfl) (x_move rfl) fun a h => ?_
  refine Sym.call h rfl (by decide) (wanted_none rfl) rfl enters25 (fun a h => map1 h rfl) ?_
  refine (Uts.units_any s hs w).mono ?_
  rintro e w1 ⟨v, rfl, hr, hb1⟩
  refine ⟨_, rfl, fun a h => ?_⟩
  obtain ⟨A, c, rfl, hcap, hC⟩ := units_row hr
  refine Sym.step h rfl (by decide) (wanted_none rfl) (x_assign rfl) fun a h => ?_
  refine Sym.step h rfl (by decide) (wanted_none rfl) (x_assign rfl) fun a h => ?_
  refine Sym.step h rfl (by decide) (wanted_none rfl) (x_assign rfl) fun a h => ?_
  refine wpList_nil ?_
  show Code.wp _ _ _ _ _
  refine wp_seq ?_
  refine wp_region_lit ?_
  refine Sym.step h rfl (by decide) (wanted_none rfl) (x_makeFunc (fun N a h => map1 h rfl)) fun a h => ?_
  refine Sym.step h rfl (by decide) (wanted_none rfl) (x_assign rfl) fun a h => ?_
  refine wpList_nil ?_
  show Code.wp _ _ _ _ _
  exact head_walk (h.pick [2, 7, 8, 9, 10] rfl) (oldB hb1 hm) hC hcap (hB.trans (hb1.mono hB.size)) u2 (by omega) (u3 h0) H
/-- What a written name means, as spec tells it. -/
def specD (m : Int) (s : ByteArray) : ByteArray := if m = 1 ∨ s.data.toList = [] then s else match dotP.find? (hit m s) with
  | some d => d.1
  | none => bodyS m (unitsL s)
theorem size_pos {s : ByteArray} (h : ¬ s.data.toList = []) : 0 < s.size := List.length_pos_iff.2 h
set_option maxRecDepth 100000 in
set_option maxHeartbeats 4000000 in
theorem spec_decode (m : Int) (s : ByteArray) (w0 : World) (hs : s.size ≤ 1000000) : Calls Tryd.prog 17 #[.int .u64 m, .string s] w0 fun e w' => e = .returned (.string (specD m s)) ∧ Below w0.heap.size w0 w' := by
  refine calls_of_wp Tryd.func17 rfl ?_
  have h : Fm 186 [(0, .int .u64 m), (1, .string s)] ⟨#[Value.int .u64 m, .string s] ++ Array.replicate (Tryd.f17.ntmps - (#[Value.int .u64 m, .string s] : Array Value).size) undef, []⟩ := Fm.start _ _ _ (by kernel_rfl) lk2
  generalize (⟨#[Value.int .u64 m, .string s] ++ Array.replicate (Tryd.f17.ntmps - (#[Value.int .u64 m, .string s] : Array Value).size) undef, []⟩ : Act) = a at h
  have hm := heap_alloc_new w0 (.cells #[.int .u64 m] 22)
  have hB : Below w0.heap.size w0 (w0.alloc (.cells #[.int .u64 m] 22)) := (Below.refl _ w0).alloc (Nat.le_refl _) _
  have te : (⟨#[]⟩ : ByteArray).toList = [] := by rw [Lib.toList_data]
  refine wp_seq ?_
  refine wp_region_lit ?_
  refine Sym.step h rfl (by decide) (wanted_none rfl) (x_boxi Tryd.underlying22 rfl) fun a h => ?_
  refine Sym.step h rfl (by decide) (wanted_none rfl) (x_assign rfl) fun a h => ?_
  refine wpList_nil ?_
  show Code.wp _ _ _ _ _
  replace h := h.pick [1, 2] rfl
  generalize w0.alloc (.cells #[.int .u64 m] 22) = w at hm hB
  have hmc : w.cell? ⟨w0.heap.size, 0, none⟩ = some (.int .u64 m) := by simp [World.cell?, hm]
  refine wp_seq ?_
  refine wp_seq ?_
  refine wp_region_lit ?_
  by_cases c1 : (m == 1) = true
  case pos =>
    refine Sym.step h rfl (by decide) (wanted_none rfl) (x_loadi Tryd.underlying22 rfl hmc) fun a h => ?_
    refine Sym.step h rfl (by decide) (wanted_none rfl) (Ex.to (x_eqli Tryd.underlying22 rfl rfl) (congrArg Value.bool c1)) fun a h => ?_
    refine Sym.step h rfl (by decide) (wanted_none rfl) (x_move rfl) fun a h => ?_
    refine Sym.off h rfl (by decide) (woff h rfl rfl rfl (by decide)) fun a h => ?_
    refine Sym.off h rfl (by decide) (woff h rfl rfl rfl (by decide)) fun a h => ?_
    refine Sym.step h rfl (by decide) (wanted_none rfl) (x_pick_t rfl rfl rfl) fun a h => ?_
    refine wpList_nil ?_
    show Code.wp _ _ _ _ _
    refine wp_cond_true (h.slot 21 _ rfl) ?_
    refine wp_seq ?_
    refine wp_region_lit ?_
    refine Sym.step h rfl (by decide) (wanted_none rfl) (x_move rfl) fun a h => ?_
    refine Sym.step h rfl (by decide) (wanted_none rfl) (x_assign rfl) fun a h => ?_
    refine wpList_nil ?_
    show Code.wp _ _ _ _ _
    refine wp_ret ?_
    show bodyPost Tryd.prog Tryd.f17 (fun e w' => e = .returned (.string (specD m s)) ∧ Below w0.heap.size w0 w') .ret _ _
    exact ret_slot h rfl (by decide) rfl ⟨by rw [specD, if_pos (.inl (by simpa using c1))], hB⟩
  case neg =>
    by_cases c2 : (s.toList == (⟨#[]⟩ : ByteArray).toList) = true
    case pos =>
      refine Sym.step h rfl (by decide) (wanted_none rfl) (x_loadi Tryd.underlying22 rfl hmc) fun a h => ?_
      refine Sym.step h rfl (by decide) (wanted_none rfl) (Ex.to (x_eqli Tryd.underlying22 rfl rfl) (congrArg Value.bool (Bool.eq_false_iff.2 c1))) fun a h => ?_
      refine Sym.step h rfl (by decide) (wanted_none rfl) (x_move rfl) fun a h => ?_
      refine Sym.step h rfl (by decide) (won h rfl rfl rfl (by decide)) (x_move rfl) fun a h => ?_
      refine Sym.step h rfl (by decide) (won h rfl rfl rfl (by decide)) (Ex.to (x_eqls Tryd.underlying9 rfl rfl) (congrArg Value.bool c2)) fun a h => ?_
      refine Sym.step h rfl (by decide) (wanted_none rfl) (x_pick_f rfl rfl rfl) fun a h => ?_
      refine wpList_nil ?_
      show Code.wp _ _ _ _ _
      refine wp_cond_true (h.slot 21 _ rfl) ?_
      refine wp_seq ?_
      refine wp_region_lit ?_
      refine Sym.step h rfl (by decide) (wanted_none rfl) (x_move rfl) fun a h => ?_
      refine Sym.step h rfl (by decide) (wanted_none rfl) (x_assign rfl) fun a h => ?_
      refine wpList_nil ?_
      show Code.wp _ _ _ _ _
      refine wp_ret ?_
      show bodyPost Tryd.prog Tryd.f17 (fun e w' => e = .returned (.string (specD m s)) ∧ Below w0.heap.size w0 w') .ret _ _
      refine ret_slot h rfl (by decide) rfl ⟨?_, hB⟩
      rw [te, Lib.toList_data, beq_iff_eq] at c2
      rw [specD, if_pos (.inr c2)]
    case neg =>
      refine Sym.step h rfl (by decide) (wanted_none rfl) (x_loadi Tryd.underlying22 rfl hmc) fun a h => ?_
      refine Sym.step h rfl (by decide) (wanted_none rfl) (Ex.to (x_eqli Tryd.underlying22 rfl rfl) (congrArg Value.bool (Bool.eq_false_iff.2 c1))) fun a h => ?_
      refine Sym.step h rfl (by decide) (wanted_none rfl) (x_move rfl) fun a h => ?_
      refine Sym.step h rfl (by decide) (won h rfl rfl rfl (by decide)) (x_move rfl) fun a h => ?_
      refine Sym.step h rfl (by decide) (won h rfl rfl rfl (by decide)) (Ex.to (x_eqls Tryd.underlying9 rfl rfl) (congrArg Value.bool (Bool.eq_false_iff.2 c2))) fun a h => ?_
      refine Sym.step h rfl (by decide) (wanted_none rfl) (x_pick_f rfl rfl rfl) fun a h => ?_
      refine wpList_nil ?_
      show Code.wp _ _ _ _ _
      refine wp_cond_false (h.slot 21 _ rfl) (wp_skip ?_)
      show Code.wp _ _ _ _ _
      rw [te, Lib.toList_data, beq_iff_eq] at c2
      have hne : ¬ (m = 1 ∨ s.data.toList = []) := by
        rintro (e | e)
        · exact c1 (by simpa using e)
        · exact c2 e
      refine dots_walk (R := (fun e w' => e = .returned (.string (specD m s)) ∧ Below w0.heap.size w0 w')) (h.pick [1, 2] rfl) hm hB (fun d w' hd hb' => ⟨?_, hb'⟩) (fun hd a' w' h' hm' hb' => ?_)
      · rw [specD, if_neg hne, hd]
      · refine mid_walk h' hm' hb' hs (size_pos c2) fun w2 hb2 => ⟨?_, hb2⟩
        rw [specD, if_neg hne, hd]
end Go.Proofs.YtlgoghonnnobfaaDoor.Snd

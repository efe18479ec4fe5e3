import Derived.Test.YtfegihmnpcjdgaaRang8
namespace Go.Proofs.Ytfegihmnpcjdgaa.Rang
open Go.RowKit Go.Proofs.YtfegihmnpcjdgaaW.PrintWords Go.Proofs.YtfegihmnpcjdgaaW.PrintMore
set_option linter.unusedVariables false

theorem runs_ge : ∀ (k : Nat) (xs : List (Int × Int)) (j : Nat), j ≤ (runs k xs j).2
  | 0, xs, j => Nat.le_refl _
  | k + 1, xs, j => by
    unfold runs
    split
    · split
      · exact Nat.le_trans (Nat.le_succ j) (runs_ge k (merged xs j) (j + 1))
      · exact Nat.le_refl _
    · exact Nat.le_refl _
theorem coal_len (xs : List (Int × Int)) (i : Nat) : (coal xs i).length ≤ xs.length := by
  unfold coal
  have hl : (if 0 < i ∧ can (el xs (i - 1)) (el xs i) = true then (merged xs (i - 1), i - 1) else (xs, i)).1.length = xs.length := by split <;> simp [merged_len]
  have hs : (if 0 < i ∧ can (el xs (i - 1)) (el xs i) = true then (merged xs (i - 1), i - 1) else (xs, i)).2 ≤ i := by split <;> simp
  have h2 := runs_len xs.length (if 0 < i ∧ can (el xs (i - 1)) (el xs i) = true then (merged xs (i - 1), i - 1) else (xs, i)).1 i
  have h3 := runs_ge xs.length (if 0 < i ∧ can (el xs (i - 1)) (el xs i) = true then (merged xs (i - 1), i - 1) else (xs, i)).1 i
  rw [hl] at h2
  simp only [List.length_append, List.length_take, List.length_drop, h2.1]
  omega
theorem ins_len (xs : List (Int × Int)) (r : Int × Int) : (ins xs r).length ≤ xs.length + 1 := by
  unfold ins
  split
  · omega
  · split
    · simp
    · refine Nat.le_trans (coal_len _ _) ?_
      unfold put
      split
      · simp
      · have := place_le xs r.1
        simp; omega
theorem fold_len : ∀ (l acc : List (Int × Int)), (l.foldl ins acc).length ≤ acc.length + l.length
  | [], acc => by simp
  | a :: l, acc => by
    have h := fold_len l (ins acc a)
    have h2 := ins_len acc a
    simp only [List.foldl_cons, List.length_cons]
    omega
theorem inserted_all (A : Option Addr) (c : Nat) (l : List (Int × Int)) (w : World) (hn : l.length ≤ 800000) (hr : kp.C w A l.length l) (hc : l.length ≤ c) :
    Calls Try.prog 38 #[.slice A l.length c] w fun e w' => ∃ v, e = .returned v ∧ kp.R 61 w' w.heap.size (fun _ => True) v (l.foldl ins []) ∧ Below w.heap.size w w' :=
  inserted_any A c l w hn (fun k hk => by have := fold_len (l.take k) []; simp at this ⊢; omega) hr hc

/-! ### search, of a row that is read -/
set_option maxHeartbeats 4000000 in
theorem closure_C (c1 c2 cap : Nat) (A : Option Addr) (xs : List (Int × Int)) (r0 : Int) (i : Nat) (hi : i < xs.length) (w : World)
    (h1 : w.cell? ⟨c1, 0, none⟩ = some (.slice A xs.length cap)) (h2 : w.cell? ⟨c2, 0, none⟩ = some (.int .i64 r0))
    (hg : kp.C w A xs.length xs) :
    Calls Try.prog 60 #[.int .i64 i, .pointer (some ⟨c1, 0, none⟩), .pointer (some ⟨c2, 0, none⟩)] w (fun e w' => e = .returned (.bool (decide (r0 ≤ (el xs i).1))) ∧ w' = w.drew) := by
  obtain ⟨ad, rfl, hx, hx2⟩ := kp_C hg i hi
  have b0 : decide ((i : Int) < (xs.length : Int)) = true := decide_eq_true (by omega)
  have hb : (i : Int) < (xs.length : Int) := by omega
  generalize (el xs i).1 = y at *
  generalize (el xs i).2 = y2 at *
  clear hg
  go_enter Try.func60, Try.ntmps60
  go_upto_region 1 with (fail)
  go_region
  all_goals go_wp2
  all_goals go_ret
  all_goals exact ⟨rfl, rfl⟩

set_option maxHeartbeats 4000000 in
theorem sort_C (c1 c2 cap : Nat) (A : Option Addr) (xs : List (Int × Int)) (r0 : Int) (w : World) (hn : xs.length ≤ 1000000)
    (h1 : w.cell? ⟨c1, 0, none⟩ = some (.slice A xs.length cap)) (h2 : w.cell? ⟨c2, 0, none⟩ = some (.int .i64 r0))
    (hg : kp.C w A xs.length xs) :
    Calls Try.prog 59 #[.int .i64 xs.length, .func (.func 60) #[] #[.pointer (some ⟨c1, 0, none⟩), .pointer (some ⟨c2, 0, none⟩)]] w (fun e w' => e = .returned (.int .i64 (place xs r0 : Nat)) ∧ ∃ k, w' = w.drewN k) := by
  have H1 := Lib.hid h1; have H2 := Lib.hid h2; have HG := Lib.hid hg
  clear h1 h2 hg
  go_enter Try.func59, Try.ntmps59
  go_wp2
  go_loopw [5, 6] (fun v5 v6 w' => ∃ i j k : Nat, v5 = .int .i64 i ∧ v6 = .int .i64 j ∧ i ≤ j ∧ j ≤ xs.length ∧ bsearch (isAt xs r0) (j - i) i j = place xs r0 ∧ w' = w.drewN k) (fun v5 v6 _ => (intOf v6).toNat - (intOf v5).toNat)
  case atStart => exact ⟨0, xs.length, 0, rfl, rfl, by omega, by omega, rfl, rfl⟩
  case round =>
    obtain ⟨i, j, k, rfl, rfl, hij, hjn, hb, rfl⟩ := hrel
    have HB := Lib.hid hb; clear hb
    by_cases hlt : i < j
    · have b0 : decide ((i : Int) < (j : Int)) = true := decide_eq_true (by omega)
      go_upto_region 4 with (fail)
      obtain ⟨m, hm⟩ : ∃ m : Nat, ((i : Int) + (j : Int)) / 2 = (m : Int) := ⟨(i + j) / 2, by omega⟩
      rw [hm]
      have hm2 : m = (i + j) / 2 := by omega
      have HM := Lib.hid hm2
      have hmi : i ≤ m ∧ m < j := by omega
      have HI := Lib.hid hmi
      have hstep : bsearch (isAt xs r0) (j - i) i j = if isAt xs r0 m = true then bsearch (isAt xs r0) (m - i) i m else bsearch (isAt xs r0) (j - (m + 1)) (m + 1) j := by
        obtain ⟨d, hd⟩ : ∃ d, j - i = d + 1 := ⟨j - i - 1, by omega⟩
        rw [hd, bsearch, if_pos hlt, ← hm2]
        split
        · exact bsearch_enough _ _ _ _ _ (by omega) (by omega)
        · exact bsearch_enough _ _ _ _ _ (by omega) (by omega)
      have HS := Lib.hid hstep
      clear hm hm2 hmi hstep
      have hbk : Below w.heap.size w (w.drewN k) := pw_below_drewN (Below.refl _ _) k
      have hcl : Calls Try.prog 60 #[.int .i64 m, .pointer (some ⟨c1, 0, none⟩), .pointer (some ⟨c2, 0, none⟩)] (w.drewN k) (fun e w' => e = .returned (.bool (isAt xs r0 m)) ∧ w' = (w.drewN k).drew) := by
        have hml : m < xs.length := by have := HI.out; omega
        exact closure_C c1 c2 cap A xs r0 m hml (w.drewN k) ((hbk.cell (World.block_lt_of_cell? w _ H1.out)).trans H1.out) ((hbk.cell (World.block_lt_of_cell? w _ H2.out)).trans H2.out) (Kd.C_below HG.out hbk)
      have HCL := Lib.hid hcl
      clear hcl hbk
      by_cases hq : isAt xs r0 m = true
      · have HS2 := HS.out
        rw [if_pos hq] at HS2
        have HS3 := Lib.hid HS2
        clear HS2
        go_wp2_with (go_at_call 60; (with_reducible refine (HCL.out).mono ?_); rintro e w1 ⟨rfl, rfl⟩)
        go_roundw
        case rel => exact ⟨i, m, k + 1, rfl, rfl, HI.out.1, by have := HI.out; omega, HS3.out ▸ HB.out, rfl⟩
        case measure => have := HI.out; simp [intOf]; omega
      · have HS2 := HS.out
        rw [if_neg hq] at HS2
        have HS3 := Lib.hid HS2
        clear HS2
        have hq' : isAt xs r0 m = false := by simpa using hq
        clear hq
        go_wp2_with (go_at_call 60; (with_reducible refine (HCL.out).mono ?_); rintro e w1 ⟨rfl, rfl⟩)
        have hw : wrap64 ((m : Int) + 1) = ((m + 1 : Nat) : Int) := by have := HI.out; unfold wrap64; omega
        go_roundw
        case rel => exact ⟨m + 1, j, k + 1, by rw [hw], rfl, by have := HI.out; omega, hjn, HS3.out ▸ HB.out, rfl⟩
        case measure => rw [hw]; have := HI.out; simp [intOf]; omega
    · have b0 : decide ((i : Int) < (j : Int)) = false := decide_eq_false (by omega)
      go_wp2
      go_ret
      have : i = j := by omega
      subst this
      have h := HB.out
      rw [Nat.sub_self] at h
      exact ⟨by rw [← h]; rfl, k, rfl⟩

set_option maxHeartbeats 4000000 in
theorem search_C (cap : Nat) (A : Option Addr) (xs : List (Int × Int)) (r0 r1 : Int) (w : World) (hn : xs.length ≤ 1000000) (hg : kp.C w A xs.length xs) :
    Calls Try.prog 55 #[.slice A xs.length cap, .agg #[.int .i64 r0, .int .i64 r1]] w (fun e w' => e = .returned (.int .i64 (place xs r0 : Nat)) ∧ Below w.heap.size w w') := by
  have hm := hmf
  have HG := Lib.hid hg
  clear hg
  have hbx : Below w.heap.size w ((w.alloc (.cells #[.slice A xs.length cap] 55)).alloc (.cells #[.int .i64 r0, .int .i64 r1] 61)) := (((Below.refl _ _).alloc (Nat.le_refl _) _).alloc (by simp) _)
  have HBX := Lib.hid hbx
  have hso := sort_C w.heap.size (w.heap.size + 1) cap A xs r0 ((w.alloc (.cells #[.slice A xs.length cap] 55)).alloc (.cells #[.int .i64 r0, .int .i64 r1] 61)) hn (by simp [go_sem]) (by simp [go_sem]) (Kd.C_below HG.out hbx)
  have HSO := Lib.hid hso
  clear hso hbx
  go_enter Try.func55, Try.ntmps55
  go_wp2_with (go_at_call 59; (with_reducible refine (HSO.out).mono ?_); rintro e w1 ⟨rfl, k, rfl⟩)
  go_ret
  exact ⟨rfl, pw_below_drewN HBX.out k⟩
end Go.Proofs.Ytfegihmnpcjdgaa.Rang

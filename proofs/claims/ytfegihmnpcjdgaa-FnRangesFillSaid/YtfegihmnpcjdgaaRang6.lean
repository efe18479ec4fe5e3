import Derived.Test.YtfegihmnpcjdgaaRang5
namespace Go.Proofs.Ytfegihmnpcjdgaa.Rang
open Go.RowKit Go.Proofs.YtfegihmnpcjdgaaW.PrintWords Go.Proofs.YtfegihmnpcjdgaaW.PrintMore
set_option linter.unusedVariables false
theorem St.below {B : Nat} {w0 : World} {rb g cap n : Nat} {xs : List (Int × Int)} {w w' : World} (h : St B w0 rb g cap n xs w) (hb : Below w.heap.size w w') : St B w0 rb g cap n xs w' :=
  ⟨h.row.of_heap (hb.block g h.row.lt), (hb.block rb h.var.lt).trans h.var, h.low.trans (hb.mono h.hB), h.hg, h.hrb, Nat.le_trans h.hB hb.size, h.hcap⟩
theorem St.search {B : Nat} {w0 : World} {rb g cap n : Nat} {xs : List (Int × Int)} {w : World} (h : St B w0 rb g cap n xs w) (hn : xs.length ≤ 1000000) (r0 r1 : Int) :
    Calls Try.prog 55 #[.slice (some ⟨g, 0, none⟩) xs.length cap, .agg #[.int .i64 r0, .int .i64 r1]] w (fun e w' => e = .returned (.int .i64 (place xs r0 : Nat)) ∧ Below w.heap.size w w') := by
  obtain ⟨cur, hb, hl, _, _⟩ := h.row
  exact search_any g cap cur xs r0 r1 w hn hb hl

set_option maxHeartbeats 8000000 in
set_option maxRecDepth 100000 in
theorem insert_merge (B : Nat) (w0 : World) (rb g cap : Nat) (xs : List (Int × Int)) (r1 r2 : Int) (w : World) (hr : ¬ r2 ≤ 0) (hn : xs.length ≤ 1000000) (hst : St B w0 rb g cap xs.length xs w)
    (i : Nat) (hpl : place xs r1 = i) (hi : i < xs.length) (hc : can (r1, r2) (el xs i) = true) :
    Calls Try.prog 54 #[.pointer (some ⟨rb, 0, none⟩), .agg #[.int .i64 r1, .int .i64 r2]] w fun e w' => e = .returned (.tuple #[]) ∧ Holds B w0 rb (coal (xs.set i (mg (r1, r2) (el xs i))) i) w' := by
  have b0 : decide (r2 ≤ 0) = false := decide_eq_false hr
  have b1 : ((xs.length : Int) == 0) = false := by simp; intro h; rw [h] at hi; simp at hi
  have b2 : ((i : Int) == (xs.length : Int)) = false := by simp; omega
  have b3 : (i : Int) < (xs.length : Int) := by omega
  have HST := Lib.hid hst
  have HPL := Lib.hid hpl
  clear hst hpl hr
  go_enter Try.func54, Try.ntmps54
  go_wp2_with (first
    | (go_at_call 48; (with_reducible refine (empty_is _ _ _).mono ?_); rintro e w1 ⟨rfl, hb⟩; have HS1 := Lib.hid ((HST.out.below ((Below.refl _ _).alloc (Nat.le_refl _) _)).below hb); have k0 := HS1.out.var.cell; have q0 : w1.cell? ⟨w.heap.size, 0, none⟩ = some (.int .i64 r1) := (by rw [hb.cell (by simp)]; simp [go_sem]); have q1 : w1.cell? ⟨w.heap.size, 1, none⟩ = some (.int .i64 r2) := (by rw [hb.cell (by simp)]; simp [go_sem]); have HBX : Hid (Blk w.heap.size #[.int .i64 r1, .int .i64 r2] w1) := Lib.hid ((hb.block w.heap.size (by simp)).trans (heap_alloc_new w _)); have HSR := Lib.hid (HS1.out.search hn r1 r2); clear hb)
    | (go_at_call 55; (with_reducible refine (HSR.out).mono ?_); rintro e w2 ⟨rfl, hb2⟩; rw [HPL.out]; have HS2 := Lib.hid (HS1.out.below hb2); have HBX2 : Hid (Blk w.heap.size #[.int .i64 r1, .int .i64 r2] w2) := Lib.hid ((hb2.block w.heap.size HBX.out.lt).trans HBX.out); have HMG := Lib.hid (merge_new w.heap.size g cap (r1, r2) xs i hi w2 HBX2.out HS2.out.row (by intro e; have := HST.out.row.lt; omega)); clear hb2)
    | (go_at_call 57; (with_reducible refine (HMG.out).mono ?_); rintro e w3 ⟨rfl, ho, hrow⟩; rw [hc]; rw [if_pos hc] at hrow; have HS3 := Lib.hid (HS2.out.only ho hrow); have HCO := Lib.hid (coalesce_any B w0 rb g cap (xs.set i (mg (r1, r2) (el xs i))) i w3 (by simpa using hi) (by simpa using hn) (by simpa using HS3.out)); clear ho hrow)
    | (go_at_call 58; (with_reducible refine (HCO.out).mono ?_); rintro e w4 ⟨rfl, hs4⟩))
  go_end0
  exact ⟨rfl, .some _ g cap _ hs4 (coal_ne _ _ (by simpa using hi))⟩

theorem reps_flat {R : Int × Int → List Value → Prop} (hR : ∀ p, R p [.int .i64 p.1, .int .i64 p.2]) : ∀ xs : List (Int × Int), Reps R 2 xs (flat xs) := by
  intro xs
  refine ⟨by rw [flat_len], fun j p hj => ?_⟩
  obtain ⟨hl, hp⟩ := List.getElem?_eq_some_iff.1 hj
  rw [← flat_drop, List.drop_eq_getElem_cons hl, hp]
  exact hR p
/-- A row is a row of the call's own. -/
theorem St.own {B : Nat} {w0 : World} {rb g cap : Nat} {xs : List (Int × Int)} {w : World} (h : St B w0 rb g cap xs.length xs w) : kp.R 61 w B (fun _ => True) (.slice (some ⟨g, 0, none⟩) xs.length cap) xs := by
  obtain ⟨cur, hb, hl, hc, hs⟩ := h.row
  exact ⟨fun _ _ => trivial, flat xs, ⟨by rw [flat_len]; rfl, .inr ⟨g, cap, cur, rfl, h.hg, hb, hc, h.hcap, hs, hl⟩⟩, reps_flat (fun p => kp_mk w B _ p) xs⟩
end Go.Proofs.Ytfegihmnpcjdgaa.Rang

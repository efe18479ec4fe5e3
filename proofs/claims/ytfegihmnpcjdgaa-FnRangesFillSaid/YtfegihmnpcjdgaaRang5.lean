import Derived.Test.YtfegihmnpcjdgaaRang4
import Derived.Test.YtfegihmnpcjdgaaWMore
namespace Go.Proofs.Ytfegihmnpcjdgaa.Rang
open Go.RowKit Go.Proofs.YtfegihmnpcjdgaaW.PrintWords Go.Proofs.YtfegihmnpcjdgaaW.PrintMore
set_option linter.unusedVariables false

/-- A range put into a row ahead of its coalescing. -/
def put (xs : List (Int × Int)) (r : Int × Int) (i : Nat) : List (Int × Int) :=
  if i < xs.length ∧ can r (el xs i) = true then xs.set i (mg r (el xs i)) else xs.take i ++ r :: xs.drop i
/-- What Insert makes of a set. -/
def ins (xs : List (Int × Int)) (r : Int × Int) : List (Int × Int) :=
  if r.2 ≤ 0 then xs else if xs = [] then [r] else coal (put xs r (place xs r.1)) (place xs r.1)

/-- A set in a variable: none, or a row. -/
inductive Holds (B : Nat) (w0 : World) (rb : Nat) : List (Int × Int) → World → Prop
  | none (w : World) (h : w.heap[rb]? = some (.cells #[.slice none 0 0] 55 (0, 0))) (hb : Below B w0 w) (hrb : B ≤ rb) (hB : B ≤ w.heap.size) : Holds B w0 rb [] w
  | some (w : World) (g cap : Nat) (xs : List (Int × Int)) (h : St B w0 rb g cap xs.length xs w) (hx : xs ≠ []) : Holds B w0 rb xs w
theorem Holds.low {B : Nat} {w0 : World} {rb : Nat} {xs : List (Int × Int)} {w : World} (h : Holds B w0 rb xs w) : Below B w0 w := by
  cases h with
  | none _ _ hb => exact hb
  | some _ g cap _ h _ => exact St.low h

theorem runs_len : ∀ (k : Nat) (xs : List (Int × Int)) (j : Nat), (runs k xs j).1.length = xs.length ∧ (j < xs.length → (runs k xs j).2 < xs.length)
  | 0, xs, j => ⟨rfl, fun h => h⟩
  | k + 1, xs, j => by
    unfold runs
    split
    · split
      · have h := runs_len k (merged xs j) (j + 1)
        rw [merged_len] at h
        exact ⟨h.1, fun _ => h.2 (by omega)⟩
      · exact ⟨rfl, fun h => h⟩
    · exact ⟨rfl, fun h => h⟩
theorem coal_ne (xs : List (Int × Int)) (i : Nat) (hi : i < xs.length) : coal xs i ≠ [] := by
  unfold coal
  intro h
  have h1 := congrArg List.length h
  have hl : (if 0 < i ∧ can (el xs (i - 1)) (el xs i) = true then (merged xs (i - 1), i - 1) else (xs, i)).1.length = xs.length := by split <;> simp [merged_len]
  have h2 := runs_len xs.length (if 0 < i ∧ can (el xs (i - 1)) (el xs i) = true then (merged xs (i - 1), i - 1) else (xs, i)).1 i
  rw [hl] at h2
  simp only [List.length_append, List.length_take, List.length_drop, List.length_nil, h2.1] at h1
  have := h2.2 hi
  omega

set_option maxHeartbeats 8000000 in
set_option maxRecDepth 100000 in
/-- Nothing is inserted by an empty range. -/
theorem insert_empty (B : Nat) (w0 : World) (rb : Nat) (xs : List (Int × Int)) (r : Int × Int) (w : World) (hr : r.2 ≤ 0) (h : Holds B w0 rb xs w) :
    Calls Try.prog 54 #[.pointer (some ⟨rb, 0, none⟩), .agg #[.int .i64 r.1, .int .i64 r.2]] w fun e w' => e = .returned (.tuple #[]) ∧ Below w.heap.size w w' := by
  have b0 : decide (r.2 ≤ 0) = true := decide_eq_true hr
  generalize r.1 = r1 at *
  generalize r.2 = r2 at *
  clear hr
  go_enter Try.func54, Try.ntmps54
  go_wp2_with (first | (go_at_call 48; (with_reducible refine (empty_is _ _ _).mono ?_); rintro e w1 ⟨rfl, hb⟩))
  refine bodyPost_ret (results_none rfl _ _ _) rfl ?_
  exact ⟨rfl, ((Below.refl _ _).alloc (Nat.le_refl _) _).trans (hb.mono (by simp))⟩

/-- A range as two cells. -/
def kp : Kd (Int × Int) := Kd.pair (Kd.int .i64) (Kd.int .i64)
theorem kp_open {w : World} {base : Nat} {ok : Nat → Prop} {x : Int × Int} {cs : List Value} (h : kp.M w base ok x cs) : cs = [.int .i64 x.1, .int .i64 x.2] := by
  obtain ⟨_, _, rfl, rfl, rfl⟩ := h
  rfl
theorem kp_mk (w : World) (base : Nat) (ok : Nat → Prop) (x : Int × Int) : kp.M w base ok x [.int .i64 x.1, .int .i64 x.2] := ⟨[.int .i64 x.1], [.int .i64 x.2], rfl, rfl, rfl⟩
theorem info61a : (Try.prog.info? 61).map (fun i => (i.zero, i.size, i.bytes)) = some (some (.agg #[.int .i64 0, .int .i64 0]), 2, 16) := by kernel_rfl
theorem flat_of_reps {R : Int × Int → List Value → Prop} (hR : ∀ p c, R p c → c = [.int .i64 p.1, .int .i64 p.2]) : ∀ (xs : List (Int × Int)) (inner : List Value), Reps R 2 xs inner → inner = flat xs := by
  intro xs
  induction xs with
  | nil =>
    intro inner h
    exact List.eq_nil_of_length_eq_zero (by have := h.1; simpa using this)
  | cons x l ih =>
    intro inner h
    have hlen : inner.length = (l.length + 1) * 2 := by have := h.1; simpa using this
    match inner, hlen, h with
    | a :: b :: rest, hlen, h =>
      have h0 := hR _ _ (h.2 0 x rfl)
      have h1 := ih rest ⟨by simp at hlen; omega, fun j p hj => by
        have := h.2 (j + 1) p (by simpa using hj)
        rw [show (j + 1) * 2 = j * 2 + 1 + 1 by omega] at this
        simpa using this⟩
      simp at h0
      rw [h1, h0.1, h0.2]
      rfl
    | [], hlen, _ => simp at hlen
    | [a], hlen, _ => simp at hlen; omega
/-- A row of the call's own is a row. -/
theorem row_of_R {B : Nat} {w : World} {v : Value} {xs : List (Int × Int)} (h : kp.R 61 w B (fun _ => True) v xs) (hx : xs ≠ []) :
    ∃ g cap, v = .slice (some ⟨g, 0, none⟩) xs.length cap ∧ B ≤ g ∧ Row g cap xs w ∧ cap ≤ maxLen := by
  obtain ⟨_, inner, hown, hreps⟩ := h
  have hi := flat_of_reps (fun p c hc => kp_open hc) xs inner hreps
  obtain ⟨hlen, hv⟩ := hown
  rcases hv with ⟨_, h0⟩ | ⟨g, cap, cur, hv, hg, hh, hn, hm, hs, ht⟩
  · exact absurd (List.eq_nil_of_length_eq_zero h0) hx
  · exact ⟨g, cap, hv, hg, ⟨cur, hh, by rw [← hi]; exact ht, hn, hs⟩, hm⟩

set_option maxHeartbeats 8000000 in
set_option maxRecDepth 100000 in
theorem insert_first (B : Nat) (w0 : World) (rb : Nat) (r : Int × Int) (w : World) (hr : ¬ r.2 ≤ 0) (h : w.heap[rb]? = some (.cells #[.slice none 0 0] 55 (0, 0))) (hb : Below B w0 w) (hrb : B ≤ rb) (hB : B ≤ w.heap.size) :
    Calls Try.prog 54 #[.pointer (some ⟨rb, 0, none⟩), .agg #[.int .i64 r.1, .int .i64 r.2]] w fun e w' => e = .returned (.tuple #[]) ∧ Holds B w0 rb [r] w' := by
  obtain ⟨r1, r2⟩ := r
  have b0 : decide (r2 ≤ 0) = false := decide_eq_false hr
  have hlt : rb < w.heap.size := (Array.getElem?_eq_some_iff.1 h).1
  have H := Lib.hid h; have HB := Lib.hid hb
  clear h hb hr
  go_enter Try.func54, Try.ntmps54
  go_wp2_with (first
    | (go_at_call 48; (with_reducible refine (empty_is _ _ _).mono ?_); rintro e w1 ⟨rfl, hb⟩; have h1 : w1.heap[rb]? = some (.cells #[.slice none 0 0] 55 (0, 0)) := (hb.block rb (by simp; omega)).trans (((Below.refl w.heap.size w).alloc (Nat.le_refl _) _).block rb hlt |>.trans H.out); have k0 : w1.cell? ⟨rb, 0, none⟩ = some (.slice none 0 0) := (by simp [World.cell?, h1]); have q0 : w1.cell? ⟨w.heap.size, 0, none⟩ = some (.int .i64 r1) := (by rw [hb.cell (by simp)]; simp [go_sem]); have q1 : w1.cell? ⟨w.heap.size, 1, none⟩ = some (.int .i64 r2) := (by rw [hb.cell (by simp)]; simp [go_sem]); have H1 := Lib.hid h1; have HB1 := Lib.hid ((HB.out.alloc hB _).trans (hb.mono (by simp; omega))); have hz1 := hb.size; simp at hz1; clear h1 hb)
    | ((with_reducible refine gate_builtin (b := .append) (xs := #[.tmp 14, .tmp 16]) rfl ?_); at_builtin; go_loud (refine Kd.R_append kp (w0 := w0) B rfl (.tmp 14) (.tmp 16) 55 61 (.agg #[.int .i64 0, .int .i64 0]) 16 rfl Try.underlying55 info61a rfl (by decide) (by omega) (.slice none 0 0) [] (r1, r2) [.int .i64 r1, .int .i64 r2] (fun _ => True) (fun _ => False) rfl rfl (kp_mk _ _ _ (r1, r2)) (fun _ hk => hk.elim) (fun _ _ => trivial) (Kd.R_nil _ _ _ _ _) HB1.out (by omega) (by simp) ?_; intro v5 w5 ho hb5 hg hat; have h5 := (hg.block rb (by omega) (by simp [Value.ownBlock])).trans H1.out; have k5 : w5.cell? ⟨rb, 0, none⟩ = some (.slice none 0 0) := (by simp [World.cell?, h5]); have f5 : w5.frozen? ⟨rb, 0, none⟩ = false := (by simp [World.frozen?, h5]); have HO := Lib.hid ho; have HB5 := Lib.hid hb5; have H5 := Lib.hid h5; obtain ⟨g, cap, rfl, hgB, hrow, hcm⟩ := row_of_R ho (by simp); have HROW := Lib.hid hrow; have hz5 := hrow.lt; clear ho hb5 hg hat h5 hrow)))
  (try simp only [Exit.inBlock, Exit.then])
  refine bodyPost_ret (results_none rfl _ _ _) rfl ?_
  have hv : Var rb g 1 cap (w5.setCell ⟨rb, 0, none⟩ (.slice (some ⟨g, 0, none⟩) 1 cap)) := blk_put H5.out 0 _ rfl
  have hne : rb ≠ g := by
    rintro rfl
    obtain ⟨cur, hbk, _⟩ := HROW.out
    have h5 := H5.out
    unfold Blk at hbk; rw [h5] at hbk; simp at hbk
  refine ⟨rfl, .some _ g cap _ ⟨HROW.out.of_heap (Below.heap_setCell _ _ _ g (fun e => hne e.symm)), hv, HB5.out.setCell (p := ⟨rb, 0, none⟩) hrb _, hgB, hrb, ?_, hcm⟩ (by simp)⟩
  have := Array.getElem?_eq_some_iff.1 H5.out
  obtain ⟨h6, _⟩ := this
  simp; omega
end Go.Proofs.Ytfegihmnpcjdgaa.Rang

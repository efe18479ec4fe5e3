import Derived.Test.YtfegihmnpcjdgaaRang
namespace Go.Proofs.Ytfegihmnpcjdgaa.Rang
open Go.RowKit Go.Proofs.YtfegihmnpcjdgaaW.PrintWords
set_option linter.unusedVariables false

/-- A row of ranges as cells. -/
def flat (xs : List (Int × Int)) : List Value := xs.flatMap fun p => [.int .i64 p.1, .int .i64 p.2]
theorem flat_len (xs : List (Int × Int)) : (flat xs).length = xs.length * 2 := by
  induction xs with
  | nil => rfl
  | cons a l ih => simp [flat] at ih ⊢; omega
theorem flat_append (xs ys : List (Int × Int)) : flat (xs ++ ys) = flat xs ++ flat ys := by simp [flat]
theorem flat_at (xs : List (Int × Int)) (i : Nat) (h : i < xs.length) : (flat xs)[i * 2]? = some (.int .i64 (xs[i]'h).1) ∧ (flat xs)[i * 2 + 1]? = some (.int .i64 (xs[i]'h).2) := by
  induction xs generalizing i with
  | nil => simp at h
  | cons a l ih =>
    cases i with
    | zero => exact ⟨rfl, rfl⟩
    | succ i =>
      have := ih i (by simpa using h)
      have e : flat (a :: l) = .int .i64 a.1 :: .int .i64 a.2 :: flat l := rfl
      rw [e, show (i + 1) * 2 = i * 2 + 1 + 1 by omega]
      simpa using this

/-- Binary search, as the library's loop does it. -/
def bsearch (p : Nat → Bool) : Nat → Nat → Nat → Nat
  | 0, i, _ => i
  | k + 1, i, j => if i < j then (if p ((i + j) / 2) then bsearch p k i ((i + j) / 2) else bsearch p k ((i + j) / 2 + 1) j) else i
theorem bsearch_in (p : Nat → Bool) : ∀ (k i j : Nat), j - i ≤ k → i ≤ j → i ≤ bsearch p k i j ∧ bsearch p k i j ≤ j
  | 0, i, j, h, hij => by simp [bsearch]; omega
  | k + 1, i, j, h, hij => by
    unfold bsearch
    split
    · split
      · have := bsearch_in p k i ((i + j) / 2) (by omega) (by omega); omega
      · have := bsearch_in p k ((i + j) / 2 + 1) j (by omega) (by omega); omega
    · omega
/-- Enough rounds are enough. -/
theorem bsearch_more (p : Nat → Bool) : ∀ (k i j : Nat), j - i ≤ k → bsearch p (k + 1) i j = bsearch p k i j
  | 0, i, j, h => by simp [bsearch]; omega
  | k + 1, i, j, h => by
    rw [bsearch]
    conv => rhs; rw [bsearch]
    split
    · split
      · exact bsearch_more p k _ _ (by omega)
      · exact bsearch_more p k _ _ (by omega)
    · rfl
theorem bsearch_enough (p : Nat → Bool) (k k' i j : Nat) (h : j - i ≤ k) (h' : j - i ≤ k') : bsearch p k i j = bsearch p k' i j := by
  have key : ∀ d, bsearch p (j - i + d) i j = bsearch p (j - i) i j := by
    intro d
    induction d with
    | zero => rfl
    | succ d ih => rw [← Nat.add_assoc, bsearch_more p _ i j (by omega), ih]
  have e1 := key (k - (j - i))
  have e2 := key (k' - (j - i))
  rw [show j - i + (k - (j - i)) = k by omega] at e1
  rw [show j - i + (k' - (j - i)) = k' by omega] at e2
  rw [e1, e2]
/-- Where a range belongs among ranges. -/
def place (xs : List (Int × Int)) (r : Int) : Nat := bsearch (fun i => decide (r ≤ (xs.getD i (0, 0)).1)) xs.length 0 xs.length
theorem place_le (xs : List (Int × Int)) (r : Int) : place xs r ≤ xs.length := (bsearch_in _ _ _ _ (by omega) (by omega)).2

theorem row_cell {g : Nat} {cur : Array Value} {xs : List (Int × Int)} {w : World} (hg : Blk g cur w) (hc : cur.toList.take (xs.length * 2) = flat xs) (i : Nat) (hi : i < xs.length) :
    w.cell? ⟨g, i * 2, none⟩ = some (.int .i64 (xs[i]'hi).1) ∧ w.cell? ⟨g, i * 2 + 1, none⟩ = some (.int .i64 (xs[i]'hi).2) := by
  have h := flat_at xs i hi
  rw [← hc] at h
  rw [List.getElem?_take_of_lt (by omega), List.getElem?_take_of_lt (by omega)] at h
  exact ⟨hg.cell _ _ (by simpa using h.1), hg.cell _ _ (by simpa using h.2)⟩

set_option maxHeartbeats 4000000 in
/-- The closure of search: its parameter, then what it captured. -/
theorem closure_any (c1 c2 g cap : Nat) (cur : Array Value) (xs : List (Int × Int)) (r0 : Int) (i : Nat) (hi : i < xs.length) (w : World)
    (h1 : w.cell? ⟨c1, 0, none⟩ = some (.slice (some ⟨g, 0, none⟩) xs.length cap)) (h2 : w.cell? ⟨c2, 0, none⟩ = some (.int .i64 r0))
    (hg : Blk g cur w) (hc : cur.toList.take (xs.length * 2) = flat xs) :
    Calls Try.prog 60 #[.int .i64 i, .pointer (some ⟨c1, 0, none⟩), .pointer (some ⟨c2, 0, none⟩)] w (fun e w' => e = .returned (.bool (decide (r0 ≤ (xs[i]'hi).1))) ∧ w' = w.drew) := by
  have hx := (row_cell hg hc i hi).1
  have b0 : decide ((i : Int) < (xs.length : Int)) = true := decide_eq_true (by omega)
  have hb : (i : Int) < (xs.length : Int) := by omega
  generalize (xs[i]'hi).1 = y at *
  clear hc hg
  go_enter Try.func60, Try.ntmps60
  go_upto_region 1 with (fail)
  go_region
  all_goals go_wp2
  all_goals go_ret
  all_goals exact ⟨rfl, rfl⟩

def isAt (xs : List (Int × Int)) (r : Int) (i : Nat) : Bool := decide (r ≤ (xs.getD i (0, 0)).1)
set_option maxHeartbeats 4000000 in
theorem sort_any (c1 c2 g cap : Nat) (cur : Array Value) (xs : List (Int × Int)) (r0 : Int) (w : World) (hn : xs.length ≤ 1000000)
    (h1 : w.cell? ⟨c1, 0, none⟩ = some (.slice (some ⟨g, 0, none⟩) xs.length cap)) (h2 : w.cell? ⟨c2, 0, none⟩ = some (.int .i64 r0))
    (hg : Blk g cur w) (hc : cur.toList.take (xs.length * 2) = flat xs) :
    Calls Try.prog 59 #[.int .i64 xs.length, .func (.func 60) #[] #[.pointer (some ⟨c1, 0, none⟩), .pointer (some ⟨c2, 0, none⟩)]] w (fun e w' => e = .returned (.int .i64 (place xs r0 : Nat)) ∧ ∃ k, w' = w.drewN k) := by
  have H1 := Lib.hid h1; have H2 := Lib.hid h2; have HG := Lib.hid hg; have HC := Lib.hid hc
  clear h1 h2 hg hc
  go_enter Try.func59, Try.ntmps59
  go_wp2
  go_loopw [5, 6] (fun v5 v6 w' => ∃ i j k : Nat, v5 = .int .i64 i ∧ v6 = .int .i64 j ∧ i ≤ j ∧ j ≤ xs.length ∧ bsearch (isAt xs r0) (j - i) i j = place xs r0 ∧ w' = w.drewN k) (fun v5 v6 _ => (intOf v6).toNat - (intOf v5).toNat)
  case atStart => exact ⟨0, xs.length, 0, rfl, rfl, by omega, by omega, rfl, rfl⟩
  case round =>
    obtain ⟨i, j, k, rfl, rfl, hij, hjn, hb, rfl⟩ := hrel
    have HB := Lib.hid hb; clear hb
    by_cases hlt : i < j
    · have b0 : decide ((i : Int) < (j : Int)) = true := decide_eq_true (by omega)
      go_upto_region 4 with (fail)
      obtain ⟨m, hm⟩ : ∃ m : Nat, ((i : Int) + (j : Int)) / 2 = (m : Int) := ⟨(i + j) / 2, by omega⟩
      rw [hm]
      have hm2 : m = (i + j) / 2 := by omega
      have HM := Lib.hid hm2
      have hmi : i ≤ m ∧ m < j := by omega
      have HI := Lib.hid hmi
      have hstep : bsearch (isAt xs r0) (j - i) i j = if isAt xs r0 m = true then bsearch (isAt xs r0) (m - i) i m else bsearch (isAt xs r0) (j - (m + 1)) (m + 1) j := by
        obtain ⟨d, hd⟩ : ∃ d, j - i = d + 1 := ⟨j - i - 1, by omega⟩
        rw [hd, bsearch, if_pos hlt, ← hm2]
        split
        · exact bsearch_enough _ _ _ _ _ (by omega) (by omega)
        · exact bsearch_enough _ _ _ _ _ (by omega) (by omega)
      have HS := Lib.hid hstep
      clear hm hm2 hmi hstep
      have hbk : Below w.heap.size w (w.drewN k) := pw_below_drewN (Below.refl _ _) k
      have hcl : Calls Try.prog 60 #[.int .i64 m, .pointer (some ⟨c1, 0, none⟩), .pointer (some ⟨c2, 0, none⟩)] (w.drewN k) (fun e w' => e = .returned (.bool (isAt xs r0 m)) ∧ w' = (w.drewN k).drew) := by
        have hml : m < xs.length := by have := HI.out; omega
        have h := closure_any c1 c2 g cap cur xs r0 m hml (w.drewN k) ((hbk.cell (World.block_lt_of_cell? w _ H1.out)).trans H1.out) ((hbk.cell (World.block_lt_of_cell? w _ H2.out)).trans H2.out) ((hbk.block g HG.out.lt).trans HG.out) HC.out
        have e : isAt xs r0 m = decide (r0 ≤ (xs[m]'hml).1) := by
          unfold isAt; rw [List.getD_eq_getElem?_getD, List.getElem?_eq_getElem hml]; rfl
        rw [e]; exact h
      have HCL := Lib.hid hcl
      clear hcl hbk
      by_cases hq : isAt xs r0 m = true
      · have HS2 := HS.out
        rw [if_pos hq] at HS2
        have HS3 := Lib.hid HS2
        clear HS2
        go_wp2_with (go_at_call 60; (with_reducible refine (HCL.out).mono ?_); rintro e w1 ⟨rfl, rfl⟩)
        go_roundw
        case rel => exact ⟨i, m, k + 1, rfl, rfl, HI.out.1, by have := HI.out; omega, HS3.out ▸ HB.out, rfl⟩
        case measure => have := HI.out; simp [intOf]; omega
      · have HS2 := HS.out
        rw [if_neg hq] at HS2
        have HS3 := Lib.hid HS2
        clear HS2
        have hq' : isAt xs r0 m = false := by simpa using hq
        clear hq
        go_wp2_with (go_at_call 60; (with_reducible refine (HCL.out).mono ?_); rintro e w1 ⟨rfl, rfl⟩)
        have hw : wrap64 ((m : Int) + 1) = ((m + 1 : Nat) : Int) := by have := HI.out; unfold wrap64; omega
        go_roundw
        case rel => exact ⟨m + 1, j, k + 1, by rw [hw], rfl, by have := HI.out; omega, hjn, HS3.out ▸ HB.out, rfl⟩
        case measure => rw [hw]; have := HI.out; simp [intOf]; omega
    · have b0 : decide ((i : Int) < (j : Int)) = false := decide_eq_false (by omega)
      go_wp2
      go_ret
      have : i = j := by omega
      subst this
      have h := HB.out
      rw [Nat.sub_self] at h
      exact ⟨by rw [← h]; rfl, k, rfl⟩

theorem hmf : ∀ (fn : Fn) (first cap : Array Value) (w : World), (Instr.makeFunc fn first cap).run Try.prog w = .ok (.func fn first cap) w := fun _ _ _ _ => rfl
set_option maxHeartbeats 4000000 in
theorem search_any (g cap : Nat) (cur : Array Value) (xs : List (Int × Int)) (r0 r1 : Int) (w : World) (hn : xs.length ≤ 1000000)
    (hg : Blk g cur w) (hc : cur.toList.take (xs.length * 2) = flat xs) :
    Calls Try.prog 55 #[.slice (some ⟨g, 0, none⟩) xs.length cap, .agg #[.int .i64 r0, .int .i64 r1]] w (fun e w' => e = .returned (.int .i64 (place xs r0 : Nat)) ∧ Below w.heap.size w w') := by
  have hm := hmf
  have HG := Lib.hid hg; have HC := Lib.hid hc
  have hlt := hg.lt
  clear hg hc
  have hbx : Below w.heap.size w ((w.alloc (.cells #[.slice (some ⟨g, 0, none⟩) xs.length cap] 55)).alloc (.cells #[.int .i64 r0, .int .i64 r1] 61)) := (((Below.refl _ _).alloc (Nat.le_refl _) _).alloc (by simp) _)
  have HBX := Lib.hid hbx
  have hso := sort_any w.heap.size (w.heap.size + 1) g cap cur xs r0 ((w.alloc (.cells #[.slice (some ⟨g, 0, none⟩) xs.length cap] 55)).alloc (.cells #[.int .i64 r0, .int .i64 r1] 61)) hn (by simp [go_sem]) (by simp [go_sem]) ((hbx.block g hlt).trans HG.out) HC.out
  have HSO := Lib.hid hso
  clear hso hbx
  go_enter Try.func55, Try.ntmps55
  go_wp2_with (go_at_call 59; (with_reducible refine (HSO.out).mono ?_); rintro e w1 ⟨rfl, k, rfl⟩)
  go_ret
  exact ⟨rfl, pw_below_drewN HBX.out k⟩
theorem sort_none (f : Value) (w : World) : Calls Try.prog 59 #[.int .i64 0, f] w (fun e w' => e = .returned (.int .i64 0) ∧ w' = w) := by
  go_enter Try.func59, Try.ntmps59
  go_wp2
  go_loopw [5, 6] (fun v5 v6 w' => v5 = .int .i64 0 ∧ v6 = .int .i64 0 ∧ w' = w) (fun _ _ _ => 0)
  case atStart => exact ⟨rfl, rfl, rfl⟩
  case round =>
    obtain ⟨rfl, rfl, rfl⟩ := hrel
    go_wp2
    go_ret
    exact ⟨rfl, rfl⟩
set_option maxHeartbeats 4000000 in
theorem search_nil (r0 r1 : Int) (w : World) :
    Calls Try.prog 55 #[.slice none 0 0, .agg #[.int .i64 r0, .int .i64 r1]] w (fun e w' => e = .returned (.int .i64 0) ∧ Below w.heap.size w w') := by
  have hm := hmf
  go_enter Try.func55, Try.ntmps55
  go_wp2_with (go_at_call 59; (with_reducible refine (sort_none _ _).mono ?_); rintro e w1 ⟨rfl, rfl⟩)
  go_ret
  exact ⟨rfl, (((Below.refl _ _).alloc (Nat.le_refl _) _).alloc (by simp) _)⟩
end Go.Proofs.Ytfegihmnpcjdgaa.Rang

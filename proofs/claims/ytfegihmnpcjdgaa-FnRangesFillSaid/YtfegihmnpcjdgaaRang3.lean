import Derived.Test.YtfegihmnpcjdgaaRang2
namespace Go.Proofs.Ytfegihmnpcjdgaa.Rang
open Go.RowKit Go.Proofs.YtfegihmnpcjdgaaW.PrintWords
set_option linter.unusedVariables false

/-- The element at a place. -/
def el (xs : List (Int × Int)) (i : Nat) : Int × Int := xs.getD i (0, 0)
theorem el_get (xs : List (Int × Int)) (i : Nat) (h : i < xs.length) : xs[i]'h = el xs i := by
  unfold el; rw [List.getD_eq_getElem?_getD, List.getElem?_eq_getElem h]; rfl
theorem flat_set (xs : List (Int × Int)) (i : Nat) (h : i < xs.length) (p : Int × Int) : flat (xs.set i p) = ((flat xs).set (i * 2 + 1) (.int .i64 p.2)).set (i * 2) (.int .i64 p.1) := by
  induction xs generalizing i with
  | nil => simp at h
  | cons a l ih =>
    cases i with
    | zero => rfl
    | succ i =>
      have := ih i (by simpa using h)
      have e : flat (a :: l) = .int .i64 a.1 :: .int .i64 a.2 :: flat l := rfl
      have e2 : flat ((a :: l).set (i + 1) p) = .int .i64 a.1 :: .int .i64 a.2 :: flat (l.set i p) := rfl
      rw [e, e2, show (i + 1) * 2 + 1 = i * 2 + 1 + 1 + 1 by omega, show (i + 1) * 2 = i * 2 + 1 + 1 by omega, this]
      rfl

/-- A row of ranges in a block of its own. -/
def Row (g cap : Nat) (xs : List (Int × Int)) (w : World) : Prop :=
  ∃ cur : Array Value, Blk g cur w ∧ cur.toList.take (xs.length * 2) = flat xs ∧ xs.length ≤ cap ∧ cur.size = cap * 2
theorem Row.lt {g cap : Nat} {xs : List (Int × Int)} {w : World} (h : Row g cap xs w) : g < w.heap.size := by obtain ⟨_, h, _⟩ := h; exact h.lt
theorem Row.le {g cap : Nat} {xs : List (Int × Int)} {w : World} (h : Row g cap xs w) : xs.length ≤ cap := by obtain ⟨_, _, _, h, _⟩ := h; exact h
theorem Row.of_heap {g cap : Nat} {xs : List (Int × Int)} {w w' : World} (h : Row g cap xs w) (e : w'.heap[g]? = w.heap[g]?) : Row g cap xs w' := by
  obtain ⟨cur, hb, h1, h2, h3⟩ := h
  exact ⟨cur, e.trans hb, h1, h2, h3⟩
theorem take_set_row {cur : Array Value} {n i : Nat} {v : Value} : (cur.setIfInBounds i v).toList.take n = (cur.toList.take n).set i v := by
  rw [Array.toList_setIfInBounds, List.take_set]
theorem Row.set {g cap : Nat} {xs : List (Int × Int)} {w' : World} {cur : Array Value} (hl : cur.toList.take (xs.length * 2) = flat xs) (hc : xs.length ≤ cap) (hs : cur.size = cap * 2) (i : Nat) (hi : i < xs.length) (p : Int × Int)
    (h : Blk g ((cur.setIfInBounds (i * 2 + 1) (.int .i64 p.2)).setIfInBounds (i * 2) (.int .i64 p.1)) w') : Row g cap (xs.set i p) w' := by
  refine ⟨_, h, ?_, by simpa using hc, by simpa using hs⟩
  rw [List.length_set, take_set_row, take_set_row, hl, flat_set xs i hi]

/-- May one range be merged into the next? -/
def can (p q : Int × Int) : Bool := !decide (en p < q.1)
/-- The row behind a merge of element j into the next one. -/
def merged (xs : List (Int × Int)) (j : Nat) : List (Int × Int) := if can (el xs j) (el xs (j + 1)) then xs.set (j + 1) (mg (el xs j) (el xs (j + 1))) else xs
theorem merged_len (xs : List (Int × Int)) (j : Nat) : (merged xs j).length = xs.length := by unfold merged; split <;> simp

theorem merge_row (g cap : Nat) (xs : List (Int × Int)) (j : Nat) (hj : j + 1 < xs.length) (w : World) (h : Row g cap xs w) :
    Calls Try.prog 57 #[.pointer (some ⟨g, j * 2, none⟩), .pointer (some ⟨g, (j + 1) * 2, none⟩)] w fun e w' => e = .returned (.bool (can (el xs j) (el xs (j + 1)))) ∧ Only g w w' ∧ Row g cap (merged xs j) w' := by
  obtain ⟨cur, hb, hl, hc, hs⟩ := h
  have f0 := flat_at xs j (by omega)
  have f1 := flat_at xs (j + 1) hj
  rw [← hl, List.getElem?_take_of_lt (by omega), List.getElem?_take_of_lt (by omega), el_get] at f0
  rw [← hl, List.getElem?_take_of_lt (by omega), List.getElem?_take_of_lt (by omega), el_get] at f1
  refine (merge_any g (j * 2) g ((j + 1) * 2) cur cur (el xs j).1 (el xs j).2 (el xs (j + 1)).1 (el xs (j + 1)).2 w hb hb (by simpa using f0.1) (by simpa using f0.2) (by simpa using f1.1) (by simpa using f1.2) (fun _ => by omega)).mono ?_
  rintro e w' ⟨rfl, ho, hb'⟩
  refine ⟨rfl, ho, ?_⟩
  by_cases hm : en (el xs j) < (el xs (j + 1)).1
  · rw [if_pos (show wrap64 ((el xs j).1 + (el xs j).2) < (el xs (j + 1)).1 from hm)] at hb'
    have : merged xs j = xs := by simp [merged, can, hm]
    rw [this]
    exact ⟨cur, hb', hl, hc, hs⟩
  · rw [if_neg (show ¬ wrap64 ((el xs j).1 + (el xs j).2) < (el xs (j + 1)).1 from hm)] at hb'
    have : merged xs j = xs.set (j + 1) (mg (el xs j) (el xs (j + 1))) := by
      unfold merged can; rw [decide_eq_false hm]; rfl
    rw [this]
    exact Row.set hl hc hs (j + 1) hj (mg (el xs j) (el xs (j + 1))) hb'

/-- A range of a variable of its own, merged into an element. -/
theorem merge_new (b g cap : Nat) (r : Int × Int) (xs : List (Int × Int)) (j : Nat) (hj : j < xs.length) (w : World) (hr : Blk b #[.int .i64 r.1, .int .i64 r.2] w) (h : Row g cap xs w) (hne : b ≠ g) :
    Calls Try.prog 57 #[.pointer (some ⟨b, 0, none⟩), .pointer (some ⟨g, j * 2, none⟩)] w fun e w' => e = .returned (.bool (can r (el xs j))) ∧ Only g w w' ∧ Row g cap (if can r (el xs j) then xs.set j (mg r (el xs j)) else xs) w' := by
  obtain ⟨cur, hb, hl, hc, hs⟩ := h
  have f1 := flat_at xs j hj
  rw [← hl, List.getElem?_take_of_lt (by omega), List.getElem?_take_of_lt (by omega), el_get] at f1
  refine (merge_any b 0 g (j * 2) #[.int .i64 r.1, .int .i64 r.2] cur r.1 r.2 (el xs j).1 (el xs j).2 w hr hb rfl rfl (by simpa using f1.1) (by simpa using f1.2) (fun e => absurd e hne)).mono ?_
  rintro e w' ⟨rfl, ho, hb'⟩
  refine ⟨rfl, ho, ?_⟩
  by_cases hm : en r < (el xs j).1
  · rw [if_pos (show wrap64 (r.1 + r.2) < (el xs j).1 from hm)] at hb'
    rw [if_neg (by simp [can, hm])]
    exact ⟨cur, hb', hl, hc, hs⟩
  · rw [if_neg (show ¬ wrap64 (r.1 + r.2) < (el xs j).1 from hm)] at hb'
    rw [if_pos (by unfold can; rw [decide_eq_false hm]; rfl)]
    exact Row.set hl hc hs j hj (mg r (el xs j)) hb'

/-- The row behind the merges from element j on, and where they end. -/
def runs : Nat → List (Int × Int) → Nat → List (Int × Int) × Nat
  | 0, xs, j => (xs, j)
  | k + 1, xs, j => if j + 1 < xs.length then (if can (el xs j) (el xs (j + 1)) then runs k (merged xs j) (j + 1) else (xs, j)) else (xs, j)
/-- What coalesce makes of a row, at a place. -/
def coal (xs : List (Int × Int)) (i : Nat) : List (Int × Int) :=
  let s := if 0 < i ∧ can (el xs (i - 1)) (el xs i) then (merged xs (i - 1), i - 1) else (xs, i)
  let t := runs xs.length s.1 i
  t.1.take s.2 ++ t.1.drop t.2
end Go.Proofs.Ytfegihmnpcjdgaa.Rang

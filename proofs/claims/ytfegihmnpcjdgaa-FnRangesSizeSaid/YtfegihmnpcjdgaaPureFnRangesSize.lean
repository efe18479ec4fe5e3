/- A set's size is how many bytes it has; what it has in common with a range, and what of that is not there, make up the range. -/
import Derived.Test.YtfegihmnpcjdgaaPFnRangesSizex5
import Derived.Test.YtfegihmnpcjdgaaMarksPure
namespace Go.Proofs.Ytfegihmnpcjdgaa.Pure
open Go.RowKit Go.Proofs.Ytfegihmnpcjdgaa.PFnRangesSize Go.Proofs.YtfegihmnpcjdgaaW.PrintWords Go.Proofs.YtfegihmnpcjdgaaW.PrintLast Go.Proofs.YtfegihmnpcjdgaaW.PrintMore Go.Proofs.Ytfegihmnpcjdgaa.Rang
set_option linter.unusedVariables false
set_option linter.unusedSimpArgs false
theorem wr (i n : Nat) (h : i < n) (hn : n ≤ 4000000000000000000) : wrap64 ((i : Int) + 1) = ((i + 1 : Nat) : Int) := by unfold wrap64; omega
/-- Is a range near enough, as the statement asks? -/
def In (p : Int × Int) : Prop := -1099511627776 ≤ p.2 ∧ p.2 ≤ 1099511627776 ∧ -1099511627776 ≤ p.1 ∧ p.1 ≤ 1099511627776
theorem In.near {p : Int × Int} (h : In p) : Near p := by unfold In at h; unfold Near Rang.Good; omega
theorem rangeIn_is (a b : Int) : ∃ t, spec_RangeIn.f a b = some t ∧ (t = true → In (a, b)) := by
  unfold spec_RangeIn.f In
  split
  · split
    · split
      · refine ⟨_, rfl, fun h => ?_⟩
        have := of_decide_eq_true h
        simp only; omega
      · exact ⟨false, rfl, fun h => by cases h⟩
    · exact ⟨false, rfl, fun h => by cases h⟩
  · exact ⟨false, rfl, fun h => by cases h⟩
theorem In.good {r : Int × Int} (h : In r) (h0 : 0 ≤ r.2) : r.2 = 0 ∨ Rang.Good r := by unfold In at h; unfold Rang.Good; omega
theorem awake : Ev (fun k => laws_rangeAwake.f k) true := Ev.of laws_rangeAwake.mono (k := 20) (by decide +kernel)
def p28 (x : S28) : Int × Int := (x.f0, x.f1)
def p61 (x : S61) : Int × Int := (x.f0, x.f1)
def m28 (p : Int × Int) : S28 := ⟨p.1, p.2⟩
def m61 (p : Int × Int) : S61 := ⟨p.1, p.2⟩
theorem p28_m28 (p : Int × Int) : p28 (m28 p) = p := rfl
theorem m28_p28 (x : S28) : m28 (p28 x) = x := rfl
theorem p61_m61 (p : Int × Int) : p61 (m61 p) = p := rfl
theorem map_p28_m28 (l : List (Int × Int)) : (l.map m28).map p28 = l := by rw [List.map_map]; exact List.map_id l
theorem map_m28_p28 (l : List S28) : (l.map p28).map m28 = l := by rw [List.map_map]; exact List.map_id l
theorem map_p61_m61 (l : List (Int × Int)) : (l.map m61).map p61 = l := by rw [List.map_map]; exact List.map_id l
theorem rd61 (l : List S61) (i : Nat) (h : i < l.length) : rd_T61 l (i : Int) = l[i]'h := by
  unfold rd_T61; rw [Int.toNat_natCast, List.getD_eq_getElem?_getD, List.getElem?_eq_getElem h]; rfl
theorem rd28 (l : List S28) (i : Nat) (h : i < l.length) : rd_T28 l (i : Int) = l[i]'h := by
  unfold rd_T28; rw [Int.toNat_natCast, List.getD_eq_getElem?_getD, List.getElem?_eq_getElem h]; rfl
theorem eq28 (x y : S28) : (((x.f0 == y.f0) && (x.f1 == y.f1)) = true) ↔ x = y := by
  obtain ⟨a, b⟩ := x; obtain ⟨c, d⟩ := y
  simp

theorem rangesIn_loop (l : List S28) (hn : l.length ≤ 2147483647) : ∀ (d k i : Nat), l.length - i = d → d < k → i ≤ l.length → ∃ t, spec_RangesIn.l0 k l l (l.length : Int) (i : Int) = some t ∧ (t = true → (∀ j (h : j < l.length), i ≤ j → In (p28 (l[j]'h))) ∧ l.length ≤ 60) := by
  intro d
  induction d with
  | zero =>
    intro k i hd hk hi
    obtain ⟨k, rfl⟩ : ∃ m, k = m + 1 := ⟨k - 1, by omega⟩
    simp only [spec_RangesIn.l0]
    rw [if_neg (by omega)]
    exact ⟨_, rfl, fun h => ⟨fun j hj hij => by omega, by have := of_decide_eq_true h; omega⟩⟩
  | succ d ih =>
    intro k i hd hk hi
    obtain ⟨k, rfl⟩ : ∃ m, k = m + 1 := ⟨k - 1, by omega⟩
    simp only [spec_RangesIn.l0]
    rw [if_pos (by omega), if_pos (by omega), if_pos (by omega), rd28 l i (by omega), wr i l.length (by omega) (by omega)]
    obtain ⟨t, ht, hin⟩ := rangeIn_is (l[i]'(by omega)).f0 (l[i]'(by omega)).f1
    rw [ht, Option.bind_some]
    cases t with
    | false => exact ⟨false, by simp, fun h => by cases h⟩
    | true =>
      rw [if_pos rfl]
      obtain ⟨t, ht2, h2⟩ := ih k (i + 1) (by omega) (by omega) (by omega)
      refine ⟨t, ht2, fun h => ⟨fun j hj hij => ?_, (h2 h).2⟩⟩
      rcases Nat.lt_or_eq_of_le hij with h3 | rfl
      · exact (h2 h).1 j hj h3
      · exact hin rfl
theorem rangesIn_is (l : List S28) (hn : l.length ≤ 2147483647) : ∃ t, Ev (fun k => spec_RangesIn.f k l) t ∧ (t = true → (∀ p ∈ l.map p28, In p) ∧ l.length ≤ 60) := by
  obtain ⟨t, ht, h⟩ := rangesIn_loop l hn l.length (l.length + 1) 0 (by omega) (by omega) (by omega)
  refine ⟨t, Ev.of (spec_RangesIn.mono l) (k := l.length + 1) ht, fun hh => ⟨fun p hp => ?_, (h hh).2⟩⟩
  obtain ⟨x, hx, rfl⟩ := List.mem_map.1 hp
  obtain ⟨j, hj, rfl⟩ := List.getElem_of_mem hx
  exact (h hh).1 j hj (by omega)
theorem tellAll_loop (l : List S61) (hn : l.length ≤ 2000000) : ∀ (d k i : Nat) (acc : List S28), l.length - i = d → d < k → i ≤ l.length → acc.length = i →
    impl_tellAll.l0 k acc l (l.length : Int) (i : Int) = some (acc ++ (l.drop i).map fun x => m28 (p61 x)) := by
  intro d
  induction d with
  | zero =>
    intro k i acc hd hk hi ha
    obtain ⟨k, rfl⟩ : ∃ m, k = m + 1 := ⟨k - 1, by omega⟩
    simp only [impl_tellAll.l0]
    rw [if_neg (by omega), List.drop_of_length_le (by omega)]
    simp
  | succ d ih =>
    intro k i acc hd hk hi ha
    obtain ⟨k, rfl⟩ : ∃ m, k = m + 1 := ⟨k - 1, by omega⟩
    simp only [impl_tellAll.l0]
    rw [if_pos (by omega), if_pos (by omega), if_pos (by omega), rd61 l i (by omega), wr i l.length (by omega) (by omega)]
    simp only [impl_told.f, Option.bind_some]
    rw [if_pos (by omega), ih k (i + 1) _ (by omega) (by omega) (by omega) (by simp; omega)]
    rw [List.drop_eq_getElem_cons (show i < l.length by omega), List.map_cons, List.append_assoc]
    rfl
theorem tellAll_is (l : List S61) (hn : l.length ≤ 2000000) : Ev (fun k => impl_tellAll.f k l) (l.map fun x => m28 (p61 x)) := by
  refine Ev.of (impl_tellAll.mono l) (k := l.length + 1) ?_
  have h := tellAll_loop l hn l.length (l.length + 1) 0 [] (by omega) (by omega) (by omega) rfl
  unfold impl_tellAll.f
  simpa using h
theorem inserted_is (l : List S28) (hn : l.length ≤ 800000) : impl_inserted.f l = some ((setOf (l.map p28)).map m61) := by
  unfold impl_inserted.f; rw [if_pos hn]; rfl
theorem setOf_len (l : List (Int × Int)) : (setOf l).length ≤ l.length := by have := fold_len l []; unfold setOf; simpa using this
theorem rangesOf_is (l : List S28) (hn : l.length ≤ 800000) : Ev (fun k => impl_RangesOf.f k l) ((setOf (l.map p28)).map m28) := by
  have hl := setOf_len (l.map p28)
  rw [List.length_map] at hl
  have h := tellAll_is ((setOf (l.map p28)).map m61) (by rw [List.length_map]; omega)
  have e : ((setOf (l.map p28)).map m61).map (fun x => m28 (p61 x)) = (setOf (l.map p28)).map m28 := by rw [List.map_map]; rfl
  rw [e] at h
  unfold impl_RangesOf.f
  refine Ev.congr (f := fun k => (impl_tellAll.f k ((setOf (l.map p28)).map m61)).bind fun t => some t) (fun k => by rw [inserted_is l hn]; rfl) ?_
  exact Ev.bind h (Ev.now _)
theorem same_loop (l m : List S28) (hlm : l.length = m.length) (hn : l.length ≤ 2147483647) : ∀ (d k i : Nat), l.length - i = d → d < k → i ≤ l.length →
    ∃ t, spec_RangesSame.l0 k l m (l.length : Int) (i : Int) = some t ∧ (t = true ↔ l.drop i = m.drop i) := by
  intro d
  induction d with
  | zero =>
    intro k i hd hk hi
    obtain ⟨k, rfl⟩ : ∃ m, k = m + 1 := ⟨k - 1, by omega⟩
    simp only [spec_RangesSame.l0]
    rw [if_neg (by omega), List.drop_of_length_le (by omega), List.drop_of_length_le (by omega)]
    exact ⟨true, rfl, by simp⟩
  | succ d ih =>
    intro k i hd hk hi
    obtain ⟨k, rfl⟩ : ∃ m, k = m + 1 := ⟨k - 1, by omega⟩
    simp only [spec_RangesSame.l0]
    rw [if_pos (by omega), if_pos (by omega), if_pos (by omega), if_pos (by omega), rd28 l i (by omega), rd28 m i (by omega), wr i l.length (by omega) (by omega)]
    rw [List.drop_eq_getElem_cons (show i < l.length by omega), List.drop_eq_getElem_cons (show i < m.length by omega)]
    by_cases he : l[i]'(by omega) = m[i]'(by omega)
    · rw [he]
      simp only [beq_self_eq_true, Bool.not_true, Bool.or_false, Bool.false_eq_true, if_false]
      obtain ⟨t, ht, h⟩ := ih k (i + 1) (by omega) (by omega) (by omega)
      exact ⟨t, ht, h.trans ⟨fun h => by rw [h], fun h => (List.cons.inj h).2⟩⟩
    · have hb : ((((l[i]'(by omega)).f0 == (m[i]'(by omega)).f0) && ((l[i]'(by omega)).f1 == (m[i]'(by omega)).f1)) = true) → False := fun h => he ((eq28 _ _).1 h)
      have hb2 : (!((l[i]'(by omega)).f0 == (m[i]'(by omega)).f0) || !((l[i]'(by omega)).f1 == (m[i]'(by omega)).f1)) = true := by
        cases h1 : ((l[i]'(by omega)).f0 == (m[i]'(by omega)).f0) <;> cases h2 : ((l[i]'(by omega)).f1 == (m[i]'(by omega)).f1) <;> simp [h1, h2] at hb ⊢
      rw [if_pos hb2]
      exact ⟨false, rfl, fun h => (by cases h), fun h => absurd (List.cons.inj h).1 he⟩
/-- Two lists are told to be the same just if they are. -/
theorem same_is (l m : List S28) (hn : l.length ≤ 2147483647) : ∃ t, Ev (fun k => spec_RangesSame.f k l m) t ∧ (t = true ↔ l = m) := by
  by_cases hlm : l.length = m.length
  · obtain ⟨t, ht, h⟩ := same_loop l m hlm hn l.length (l.length + 1) 0 (by omega) (by omega) (by omega)
    refine ⟨t, Ev.of (spec_RangesSame.mono l m) (k := l.length + 1) ?_, by simpa using h⟩
    unfold spec_RangesSame.f
    rw [if_pos (by omega)]; exact ht
  · refine ⟨false, Ev.of (spec_RangesSame.mono l m) (k := 0) ?_, ?_⟩
    · unfold spec_RangesSame.f
      rw [if_neg (by omega)]
    · constructor
      · intro h; cases h
      · intro h; rw [h] at hlm; exact absurd rfl hlm
theorem same_self (l : List S28) (hn : l.length ≤ 2147483647) : Ev (fun k => spec_RangesSame.f k l l) true := by
  obtain ⟨t, ht, h⟩ := same_is l l hn
  rw [h.2 rfl] at ht; exact ht
theorem rangeAsk_is (a b : Int) : ∃ t, spec_RangeAsk.f a b = some t ∧ (t = true → In (a, b) ∧ 0 ≤ b) := by
  obtain ⟨t, ht, h⟩ := rangeIn_is a b
  unfold spec_RangeAsk.f
  rw [ht, Option.bind_some]
  cases t with
  | false => exact ⟨false, by simp, fun h => by cases h⟩
  | true => exact ⟨_, rfl, fun hh => ⟨h rfl, by have := of_decide_eq_true hh; omega⟩⟩
/-! ### what is found -/
def m77 (x : (Int × Int) × Bool) : S77 := ⟨m61 x.1, x.2⟩
def m37 (x : (Int × Int) × Bool) : S37 := ⟨m28 x.1, x.2⟩
theorem rd77 (l : List S77) (i : Nat) (h : i < l.length) : rd_T77 l (i : Int) = l[i]'h := by
  unfold rd_T77; rw [Int.toNat_natCast, List.getD_eq_getElem?_getD, List.getElem?_eq_getElem h]; rfl
theorem rd37 (l : List S37) (i : Nat) (h : i < l.length) : rd_T37 l (i : Int) = l[i]'h := by
  unfold rd_T37; rw [Int.toNat_natCast, List.getD_eq_getElem?_getD, List.getElem?_eq_getElem h]; rfl
theorem find_f (xs : List (Int × Int)) (hn : xs.length ≤ 1000000) (r : Int × Int) : ranges_Ranges_Find.f (xs.map m61) r.1 r.2 = some ((find xs r).1.1, (find xs r).1.2, (find xs r).2.1.1, (find xs r).2.1.2, (find xs r).2.2) := by
  unfold ranges_Ranges_Find.f
  rw [if_pos (by rw [List.length_map]; exact hn)]
  have e : (xs.map m61).map (fun x => (x.f0, x.f1)) = xs := map_p61_m61 xs
  rw [e]
theorem findAll_loop (xs : List (Int × Int)) (h : Apart xs) (hn : xs.length ≤ 60) : ∀ (n : Nat) (r : Int × Int) (acc : List S77), (r.2 ≤ 0 ∨ Rang.Good r) → r.2 ≤ n → acc.length + (findAll xs n r).length ≤ 1000000 →
    Ev (fun k => ranges_Ranges_FindAll.l0 k (xs.map m61) acc r.1 r.2) (acc ++ (findAll xs n r).map m77) := by
  have stop : ∀ (r : Int × Int) (acc : List S77), r.2 ≤ 0 → Ev (fun k => ranges_Ranges_FindAll.l0 k (xs.map m61) acc r.1 r.2) acc := by
    intro r acc h0
    refine Ev.step (f := fun _ => some acc) (fun k => ?_) (Ev.now _)
    simp only [ranges_Ranges_FindAll.l0, ranges_Range_IsEmpty.f, Option.bind_some]
    rw [if_pos (decide_eq_true h0)]
  intro n
  induction n with
  | zero =>
    intro r acc hr hk hl
    have h0 : r.2 ≤ 0 := by omega
    have e : findAll xs 0 r = [] := rfl
    rw [e]; simpa using stop r acc h0
  | succ n ih =>
    intro r acc hr hk hl
    by_cases h0 : r.2 ≤ 0
    · have e : findAll xs (n + 1) r = [] := by unfold findAll; rw [if_pos h0]
      rw [e]; simpa using stop r acc h0
    · have hg := hr.resolve_left h0
      have f := find_is xs r h hg
      have ef : findAll xs (n + 1) r = ((find xs r).1, (find xs r).2.2) :: findAll xs n (find xs r).2.1 := by conv => lhs; unfold findAll; rw [if_neg h0]
      rw [ef] at hl ⊢
      have hff := find_f xs (by omega) r
      generalize find xs r = q at f hl hff ⊢
      obtain ⟨⟨c1, c2⟩, ⟨n1, n2⟩, p⟩ := q
      obtain ⟨e1, e2, e3, e4, e5⟩ := f
      simp only at e1 e2 e3 e4 e5 hff hl ⊢
      have ih2 := ih (n1, n2) (acc ++ [m77 ((c1, c2), p)]) (by
        rcases e5 with ⟨_, h⟩ | ⟨h1, h2, _⟩
        · left; simp only; omega
        · right; obtain ⟨rfl, rfl⟩ := Prod.mk.inj h2; unfold Rang.Good at hg ⊢; simp only; omega) (by
        rcases e5 with ⟨_, h⟩ | ⟨h1, h2, _⟩
        · simp only; omega
        · obtain ⟨rfl, rfl⟩ := Prod.mk.inj h2; simp only; omega) (by simp at hl ⊢; omega)
      have e : acc ++ List.map m77 (((c1, c2), p) :: findAll xs n (n1, n2)) = acc ++ [m77 ((c1, c2), p)] ++ List.map m77 (findAll xs n (n1, n2)) := by simp
      rw [e]
      refine Ev.step (fun k => ?_) ih2
      simp only [ranges_Ranges_FindAll.l0, ranges_Range_IsEmpty.f, Option.bind_some]
      rw [if_neg (by simpa using h0), hff, Option.bind_some, if_pos (by simp at hl; omega)]
      rfl
theorem tellFound_loop (l : List S77) (hn : l.length ≤ 2000000) : ∀ (d k i : Nat) (acc : List S37), l.length - i = d → d < k → i ≤ l.length → acc.length = i →
    impl_tellFound.l0 k acc l (l.length : Int) (i : Int) = some (acc ++ (l.drop i).map fun x => (⟨m28 (p61 x.f0), x.f1⟩ : S37)) := by
  intro d
  induction d with
  | zero =>
    intro k i acc hd hk hi ha
    obtain ⟨k, rfl⟩ : ∃ m, k = m + 1 := ⟨k - 1, by omega⟩
    simp only [impl_tellFound.l0]
    rw [if_neg (by omega), List.drop_of_length_le (by omega)]
    simp
  | succ d ih =>
    intro k i acc hd hk hi ha
    obtain ⟨k, rfl⟩ : ∃ m, k = m + 1 := ⟨k - 1, by omega⟩
    simp only [impl_tellFound.l0]
    rw [if_pos (by omega), if_pos (by omega), if_pos (by omega), rd77 l i (by omega), wr i l.length (by omega) (by omega)]
    simp only [impl_told.f, Option.bind_some]
    rw [if_pos (by omega), ih k (i + 1) _ (by omega) (by omega) (by omega) (by simp; omega)]
    rw [List.drop_eq_getElem_cons (show i < l.length by omega), List.map_cons, List.append_assoc]
    rfl
theorem tellFound_is (l : List ((Int × Int) × Bool)) (hn : l.length ≤ 2000000) : Ev (fun k => impl_tellFound.f k (l.map m77)) (l.map m37) := by
  refine Ev.of (impl_tellFound.mono _) (k := l.length + 1) ?_
  have h := tellFound_loop (l.map m77) (by rw [List.length_map]; exact hn) (l.map m77).length (l.length + 1) 0 [] (by omega) (by rw [List.length_map]; omega) (by omega) rfl
  unfold impl_tellFound.f
  have e : (l.map m77).map (fun x => (⟨m28 (p61 x.f0), x.f1⟩ : S37)) = l.map m37 := by rw [List.map_map]; rfl
  rw [List.nil_append, List.drop_zero, e] at h
  exact h
/-- All parts of a range, as they are found in the set of a list. -/
def parts (l : List (Int × Int)) (r : Int × Int) : List ((Int × Int) × Bool) := findAll (setOf l) r.2.toNat r
theorem parts_short {l : List (Int × Int)} (hl : ∀ p ∈ l, In p) (hn : l.length ≤ 60) {r : Int × Int} (hr : r.2 = 0 ∨ Rang.Good r) : (parts l r).length ≤ 121 := by
  have hlen := setOf_len l
  unfold parts
  rcases hr with h0 | hg
  · rw [show r.2.toNat = 0 by omega]; simp [findAll]
  · have hp := findAll_parts (setOf_apart (fun p hp => (hl p hp).near)) r.2.toNat r hg (by omega)
    have h := (parts_len hp).1
    have hc := List.countP_le_length (p := fun q : Int × Int => decide (r.1 < q.1 + q.2)) (l := setOf l)
    omega
theorem rangesFindAll_is (l : List S28) (hl : ∀ p ∈ l.map p28, In p) (hn : l.length ≤ 60) (r : Int × Int) (hr : r.2 = 0 ∨ Rang.Good r) : Ev (fun k => impl_RangesFindAll.f k l r.1 r.2) ((parts (l.map p28) r).map m37) := by
  have hlen := setOf_len (l.map p28)
  rw [List.length_map] at hlen
  have hs := parts_short hl (by rw [List.length_map]; exact hn) hr
  have h1 := findAll_loop (setOf (l.map p28)) (setOf_apart (fun p hp => (hl p hp).near)) (by omega) r.2.toNat r [] (hr.imp (fun h => by omega) id) (by omega) (by show 0 + (parts (l.map p28) r).length ≤ 1000000; omega)
  rw [List.nil_append] at h1
  unfold impl_RangesFindAll.f
  refine Ev.congr (f := fun k => (ranges_Ranges_FindAll.f k ((setOf (l.map p28)).map m61) r.1 r.2).bind fun t149 => ((impl_tellFound.f k t149).bind fun t152 => (some t152))) (fun k => by rw [inserted_is l (by omega)]; rfl) ?_
  exact Ev.bind h1 (Ev.bind (tellFound_is (parts (l.map p28) r) (by omega)) (Ev.now _))
/-! ### the reference's parts -/
theorem In.fit {p : Int × Int} (h : In p) : Marks.Fit p := h
theorem partsB_is {l : List (Int × Int)} (hl : ∀ p ∈ l, In p) {r : Int × Int} (hr : r.2 = 0 ∨ Rang.Good r) : Marks.partsB l r = parts l r := by
  rcases hr with hz | hg
  · unfold Marks.partsB parts
    rw [if_pos (by omega), show r.2.toNat = 0 by omega]; rfl
  · have hap : Apart (setOf l) := setOf_apart (fun p hp => (hl p hp).near)
    have h1 := Marks.partsB_parts (fun p hp => (hl p hp).fit) hg (by unfold Rang.Good at hg; omega)
    have h2 := findAll_parts hap r.2.toNat r hg (by omega)
    exact Parts.unique h1 (h2.imp (fun b => setOf_has (fun p hp => (hl p hp).near) b))
theorem rangeParts_is (l : List S28) (hl : ∀ p ∈ l.map p28, In p) (hn : l.length ≤ 1000) {r : Int × Int} (hr : r.2 = 0 ∨ Rang.Good r) : spec_RangeParts.f l r.1 r.2 = some ((parts (l.map p28) r).map m37) := by
  unfold spec_RangeParts.f
  rw [if_pos hn]
  have e : l.map (fun x => (x.f0, x.f1)) = l.map p28 := rfl
  rw [e, partsB_is hl hr]
  rfl
/-! ### the reference's sets -/
theorem cut_loop (ps : List S37) (hn : ps.length ≤ 2000000) : ∀ (d k i : Nat) (acc : List S28), ps.length - i = d → d < k → i ≤ ps.length → acc.length ≤ i →
    spec_RangesCut.l0 k acc ps (ps.length : Int) (i : Int) = some (acc ++ ((ps.drop i).filter (·.f1)).map (·.f0)) := by
  intro d
  induction d with
  | zero =>
    intro k i acc hd hk hi ha
    obtain ⟨k, rfl⟩ : ∃ m, k = m + 1 := ⟨k - 1, by omega⟩
    simp only [spec_RangesCut.l0]
    rw [if_neg (by omega), List.drop_of_length_le (by omega)]
    simp
  | succ d ih =>
    intro k i acc hd hk hi ha
    obtain ⟨k, rfl⟩ : ∃ m, k = m + 1 := ⟨k - 1, by omega⟩
    have hil : i < ps.length := by omega
    simp only [spec_RangesCut.l0]
    rw [if_pos (by omega), if_pos (by omega), if_pos (by omega), rd37 ps i hil, wr i ps.length hil (by omega)]
    rw [List.drop_eq_getElem_cons hil, List.filter_cons]
    by_cases hp : (ps[i]'hil).f1 = true
    · rw [if_pos hp, if_pos hp, if_pos (by omega), ih k (i + 1) _ (by omega) (by omega) (by omega) (by simp; omega)]
      rw [List.map_cons, List.append_assoc]
      rfl
    · rw [if_neg hp, if_neg hp, ih k (i + 1) acc (by omega) (by omega) (by omega) (by omega)]
theorem there_map (ps : List ((Int × Int) × Bool)) : ((ps.map m37).filter (·.f1)).map (·.f0) = (Marks.there ps).map m28 := by
  unfold Marks.there
  induction ps with
  | nil => rfl
  | cons x ps ih =>
    rw [List.map_cons, List.filter_cons, List.filter_cons]
    by_cases hx : x.2 = true
    · have h1 : (m37 x).f1 = true := hx
      rw [if_pos h1, if_pos hx, List.map_cons, List.map_cons, List.map_cons, ih]; rfl
    · have h1 : ¬ (m37 x).f1 = true := hx
      rw [if_neg h1, if_neg hx, ih]
theorem cut_is (l : List S28) (hl : ∀ p ∈ l.map p28, In p) (hn : l.length ≤ 60) {r : Int × Int} (hr : r.2 = 0 ∨ Rang.Good r) : Ev (fun k => spec_RangesCut.f k l r.1 r.2) ((Marks.there (parts (l.map p28) r)).map m28) := by
  have hs := parts_short hl (by rw [List.length_map]; exact hn) hr
  refine Ev.of (spec_RangesCut.mono _ _ _) (k := (parts (l.map p28) r).length + 1) ?_
  unfold spec_RangesCut.f
  rw [rangeParts_is l hl (by omega) hr, Option.bind_some]
  have h := cut_loop ((parts (l.map p28) r).map m37) (by rw [List.length_map]; omega) _ ((parts (l.map p28) r).length + 1) 0 [] rfl (by rw [List.length_map]; omega) (by omega) (Nat.le_refl _)
  rw [List.nil_append, List.drop_zero, there_map] at h
  exact h
theorem rdi (l : List Int) (i : Nat) (h : i < l.length) : rd l (i : Int) = l[i]'h := by
  unfold rd; rw [Int.toNat_natCast, List.getD_eq_getElem?_getD, List.getElem?_eq_getElem h]; rfl
/-- What the reference makes of a list is its set. -/
theorem whole_is (l : List S28) (hl : ∀ p ∈ l.map p28, In p) (hn : l.length ≤ 60) : Ev (fun k => spec_RangesWhole.f k l) ((setOf (l.map p28)).map m28) := by
  have hnear : ∀ p ∈ l.map p28, Near p := fun p hp => (hl p hp).near
  obtain ⟨m1, m2⟩ := Marks.marks_is hnear
  have hm : spec_rangeMarks.f l = some (Marks.marks (l.map p28)) := by unfold spec_rangeMarks.f; rw [if_pos (by omega)]; rfl
  have hml := Marks.marks_len (l.map p28) []
  have hml2 : (Marks.marks (l.map p28)).length ≤ 1000 := by unfold Marks.marks; simp at hml ⊢; omega
  unfold spec_RangesWhole.f
  rw [hm]
  simp only [Option.bind_some]
  generalize Marks.marks (l.map p28) = ms at m1 m2 hml2
  by_cases h0 : ms.length = 0
  · obtain rfl := List.eq_nil_of_length_eq_zero h0
    have hempty : setOf (l.map p28) = [] := by
      refine setOf_is hnear Apart.nil (fun b => ⟨fun h => absurd h (has_nil b), fun ⟨p, hp, g1, g2⟩ => ?_⟩)
      exact absurd ((m2 p.1).2 ⟨p, hp, by omega, .inl rfl⟩) (by simp)
    rw [hempty]
    exact Ev.congr (fun k => by simp) (Ev.now _)
  · have hpos : 0 < ms.length := by omega
    have hw : wrap64 ((ms.length : Int) - 1) = ((ms.length - 1 : Nat) : Int) := by unfold wrap64; omega
    have hf : rd ms 0 = ms[0]'hpos := rdi ms 0 hpos
    have hlast : rd ms ((ms.length - 1 : Nat) : Int) = ms[ms.length - 1]'(by omega) := rdi ms (ms.length - 1) (by omega)
    refine Ev.congr (f := fun k => (spec_RangesCut.f k l (rd ms 0) (wrap64 ((rd ms ((ms.length - 1 : Nat) : Int)) - (rd ms 0)))).bind fun t186 => (some t186)) (fun k => by rw [if_neg (by omega), if_pos (by omega), hw, if_pos (by omega), if_pos (by omega)]) ?_
    rw [hf, hlast]
    -- the first and the last
    have hbound : ∀ x ∈ ms, -2199023255552 ≤ x ∧ x ≤ 2199023255552 := by
      intro x hx
      obtain ⟨q, hq, _, h | h⟩ := (m2 x).1 hx
      · have := hl q hq; unfold In at this; omega
      · have := hl q hq; unfold In at this; omega
    have hfirst : ∀ x ∈ ms, ms[0]'hpos ≤ x := by
      intro x hx
      obtain ⟨i, hi, rfl⟩ := List.getElem_of_mem hx
      rcases Nat.eq_zero_or_pos i with rfl | hi0
      · exact Int.le_refl _
      · have := List.pairwise_iff_getElem.1 m1 0 i hpos hi hi0; omega
    have hend : ∀ x ∈ ms, x ≤ ms[ms.length - 1]'(by omega) := by
      intro x hx
      obtain ⟨i, hi, rfl⟩ := List.getElem_of_mem hx
      rcases Nat.lt_or_ge i (ms.length - 1) with hlt | hge
      · have := List.pairwise_iff_getElem.1 m1 i (ms.length - 1) hi (by omega) hlt; omega
      · have : i = ms.length - 1 := by omega
        subst this; exact Int.le_refl _
    have hb0 := hbound _ (List.getElem_mem hpos)
    have hbl := hbound _ (List.getElem_mem (show ms.length - 1 < ms.length by omega))
    have hfl := hfirst _ (List.getElem_mem (show ms.length - 1 < ms.length by omega))
    have hA : ms[0]'hpos ∈ ms := List.getElem_mem hpos
    generalize ms[0]'hpos = A at *
    generalize ms[ms.length - 1]'(by omega) = Z at *
    have hwz : wrap64 (Z - A) = Z - A := by unfold wrap64; omega
    rw [hwz]
    have hAZ : A < Z := by
      obtain ⟨q, hq, h1, _⟩ := (m2 A).1 hA
      have g1 := hfirst _ ((m2 q.1).2 ⟨q, hq, h1, .inl rfl⟩)
      have g2 := hend _ ((m2 (q.1 + q.2)).2 ⟨q, hq, h1, .inr rfl⟩)
      omega
    have hg : Rang.Good (A, Z - A) := by unfold Rang.Good; simp only; omega
    have hp := findAll_parts (setOf_apart hnear) (Z - A).toNat (A, Z - A) hg (by simp only; omega)
    obtain ⟨t1, _, _, t4⟩ := Marks.there_apart hp (by simp only; omega) (by simp only; omega)
    have hset : setOf (l.map p28) = Marks.there (parts (l.map p28) (A, Z - A)) := by
      refine setOf_is hnear t1 (fun b => ?_)
      refine (t4 b).trans ?_
      rw [setOf_has hnear]
      constructor
      · exact fun h => h.1
      · rintro ⟨q, hq, h1, h2⟩
        refine ⟨⟨q, hq, h1, h2⟩, ?_, ?_⟩
        · have := hfirst _ ((m2 q.1).2 ⟨q, hq, by omega, .inl rfl⟩); simp only; omega
        · have := hend _ ((m2 (q.1 + q.2)).2 ⟨q, hq, by omega, .inr rfl⟩); simp only; omega
    rw [hset]
    exact Ev.bind (cut_is l hl hn (r := (A, Z - A)) (.inr hg)) (Ev.now _)
/-! ### what a set has in common with a range -/
theorem cutF_is (xs : List (Int × Int)) (h : Apart xs) : ∀ (n : Nat) (r : Int × Int) (acc : List (Int × Int)), (r.2 ≤ 0 ∨ Rang.Good r) → r.2 ≤ n → acc.length + (findAll xs n r).length ≤ 800000 →
    Ev (fun k => cutF xs k r acc) ((Marks.there (findAll xs n r)).foldl ins acc) := by
  have stop : ∀ (r : Int × Int) (acc : List (Int × Int)), r.2 ≤ 0 → Ev (fun k => cutF xs k r acc) acc := fun r acc h0 => Ev.step (f := fun _ => some acc) (fun k => by unfold cutF; rw [if_pos h0]) (Ev.now _)
  intro n
  induction n with
  | zero => intro r acc hr hk hl; exact stop r acc (by omega)
  | succ n ih =>
    intro r acc hr hk hl
    by_cases h0 : r.2 ≤ 0
    · have e : findAll xs (n + 1) r = [] := by unfold findAll; rw [if_pos h0]
      rw [e]; exact stop r acc h0
    · have hg := hr.resolve_left h0
      have f := find_is xs r h hg
      have ef : findAll xs (n + 1) r = ((find xs r).1, (find xs r).2.2) :: findAll xs n (find xs r).2.1 := by conv => lhs; unfold findAll; rw [if_neg h0]
      rw [ef] at hl ⊢
      have hstep : ∀ k, cutF xs (k + 1) r acc = cutF xs k (find xs r).2.1 (if (find xs r).2.2 then ins acc (find xs r).1 else acc) := fun k => by
        conv => lhs; unfold cutF
        rw [if_neg h0, if_neg (by simp at hl; omega)]
      generalize find xs r = q at f hl hstep ⊢
      obtain ⟨⟨c1, c2⟩, ⟨n1, n2⟩, p⟩ := q
      obtain ⟨e1, e2, e3, e4, e5⟩ := f
      simp only at e1 e2 e3 e4 e5 hl hstep ⊢
      have hil := ins_len acc (c1, c2)
      have ih2 := ih (n1, n2) (if p = true then ins acc (c1, c2) else acc) (by
        rcases e5 with ⟨_, h⟩ | ⟨h1, h2, _⟩
        · left; simp only; omega
        · right; obtain ⟨rfl, rfl⟩ := Prod.mk.inj h2; unfold Rang.Good at hg ⊢; simp only; omega) (by
        rcases e5 with ⟨_, h⟩ | ⟨h1, h2, _⟩
        · simp only; omega
        · obtain ⟨rfl, rfl⟩ := Prod.mk.inj h2; simp only; omega) (by split <;> simp at hl ⊢ <;> omega)
      have e : (Marks.there (((c1, c2), p) :: findAll xs n (n1, n2))).foldl ins acc = (Marks.there (findAll xs n (n1, n2))).foldl ins (if p = true then ins acc (c1, c2) else acc) := by
        rw [Marks.there_cons]
        cases p <;> rfl
      rw [e]
      exact Ev.step hstep ih2
theorem there_is {l : List (Int × Int)} (hl : ∀ p ∈ l, In p) {r : Int × Int} (hr : r.2 = 0 ∨ Rang.Good r) : Apart (Marks.there (parts l r)) ∧ ∀ b, Has (Marks.there (parts l r)) b ↔ Has l b ∧ r.1 ≤ b ∧ b < r.1 + r.2 := by
  have hnear : ∀ p ∈ l, Near p := fun p hp => (hl p hp).near
  rcases hr with hz | hg
  · have e : parts l r = [] := by unfold parts; rw [show r.2.toNat = 0 by omega]; rfl
    rw [e]
    exact ⟨Apart.nil, fun b => ⟨fun h => absurd h (has_nil b), fun h => by omega⟩⟩
  · have hp := findAll_parts (setOf_apart hnear) r.2.toNat r hg (by omega)
    unfold Rang.Good at hg
    obtain ⟨t1, _, _, t4⟩ := Marks.there_apart hp (by omega) (by omega)
    exact ⟨t1, fun b => by rw [← setOf_has hnear b]; exact t4 b⟩
theorem cutImpl_is (l : List S28) (hl : ∀ p ∈ l.map p28, In p) (hn : l.length ≤ 60) {r : Int × Int} (hr : r.2 = 0 ∨ Rang.Good r) : Ev (fun k => impl_RangesCut.f k l r.1 r.2) ((Marks.there (parts (l.map p28) r)).map m28) := by
  have hs := parts_short hl (by rw [List.length_map]; exact hn) hr
  obtain ⟨t1, t2⟩ := there_is hl hr
  have hnear : ∀ p ∈ l.map p28, Near p := fun p hp => (hl p hp).near
  have hlen : (Marks.there (parts (l.map p28) r)).length ≤ (parts (l.map p28) r).length := by unfold Marks.there; rw [List.length_map]; exact List.length_filter_le _ _
  have hcut : Ev (fun k => Rang.cutOf k (l.map p28) r) (Marks.there (parts (l.map p28) r)) := by
    unfold Rang.cutOf
    show Ev (fun k => if (setOf (l.map p28)).isEmpty then some [] else (cutF (setOf (l.map p28)) k r []).bind fun res => if res.length ≤ 1000000 then some res else none) _
    by_cases hx : (setOf (l.map p28)).isEmpty = true
    · have hx2 : setOf (l.map p28) = [] := by simpa using hx
      have e : Marks.there (parts (l.map p28) r) = [] := apart_unique _ _ t1 Apart.nil (fun b => by
        rw [t2 b, ← setOf_has hnear b, hx2]
        exact ⟨fun h => absurd h.1 (has_nil b), fun h => absurd h (has_nil b)⟩)
      rw [e]
      exact Ev.congr (fun k => if_pos hx) (Ev.now _)
    · refine Ev.congr (fun k => if_neg hx) ?_
      have h := cutF_is (setOf (l.map p28)) (setOf_apart hnear) r.2.toNat r [] (hr.imp (fun h => by omega) id) (by omega) (by show 0 + (parts (l.map p28) r).length ≤ 800000; omega)
      have e : (Marks.there (findAll (setOf (l.map p28)) r.2.toNat r)).foldl ins [] = Marks.there (parts (l.map p28) r) := setOf_is (apart_near t1) t1 (fun _ => Iff.rfl)
      rw [e] at h
      exact Ev.bind h (Ev.congr (fun k => if_pos (by omega)) (Ev.now _))
  obtain ⟨K, hK⟩ := hcut
  refine ⟨K, fun k hk => ?_⟩
  show impl_RangesCut.f k l r.1 r.2 = _
  unfold impl_RangesCut.f
  rw [if_pos (by omega)]
  have h := hK k hk
  simp only at h
  have e : l.map (fun x => (x.f0, x.f1)) = l.map p28 := rfl
  have e2 : ((r.1, r.2) : Int × Int) = r := rfl
  rw [e, e2, h]
  rfl
/-- The sizes, one added to the other as Go adds. -/
def sumW (acc : Int) (l : List Int) : Int := l.foldl (fun a x => wrap64 (a + x)) acc
theorem wrap_in (x : Int) : -9223372036854775808 ≤ wrap64 x ∧ wrap64 x ≤ 9223372036854775807 := by unfold wrap64; omega
theorem sumW_is : ∀ (l : List Int) (acc : Int), -9223372036854775808 ≤ acc → acc ≤ 9223372036854775807 → sumW acc l = wrap64 (acc + l.sum)
  | [], acc, h1, h2 => by unfold sumW wrap64; simp; omega
  | x :: l, acc, h1, h2 => by
    have h := sumW_is l (wrap64 (acc + x)) (wrap_in _).1 (wrap_in _).2
    have e : sumW acc (x :: l) = sumW (wrap64 (acc + x)) l := rfl
    rw [e, h, List.sum_cons]
    unfold wrap64
    omega
theorem size61_loop (l : List S61) (hn : l.length ≤ 2000000) : ∀ (d k i : Nat) (acc : Int), l.length - i = d → d < k → i ≤ l.length →
    ranges_Ranges_Size.l0 k acc l (l.length : Int) (i : Int) = some (sumW acc ((l.drop i).map (·.f1))) := by
  intro d
  induction d with
  | zero =>
    intro k i acc hd hk hi
    obtain ⟨k, rfl⟩ : ∃ m, k = m + 1 := ⟨k - 1, by omega⟩
    simp only [ranges_Ranges_Size.l0]
    rw [if_neg (by omega), List.drop_of_length_le (by omega)]
    rfl
  | succ d ih =>
    intro k i acc hd hk hi
    obtain ⟨k, rfl⟩ : ∃ m, k = m + 1 := ⟨k - 1, by omega⟩
    simp only [ranges_Ranges_Size.l0]
    rw [if_pos (by omega), if_pos (by omega), if_pos (by omega), rd61 l i (by omega), wr i l.length (by omega) (by omega), ih k (i + 1) _ (by omega) (by omega) (by omega)]
    rw [List.drop_eq_getElem_cons (show i < l.length by omega)]
    rfl
theorem size28_loop (l : List S28) (hn : l.length ≤ 2000000) : ∀ (d k i : Nat) (acc : Int), l.length - i = d → d < k → i ≤ l.length →
    spec_RangesSize.l0 k acc l (l.length : Int) (i : Int) = some (sumW acc ((l.drop i).map (·.f1))) := by
  intro d
  induction d with
  | zero =>
    intro k i acc hd hk hi
    obtain ⟨k, rfl⟩ : ∃ m, k = m + 1 := ⟨k - 1, by omega⟩
    simp only [spec_RangesSize.l0]
    rw [if_neg (by omega), List.drop_of_length_le (by omega)]
    rfl
  | succ d ih =>
    intro k i acc hd hk hi
    obtain ⟨k, rfl⟩ : ∃ m, k = m + 1 := ⟨k - 1, by omega⟩
    simp only [spec_RangesSize.l0]
    rw [if_pos (by omega), if_pos (by omega), if_pos (by omega), rd28 l i (by omega), wr i l.length (by omega) (by omega), ih k (i + 1) _ (by omega) (by omega) (by omega)]
    rw [List.drop_eq_getElem_cons (show i < l.length by omega)]
    rfl
theorem size_is (l : List S28) (hn : l.length ≤ 60) : Ev (fun k => impl_RangesSize.f k l) (sumW 0 ((setOf (l.map p28)).map (·.2))) := by
  have hlen := setOf_len (l.map p28)
  rw [List.length_map] at hlen
  have h : Ev (fun k => ranges_Ranges_Size.f k ((setOf (l.map p28)).map m61)) (sumW 0 ((setOf (l.map p28)).map (·.2))) := by
    refine Ev.of (ranges_Ranges_Size.mono _) (k := (setOf (l.map p28)).length + 1) ?_
    have h := size61_loop ((setOf (l.map p28)).map m61) (by rw [List.length_map]; omega) _ ((setOf (l.map p28)).length + 1) 0 0 rfl (by rw [List.length_map]; omega) (by omega)
    rw [List.drop_zero, List.map_map] at h
    exact h
  unfold impl_RangesSize.f
  exact Ev.congr (fun k => by rw [inserted_is l (by omega)]; rfl) (Ev.bind h (Ev.now _))
theorem sizeSpec_is (l : List S28) (hl : ∀ p ∈ l.map p28, In p) (hn : l.length ≤ 60) : Ev (fun k => spec_RangesSize.f k l) (sumW 0 ((setOf (l.map p28)).map (·.2))) := by
  have hlen := setOf_len (l.map p28)
  rw [List.length_map] at hlen
  unfold spec_RangesSize.f
  refine Ev.bind (whole_is l hl hn) ⟨(setOf (l.map p28)).length + 1, fun k hk => ?_⟩
  have h := size28_loop ((setOf (l.map p28)).map m28) (by rw [List.length_map]; omega) _ k 0 0 rfl (by rw [List.length_map]; omega) (by omega)
  rw [List.drop_zero, List.map_map] at h
  exact h
/-- The parts that are there, and those that are not, make up the whole. -/
theorem parts_sum {H : Int → Prop} {a e : Int} {ps : List ((Int × Int) × Bool)} (h : Parts H a e ps) : ((Marks.there ps).map (·.2)).sum + ((ps.filter (fun x => !x.2)).map (·.1.2)).sum = e - a := by
  induction h with
  | nil a => simp [Marks.there]
  | cons a e n p l h1 h2 h3 h4 h5 ih =>
    rw [Marks.there_cons, List.filter_cons]
    cases p with
    | false => simp only [Bool.false_eq_true, if_false, Bool.not_false, if_true, List.map_cons, List.sum_cons]; omega
    | true => simp only [if_true, Bool.not_true, Bool.false_eq_true, if_false, List.map_cons, List.sum_cons]; omega
theorem loop1 (l : List S28) (hl : ∀ p ∈ l.map p28, In p) (hn : l.length ≤ 60) (r1 r2 : Int) (ps : List S37) (hp : ps.length ≤ 2000000) : ∀ (d i : Nat) (acc : Int), ps.length - i = d → i ≤ ps.length →
    sumW acc (((ps.drop i).filter (fun x => !x.f1)).map (·.f0.f1)) = r2 → Ev (fun k => laws_FnRangesSize.l1 k l acc ps (ps.length : Int) (i : Int) r1 r2) true := by
  intro d
  induction d with
  | zero =>
    intro i acc hd hi hsum
    rw [List.drop_of_length_le (by omega)] at hsum
    have e : acc = r2 := hsum
    refine Ev.step (f := fun k => ((impl_RangesSize.f k l).bind fun t216 => ((spec_RangesSize.f k l).bind fun t217 => (if t216 = t217 then (some (acc == r2)) else (some false))))) (fun k => by simp only [laws_FnRangesSize.l1]; rw [if_neg (by omega)]) ?_
    rw [e]
    exact Ev.bind (size_is l hn) (Ev.bind (sizeSpec_is l hl hn) (Ev.congr (fun k => by rw [if_pos rfl, beq_self_eq_true]) (Ev.now _)))
  | succ d ih =>
    intro i acc hd hi hsum
    have hil : i < ps.length := by omega
    rw [List.drop_eq_getElem_cons hil, List.filter_cons] at hsum
    by_cases hx : (ps[i]'hil).f1 = true
    · rw [if_neg (by rw [hx]; simp)] at hsum
      refine Ev.step (fun k => ?_) (ih (i + 1) acc (by omega) (by omega) hsum)
      simp only [laws_FnRangesSize.l1]
      rw [if_pos (by omega), if_pos (by omega), if_pos (by omega), rd37 ps i hil, if_pos hx, wr i ps.length hil (by omega)]
    · rw [if_pos (by simpa using hx)] at hsum
      refine Ev.step (fun k => ?_) (ih (i + 1) (wrap64 (acc + (ps[i]'hil).f0.f1)) (by omega) (by omega) hsum)
      simp only [laws_FnRangesSize.l1]
      rw [if_pos (by omega), if_pos (by omega), if_pos (by omega), rd37 ps i hil, if_neg hx, wr i ps.length hil (by omega)]
theorem loop0 (l : List S28) (r1 r2 : Int) (qs : List S28) (hq : qs.length ≤ 2000000) (b : Bool) : ∀ (d i : Nat) (acc : Int), qs.length - i = d → i ≤ qs.length →
    (Ev (fun k => (impl_RangesFindAll.f k l r1 r2).bind fun t211 => (laws_FnRangesSize.l1 k l (sumW acc ((qs.drop i).map (·.f1))) t211 (t211.length : Int) 0 r1 r2)) b) → Ev (fun k => laws_FnRangesSize.l0 k l acc qs (qs.length : Int) (i : Int) r1 r2) b := by
  intro d
  induction d with
  | zero =>
    intro i acc hd hi h
    rw [List.drop_of_length_le (by omega)] at h
    refine Ev.step (fun k => ?_) h
    simp only [laws_FnRangesSize.l0]
    rw [if_neg (by omega)]
    rfl
  | succ d ih =>
    intro i acc hd hi h
    have hil : i < qs.length := by omega
    rw [List.drop_eq_getElem_cons hil] at h
    refine Ev.step (fun k => ?_) (ih (i + 1) (wrap64 (acc + (qs[i]'hil).f1)) (by omega) (by omega) h)
    simp only [laws_FnRangesSize.l0]
    rw [if_pos (by omega), if_pos (by omega), if_pos (by omega), rd28 qs i hil, wr i qs.length hil (by omega)]
theorem FnRangesSize (l : List S28) (r1 r2 : Int) : ∃ k, laws_FnRangesSize.f k l r1 r2 = some true := by
  by_cases hn : (l.length : Int) > 2147483647
  · exact ⟨0, by unfold laws_FnRangesSize.f; rw [if_pos hn]⟩
  · obtain ⟨t, ht, h⟩ := rangesIn_is l (by omega)
    refine Ev.rounds (r := true) ?_
    unfold laws_FnRangesSize.f
    refine Ev.congr (fun k => if_neg hn) (Ev.bind ht ?_)
    have hyes : Ev (fun k => laws_FnRangesSize.j0 k l true r1 r2) true := Ev.step (f := fun _ => some true) (fun k => by simp [laws_FnRangesSize.j0]) (Ev.now _)
    cases t with
    | false => exact Ev.congr (fun k => by simp) hyes
    | true =>
      obtain ⟨hl, h60⟩ := h rfl
      obtain ⟨u, hu, hask⟩ := rangeAsk_is r1 r2
      refine Ev.congr (f := fun k => laws_FnRangesSize.j0 k l (!u) r1 r2) (fun k => by rw [if_pos rfl, hu]; rfl) ?_
      cases u with
      | false => exact hyes
      | true =>
        obtain ⟨hin, h0⟩ := hask rfl
        have hr : (r1, r2).2 = 0 ∨ Rang.Good (r1, r2) := In.good hin h0
        have hs := parts_short hl (by rw [List.length_map]; exact h60) hr
        have hlen : (Marks.there (parts (l.map p28) (r1, r2))).length ≤ (parts (l.map p28) (r1, r2)).length := by unfold Marks.there; rw [List.length_map]; exact List.length_filter_le _ _
        have hsum : ((Marks.there (parts (l.map p28) (r1, r2))).map (·.2)).sum + (((parts (l.map p28) (r1, r2)).filter (fun x => !x.2)).map (·.1.2)).sum = r2 := by
          rcases hr with hz | hg
          · have e : parts (l.map p28) (r1, r2) = [] := by unfold parts; rw [show ((r1, r2) : Int × Int).2.toNat = 0 by omega]; rfl
            rw [e]; simp [Marks.there]; exact hz.symm
          · have hp := findAll_parts (setOf_apart (fun p hp => (hl p hp).near)) r2.toNat (r1, r2) hg (by simp only; omega)
            have := parts_sum hp
            simp only at this
            have e : parts (l.map p28) (r1, r2) = findAll (setOf (l.map p28)) r2.toNat (r1, r2) := rfl
            rw [e]; omega
        refine Ev.step (f := fun k => (laws_rangeAwake.f k).bind fun t205 => (if t205 = true then ((impl_RangesCut.f k l r1 r2).bind fun t206 => (laws_FnRangesSize.l0 k l 0 t206 (t206.length : Int) 0 r1 r2)) else (some false))) (fun k => by simp only [laws_FnRangesSize.j0, Bool.not_true, Bool.false_eq_true, if_false]) (Ev.bind awake (Ev.congr (fun k => if_pos rfl) (Ev.bind (cutImpl_is l hl h60 hr) ?_)))
        refine loop0 l r1 r2 _ (by rw [List.length_map]; omega) true _ 0 0 rfl (by omega) (Ev.bind (rangesFindAll_is l hl h60 (r1, r2) hr) ?_)
        refine loop1 l hl h60 r1 r2 _ (by rw [List.length_map]; omega) _ 0 _ rfl (by omega) ?_
        rw [List.drop_zero, List.drop_zero]
        have e1 : ((Marks.there (parts (l.map p28) (r1, r2))).map m28).map (·.f1) = (Marks.there (parts (l.map p28) (r1, r2))).map (·.2) := by rw [List.map_map]; rfl
        have e2 : (((parts (l.map p28) (r1, r2)).map m37).filter (fun x => !x.f1)).map (·.f0.f1) = ((parts (l.map p28) (r1, r2)).filter (fun x => !x.2)).map (·.1.2) := by rw [List.filter_map, List.map_map]; rfl
        rw [e1, e2, sumW_is _ 0 (by omega) (by omega), sumW_is _ _ (wrap_in _).1 (wrap_in _).2]
        unfold In at hin
        simp only at hin
        unfold wrap64
        omega
end Go.Proofs.Ytfegihmnpcjdgaa.Pure

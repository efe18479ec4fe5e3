/- A range walked part by part: the law holds. -/
import Derived.Test.YtfegihmnpcjdgaaPFnRangesWalkx6
import Derived.Test.YtfegihmnpcjdgaaRangFind
namespace Go.Proofs.Ytfegihmnpcjdgaa.Pure
open Go.RowKit Go.Proofs.Ytfegihmnpcjdgaa.PFnRangesWalk Go.Proofs.YtfegihmnpcjdgaaW.PrintWords Go.Proofs.YtfegihmnpcjdgaaW.PrintLast Go.Proofs.YtfegihmnpcjdgaaW.PrintMore Go.Proofs.Ytfegihmnpcjdgaa.Rang
set_option linter.unusedVariables false
set_option linter.unusedSimpArgs false
theorem wr (i n : Nat) (h : i < n) (hn : n ≤ 4000000000000000000) : wrap64 ((i : Int) + 1) = ((i + 1 : Nat) : Int) := by unfold wrap64; omega
/-- Is a range near enough, as the statement asks? -/
def In (p : Int × Int) : Prop := -1099511627776 ≤ p.2 ∧ p.2 ≤ 1099511627776 ∧ -1099511627776 ≤ p.1 ∧ p.1 ≤ 1099511627776
theorem In.near {p : Int × Int} (h : In p) : Near p := by unfold In at h; unfold Near Rang.Good; omega
theorem rangeIn_is (a b : Int) : ∃ t, spec_RangeIn.f a b = some t ∧ (t = true → In (a, b)) := by
  unfold spec_RangeIn.f In
  split
  · split
    · split
      · refine ⟨_, rfl, fun h => ?_⟩
        have := of_decide_eq_true h
        simp only; omega
      · exact ⟨false, rfl, fun h => by cases h⟩
    · exact ⟨false, rfl, fun h => by cases h⟩
  · exact ⟨false, rfl, fun h => by cases h⟩
theorem In.good {r : Int × Int} (h : In r) (h0 : 0 ≤ r.2) : r.2 = 0 ∨ Rang.Good r := by unfold In at h; unfold Rang.Good; omega
theorem awake : Ev (fun k => laws_rangeAwake.f k) true := Ev.of laws_rangeAwake.mono (k := 20) (by decide +kernel)
def p28 (x : S28) : Int × Int := (x.f0, x.f1)
def p61 (x : S61) : Int × Int := (x.f0, x.f1)
def m28 (p : Int × Int) : S28 := ⟨p.1, p.2⟩
def m61 (p : Int × Int) : S61 := ⟨p.1, p.2⟩
theorem p28_m28 (p : Int × Int) : p28 (m28 p) = p := rfl
theorem m28_p28 (x : S28) : m28 (p28 x) = x := rfl
theorem p61_m61 (p : Int × Int) : p61 (m61 p) = p := rfl
theorem map_p28_m28 (l : List (Int × Int)) : (l.map m28).map p28 = l := by rw [List.map_map]; exact List.map_id l
theorem map_m28_p28 (l : List S28) : (l.map p28).map m28 = l := by rw [List.map_map]; exact List.map_id l
theorem map_p61_m61 (l : List (Int × Int)) : (l.map m61).map p61 = l := by rw [List.map_map]; exact List.map_id l
theorem rd61 (l : List S61) (i : Nat) (h : i < l.length) : rd_T61 l (i : Int) = l[i]'h := by
  unfold rd_T61; rw [Int.toNat_natCast, List.getD_eq_getElem?_getD, List.getElem?_eq_getElem h]; rfl
theorem rd28 (l : List S28) (i : Nat) (h : i < l.length) : rd_T28 l (i : Int) = l[i]'h := by
  unfold rd_T28; rw [Int.toNat_natCast, List.getD_eq_getElem?_getD, List.getElem?_eq_getElem h]; rfl
theorem eq28 (x y : S28) : (((x.f0 == y.f0) && (x.f1 == y.f1)) = true) ↔ x = y := by
  obtain ⟨a, b⟩ := x; obtain ⟨c, d⟩ := y
  simp

theorem rangesIn_loop (l : List S28) (hn : l.length ≤ 2147483647) : ∀ (d k i : Nat), l.length - i = d → d < k → i ≤ l.length → ∃ t, spec_RangesIn.l0 k l l (l.length : Int) (i : Int) = some t ∧ (t = true → (∀ j (h : j < l.length), i ≤ j → In (p28 (l[j]'h))) ∧ l.length ≤ 60) := by
  intro d
  induction d with
  | zero =>
    intro k i hd hk hi
    obtain ⟨k, rfl⟩ : ∃ m, k = m + 1 := ⟨k - 1, by omega⟩
    simp only [spec_RangesIn.l0]
    rw [if_neg (by omega)]
    exact ⟨_, rfl, fun h => ⟨fun j hj hij => by omega, by have := of_decide_eq_true h; omega⟩⟩
  | succ d ih =>
    intro k i hd hk hi
    obtain ⟨k, rfl⟩ : ∃ m, k = m + 1 := ⟨k - 1, by omega⟩
    simp only [spec_RangesIn.l0]
    rw [if_pos (by omega), if_pos (by omega), if_pos (by omega), rd28 l i (by omega), wr i l.length (by omega) (by omega)]
    obtain ⟨t, ht, hin⟩ := rangeIn_is (l[i]'(by omega)).f0 (l[i]'(by omega)).f1
    rw [ht, Option.bind_some]
    cases t with
    | false => exact ⟨false, by simp, fun h => by cases h⟩
    | true =>
      rw [if_pos rfl]
      obtain ⟨t, ht2, h2⟩ := ih k (i + 1) (by omega) (by omega) (by omega)
      refine ⟨t, ht2, fun h => ⟨fun j hj hij => ?_, (h2 h).2⟩⟩
      rcases Nat.lt_or_eq_of_le hij with h3 | rfl
      · exact (h2 h).1 j hj h3
      · exact hin rfl
theorem rangesIn_is (l : List S28) (hn : l.length ≤ 2147483647) : ∃ t, Ev (fun k => spec_RangesIn.f k l) t ∧ (t = true → (∀ p ∈ l.map p28, In p) ∧ l.length ≤ 60) := by
  obtain ⟨t, ht, h⟩ := rangesIn_loop l hn l.length (l.length + 1) 0 (by omega) (by omega) (by omega)
  refine ⟨t, Ev.of (spec_RangesIn.mono l) (k := l.length + 1) ht, fun hh => ⟨fun p hp => ?_, (h hh).2⟩⟩
  obtain ⟨x, hx, rfl⟩ := List.mem_map.1 hp
  obtain ⟨j, hj, rfl⟩ := List.getElem_of_mem hx
  exact (h hh).1 j hj (by omega)
theorem tellAll_loop (l : List S61) (hn : l.length ≤ 2000000) : ∀ (d k i : Nat) (acc : List S28), l.length - i = d → d < k → i ≤ l.length → acc.length = i →
    impl_tellAll.l0 k acc l (l.length : Int) (i : Int) = some (acc ++ (l.drop i).map fun x => m28 (p61 x)) := by
  intro d
  induction d with
  | zero =>
    intro k i acc hd hk hi ha
    obtain ⟨k, rfl⟩ : ∃ m, k = m + 1 := ⟨k - 1, by omega⟩
    simp only [impl_tellAll.l0]
    rw [if_neg (by omega), List.drop_of_length_le (by omega)]
    simp
  | succ d ih =>
    intro k i acc hd hk hi ha
    obtain ⟨k, rfl⟩ : ∃ m, k = m + 1 := ⟨k - 1, by omega⟩
    simp only [impl_tellAll.l0]
    rw [if_pos (by omega), if_pos (by omega), if_pos (by omega), rd61 l i (by omega), wr i l.length (by omega) (by omega)]
    simp only [impl_told.f, Option.bind_some]
    rw [if_pos (by omega), ih k (i + 1) _ (by omega) (by omega) (by omega) (by simp; omega)]
    rw [List.drop_eq_getElem_cons (show i < l.length by omega), List.map_cons, List.append_assoc]
    rfl
theorem tellAll_is (l : List S61) (hn : l.length ≤ 2000000) : Ev (fun k => impl_tellAll.f k l) (l.map fun x => m28 (p61 x)) := by
  refine Ev.of (impl_tellAll.mono l) (k := l.length + 1) ?_
  have h := tellAll_loop l hn l.length (l.length + 1) 0 [] (by omega) (by omega) (by omega) rfl
  unfold impl_tellAll.f
  simpa using h
theorem inserted_is (l : List S28) (hn : l.length ≤ 800000) : impl_inserted.f l = some ((setOf (l.map p28)).map m61) := by
  unfold impl_inserted.f; rw [if_pos hn]; rfl
theorem setOf_len (l : List (Int × Int)) : (setOf l).length ≤ l.length := by have := fold_len l []; unfold setOf; simpa using this
theorem rangesOf_is (l : List S28) (hn : l.length ≤ 800000) : Ev (fun k => impl_RangesOf.f k l) ((setOf (l.map p28)).map m28) := by
  have hl := setOf_len (l.map p28)
  rw [List.length_map] at hl
  have h := tellAll_is ((setOf (l.map p28)).map m61) (by rw [List.length_map]; omega)
  have e : ((setOf (l.map p28)).map m61).map (fun x => m28 (p61 x)) = (setOf (l.map p28)).map m28 := by rw [List.map_map]; rfl
  rw [e] at h
  unfold impl_RangesOf.f
  refine Ev.congr (f := fun k => (impl_tellAll.f k ((setOf (l.map p28)).map m61)).bind fun t => some t) (fun k => by rw [inserted_is l hn]; rfl) ?_
  exact Ev.bind h (Ev.now _)
theorem same_loop (l m : List S28) (hlm : l.length = m.length) (hn : l.length ≤ 2147483647) : ∀ (d k i : Nat), l.length - i = d → d < k → i ≤ l.length →
    ∃ t, spec_RangesSame.l0 k l m (l.length : Int) (i : Int) = some t ∧ (t = true ↔ l.drop i = m.drop i) := by
  intro d
  induction d with
  | zero =>
    intro k i hd hk hi
    obtain ⟨k, rfl⟩ : ∃ m, k = m + 1 := ⟨k - 1, by omega⟩
    simp only [spec_RangesSame.l0]
    rw [if_neg (by omega), List.drop_of_length_le (by omega), List.drop_of_length_le (by omega)]
    exact ⟨true, rfl, by simp⟩
  | succ d ih =>
    intro k i hd hk hi
    obtain ⟨k, rfl⟩ : ∃ m, k = m + 1 := ⟨k - 1, by omega⟩
    simp only [spec_RangesSame.l0]
    rw [if_pos (by omega), if_pos (by omega), if_pos (by omega), if_pos (by omega), rd28 l i (by omega), rd28 m i (by omega), wr i l.length (by omega) (by omega)]
    rw [List.drop_eq_getElem_cons (show i < l.length by omega), List.drop_eq_getElem_cons (show i < m.length by omega)]
    by_cases he : l[i]'(by omega) = m[i]'(by omega)
    · rw [he]
      simp only [beq_self_eq_true, Bool.not_true, Bool.or_false, Bool.false_eq_true, if_false]
      obtain ⟨t, ht, h⟩ := ih k (i + 1) (by omega) (by omega) (by omega)
      exact ⟨t, ht, h.trans ⟨fun h => by rw [h], fun h => (List.cons.inj h).2⟩⟩
    · have hb : ((((l[i]'(by omega)).f0 == (m[i]'(by omega)).f0) && ((l[i]'(by omega)).f1 == (m[i]'(by omega)).f1)) = true) → False := fun h => he ((eq28 _ _).1 h)
      have hb2 : (!((l[i]'(by omega)).f0 == (m[i]'(by omega)).f0) || !((l[i]'(by omega)).f1 == (m[i]'(by omega)).f1)) = true := by
        cases h1 : ((l[i]'(by omega)).f0 == (m[i]'(by omega)).f0) <;> cases h2 : ((l[i]'(by omega)).f1 == (m[i]'(by omega)).f1) <;> simp [h1, h2] at hb ⊢
      rw [if_pos hb2]
      exact ⟨false, rfl, fun h => (by cases h), fun h => absurd (List.cons.inj h).1 he⟩
/-- Two lists are told to be the same just if they are. -/
theorem same_is (l m : List S28) (hn : l.length ≤ 2147483647) : ∃ t, Ev (fun k => spec_RangesSame.f k l m) t ∧ (t = true ↔ l = m) := by
  by_cases hlm : l.length = m.length
  · obtain ⟨t, ht, h⟩ := same_loop l m hlm hn l.length (l.length + 1) 0 (by omega) (by omega) (by omega)
    refine ⟨t, Ev.of (spec_RangesSame.mono l m) (k := l.length + 1) ?_, by simpa using h⟩
    unfold spec_RangesSame.f
    rw [if_pos (by omega)]; exact ht
  · refine ⟨false, Ev.of (spec_RangesSame.mono l m) (k := 0) ?_, ?_⟩
    · unfold spec_RangesSame.f
      rw [if_neg (by omega)]
    · constructor
      · intro h; cases h
      · intro h; rw [h] at hlm; exact absurd rfl hlm
theorem same_self (l : List S28) (hn : l.length ≤ 2147483647) : Ev (fun k => spec_RangesSame.f k l l) true := by
  obtain ⟨t, ht, h⟩ := same_is l l hn
  rw [h.2 rfl] at ht; exact ht
theorem rangeAsk_is (a b : Int) : ∃ t, spec_RangeAsk.f a b = some t ∧ (t = true → In (a, b) ∧ 0 ≤ b) := by
  obtain ⟨t, ht, h⟩ := rangeIn_is a b
  unfold spec_RangeAsk.f
  rw [ht, Option.bind_some]
  cases t with
  | false => exact ⟨false, by simp, fun h => by cases h⟩
  | true => exact ⟨_, rfl, fun hh => ⟨h rfl, by have := of_decide_eq_true hh; omega⟩⟩
/-! ### what is found -/
def m77 (x : (Int × Int) × Bool) : S77 := ⟨m61 x.1, x.2⟩
def m37 (x : (Int × Int) × Bool) : S37 := ⟨m28 x.1, x.2⟩
theorem rd77 (l : List S77) (i : Nat) (h : i < l.length) : rd_T77 l (i : Int) = l[i]'h := by
  unfold rd_T77; rw [Int.toNat_natCast, List.getD_eq_getElem?_getD, List.getElem?_eq_getElem h]; rfl
theorem rd37 (l : List S37) (i : Nat) (h : i < l.length) : rd_T37 l (i : Int) = l[i]'h := by
  unfold rd_T37; rw [Int.toNat_natCast, List.getD_eq_getElem?_getD, List.getElem?_eq_getElem h]; rfl
theorem find_f (xs : List (Int × Int)) (hn : xs.length ≤ 1000000) (r : Int × Int) : ranges_Ranges_Find.f (xs.map m61) r.1 r.2 = some ((find xs r).1.1, (find xs r).1.2, (find xs r).2.1.1, (find xs r).2.1.2, (find xs r).2.2) := by
  unfold ranges_Ranges_Find.f
  rw [if_pos (by rw [List.length_map]; exact hn)]
  have e : (xs.map m61).map (fun x => (x.f0, x.f1)) = xs := map_p61_m61 xs
  rw [e]
theorem findAll_loop (xs : List (Int × Int)) (h : Apart xs) (hn : xs.length ≤ 60) : ∀ (n : Nat) (r : Int × Int) (acc : List S77), (r.2 ≤ 0 ∨ Rang.Good r) → r.2 ≤ n → acc.length + (findAll xs n r).length ≤ 1000000 →
    Ev (fun k => ranges_Ranges_FindAll.l0 k (xs.map m61) acc r.1 r.2) (acc ++ (findAll xs n r).map m77) := by
  have stop : ∀ (r : Int × Int) (acc : List S77), r.2 ≤ 0 → Ev (fun k => ranges_Ranges_FindAll.l0 k (xs.map m61) acc r.1 r.2) acc := by
    intro r acc h0
    refine Ev.step (f := fun _ => some acc) (fun k => ?_) (Ev.now _)
    simp only [ranges_Ranges_FindAll.l0, ranges_Range_IsEmpty.f, Option.bind_some]
    rw [if_pos (decide_eq_true h0)]
  intro n
  induction n with
  | zero =>
    intro r acc hr hk hl
    have h0 : r.2 ≤ 0 := by omega
    have e : findAll xs 0 r = [] := rfl
    rw [e]; simpa using stop r acc h0
  | succ n ih =>
    intro r acc hr hk hl
    by_cases h0 : r.2 ≤ 0
    · have e : findAll xs (n + 1) r = [] := by unfold findAll; rw [if_pos h0]
      rw [e]; simpa using stop r acc h0
    · have hg := hr.resolve_left h0
      have f := find_is xs r h hg
      have ef : findAll xs (n + 1) r = ((find xs r).1, (find xs r).2.2) :: findAll xs n (find xs r).2.1 := by conv => lhs; unfold findAll; rw [if_neg h0]
      rw [ef] at hl ⊢
      have hff := find_f xs (by omega) r
      generalize find xs r = q at f hl hff ⊢
      obtain ⟨⟨c1, c2⟩, ⟨n1, n2⟩, p⟩ := q
      obtain ⟨e1, e2, e3, e4, e5⟩ := f
      simp only at e1 e2 e3 e4 e5 hff hl ⊢
      have ih2 := ih (n1, n2) (acc ++ [m77 ((c1, c2), p)]) (by
        rcases e5 with ⟨_, h⟩ | ⟨h1, h2, _⟩
        · left; simp only; omega
        · right; obtain ⟨rfl, rfl⟩ := Prod.mk.inj h2; unfold Rang.Good at hg ⊢; simp only; omega) (by
        rcases e5 with ⟨_, h⟩ | ⟨h1, h2, _⟩
        · simp only; omega
        · obtain ⟨rfl, rfl⟩ := Prod.mk.inj h2; simp only; omega) (by simp at hl ⊢; omega)
      have e : acc ++ List.map m77 (((c1, c2), p) :: findAll xs n (n1, n2)) = acc ++ [m77 ((c1, c2), p)] ++ List.map m77 (findAll xs n (n1, n2)) := by simp
      rw [e]
      refine Ev.step (fun k => ?_) ih2
      simp only [ranges_Ranges_FindAll.l0, ranges_Range_IsEmpty.f, Option.bind_some]
      rw [if_neg (by simpa using h0), hff, Option.bind_some, if_pos (by simp at hl; omega)]
      rfl
theorem tellFound_loop (l : List S77) (hn : l.length ≤ 2000000) : ∀ (d k i : Nat) (acc : List S37), l.length - i = d → d < k → i ≤ l.length → acc.length = i →
    impl_tellFound.l0 k acc l (l.length : Int) (i : Int) = some (acc ++ (l.drop i).map fun x => (⟨m28 (p61 x.f0), x.f1⟩ : S37)) := by
  intro d
  induction d with
  | zero =>
    intro k i acc hd hk hi ha
    obtain ⟨k, rfl⟩ : ∃ m, k = m + 1 := ⟨k - 1, by omega⟩
    simp only [impl_tellFound.l0]
    rw [if_neg (by omega), List.drop_of_length_le (by omega)]
    simp
  | succ d ih =>
    intro k i acc hd hk hi ha
    obtain ⟨k, rfl⟩ : ∃ m, k = m + 1 := ⟨k - 1, by omega⟩
    simp only [impl_tellFound.l0]
    rw [if_pos (by omega), if_pos (by omega), if_pos (by omega), rd77 l i (by omega), wr i l.length (by omega) (by omega)]
    simp only [impl_told.f, Option.bind_some]
    rw [if_pos (by omega), ih k (i + 1) _ (by omega) (by omega) (by omega) (by simp; omega)]
    rw [List.drop_eq_getElem_cons (show i < l.length by omega), List.map_cons, List.append_assoc]
    rfl
theorem tellFound_is (l : List ((Int × Int) × Bool)) (hn : l.length ≤ 2000000) : Ev (fun k => impl_tellFound.f k (l.map m77)) (l.map m37) := by
  refine Ev.of (impl_tellFound.mono _) (k := l.length + 1) ?_
  have h := tellFound_loop (l.map m77) (by rw [List.length_map]; exact hn) (l.map m77).length (l.length + 1) 0 [] (by omega) (by rw [List.length_map]; omega) (by omega) rfl
  unfold impl_tellFound.f
  have e : (l.map m77).map (fun x => (⟨m28 (p61 x.f0), x.f1⟩ : S37)) = l.map m37 := by rw [List.map_map]; rfl
  rw [List.nil_append, List.drop_zero, e] at h
  exact h
/-- All parts of a range, as they are found in the set of a list. -/
def parts (l : List (Int × Int)) (r : Int × Int) : List ((Int × Int) × Bool) := findAll (setOf l) r.2.toNat r
theorem parts_short {l : List (Int × Int)} (hl : ∀ p ∈ l, In p) (hn : l.length ≤ 60) {r : Int × Int} (hr : r.2 = 0 ∨ Rang.Good r) : (parts l r).length ≤ 121 := by
  have hlen := setOf_len l
  unfold parts
  rcases hr with h0 | hg
  · rw [show r.2.toNat = 0 by omega]; simp [findAll]
  · have hp := findAll_parts (setOf_apart (fun p hp => (hl p hp).near)) r.2.toNat r hg (by omega)
    have h := (parts_len hp).1
    have hc := List.countP_le_length (p := fun q : Int × Int => decide (r.1 < q.1 + q.2)) (l := setOf l)
    omega
theorem rangesFindAll_is (l : List S28) (hl : ∀ p ∈ l.map p28, In p) (hn : l.length ≤ 60) (r : Int × Int) (hr : r.2 = 0 ∨ Rang.Good r) : Ev (fun k => impl_RangesFindAll.f k l r.1 r.2) ((parts (l.map p28) r).map m37) := by
  have hlen := setOf_len (l.map p28)
  rw [List.length_map] at hlen
  have hs := parts_short hl (by rw [List.length_map]; exact hn) hr
  have h1 := findAll_loop (setOf (l.map p28)) (setOf_apart (fun p hp => (hl p hp).near)) (by omega) r.2.toNat r [] (hr.imp (fun h => by omega) id) (by omega) (by show 0 + (parts (l.map p28) r).length ≤ 1000000; omega)
  rw [List.nil_append] at h1
  unfold impl_RangesFindAll.f
  refine Ev.congr (f := fun k => (ranges_Ranges_FindAll.f k ((setOf (l.map p28)).map m61) r.1 r.2).bind fun t149 => ((impl_tellFound.f k t149).bind fun t152 => (some t152))) (fun k => by rw [inserted_is l (by omega)]; rfl) ?_
  exact Ev.bind h1 (Ev.bind (tellFound_is (parts (l.map p28) r) (by omega)) (Ev.now _))
theorem eq37 (x y : S37) : ((((x.f0.f0 == y.f0.f0) && (x.f0.f1 == y.f0.f1)) && (x.f1 == y.f1)) = true) ↔ x = y := by
  obtain ⟨⟨a, b⟩, c⟩ := x; obtain ⟨⟨d, e⟩, f⟩ := y
  simp
theorem found_loop (l m : List S37) (hlm : l.length = m.length) (hn : l.length ≤ 2147483647) : ∀ (d k i : Nat), l.length - i = d → d < k → i ≤ l.length →
    ∃ t, spec_FoundSame.l0 k l m (l.length : Int) (i : Int) = some t ∧ (t = true ↔ l.drop i = m.drop i) := by
  intro d
  induction d with
  | zero =>
    intro k i hd hk hi
    obtain ⟨k, rfl⟩ : ∃ m, k = m + 1 := ⟨k - 1, by omega⟩
    simp only [spec_FoundSame.l0]
    rw [if_neg (by omega), List.drop_of_length_le (by omega), List.drop_of_length_le (by omega)]
    exact ⟨true, rfl, by simp⟩
  | succ d ih =>
    intro k i hd hk hi
    obtain ⟨k, rfl⟩ : ∃ m, k = m + 1 := ⟨k - 1, by omega⟩
    simp only [spec_FoundSame.l0]
    rw [if_pos (by omega), if_pos (by omega), if_pos (by omega), if_pos (by omega), rd37 l i (by omega), rd37 m i (by omega), wr i l.length (by omega) (by omega)]
    rw [List.drop_eq_getElem_cons (show i < l.length by omega), List.drop_eq_getElem_cons (show i < m.length by omega)]
    by_cases he : l[i]'(by omega) = m[i]'(by omega)
    · rw [he]
      simp only [beq_self_eq_true, Bool.not_true, Bool.or_false, Bool.false_eq_true, if_false]
      obtain ⟨t, ht, h⟩ := ih k (i + 1) (by omega) (by omega) (by omega)
      exact ⟨t, ht, h.trans ⟨fun h => by rw [h], fun h => (List.cons.inj h).2⟩⟩
    · have hb : (((((l[i]'(by omega)).f0.f0 == (m[i]'(by omega)).f0.f0) && ((l[i]'(by omega)).f0.f1 == (m[i]'(by omega)).f0.f1)) && ((l[i]'(by omega)).f1 == (m[i]'(by omega)).f1)) = true) → False := fun h => he ((eq37 _ _).1 h)
      have hb2 : ((!((l[i]'(by omega)).f0.f0 == (m[i]'(by omega)).f0.f0) || !((l[i]'(by omega)).f0.f1 == (m[i]'(by omega)).f0.f1)) || !((l[i]'(by omega)).f1 == (m[i]'(by omega)).f1)) = true := by
        cases h1 : ((l[i]'(by omega)).f0.f0 == (m[i]'(by omega)).f0.f0) <;> cases h2 : ((l[i]'(by omega)).f0.f1 == (m[i]'(by omega)).f0.f1) <;> cases h3 : ((l[i]'(by omega)).f1 == (m[i]'(by omega)).f1) <;> simp [h1, h2, h3] at hb ⊢
      rw [if_pos hb2]
      exact ⟨false, rfl, fun h => (by cases h), fun h => absurd (List.cons.inj h).1 he⟩
theorem found_is (l m : List S37) (hn : l.length ≤ 2147483647) : ∃ t, Ev (fun k => spec_FoundSame.f k l m) t ∧ (t = true ↔ l = m) := by
  by_cases hlm : l.length = m.length
  · obtain ⟨t, ht, h⟩ := found_loop l m hlm hn l.length (l.length + 1) 0 (by omega) (by omega) (by omega)
    refine ⟨t, Ev.of (spec_FoundSame.mono l m) (k := l.length + 1) ?_, by simpa using h⟩
    unfold spec_FoundSame.f
    rw [if_pos (by omega)]; exact ht
  · refine ⟨false, Ev.of (spec_FoundSame.mono l m) (k := 0) ?_, ?_⟩
    · unfold spec_FoundSame.f
      rw [if_neg (by omega)]
    · constructor
      · intro h; cases h
      · intro h; rw [h] at hlm; exact absurd rfl hlm
theorem found_self (l : List S37) (hn : l.length ≤ 2147483647) : Ev (fun k => spec_FoundSame.f k l l) true := by
  obtain ⟨t, ht, h⟩ := found_is l l hn
  rw [h.2 rfl] at ht; exact ht
theorem rangesFind_is (l : List S28) (hn : l.length ≤ 60) (r : Int × Int) : impl_RangesFind.f l r.1 r.2 = some ((find (setOf (l.map p28)) r).1.1, (find (setOf (l.map p28)) r).1.2, (find (setOf (l.map p28)) r).2.1.1, (find (setOf (l.map p28)) r).2.1.2, (find (setOf (l.map p28)) r).2.2) := by
  have hlen := setOf_len (l.map p28)
  rw [List.length_map] at hlen
  unfold impl_RangesFind.f
  rw [inserted_is l (by omega)]
  simp only [Option.bind_some, impl_given.f, impl_told.f]
  rw [find_f _ (by omega) r]
  rfl
theorem walk_loop (l : List S28) (hl : ∀ p ∈ l.map p28, In p) (hn : l.length ≤ 60) (r1 r2 E : Int) (F : List S37) (hF : F.length ≤ 130)
    (hfin : ∀ z1 z2, Ev (fun k => laws_FnRangesWalk.j2 k l F E false r1 r2 z1 z2) true) : ∀ (n : Nat) (nx : Int × Int) (acc : List S37), Rang.Good nx → nx.2 ≤ n → nx.1 + nx.2 = E → acc ++ (findAll (setOf (l.map p28)) n nx).map m37 = F →
    (∀ (a : List S37) (x : S37), acc = a ++ [x] → (Has (setOf (l.map p28)) nx.1 ↔ x.f1 = false)) → Ev (fun k => laws_FnRangesWalk.l0 k l acc nx.1 r1 r2 nx.1 nx.2) true := by
  intro n
  have hap : Apart (setOf (l.map p28)) := setOf_apart (fun p hp => (hl p hp).near)
  induction n with
  | zero => intro nx acc hg hk; unfold Rang.Good at hg; omega
  | succ n ih =>
    intro nx acc hg hk hE hF2 hlast
    have hg' := hg
    unfold Rang.Good at hg'
    have f := find_is _ nx hap hg
    have ef : findAll (setOf (l.map p28)) (n + 1) nx = ((find (setOf (l.map p28)) nx).1, (find (setOf (l.map p28)) nx).2.2) :: findAll (setOf (l.map p28)) n (find (setOf (l.map p28)) nx).2.1 := by conv => lhs; unfold findAll; rw [if_neg (by omega)]
    rw [ef] at hF2
    have hff := rangesFind_is l hn nx
    generalize find (setOf (l.map p28)) nx = q at f hF2 hff
    obtain ⟨⟨c1, c2⟩, ⟨n1, n2⟩, p⟩ := q
    obtain ⟨e1, e2, e3, e4, e5⟩ := f
    simp only at e1 e2 e3 e4 e5 hff hF2
    have hal : acc.length < 130 := by rw [← hF2] at hF; simp at hF; omega
    have hgoal : Ev (fun k => laws_FnRangesWalk.l0 k l (acc ++ [(⟨⟨c1, c2⟩, p⟩ : S37)]) (wrap64 (nx.1 + c2)) r1 r2 n1 n2) true := by
      have hw : wrap64 (nx.1 + c2) = nx.1 + c2 := by unfold wrap64; omega
      rw [hw]
      rcases e5 with ⟨h1, h2⟩ | ⟨h1, h2, h3⟩
      · have e : findAll (setOf (l.map p28)) n (n1, n2) = [] := by
          cases n with
          | zero => rfl
          | succ n => unfold findAll; rw [if_pos (by simp only; omega)]
        rw [e] at hF2
        have e2 : acc ++ [(⟨⟨c1, c2⟩, p⟩ : S37)] = F := hF2
        rw [e2, show nx.1 + c2 = E by omega]
        refine Ev.step (fun k => ?_) (hfin n1 n2)
        simp only [laws_FnRangesWalk.l0]
        rw [if_neg (by omega)]
      · obtain ⟨rfl, rfl⟩ := Prod.mk.inj h2
        refine ih (nx.1 + c2, nx.2 - c2) _ (by unfold Rang.Good; simp only; omega) (by simp only; omega) (by simp only; omega) (by rw [← hF2, List.append_assoc]; rfl) (fun a x hax => ?_)
        obtain ⟨_, hx⟩ := List.append_inj' hax rfl
        simp only [List.cons.injEq, and_true] at hx
        rw [← hx]
        exact h3
    refine Ev.step (f := fun k => laws_FnRangesWalk.j2 k l acc nx.1 true r1 r2 nx.1 nx.2) (fun k => ?_) (Ev.step (fun k => ?_) hgoal)
    · simp only [laws_FnRangesWalk.l0]
      rw [if_pos (by omega), decide_eq_true (by omega)]
    · simp only [laws_FnRangesWalk.j2, if_true]
      rw [hff, Option.bind_some, if_pos e1, if_neg (show ¬ c2 < 1 by omega)]
      rcases List.eq_nil_or_concat acc with rfl | ⟨a, x, rfl⟩
      · rw [if_neg (by simp), if_pos (by simp)]
      · rw [List.concat_eq_append] at *
        have hx := hlast a x rfl
        have hw2 : wrap64 (((a ++ [x]).length : Int) - 1) = (a.length : Int) := by simp at hal ⊢; unfold wrap64; omega
        rw [if_pos (by simp), hw2, if_pos (by omega), if_pos (by simp; omega), rd37 _ a.length (by simp)]
        have hat : (a ++ [x])[a.length]'(by simp) = x := by simp
        rw [hat]
        have hp := e4 c1 (Int.le_refl _) (by omega)
        rw [e1] at hp
        have hne : (x.f1 == p) = false := by
          have := hx.symm.trans hp
          cases hx1 : x.f1 <;> cases p <;> simp [hx1] at this ⊢
        rw [hne, if_neg (by simp), if_pos (by simp at hal ⊢; omega)]
theorem FnRangesWalk (l : List S28) (r1 r2 : Int) : ∃ k, laws_FnRangesWalk.f k l r1 r2 = some true := by
  by_cases hn : (l.length : Int) > 2147483647
  · exact ⟨0, by unfold laws_FnRangesWalk.f; rw [if_pos hn]⟩
  · obtain ⟨t, ht, h⟩ := rangesIn_is l (by omega)
    refine Ev.rounds (r := true) ?_
    unfold laws_FnRangesWalk.f
    refine Ev.congr (fun k => if_neg hn) (Ev.bind ht ?_)
    have hyes : Ev (fun k => laws_FnRangesWalk.j0 k l true r1 r2) true := Ev.step (f := fun _ => some true) (fun k => by simp [laws_FnRangesWalk.j0]) (Ev.now _)
    cases t with
    | false => exact Ev.congr (fun k => by simp) hyes
    | true =>
      obtain ⟨hl, h60⟩ := h rfl
      obtain ⟨u, hu, hask⟩ := rangeAsk_is r1 r2
      refine Ev.congr (f := fun k => laws_FnRangesWalk.j0 k l (!u) r1 r2) (fun k => by rw [if_pos rfl, hu]; rfl) ?_
      cases u with
      | false => exact hyes
      | true =>
        obtain ⟨hin, h0⟩ := hask rfl
        have hr : (r1, r2).2 = 0 ∨ Rang.Good (r1, r2) := In.good hin h0
        have hs := parts_short hl (by rw [List.length_map]; exact h60) hr
        have hall := rangesFindAll_is l hl h60 (r1, r2) hr
        have hw : wrap64 (r1 + r2) = r1 + r2 := by unfold In at hin; simp only at hin; unfold wrap64; omega
        have hfin : ∀ z1 z2, Ev (fun k => laws_FnRangesWalk.j2 k l ((parts (l.map p28) (r1, r2)).map m37) (r1 + r2) false r1 r2 z1 z2) true := by
          intro z1 z2
          refine Ev.step (f := fun k => (impl_RangesFindAll.f k l r1 r2).bind fun t216 => ((spec_FoundSame.f k ((parts (l.map p28) (r1, r2)).map m37) t216).bind fun t219 => (some t219))) (fun k => ?_) (Ev.bind hall (Ev.bind (found_self ((parts (l.map p28) (r1, r2)).map m37) (by rw [List.length_map]; omega)) (Ev.now _)))
          simp only [laws_FnRangesWalk.j2, Bool.false_eq_true, if_false]
          rw [hw, if_pos rfl]
        refine Ev.step (f := fun k => (laws_rangeAwake.f k).bind fun t198 => (if t198 = true then (laws_FnRangesWalk.l0 k l ([] : List (S37)) r1 r1 r2 r1 r2) else (some false))) (fun k => by simp only [laws_FnRangesWalk.j0, Bool.not_true, Bool.false_eq_true, if_false]) (Ev.bind awake (Ev.congr (fun k => if_pos rfl) ?_))
        rcases hr with hz | hg
        · have hz' : r2 = 0 := hz
          have e : (parts (l.map p28) (r1, r2)).map m37 = [] := by unfold parts; simp [hz', findAll]
          rw [e, hz', Int.add_zero] at hfin
          rw [hz']
          refine Ev.step (fun k => ?_) (hfin r1 0)
          simp only [laws_FnRangesWalk.l0]
          rw [if_neg (by omega)]
        · exact walk_loop l hl h60 r1 r2 (r1 + r2) _ (by rw [List.length_map]; omega) hfin r2.toNat (r1, r2) [] hg (by simp only; omega) rfl rfl (fun a x hax => by simp at hax)
end Go.Proofs.Ytfegihmnpcjdgaa.Pure

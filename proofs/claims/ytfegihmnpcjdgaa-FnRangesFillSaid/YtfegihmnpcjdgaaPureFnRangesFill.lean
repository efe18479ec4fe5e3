/- What is missing of a range, taken in bit by bit: the law holds. -/
import Derived.Test.YtfegihmnpcjdgaaPFnRangesFillx7
import Derived.Test.YtfegihmnpcjdgaaRangFind
import Derived.Test.YtfegihmnpcjdgaaRangSum
namespace Go.Proofs.Ytfegihmnpcjdgaa.Pure
open Go.RowKit Go.Proofs.Ytfegihmnpcjdgaa.PFnRangesFill Go.Proofs.YtfegihmnpcjdgaaW.PrintWords Go.Proofs.YtfegihmnpcjdgaaW.PrintLast Go.Proofs.YtfegihmnpcjdgaaW.PrintMore Go.Proofs.Ytfegihmnpcjdgaa.Rang
set_option linter.unusedVariables false
set_option linter.unusedSimpArgs false
theorem wr (i n : Nat) (h : i < n) (hn : n ≤ 4000000000000000000) : wrap64 ((i : Int) + 1) = ((i + 1 : Nat) : Int) := by unfold wrap64; omega
/-- Is a range near enough, as the statement asks? -/
def In (p : Int × Int) : Prop := -1099511627776 ≤ p.2 ∧ p.2 ≤ 1099511627776 ∧ -1099511627776 ≤ p.1 ∧ p.1 ≤ 1099511627776
theorem In.near {p : Int × Int} (h : In p) : Near p := by unfold In at h; unfold Near Rang.Good; omega
theorem rangeIn_is (a b : Int) : ∃ t, spec_RangeIn.f a b = some t ∧ (t = true → In (a, b)) := by
  unfold spec_RangeIn.f In
  split
  · split
    · split
      · refine ⟨_, rfl, fun h => ?_⟩
        have := of_decide_eq_true h
        simp only; omega
      · exact ⟨false, rfl, fun h => by cases h⟩
    · exact ⟨false, rfl, fun h => by cases h⟩
  · exact ⟨false, rfl, fun h => by cases h⟩
theorem In.good {r : Int × Int} (h : In r) (h0 : 0 ≤ r.2) : r.2 = 0 ∨ Rang.Good r := by unfold In at h; unfold Rang.Good; omega
theorem awake : Ev (fun k => laws_rangeAwake.f k) true := Ev.of laws_rangeAwake.mono (k := 20) (by decide +kernel)
def p28 (x : S28) : Int × Int := (x.f0, x.f1)
def p61 (x : S61) : Int × Int := (x.f0, x.f1)
def m28 (p : Int × Int) : S28 := ⟨p.1, p.2⟩
def m61 (p : Int × Int) : S61 := ⟨p.1, p.2⟩
theorem p28_m28 (p : Int × Int) : p28 (m28 p) = p := rfl
theorem m28_p28 (x : S28) : m28 (p28 x) = x := rfl
theorem p61_m61 (p : Int × Int) : p61 (m61 p) = p := rfl
theorem map_p28_m28 (l : List (Int × Int)) : (l.map m28).map p28 = l := by rw [List.map_map]; exact List.map_id l
theorem map_m28_p28 (l : List S28) : (l.map p28).map m28 = l := by rw [List.map_map]; exact List.map_id l
theorem map_p61_m61 (l : List (Int × Int)) : (l.map m61).map p61 = l := by rw [List.map_map]; exact List.map_id l
theorem rd61 (l : List S61) (i : Nat) (h : i < l.length) : rd_T61 l (i : Int) = l[i]'h := by
  unfold rd_T61; rw [Int.toNat_natCast, List.getD_eq_getElem?_getD, List.getElem?_eq_getElem h]; rfl
theorem rd28 (l : List S28) (i : Nat) (h : i < l.length) : rd_T28 l (i : Int) = l[i]'h := by
  unfold rd_T28; rw [Int.toNat_natCast, List.getD_eq_getElem?_getD, List.getElem?_eq_getElem h]; rfl
theorem eq28 (x y : S28) : (((x.f0 == y.f0) && (x.f1 == y.f1)) = true) ↔ x = y := by
  obtain ⟨a, b⟩ := x; obtain ⟨c, d⟩ := y
  simp

theorem rangesIn_loop (l : List S28) (hn : l.length ≤ 2147483647) : ∀ (d k i : Nat), l.length - i = d → d < k → i ≤ l.length → ∃ t, spec_RangesIn.l0 k l l (l.length : Int) (i : Int) = some t ∧ (t = true → (∀ j (h : j < l.length), i ≤ j → In (p28 (l[j]'h))) ∧ l.length ≤ 60) := by
  intro d
  induction d with
  | zero =>
    intro k i hd hk hi
    obtain ⟨k, rfl⟩ : ∃ m, k = m + 1 := ⟨k - 1, by omega⟩
    simp only [spec_RangesIn.l0]
    rw [if_neg (by omega)]
    exact ⟨_, rfl, fun h => ⟨fun j hj hij => by omega, by have := of_decide_eq_true h; omega⟩⟩
  | succ d ih =>
    intro k i hd hk hi
    obtain ⟨k, rfl⟩ : ∃ m, k = m + 1 := ⟨k - 1, by omega⟩
    simp only [spec_RangesIn.l0]
    rw [if_pos (by omega), if_pos (by omega), if_pos (by omega), rd28 l i (by omega), wr i l.length (by omega) (by omega)]
    obtain ⟨t, ht, hin⟩ := rangeIn_is (l[i]'(by omega)).f0 (l[i]'(by omega)).f1
    rw [ht, Option.bind_some]
    cases t with
    | false => exact ⟨false, by simp, fun h => by cases h⟩
    | true =>
      rw [if_pos rfl]
      obtain ⟨t, ht2, h2⟩ := ih k (i + 1) (by omega) (by omega) (by omega)
      refine ⟨t, ht2, fun h => ⟨fun j hj hij => ?_, (h2 h).2⟩⟩
      rcases Nat.lt_or_eq_of_le hij with h3 | rfl
      · exact (h2 h).1 j hj h3
      · exact hin rfl
theorem rangesIn_is (l : List S28) (hn : l.length ≤ 2147483647) : ∃ t, Ev (fun k => spec_RangesIn.f k l) t ∧ (t = true → (∀ p ∈ l.map p28, In p) ∧ l.length ≤ 60) := by
  obtain ⟨t, ht, h⟩ := rangesIn_loop l hn l.length (l.length + 1) 0 (by omega) (by omega) (by omega)
  refine ⟨t, Ev.of (spec_RangesIn.mono l) (k := l.length + 1) ht, fun hh => ⟨fun p hp => ?_, (h hh).2⟩⟩
  obtain ⟨x, hx, rfl⟩ := List.mem_map.1 hp
  obtain ⟨j, hj, rfl⟩ := List.getElem_of_mem hx
  exact (h hh).1 j hj (by omega)
theorem tellAll_loop (l : List S61) (hn : l.length ≤ 2000000) : ∀ (d k i : Nat) (acc : List S28), l.length - i = d → d < k → i ≤ l.length → acc.length = i →
    impl_tellAll.l0 k acc l (l.length : Int) (i : Int) = some (acc ++ (l.drop i).map fun x => m28 (p61 x)) := by
  intro d
  induction d with
  | zero =>
    intro k i acc hd hk hi ha
    obtain ⟨k, rfl⟩ : ∃ m, k = m + 1 := ⟨k - 1, by omega⟩
    simp only [impl_tellAll.l0]
    rw [if_neg (by omega), List.drop_of_length_le (by omega)]
    simp
  | succ d ih =>
    intro k i acc hd hk hi ha
    obtain ⟨k, rfl⟩ : ∃ m, k = m + 1 := ⟨k - 1, by omega⟩
    simp only [impl_tellAll.l0]
    rw [if_pos (by omega), if_pos (by omega), if_pos (by omega), rd61 l i (by omega), wr i l.length (by omega) (by omega)]
    simp only [impl_told.f, Option.bind_some]
    rw [if_pos (by omega), ih k (i + 1) _ (by omega) (by omega) (by omega) (by simp; omega)]
    rw [List.drop_eq_getElem_cons (show i < l.length by omega), List.map_cons, List.append_assoc]
    rfl
theorem tellAll_is (l : List S61) (hn : l.length ≤ 2000000) : Ev (fun k => impl_tellAll.f k l) (l.map fun x => m28 (p61 x)) := by
  refine Ev.of (impl_tellAll.mono l) (k := l.length + 1) ?_
  have h := tellAll_loop l hn l.length (l.length + 1) 0 [] (by omega) (by omega) (by omega) rfl
  unfold impl_tellAll.f
  simpa using h
theorem inserted_is (l : List S28) (hn : l.length ≤ 800000) : impl_inserted.f l = some ((setOf (l.map p28)).map m61) := by
  unfold impl_inserted.f; rw [if_pos hn]; rfl
theorem setOf_len (l : List (Int × Int)) : (setOf l).length ≤ l.length := by have := fold_len l []; unfold setOf; simpa using this
theorem rangesOf_is (l : List S28) (hn : l.length ≤ 800000) : Ev (fun k => impl_RangesOf.f k l) ((setOf (l.map p28)).map m28) := by
  have hl := setOf_len (l.map p28)
  rw [List.length_map] at hl
  have h := tellAll_is ((setOf (l.map p28)).map m61) (by rw [List.length_map]; omega)
  have e : ((setOf (l.map p28)).map m61).map (fun x => m28 (p61 x)) = (setOf (l.map p28)).map m28 := by rw [List.map_map]; rfl
  rw [e] at h
  unfold impl_RangesOf.f
  refine Ev.congr (f := fun k => (impl_tellAll.f k ((setOf (l.map p28)).map m61)).bind fun t => some t) (fun k => by rw [inserted_is l hn]; rfl) ?_
  exact Ev.bind h (Ev.now _)
theorem same_loop (l m : List S28) (hlm : l.length = m.length) (hn : l.length ≤ 2147483647) : ∀ (d k i : Nat), l.length - i = d → d < k → i ≤ l.length →
    ∃ t, spec_RangesSame.l0 k l m (l.length : Int) (i : Int) = some t ∧ (t = true ↔ l.drop i = m.drop i) := by
  intro d
  induction d with
  | zero =>
    intro k i hd hk hi
    obtain ⟨k, rfl⟩ : ∃ m, k = m + 1 := ⟨k - 1, by omega⟩
    simp only [spec_RangesSame.l0]
    rw [if_neg (by omega), List.drop_of_length_le (by omega), List.drop_of_length_le (by omega)]
    exact ⟨true, rfl, by simp⟩
  | succ d ih =>
    intro k i hd hk hi
    obtain ⟨k, rfl⟩ : ∃ m, k = m + 1 := ⟨k - 1, by omega⟩
    simp only [spec_RangesSame.l0]
    rw [if_pos (by omega), if_pos (by omega), if_pos (by omega), if_pos (by omega), rd28 l i (by omega), rd28 m i (by omega), wr i l.length (by omega) (by omega)]
    rw [List.drop_eq_getElem_cons (show i < l.length by omega), List.drop_eq_getElem_cons (show i < m.length by omega)]
    by_cases he : l[i]'(by omega) = m[i]'(by omega)
    · rw [he]
      simp only [beq_self_eq_true, Bool.not_true, Bool.or_false, Bool.false_eq_true, if_false]
      obtain ⟨t, ht, h⟩ := ih k (i + 1) (by omega) (by omega) (by omega)
      exact ⟨t, ht, h.trans ⟨fun h => by rw [h], fun h => (List.cons.inj h).2⟩⟩
    · have hb : ((((l[i]'(by omega)).f0 == (m[i]'(by omega)).f0) && ((l[i]'(by omega)).f1 == (m[i]'(by omega)).f1)) = true) → False := fun h => he ((eq28 _ _).1 h)
      have hb2 : (!((l[i]'(by omega)).f0 == (m[i]'(by omega)).f0) || !((l[i]'(by omega)).f1 == (m[i]'(by omega)).f1)) = true := by
        cases h1 : ((l[i]'(by omega)).f0 == (m[i]'(by omega)).f0) <;> cases h2 : ((l[i]'(by omega)).f1 == (m[i]'(by omega)).f1) <;> simp [h1, h2] at hb ⊢
      rw [if_pos hb2]
      exact ⟨false, rfl, fun h => (by cases h), fun h => absurd (List.cons.inj h).1 he⟩
/-- Two lists are told to be the same just if they are. -/
theorem same_is (l m : List S28) (hn : l.length ≤ 2147483647) : ∃ t, Ev (fun k => spec_RangesSame.f k l m) t ∧ (t = true ↔ l = m) := by
  by_cases hlm : l.length = m.length
  · obtain ⟨t, ht, h⟩ := same_loop l m hlm hn l.length (l.length + 1) 0 (by omega) (by omega) (by omega)
    refine ⟨t, Ev.of (spec_RangesSame.mono l m) (k := l.length + 1) ?_, by simpa using h⟩
    unfold spec_RangesSame.f
    rw [if_pos (by omega)]; exact ht
  · refine ⟨false, Ev.of (spec_RangesSame.mono l m) (k := 0) ?_, ?_⟩
    · unfold spec_RangesSame.f
      rw [if_neg (by omega)]
    · constructor
      · intro h; cases h
      · intro h; rw [h] at hlm; exact absurd rfl hlm
theorem same_self (l : List S28) (hn : l.length ≤ 2147483647) : Ev (fun k => spec_RangesSame.f k l l) true := by
  obtain ⟨t, ht, h⟩ := same_is l l hn
  rw [h.2 rfl] at ht; exact ht
theorem rangeAsk_is (a b : Int) : ∃ t, spec_RangeAsk.f a b = some t ∧ (t = true → In (a, b) ∧ 0 ≤ b) := by
  obtain ⟨t, ht, h⟩ := rangeIn_is a b
  unfold spec_RangeAsk.f
  rw [ht, Option.bind_some]
  cases t with
  | false => exact ⟨false, by simp, fun h => by cases h⟩
  | true => exact ⟨_, rfl, fun hh => ⟨h rfl, by have := of_decide_eq_true hh; omega⟩⟩
/-! ### what is found -/
def m77 (x : (Int × Int) × Bool) : S77 := ⟨m61 x.1, x.2⟩
def m37 (x : (Int × Int) × Bool) : S37 := ⟨m28 x.1, x.2⟩
theorem rd77 (l : List S77) (i : Nat) (h : i < l.length) : rd_T77 l (i : Int) = l[i]'h := by
  unfold rd_T77; rw [Int.toNat_natCast, List.getD_eq_getElem?_getD, List.getElem?_eq_getElem h]; rfl
theorem rd37 (l : List S37) (i : Nat) (h : i < l.length) : rd_T37 l (i : Int) = l[i]'h := by
  unfold rd_T37; rw [Int.toNat_natCast, List.getD_eq_getElem?_getD, List.getElem?_eq_getElem h]; rfl
theorem find_f (xs : List (Int × Int)) (hn : xs.length ≤ 1000000) (r : Int × Int) : ranges_Ranges_Find.f (xs.map m61) r.1 r.2 = some ((find xs r).1.1, (find xs r).1.2, (find xs r).2.1.1, (find xs r).2.1.2, (find xs r).2.2) := by
  unfold ranges_Ranges_Find.f
  rw [if_pos (by rw [List.length_map]; exact hn)]
  have e : (xs.map m61).map (fun x => (x.f0, x.f1)) = xs := map_p61_m61 xs
  rw [e]
theorem findAll_loop (xs : List (Int × Int)) (h : Apart xs) (hn : xs.length ≤ 60) : ∀ (n : Nat) (r : Int × Int) (acc : List S77), (r.2 ≤ 0 ∨ Rang.Good r) → r.2 ≤ n → acc.length + (findAll xs n r).length ≤ 1000000 →
    Ev (fun k => ranges_Ranges_FindAll.l0 k (xs.map m61) acc r.1 r.2) (acc ++ (findAll xs n r).map m77) := by
  have stop : ∀ (r : Int × Int) (acc : List S77), r.2 ≤ 0 → Ev (fun k => ranges_Ranges_FindAll.l0 k (xs.map m61) acc r.1 r.2) acc := by
    intro r acc h0
    refine Ev.step (f := fun _ => some acc) (fun k => ?_) (Ev.now _)
    simp only [ranges_Ranges_FindAll.l0, ranges_Range_IsEmpty.f, Option.bind_some]
    rw [if_pos (decide_eq_true h0)]
  intro n
  induction n with
  | zero =>
    intro r acc hr hk hl
    have h0 : r.2 ≤ 0 := by omega
    have e : findAll xs 0 r = [] := rfl
    rw [e]; simpa using stop r acc h0
  | succ n ih =>
    intro r acc hr hk hl
    by_cases h0 : r.2 ≤ 0
    · have e : findAll xs (n + 1) r = [] := by unfold findAll; rw [if_pos h0]
      rw [e]; simpa using stop r acc h0
    · have hg := hr.resolve_left h0
      have f := find_is xs r h hg
      have ef : findAll xs (n + 1) r = ((find xs r).1, (find xs r).2.2) :: findAll xs n (find xs r).2.1 := by conv => lhs; unfold findAll; rw [if_neg h0]
      rw [ef] at hl ⊢
      have hff := find_f xs (by omega) r
      generalize find xs r = q at f hl hff ⊢
      obtain ⟨⟨c1, c2⟩, ⟨n1, n2⟩, p⟩ := q
      obtain ⟨e1, e2, e3, e4, e5⟩ := f
      simp only at e1 e2 e3 e4 e5 hff hl ⊢
      have ih2 := ih (n1, n2) (acc ++ [m77 ((c1, c2), p)]) (by
        rcases e5 with ⟨_, h⟩ | ⟨h1, h2, _⟩
        · left; simp only; omega
        · right; obtain ⟨rfl, rfl⟩ := Prod.mk.inj h2; unfold Rang.Good at hg ⊢; simp only; omega) (by
        rcases e5 with ⟨_, h⟩ | ⟨h1, h2, _⟩
        · simp only; omega
        · obtain ⟨rfl, rfl⟩ := Prod.mk.inj h2; simp only; omega) (by simp at hl ⊢; omega)
      have e : acc ++ List.map m77 (((c1, c2), p) :: findAll xs n (n1, n2)) = acc ++ [m77 ((c1, c2), p)] ++ List.map m77 (findAll xs n (n1, n2)) := by simp
      rw [e]
      refine Ev.step (fun k => ?_) ih2
      simp only [ranges_Ranges_FindAll.l0, ranges_Range_IsEmpty.f, Option.bind_some]
      rw [if_neg (by simpa using h0), hff, Option.bind_some, if_pos (by simp at hl; omega)]
      rfl
theorem tellFound_loop (l : List S77) (hn : l.length ≤ 2000000) : ∀ (d k i : Nat) (acc : List S37), l.length - i = d → d < k → i ≤ l.length → acc.length = i →
    impl_tellFound.l0 k acc l (l.length : Int) (i : Int) = some (acc ++ (l.drop i).map fun x => (⟨m28 (p61 x.f0), x.f1⟩ : S37)) := by
  intro d
  induction d with
  | zero =>
    intro k i acc hd hk hi ha
    obtain ⟨k, rfl⟩ : ∃ m, k = m + 1 := ⟨k - 1, by omega⟩
    simp only [impl_tellFound.l0]
    rw [if_neg (by omega), List.drop_of_length_le (by omega)]
    simp
  | succ d ih =>
    intro k i acc hd hk hi ha
    obtain ⟨k, rfl⟩ : ∃ m, k = m + 1 := ⟨k - 1, by omega⟩
    simp only [impl_tellFound.l0]
    rw [if_pos (by omega), if_pos (by omega), if_pos (by omega), rd77 l i (by omega), wr i l.length (by omega) (by omega)]
    simp only [impl_told.f, Option.bind_some]
    rw [if_pos (by omega), ih k (i + 1) _ (by omega) (by omega) (by omega) (by simp; omega)]
    rw [List.drop_eq_getElem_cons (show i < l.length by omega), List.map_cons, List.append_assoc]
    rfl
theorem tellFound_is (l : List ((Int × Int) × Bool)) (hn : l.length ≤ 2000000) : Ev (fun k => impl_tellFound.f k (l.map m77)) (l.map m37) := by
  refine Ev.of (impl_tellFound.mono _) (k := l.length + 1) ?_
  have h := tellFound_loop (l.map m77) (by rw [List.length_map]; exact hn) (l.map m77).length (l.length + 1) 0 [] (by omega) (by rw [List.length_map]; omega) (by omega) rfl
  unfold impl_tellFound.f
  have e : (l.map m77).map (fun x => (⟨m28 (p61 x.f0), x.f1⟩ : S37)) = l.map m37 := by rw [List.map_map]; rfl
  rw [List.nil_append, List.drop_zero, e] at h
  exact h
/-- All parts of a range, as they are found in the set of a list. -/
def parts (l : List (Int × Int)) (r : Int × Int) : List ((Int × Int) × Bool) := findAll (setOf l) r.2.toNat r
theorem parts_short {l : List (Int × Int)} (hl : ∀ p ∈ l, In p) (hn : l.length ≤ 60) {r : Int × Int} (hr : r.2 = 0 ∨ Rang.Good r) : (parts l r).length ≤ 121 := by
  have hlen := setOf_len l
  unfold parts
  rcases hr with h0 | hg
  · rw [show r.2.toNat = 0 by omega]; simp [findAll]
  · have hp := findAll_parts (setOf_apart (fun p hp => (hl p hp).near)) r.2.toNat r hg (by omega)
    have h := (parts_len hp).1
    have hc := List.countP_le_length (p := fun q : Int × Int => decide (r.1 < q.1 + q.2)) (l := setOf l)
    omega
theorem rangesFindAll_is (l : List S28) (hl : ∀ p ∈ l.map p28, In p) (hn : l.length ≤ 60) (r : Int × Int) (hr : r.2 = 0 ∨ Rang.Good r) : Ev (fun k => impl_RangesFindAll.f k l r.1 r.2) ((parts (l.map p28) r).map m37) := by
  have hlen := setOf_len (l.map p28)
  rw [List.length_map] at hlen
  have hs := parts_short hl (by rw [List.length_map]; exact hn) hr
  have h1 := findAll_loop (setOf (l.map p28)) (setOf_apart (fun p hp => (hl p hp).near)) (by omega) r.2.toNat r [] (hr.imp (fun h => by omega) id) (by omega) (by show 0 + (parts (l.map p28) r).length ≤ 1000000; omega)
  rw [List.nil_append] at h1
  unfold impl_RangesFindAll.f
  refine Ev.congr (f := fun k => (ranges_Ranges_FindAll.f k ((setOf (l.map p28)).map m61) r.1 r.2).bind fun t149 => ((impl_tellFound.f k t149).bind fun t152 => (some t152))) (fun k => by rw [inserted_is l (by omega)]; rfl) ?_
  exact Ev.bind h1 (Ev.bind (tellFound_is (parts (l.map p28) r) (by omega)) (Ev.now _))
/-- The sizes, one added to the other as Go adds. -/
def sumW (acc : Int) (l : List Int) : Int := l.foldl (fun a x => wrap64 (a + x)) acc
theorem wrap_in (x : Int) : -9223372036854775808 ≤ wrap64 x ∧ wrap64 x ≤ 9223372036854775807 := by unfold wrap64; omega
theorem sumW_is : ∀ (l : List Int) (acc : Int), -9223372036854775808 ≤ acc → acc ≤ 9223372036854775807 → sumW acc l = wrap64 (acc + l.sum)
  | [], acc, h1, h2 => by unfold sumW wrap64; simp; omega
  | x :: l, acc, h1, h2 => by
    have h := sumW_is l (wrap64 (acc + x)) (wrap_in _).1 (wrap_in _).2
    have e : sumW acc (x :: l) = sumW (wrap64 (acc + x)) l := rfl
    rw [e, h, List.sum_cons]
    unfold wrap64
    omega
theorem size61_loop (l : List S61) (hn : l.length ≤ 2000000) : ∀ (d k i : Nat) (acc : Int), l.length - i = d → d < k → i ≤ l.length →
    ranges_Ranges_Size.l0 k acc l (l.length : Int) (i : Int) = some (sumW acc ((l.drop i).map (·.f1))) := by
  intro d
  induction d with
  | zero =>
    intro k i acc hd hk hi
    obtain ⟨k, rfl⟩ : ∃ m, k = m + 1 := ⟨k - 1, by omega⟩
    simp only [ranges_Ranges_Size.l0]
    rw [if_neg (by omega), List.drop_of_length_le (by omega)]
    rfl
  | succ d ih =>
    intro k i acc hd hk hi
    obtain ⟨k, rfl⟩ : ∃ m, k = m + 1 := ⟨k - 1, by omega⟩
    simp only [ranges_Ranges_Size.l0]
    rw [if_pos (by omega), if_pos (by omega), if_pos (by omega), rd61 l i (by omega), wr i l.length (by omega) (by omega), ih k (i + 1) _ (by omega) (by omega) (by omega)]
    rw [List.drop_eq_getElem_cons (show i < l.length by omega)]
    rfl
theorem size_is (l : List S28) (hn : l.length ≤ 800000) : Ev (fun k => impl_RangesSize.f k l) (wrap64 (mass (setOf (l.map p28)))) := by
  have hlen := setOf_len (l.map p28)
  rw [List.length_map] at hlen
  have h : Ev (fun k => ranges_Ranges_Size.f k ((setOf (l.map p28)).map m61)) (wrap64 (mass (setOf (l.map p28)))) := by
    refine Ev.of (ranges_Ranges_Size.mono _) (k := (setOf (l.map p28)).length + 1) ?_
    have h := size61_loop ((setOf (l.map p28)).map m61) (by rw [List.length_map]; omega) _ ((setOf (l.map p28)).length + 1) 0 0 rfl (by rw [List.length_map]; omega) (by omega)
    rw [List.drop_zero, List.map_map, sumW_is _ 0 (by omega) (by omega), Int.zero_add] at h
    exact h
  unfold impl_RangesSize.f
  exact Ev.congr (fun k => by rw [inserted_is l (by omega)]; rfl) (Ev.bind h (Ev.now _))
theorem findAny_is (l : List S28) (hn : l.length ≤ 800000) (r : Int × Int) : impl_RangesFind.f l r.1 r.2 = some ((find (setOf (l.map p28)) r).1.1, (find (setOf (l.map p28)) r).1.2, (find (setOf (l.map p28)) r).2.1.1, (find (setOf (l.map p28)) r).2.1.2, (find (setOf (l.map p28)) r).2.2) := by
  have hlen := setOf_len (l.map p28)
  rw [List.length_map] at hlen
  unfold impl_RangesFind.f
  rw [inserted_is l (by omega)]
  simp only [Option.bind_some, impl_given.f, impl_told.f]
  rw [find_f _ (by omega) r]
  rfl
theorem equal_is (l m : List S28) (hl : l.length ≤ 800000) (hm : m.length ≤ 800000) (h : setOf (l.map p28) = setOf (m.map p28)) : impl_RangesEqual.f l m = some true := by
  have hlen := setOf_len (m.map p28)
  rw [List.length_map] at hlen
  unfold impl_RangesEqual.f
  rw [inserted_is l hl, inserted_is m hm, h]
  simp only [Option.bind_some, ranges_Ranges_Equal.f]
  rw [if_pos (by rw [List.length_map]; omega), Option.bind_some]
  simp
/-- A range is there, or its first missing byte is found. -/
theorem gap_is (l : List S28) (hl : ∀ p ∈ l.map p28, Near p) (hn : l.length ≤ 800000) (r1 r2 : Int) (hg : Rang.Good (r1, r2)) :
    (impl_RangesPresent.f l r1 r2 = some true ∧ ∀ b, r1 ≤ b → b < r1 + r2 → Has (setOf (l.map p28)) b) ∨
    (impl_RangesPresent.f l r1 r2 = some false ∧ ∃ m, impl_RangesMissing.f l r1 r2 = some (m, r1 + r2 - m) ∧ r1 ≤ m ∧ m < r1 + r2 ∧ (∀ b, r1 ≤ b → b < m → Has (setOf (l.map p28)) b) ∧ ¬ Has (setOf (l.map p28)) m) := by
  have hap := setOf_apart hl
  have hlen := setOf_len (l.map p28)
  rw [List.length_map] at hlen
  have f := find_is _ (r1, r2) hap hg
  have hff := find_f (setOf (l.map p28)) (by omega) (r1, r2)
  generalize find (setOf (l.map p28)) (r1, r2) = q at f hff
  obtain ⟨⟨c1, c2⟩, ⟨n1, n2⟩, p⟩ := q
  obtain ⟨e1, e2, e3, e4, e5⟩ := f
  have hg' := hg
  unfold Rang.Good at hg'
  simp only at e1 e2 e3 e4 e5 hff hg'
  subst e1
  have hne : ¬ (decide (r2 ≤ 0) = true) := by simp; omega
  have hpres : impl_RangesPresent.f l c1 r2 = some (p && decide (n2 ≤ 0)) := by
    unfold impl_RangesPresent.f
    rw [inserted_is l hn]
    simp only [Option.bind_some, impl_given.f, ranges_Ranges_Present.f, ranges_Range_IsEmpty.f]
    rw [if_neg hne, hff]
    simp only [Option.bind_some]
    cases p with
    | false => rfl
    | true => by_cases h : n2 ≤ 0 <;> simp [h]
  have hmiss : impl_RangesMissing.f l c1 r2 = some (if p = true then (wrap64 (c1 + c2), wrap64 (r2 - wrap64 (wrap64 (c1 + c2) - c1))) else (c1, r2)) := by
    unfold impl_RangesMissing.f
    rw [inserted_is l hn]
    simp only [Option.bind_some, impl_given.f, ranges_Ranges_FindMissing.f, ranges_Range_IsEmpty.f, ranges_Range_End.f, impl_told.f]
    rw [if_neg hne, hff]
    simp only [Option.bind_some]
    cases p with
    | false => rfl
    | true => rfl
  rw [hpres, hmiss]
  cases p with
  | false =>
    right
    refine ⟨rfl, c1, ?_, Int.le_refl _, by omega, fun b h1 h2 => by omega, fun h => ?_⟩
    · rw [if_neg (by simp)]; congr 2; omega
    · have := (e4 c1 (Int.le_refl _) (by omega)).1 h; cases this
  | true =>
    rcases e5 with ⟨h1, h2⟩ | ⟨h1, h2, h3⟩
    · left
      refine ⟨by simp; omega, fun b hb1 hb2 => (e4 b hb1 (by omega)).2 rfl⟩
    · right
      obtain ⟨rfl, rfl⟩ := Prod.mk.inj h2
      have hw : wrap64 (c1 + c2) = c1 + c2 := by unfold wrap64; omega
      have hw2 : wrap64 (c1 + c2 - c1) = c2 := by unfold wrap64; omega
      have hw3 : wrap64 (r2 - c2) = r2 - c2 := by unfold wrap64; omega
      refine ⟨by simp; omega, c1 + c2, ?_, by omega, by omega, fun b hb1 hb2 => (e4 b hb1 hb2).2 rfl, fun h => ?_⟩
      · rw [if_pos rfl, hw, hw2, hw3]; congr 2; omega
      · have := h3.1 h; cases this
theorem has_start {xs : List (Int × Int)} {b : Int} (h : Has xs b) (h1 : ¬ Has xs (b - 1)) : ∃ p ∈ xs, p.1 = b := by
  obtain ⟨p, hp, h2, h3⟩ := h
  refine ⟨p, hp, ?_⟩
  rcases Int.lt_or_le p.1 b with h4 | h4
  · exact absurd ⟨p, hp, by omega, by omega⟩ h1
  · omega
theorem countP_drop {xs : List (Int × Int)} {M M' : Int} (hM : M < M') (h : ∃ p ∈ xs, p.1 = M') : xs.countP (fun p => decide (M' < p.1)) + 1 ≤ xs.countP (fun p => decide (M < p.1)) := by
  induction xs with
  | nil => obtain ⟨p, hp, _⟩ := h; cases hp
  | cons x xs ih =>
    have hmono : xs.countP (fun p => decide (M' < p.1)) ≤ xs.countP (fun p => decide (M < p.1)) := List.countP_mono_left (fun p _ hp => by simp at hp ⊢; omega)
    obtain ⟨p, hp, e⟩ := h
    rw [List.countP_cons, List.countP_cons]
    rcases List.mem_cons.1 hp with rfl | hp
    · rw [if_neg (by simp; omega), if_pos (by simp; omega)]; omega
    · have := ih ⟨p, hp, e⟩
      by_cases hx : M' < x.1
      · rw [if_pos (by simpa using hx), if_pos (by simp; omega)]; omega
      · rw [if_neg (by simpa using hx)]; omega
theorem wrap_add (T d : Int) : wrap64 (wrap64 T + d) = wrap64 (T + d) := by unfold wrap64; omega
theorem mn_is (a b : Int) (ha : 1 ≤ a) (hb : 1 ≤ b) : 1 ≤ mn a b ∧ mn a b ≤ a ∧ (mn a b = a ∨ mn a b = b) := by unfold mn; split <;> omega

theorem fill_end (l : List S28) (hl : ∀ p ∈ l.map p28, Near p) (hn : l.length ≤ 20) (r1 r2 most : Int) (hg : Rang.Good (r1, r2)) (had : List S28) (T M : Int) (hlen : had.length ≤ 100)
    (hnear : ∀ p ∈ had.map p28, Near p) (hM2 : M ≤ r1 + r2) (hhas : ∀ x, Has (setOf (had.map p28)) x ↔ Has (setOf (l.map p28)) x ∨ (r1 ≤ x ∧ x < M)) (hmass : mass (setOf (had.map p28)) = mass (setOf (l.map p28)) + T)
    (hp : impl_RangesPresent.f had r1 r2 = some true) (hall : ∀ b, r1 ≤ b → b < r1 + r2 → Has (setOf (had.map p28)) b) : Ev (fun k => laws_FnRangesFill.l0 k l most had (wrap64 T) r1 r2) true := by
  have hset : setOf (had.map p28) = setOf ((l ++ [(⟨r1, r2⟩ : S28)]).map p28) := by
    have e : (l ++ [(⟨r1, r2⟩ : S28)]).map p28 = l.map p28 ++ [(r1, r2)] := by rw [List.map_append]; rfl
    rw [e, setOf_snoc]
    have hi := ins_apart _ (r1, r2) (setOf_apart hl) hg
    refine apart_unique _ _ (setOf_apart hnear) hi.1 (fun b => (hhas b).trans (Iff.trans ⟨fun h => h.imp id (fun h => ⟨h.1, by simp only; omega⟩), fun h => ?_⟩ (hi.2 b).symm))
    rcases h with h | ⟨h1, h2⟩
    · exact .inl h
    · exact (hhas b).1 (hall b h1 h2)
  have heq := equal_is had (l ++ [(⟨r1, r2⟩ : S28)]) (by omega) (by simp; omega) hset
  have hs1 := size_is l (by omega)
  have hs2 := size_is (l ++ [(⟨r1, r2⟩ : S28)]) (by simp; omega)
  rw [← hset, hmass] at hs2
  refine Ev.step (f := fun k => (impl_RangesSize.f k l).bind fun t271 => ((impl_RangesSize.f k (l ++ [(⟨r1, r2⟩ : S28)])).bind fun t272 => (some ((wrap64 (t271 + wrap64 T)) == t272)))) (fun k => ?_) (Ev.bind hs1 (Ev.bind hs2 (Ev.congr (fun k => ?_) (Ev.now true))))
  · simp only [laws_FnRangesFill.l0]
    rw [hp]
    simp only [Option.bind_some, if_true, List.nil_append, List.length_nil]
    rw [if_pos (by omega), if_pos (by simp; omega), heq]
    simp only [Option.bind_some, if_true]
  · have e : wrap64 (wrap64 (mass (setOf (l.map p28))) + wrap64 T) = wrap64 (mass (setOf (l.map p28)) + T) := by unfold wrap64; omega
    rw [e, beq_self_eq_true]
theorem fill_loop (l : List S28) (hl : ∀ p ∈ l.map p28, Near p) (hn : l.length ≤ 20) (r1 r2 most : Int) (hg : Rang.Good (r1, r2)) (hm : 1 ≤ most) : ∀ (n : Nat) (a : Int) (b : Nat) (had : List S28) (T M : Int), a + b = n → 0 ≤ a → had.length + n ≤ 100 →
    (∀ p ∈ had.map p28, Near p) → r1 ≤ M → M ≤ r1 + r2 → (∀ x, Has (setOf (had.map p28)) x ↔ Has (setOf (l.map p28)) x ∨ (r1 ≤ x ∧ x < M)) → mass (setOf (had.map p28)) = mass (setOf (l.map p28)) + T →
    r1 + r2 - M ≤ most * a → (setOf (l.map p28)).countP (fun p => decide (M < p.1)) ≤ b → Ev (fun k => laws_FnRangesFill.l0 k l most had (wrap64 T) r1 r2) true := by
  intro n
  induction n with
  | zero =>
    intro a b had T M hab ha hlen hnear hM1 hM2 hhas hmass hA hB
    have ha0 : a = 0 := by omega
    subst ha0
    rcases gap_is had hnear (by omega) r1 r2 hg with ⟨hp, hall⟩ | ⟨hp, m, _, h1, h2, h3, h4⟩
    · exact fill_end l hl hn r1 r2 most hg had T M (by omega) hnear hM2 hhas hmass hp hall
    · exact absurd ((hhas m).2 (.inr ⟨h1, by omega⟩)) h4
  | succ n ih =>
    intro a b had T M hab ha hlen hnear hM1 hM2 hhas hmass hA hB
    rcases gap_is had hnear (by omega) r1 r2 hg with ⟨hp, hall⟩ | ⟨hp, m, hmiss, h1, h2, h3, h4⟩
    · exact fill_end l hl hn r1 r2 most hg had T M (by omega) hnear hM2 hhas hmass hp hall
    · have hg' := hg
      unfold Rang.Good at hg'
      simp only at hg'
      have hMm : M ≤ m := by
        rcases Int.lt_or_le m M with h | h
        · exact absurd ((hhas m).2 (.inr ⟨h1, h⟩)) h4
        · exact h
      have hgm : Rang.Good (m, r1 + r2 - m) := by unfold Rang.Good; simp only; omega
      have hapX := setOf_apart hnear
      have f := find_is _ (m, r1 + r2 - m) hapX hgm
      have hff := findAny_is had (by omega) (m, r1 + r2 - m)
      generalize find (setOf (had.map p28)) (m, r1 + r2 - m) = q at f hff
      obtain ⟨⟨c1, c2⟩, ⟨n1, n2⟩, p⟩ := q
      obtain ⟨e1, e2, e3, e4, e5⟩ := f
      simp only at e1 e2 e3 e4 e5 hff
      subst e1
      have hpf : p = false := by
        cases p with
        | false => rfl
        | true => exact absurd ((e4 c1 (Int.le_refl _) (by omega)).2 rfl) h4
      subst hpf
      obtain ⟨hs1, hs2, hs3⟩ := mn_is c2 most e2 hm
      have hfree : ∀ x, c1 ≤ x → x < c1 + mn c2 most → ¬ Has (setOf (had.map p28)) x := fun x hx1 hx2 h => by
        have := (e4 x hx1 (by omega)).1 h; cases this
      have hgs : Rang.Good (c1, mn c2 most) := by unfold Rang.Good; simp only; omega
      have emap : (had ++ [(⟨c1, mn c2 most⟩ : S28)]).map p28 = had.map p28 ++ [(c1, mn c2 most)] := by rw [List.map_append]; rfl
      have hi := ins_apart _ (c1, mn c2 most) hapX hgs
      have hmass2 := ins_mass _ (c1, mn c2 most) hapX hgs hfree
      rw [← setOf_snoc, ← emap] at hi hmass2
      have hnext : ∀ (a' : Int) (b' : Nat), a' + b' = n → 0 ≤ a' → r1 + r2 - (c1 + mn c2 most) ≤ most * a' → (setOf (l.map p28)).countP (fun p => decide (c1 + mn c2 most < p.1)) ≤ b' →
          Ev (fun k => laws_FnRangesFill.l0 k l most (had ++ [(⟨c1, mn c2 most⟩ : S28)]) (wrap64 (T + mn c2 most)) r1 r2) true := by
        intro a' b' hab' ha' hA' hB'
        refine ih a' b' _ _ (c1 + mn c2 most) hab' ha' (by simp; omega) (fun p hp => ?_) (by omega) (by omega) (fun x => (hi.2 x).trans ?_) (by rw [hmass2, hmass]; simp only; omega) hA' hB'
        · rw [emap] at hp
          rcases List.mem_append.1 hp with hp | hp
          · exact hnear p hp
          · rw [List.mem_singleton.1 hp]; exact .inr hgs
        · rw [hhas x]
          simp only
          constructor
          · rintro ((h | h) | h)
            · exact .inl h
            · exact .inr (by omega)
            · exact .inr (by omega)
          · rintro (h | ⟨hx1, hx2⟩)
            · exact .inl (.inl h)
            · rcases Int.lt_or_le x c1 with h | h
              · exact .inl ((hhas x).1 (h3 x hx1 h))
              · exact .inr ⟨h, hx2⟩
      have hgoal : Ev (fun k => laws_FnRangesFill.l0 k l most (had ++ [(⟨c1, mn c2 most⟩ : S28)]) (wrap64 (T + mn c2 most)) r1 r2) true := by
        have ha1 : 1 ≤ a := by
          rcases Int.lt_or_le a 1 with h | h
          · have : a = 0 := by omega
            subst this; omega
          · exact h
        have hmul : most * (a - 1) = most * a - most := by rw [Int.mul_sub, Int.mul_one]
        have hmulnn : 0 ≤ most * (a - 1) := Int.mul_nonneg (by omega) (by omega)
        have hBm : (setOf (l.map p28)).countP (fun p => decide (c1 + mn c2 most < p.1)) ≤ (setOf (l.map p28)).countP (fun p => decide (M < p.1)) := List.countP_mono_left (fun p _ hp => by simp at hp ⊢; omega)
        by_cases hcase : mn c2 most = most ∨ c2 = r1 + r2 - c1
        · refine hnext (a - 1) b (by omega) (by omega) ?_ (by omega)
          rcases hcase with h | h
          · omega
          · rcases hs3 with h5 | h5 <;> omega
        · have hc2 : mn c2 most = c2 := by omega
          obtain ⟨h5, h6, h7⟩ := e5.resolve_left (by omega)
          have hX : Has (setOf (had.map p28)) (c1 + c2) := h7.2 rfl
          have hS : Has (setOf (l.map p28)) (c1 + c2) := by
            rcases (hhas _).1 hX with h | h
            · exact h
            · omega
          have hS' : ¬ Has (setOf (l.map p28)) (c1 + c2 - 1) := fun h => hfree (c1 + c2 - 1) (by omega) (by omega) ((hhas _).2 (.inl h))
          have hd := countP_drop (M := M) (by omega) (has_start hS hS')
          rw [hc2] at hnext ⊢
          have hle : most * a = most * a := rfl
          exact hnext a (b - 1) (by omega) ha (by omega) (by omega)
      refine Ev.step (fun k => ?_) hgoal
      simp only [laws_FnRangesFill.l0]
      rw [hp]
      simp only [Option.bind_some, Bool.false_eq_true, if_false]
      rw [if_neg (by omega), hmiss]
      simp only [Option.bind_some]
      rw [if_neg (by omega), hff]
      simp only [Option.bind_some, Bool.false_eq_true, if_false]
      rw [if_pos trivial, if_neg (by omega), if_pos (by simp; omega), wrap_add]
theorem tdiv_lt {a b : Int} (hb : 1 ≤ b) (ha : 0 ≤ a) (h : Int.tdiv a b ≤ 30) : a ≤ b * 31 := by
  have h1 : a = b * Int.tdiv a b + Int.tmod a b := (Int.mul_tdiv_add_tmod a b).symm
  have h2 : Int.tmod a b < b := Int.tmod_lt_of_pos a (by omega)
  have h3 : b * Int.tdiv a b ≤ b * 30 := Int.mul_le_mul_of_nonneg_left h (by omega)
  omega
theorem FnRangesFill (l : List S28) (r1 r2 most : Int) : ∃ k, laws_FnRangesFill.f k l r1 r2 most = some true := by
  by_cases hn : (l.length : Int) > 2147483647
  · exact ⟨0, by unfold laws_FnRangesFill.f; rw [if_pos hn]⟩
  · obtain ⟨t, ht, h⟩ := rangesIn_is l (by omega)
    refine Ev.rounds (r := true) ?_
    unfold laws_FnRangesFill.f
    refine Ev.congr (fun k => if_neg hn) (Ev.bind ht ?_)
    have hyes : Ev (fun k => laws_FnRangesFill.j0 k l most true r1 r2) true := Ev.step (f := fun _ => some true) (fun k => by simp [laws_FnRangesFill.j0]) (Ev.now _)
    have hyes1 : Ev (fun k => laws_FnRangesFill.j1 k l most true r1 r2) true := Ev.step (f := fun _ => some true) (fun k => by simp [laws_FnRangesFill.j1]) (Ev.now _)
    cases t with
    | false => exact Ev.congr (fun k => by simp) hyes
    | true =>
      obtain ⟨hl, h60⟩ := h rfl
      by_cases h20 : (l.length : Int) > 20
      · exact Ev.congr (fun k => by rw [if_pos rfl, if_pos h20]) hyes
      obtain ⟨u, hu, hask⟩ := rangeAsk_is r1 r2
      cases u with
      | false => exact Ev.congr (fun k => by rw [if_pos rfl, if_neg h20, hu, Option.bind_some, if_neg (by simp)]) hyes
      | true =>
        obtain ⟨hin, h0⟩ := hask rfl
        by_cases hm : most < 1
        · exact Ev.congr (fun k => by rw [if_pos rfl, if_neg h20, hu, Option.bind_some, if_pos rfl, decide_eq_true hm]) hyes
        refine Ev.congr (f := fun k => laws_FnRangesFill.j0 k l most false r1 r2) (fun k => by rw [if_pos rfl, if_neg h20, hu, Option.bind_some, if_pos rfl, decide_eq_false hm]) ?_
        refine Ev.step (f := fun k => (laws_rangeAwake.f k).bind fun t250 => (if t250 = true then (if (wrap64 (Int.tdiv r2 most)) > 30 then (laws_FnRangesFill.j1 k l most true r1 r2) else (laws_FnRangesFill.j1 k l most (decide (r2 < 1)) r1 r2)) else (some false))) (fun k => ?_) (Ev.bind awake (Ev.congr (fun k => if_pos rfl) ?_))
        · simp only [laws_FnRangesFill.j0, Bool.false_eq_true, if_false]
          simp only [if_neg (show ¬ most = 0 by omega)]
        by_cases hd : (wrap64 (Int.tdiv r2 most)) > 30
        · exact Ev.congr (fun k => by rw [if_pos hd]) hyes1
        refine Ev.congr (fun k => by rw [if_neg hd]) ?_
        by_cases hz : r2 < 1
        · rw [decide_eq_true hz]; exact hyes1
        rw [decide_eq_false hz]
        have hg : Rang.Good (r1, r2) := (In.good hin h0).resolve_left (by simp only; omega)
        have hin' := hin
        unfold In at hin'
        simp only at hin'
        have hdn : 0 ≤ Int.tdiv r2 most := Int.tdiv_nonneg (by omega) (by omega)
        have hdl : Int.tdiv r2 most ≤ r2 := Int.tdiv_le_self most (by omega)
        have hd30 : Int.tdiv r2 most ≤ 30 := by
          have : wrap64 (Int.tdiv r2 most) = Int.tdiv r2 most := by unfold wrap64; omega
          rw [this] at hd; omega
        have h31 := tdiv_lt (show 1 ≤ most by omega) (by omega) hd30
        have hlen := setOf_len (l.map p28)
        rw [List.length_map] at hlen
        have hnear : ∀ p ∈ l.map p28, Near p := fun p hp => (hl p hp).near
        have hc := List.countP_le_length (p := fun p : Int × Int => decide (r1 < p.1)) (l := setOf (l.map p28))
        have hgo := fill_loop l hnear (by omega) r1 r2 most hg (by omega) 51 31 20 l 0 r1 (by omega) (by omega) (by omega) hnear (Int.le_refl _) (by omega) (fun x => ⟨.inl, fun h => h.elim id (fun h => by omega)⟩) (by omega) (by omega) (by omega)
        have w0 : wrap64 0 = 0 := by unfold wrap64; omega
        rw [w0] at hgo
        refine Ev.step (fun k => ?_) hgo
        simp only [laws_FnRangesFill.j1, Bool.false_eq_true, if_false, Option.bind_some, List.nil_append, List.length_nil]
        rw [if_pos (by omega)]
end Go.Proofs.Ytfegihmnpcjdgaa.Pure

/- The ranges of a set, inserted into nothing, or behind themselves, make the set again. -/
import Derived.Test.YtfegihmnpcjdgaaPFnRangesAgainx4
import Derived.Test.YtfegihmnpcjdgaaRangFind
namespace Go.Proofs.Ytfegihmnpcjdgaa.Pure
open Go.RowKit Go.Proofs.Ytfegihmnpcjdgaa.PFnRangesAgain Go.Proofs.YtfegihmnpcjdgaaW.PrintWords Go.Proofs.YtfegihmnpcjdgaaW.PrintLast Go.Proofs.YtfegihmnpcjdgaaW.PrintMore Go.Proofs.Ytfegihmnpcjdgaa.Rang
set_option linter.unusedVariables false
set_option linter.unusedSimpArgs false
theorem wr (i n : Nat) (h : i < n) (hn : n ≤ 4000000000000000000) : wrap64 ((i : Int) + 1) = ((i + 1 : Nat) : Int) := by unfold wrap64; omega
def p28 (x : S28) : Int × Int := (x.f0, x.f1)
def p61 (x : S61) : Int × Int := (x.f0, x.f1)
def m28 (p : Int × Int) : S28 := ⟨p.1, p.2⟩
def m61 (p : Int × Int) : S61 := ⟨p.1, p.2⟩
theorem p28_m28 (p : Int × Int) : p28 (m28 p) = p := rfl
theorem m28_p28 (x : S28) : m28 (p28 x) = x := rfl
theorem p61_m61 (p : Int × Int) : p61 (m61 p) = p := rfl
theorem map_p28_m28 (l : List (Int × Int)) : (l.map m28).map p28 = l := by rw [List.map_map]; exact List.map_id l
theorem map_m28_p28 (l : List S28) : (l.map p28).map m28 = l := by rw [List.map_map]; exact List.map_id l
theorem map_p61_m61 (l : List (Int × Int)) : (l.map m61).map p61 = l := by rw [List.map_map]; exact List.map_id l
theorem rd61 (l : List S61) (i : Nat) (h : i < l.length) : rd_T61 l (i : Int) = l[i]'h := by
  unfold rd_T61; rw [Int.toNat_natCast, List.getD_eq_getElem?_getD, List.getElem?_eq_getElem h]; rfl
theorem rd28 (l : List S28) (i : Nat) (h : i < l.length) : rd_T28 l (i : Int) = l[i]'h := by
  unfold rd_T28; rw [Int.toNat_natCast, List.getD_eq_getElem?_getD, List.getElem?_eq_getElem h]; rfl
theorem eq28 (x y : S28) : (((x.f0 == y.f0) && (x.f1 == y.f1)) = true) ↔ x = y := by
  obtain ⟨a, b⟩ := x; obtain ⟨c, d⟩ := y
  simp

/-- Is a range near enough, as the statement asks? -/
def In (p : Int × Int) : Prop := -1099511627776 ≤ p.2 ∧ p.2 ≤ 1099511627776 ∧ -1099511627776 ≤ p.1 ∧ p.1 ≤ 1099511627776
theorem In.near {p : Int × Int} (h : In p) : Near p := by unfold In at h; unfold Near Rang.Good; omega
theorem rangeIn_is (a b : Int) : ∃ t, spec_RangeIn.f a b = some t ∧ (t = true → In (a, b)) := by
  unfold spec_RangeIn.f In
  split
  · split
    · split
      · refine ⟨_, rfl, fun h => ?_⟩
        have := of_decide_eq_true h
        simp only; omega
      · exact ⟨false, rfl, fun h => by cases h⟩
    · exact ⟨false, rfl, fun h => by cases h⟩
  · exact ⟨false, rfl, fun h => by cases h⟩
theorem rangesIn_loop (l : List S28) (hn : l.length ≤ 2147483647) : ∀ (d k i : Nat), l.length - i = d → d < k → i ≤ l.length → ∃ t, spec_RangesIn.l0 k l l (l.length : Int) (i : Int) = some t ∧ (t = true → (∀ j (h : j < l.length), i ≤ j → In (p28 (l[j]'h))) ∧ l.length ≤ 60) := by
  intro d
  induction d with
  | zero =>
    intro k i hd hk hi
    obtain ⟨k, rfl⟩ : ∃ m, k = m + 1 := ⟨k - 1, by omega⟩
    simp only [spec_RangesIn.l0]
    rw [if_neg (by omega)]
    exact ⟨_, rfl, fun h => ⟨fun j hj hij => by omega, by have := of_decide_eq_true h; omega⟩⟩
  | succ d ih =>
    intro k i hd hk hi
    obtain ⟨k, rfl⟩ : ∃ m, k = m + 1 := ⟨k - 1, by omega⟩
    simp only [spec_RangesIn.l0]
    rw [if_pos (by omega), if_pos (by omega), if_pos (by omega), rd28 l i (by omega), wr i l.length (by omega) (by omega)]
    obtain ⟨t, ht, hin⟩ := rangeIn_is (l[i]'(by omega)).f0 (l[i]'(by omega)).f1
    rw [ht, Option.bind_some]
    cases t with
    | false => exact ⟨false, by simp, fun h => by cases h⟩
    | true =>
      rw [if_pos rfl]
      obtain ⟨t, ht2, h2⟩ := ih k (i + 1) (by omega) (by omega) (by omega)
      refine ⟨t, ht2, fun h => ⟨fun j hj hij => ?_, (h2 h).2⟩⟩
      rcases Nat.lt_or_eq_of_le hij with h3 | rfl
      · exact (h2 h).1 j hj h3
      · exact hin rfl
theorem rangesIn_is (l : List S28) (hn : l.length ≤ 2147483647) : ∃ t, Ev (fun k => spec_RangesIn.f k l) t ∧ (t = true → (∀ p ∈ l.map p28, In p) ∧ l.length ≤ 60) := by
  obtain ⟨t, ht, h⟩ := rangesIn_loop l hn l.length (l.length + 1) 0 (by omega) (by omega) (by omega)
  refine ⟨t, Ev.of (spec_RangesIn.mono l) (k := l.length + 1) ht, fun hh => ⟨fun p hp => ?_, (h hh).2⟩⟩
  obtain ⟨x, hx, rfl⟩ := List.mem_map.1 hp
  obtain ⟨j, hj, rfl⟩ := List.getElem_of_mem hx
  exact (h hh).1 j hj (by omega)
theorem tellAll_loop (l : List S61) (hn : l.length ≤ 2000000) : ∀ (d k i : Nat) (acc : List S28), l.length - i = d → d < k → i ≤ l.length → acc.length = i →
    impl_tellAll.l0 k acc l (l.length : Int) (i : Int) = some (acc ++ (l.drop i).map fun x => m28 (p61 x)) := by
  intro d
  induction d with
  | zero =>
    intro k i acc hd hk hi ha
    obtain ⟨k, rfl⟩ : ∃ m, k = m + 1 := ⟨k - 1, by omega⟩
    simp only [impl_tellAll.l0]
    rw [if_neg (by omega), List.drop_of_length_le (by omega)]
    simp
  | succ d ih =>
    intro k i acc hd hk hi ha
    obtain ⟨k, rfl⟩ : ∃ m, k = m + 1 := ⟨k - 1, by omega⟩
    simp only [impl_tellAll.l0]
    rw [if_pos (by omega), if_pos (by omega), if_pos (by omega), rd61 l i (by omega), wr i l.length (by omega) (by omega)]
    simp only [impl_told.f, Option.bind_some]
    rw [if_pos (by omega), ih k (i + 1) _ (by omega) (by omega) (by omega) (by simp; omega)]
    rw [List.drop_eq_getElem_cons (show i < l.length by omega), List.map_cons, List.append_assoc]
    rfl
theorem tellAll_is (l : List S61) (hn : l.length ≤ 2000000) : Ev (fun k => impl_tellAll.f k l) (l.map fun x => m28 (p61 x)) := by
  refine Ev.of (impl_tellAll.mono l) (k := l.length + 1) ?_
  have h := tellAll_loop l hn l.length (l.length + 1) 0 [] (by omega) (by omega) (by omega) rfl
  unfold impl_tellAll.f
  simpa using h
theorem inserted_is (l : List S28) (hn : l.length ≤ 800000) : impl_inserted.f l = some ((setOf (l.map p28)).map m61) := by
  unfold impl_inserted.f; rw [if_pos hn]; rfl
theorem setOf_len (l : List (Int × Int)) : (setOf l).length ≤ l.length := by have := fold_len l []; unfold setOf; simpa using this
theorem rangesOf_is (l : List S28) (hn : l.length ≤ 800000) : Ev (fun k => impl_RangesOf.f k l) ((setOf (l.map p28)).map m28) := by
  have hl := setOf_len (l.map p28)
  rw [List.length_map] at hl
  have h := tellAll_is ((setOf (l.map p28)).map m61) (by rw [List.length_map]; omega)
  have e : ((setOf (l.map p28)).map m61).map (fun x => m28 (p61 x)) = (setOf (l.map p28)).map m28 := by rw [List.map_map]; rfl
  rw [e] at h
  unfold impl_RangesOf.f
  refine Ev.congr (f := fun k => (impl_tellAll.f k ((setOf (l.map p28)).map m61)).bind fun t => some t) (fun k => by rw [inserted_is l hn]; rfl) ?_
  exact Ev.bind h (Ev.now _)
theorem same_loop (l m : List S28) (hlm : l.length = m.length) (hn : l.length ≤ 2147483647) : ∀ (d k i : Nat), l.length - i = d → d < k → i ≤ l.length →
    ∃ t, spec_RangesSame.l0 k l m (l.length : Int) (i : Int) = some t ∧ (t = true ↔ l.drop i = m.drop i) := by
  intro d
  induction d with
  | zero =>
    intro k i hd hk hi
    obtain ⟨k, rfl⟩ : ∃ m, k = m + 1 := ⟨k - 1, by omega⟩
    simp only [spec_RangesSame.l0]
    rw [if_neg (by omega), List.drop_of_length_le (by omega), List.drop_of_length_le (by omega)]
    exact ⟨true, rfl, by simp⟩
  | succ d ih =>
    intro k i hd hk hi
    obtain ⟨k, rfl⟩ : ∃ m, k = m + 1 := ⟨k - 1, by omega⟩
    simp only [spec_RangesSame.l0]
    rw [if_pos (by omega), if_pos (by omega), if_pos (by omega), if_pos (by omega), rd28 l i (by omega), rd28 m i (by omega), wr i l.length (by omega) (by omega)]
    rw [List.drop_eq_getElem_cons (show i < l.length by omega), List.drop_eq_getElem_cons (show i < m.length by omega)]
    by_cases he : l[i]'(by omega) = m[i]'(by omega)
    · rw [he]
      simp only [beq_self_eq_true, Bool.not_true, Bool.or_false, Bool.false_eq_true, if_false]
      obtain ⟨t, ht, h⟩ := ih k (i + 1) (by omega) (by omega) (by omega)
      exact ⟨t, ht, h.trans ⟨fun h => by rw [h], fun h => (List.cons.inj h).2⟩⟩
    · have hb : ((((l[i]'(by omega)).f0 == (m[i]'(by omega)).f0) && ((l[i]'(by omega)).f1 == (m[i]'(by omega)).f1)) = true) → False := fun h => he ((eq28 _ _).1 h)
      have hb2 : (!((l[i]'(by omega)).f0 == (m[i]'(by omega)).f0) || !((l[i]'(by omega)).f1 == (m[i]'(by omega)).f1)) = true := by
        cases h1 : ((l[i]'(by omega)).f0 == (m[i]'(by omega)).f0) <;> cases h2 : ((l[i]'(by omega)).f1 == (m[i]'(by omega)).f1) <;> simp [h1, h2] at hb ⊢
      rw [if_pos hb2]
      exact ⟨false, rfl, fun h => (by cases h), fun h => absurd (List.cons.inj h).1 he⟩
/-- Two lists are told to be the same just if they are. -/
theorem same_is (l m : List S28) (hn : l.length ≤ 2147483647) : ∃ t, Ev (fun k => spec_RangesSame.f k l m) t ∧ (t = true ↔ l = m) := by
  by_cases hlm : l.length = m.length
  · obtain ⟨t, ht, h⟩ := same_loop l m hlm hn l.length (l.length + 1) 0 (by omega) (by omega) (by omega)
    refine ⟨t, Ev.of (spec_RangesSame.mono l m) (k := l.length + 1) ?_, by simpa using h⟩
    unfold spec_RangesSame.f
    rw [if_pos (by omega)]; exact ht
  · refine ⟨false, Ev.of (spec_RangesSame.mono l m) (k := 0) ?_, ?_⟩
    · unfold spec_RangesSame.f
      rw [if_neg (by omega)]
    · constructor
      · intro h; cases h
      · intro h; rw [h] at hlm; exact absurd rfl hlm
theorem same_self (l : List S28) (hn : l.length ≤ 2147483647) : Ev (fun k => spec_RangesSame.f k l l) true := by
  obtain ⟨t, ht, h⟩ := same_is l l hn
  rw [h.2 rfl] at ht; exact ht
theorem awake : Ev (fun k => laws_rangeAwake.f k) true := Ev.of laws_rangeAwake.mono (k := 20) (by decide +kernel)
theorem again (l : List S28) (hl : ∀ p ∈ l.map p28, In p) (h30 : l.length ≤ 30) : Ev (fun k => laws_FnRangesAgain.j0 (k + 1) l false) true := by
  have hnear : ∀ p ∈ l.map p28, Near p := fun p hp => (hl p hp).near
  have hlen := setOf_len (l.map p28)
  rw [List.length_map] at hlen
  generalize hs : setOf (l.map p28) = s at hlen
  have hap : Apart s := by rw [← hs]; exact setOf_apart hnear
  have e1 : setOf s = s := setOf_is (apart_near hap) hap (fun _ => Iff.rfl)
  have e2 : setOf (l.map p28 ++ s) = s := by
    refine setOf_is (fun p hp => ?_) hap (fun b => ?_)
    · rcases List.mem_append.1 hp with h | h
      · exact hnear p h
      · exact apart_near hap p h
    · rw [has_append, ← hs, setOf_has hnear]; simp
  simp only [laws_FnRangesAgain.j0, Bool.false_eq_true, if_false]
  have hone := rangesOf_is l (by omega)
  rw [hs] at hone
  have htwo := rangesOf_is (s.map m28) (by rw [List.length_map]; omega)
  rw [map_p28_m28, e1] at htwo
  have hthree := rangesOf_is (l ++ s.map m28) (by simp; omega)
  rw [List.map_append, map_p28_m28, e2] at hthree
  refine Ev.bind awake (Ev.congr (fun _ => if_pos rfl) (Ev.bind hone (Ev.bind htwo (Ev.bind (same_self _ (by rw [List.length_map]; omega)) (Ev.congr (fun _ => if_pos rfl) ?_)))))
  simp only [Option.bind_some, List.nil_append]
  rw [List.length_nil, Nat.zero_add]
  refine Ev.congr (fun k => by rw [if_pos (show l.length < 8796093022208 by omega)]) ?_
  refine Ev.congr (fun k => by rw [if_pos (show l.length + (s.map m28).length < 8796093022208 by rw [List.length_map]; omega)]) ?_
  exact Ev.bind hthree (Ev.bind (same_self _ (by rw [List.length_map]; omega)) (Ev.now _))
theorem FnRangesAgain (l : List S28) : ∃ k, laws_FnRangesAgain.f k l = some true := by
  by_cases hn : (l.length : Int) > 2147483647
  · exact ⟨0, by unfold laws_FnRangesAgain.f; rw [if_pos hn]⟩
  · obtain ⟨t, ht, h⟩ := rangesIn_is l (by omega)
    refine Ev.rounds (r := true) ?_
    unfold laws_FnRangesAgain.f
    refine Ev.congr (fun k => if_neg hn) (Ev.bind ht ?_)
    have hyes : Ev (fun k => laws_FnRangesAgain.j0 k l true) true := ⟨1, fun k hk => by obtain ⟨k, rfl⟩ : ∃ m, k = m + 1 := ⟨k - 1, by omega⟩; simp [laws_FnRangesAgain.j0]⟩
    cases t with
    | false => exact Ev.congr (fun k => by simp) hyes
    | true =>
      by_cases h30 : l.length ≤ 30
      · have hd : decide ((l.length : Int) > 30) = false := decide_eq_false (by omega)
        refine Ev.congr (fun k => by rw [if_pos rfl, hd]) ?_
        obtain ⟨K, hK⟩ := again l (h rfl).1 h30
        exact ⟨K + 1, fun k hk => by obtain ⟨k, rfl⟩ : ∃ m, k = m + 1 := ⟨k - 1, by omega⟩; exact hK k (by omega)⟩
      · have hd : decide ((l.length : Int) > 30) = true := decide_eq_true (by omega)
        exact Ev.congr (fun k => by rw [if_pos rfl, hd]) hyes
end Go.Proofs.Ytfegihmnpcjdgaa.Pure

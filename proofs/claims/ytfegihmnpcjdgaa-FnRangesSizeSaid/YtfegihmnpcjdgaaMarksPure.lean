/- Marks, and the parts between them, are the parts that are found; of this session. -/
import Derived.Test.YtfegihmnpcjdgaaRangFind
import Derived.Test.YtfegihmnpcjdgaaRangParts
namespace Go.Proofs.Ytfegihmnpcjdgaa.Marks
open Go.RowKit Go.Proofs.YtfegihmnpcjdgaaW.PrintWords Go.Proofs.Ytfegihmnpcjdgaa.Rang
set_option linter.unusedVariables false
set_option linter.unusedSimpArgs false

/-- Rising. -/
def Up (xs : List Int) : Prop := xs.Pairwise (· < ·)
theorem markAt_split (xs : List Int) (p : Int) (h : Up xs) : (∀ x ∈ xs.take (markAt xs p), x < p) ∧ (∀ x ∈ xs.drop (markAt xs p), p ≤ x) := by
  induction xs with
  | nil => simp [markAt]
  | cons a l ih =>
    obtain ⟨h1, h2⟩ := List.pairwise_cons.1 h
    obtain ⟨i1, i2⟩ := ih h2
    by_cases ha : a < p
    · have e : markAt (a :: l) p = markAt l p + 1 := by unfold markAt; rw [List.takeWhile_cons, if_pos (decide_eq_true ha)]; rfl
      rw [e]
      refine ⟨fun x hx => ?_, fun x hx => i2 x (by simpa using hx)⟩
      rw [List.take_succ_cons] at hx
      rcases List.mem_cons.1 hx with rfl | hx
      · exact ha
      · exact i1 x hx
    · have e : markAt (a :: l) p = 0 := by unfold markAt; rw [List.takeWhile_cons, if_neg (by simpa using ha)]; rfl
      rw [e]
      refine ⟨fun x hx => by simp at hx, fun x hx => ?_⟩
      rw [List.drop_zero] at hx
      rcases List.mem_cons.1 hx with rfl | hx
      · omega
      · have := h1 x hx; omega
theorem addMark_up (xs : List Int) (p : Int) (h : Up xs) : Up (addMark xs p) ∧ ∀ x, x ∈ addMark xs p ↔ x ∈ xs ∨ x = p := by
  obtain ⟨h1, h2⟩ := markAt_split xs p h
  have hle := markAt_le xs p
  unfold addMark
  by_cases hp : xs[markAt xs p]? = some p
  · rw [if_pos hp]
    refine ⟨h, fun x => ⟨.inl, ?_⟩⟩
    rintro (hx | rfl)
    · exact hx
    · exact List.mem_of_getElem? hp
  · rw [if_neg hp]
    have hsplit : xs.take (markAt xs p) ++ xs.drop (markAt xs p) = xs := List.take_append_drop _ _
    have hup := h
    unfold Up at hup
    rw [← hsplit, List.pairwise_append] at hup
    obtain ⟨u1, u2, u3⟩ := hup
    have hgt : ∀ x ∈ xs.drop (markAt xs p), p < x := by
      intro x hx
      have hge := h2 x hx
      rcases Int.lt_or_eq_of_le hge with hlt | heq
      · exact hlt
      · exfalso
        -- the first of them would be p itself
        cases hd : xs.drop (markAt xs p) with
        | nil => rw [hd] at hx; simp at hx
        | cons y ys =>
          have hy : xs[markAt xs p]? = some y := by
            have := congrArg (fun l : List Int => l[0]?) hd
            simpa [List.getElem?_drop] using this
          rw [hd] at hx u2 h2
          rcases List.mem_cons.1 hx with rfl | hx2
          · exact hp (by rw [hy, heq])
          · have := (List.pairwise_cons.1 u2).1 x hx2
            have := h2 y (by simp)
            omega
    refine ⟨?_, fun x => ?_⟩
    · unfold Up
      rw [List.pairwise_append]
      refine ⟨u1, List.pairwise_cons.2 ⟨hgt, u2⟩, fun x hx y hy => ?_⟩
      have := h1 x hx
      rcases List.mem_cons.1 hy with rfl | hy
      · exact this
      · have := hgt y hy; omega
    · rw [List.mem_append, List.mem_cons]
      constructor
      · rintro (hx | rfl | hx)
        · exact .inl (List.mem_of_mem_take hx)
        · exact .inr rfl
        · exact .inl (List.mem_of_mem_drop hx)
      · rintro (hx | rfl)
        · rw [← hsplit, List.mem_append] at hx
          rcases hx with hx | hx
          · exact .inl hx
          · exact .inr (.inr hx)
        · exact .inr (.inl rfl)
/-- Is a place one where a range begins or ends? -/
def Edge (l : List (Int × Int)) (x : Int) : Prop := ∃ r ∈ l, 1 ≤ r.2 ∧ (x = r.1 ∨ x = r.1 + r.2)
theorem fold_marks : ∀ (l : List (Int × Int)) (xs : List Int), Up xs → (∀ r ∈ l, Near r) → Up (l.foldl step xs) ∧ ∀ x, x ∈ l.foldl step xs ↔ x ∈ xs ∨ Edge l x
  | [], xs, h, _ => ⟨h, fun x => by simp [Edge]⟩
  | r :: l, xs, h, hl => by
    have hr := hl r (by simp)
    have hst : Up (step xs r) ∧ ∀ x, x ∈ step xs r ↔ x ∈ xs ∨ (1 ≤ r.2 ∧ (x = r.1 ∨ x = r.1 + r.2)) := by
      unfold step
      by_cases h1 : r.2 < 1
      · rw [if_pos h1]
        exact ⟨h, fun x => ⟨.inl, fun hx => hx.elim id (fun hx => by omega)⟩⟩
      · rw [if_neg h1]
        obtain ⟨a1, a2⟩ := addMark_up xs r.1 h
        obtain ⟨b1, b2⟩ := addMark_up (addMark xs r.1) (wrap64 (r.1 + r.2)) a1
        have hg := hr.resolve_left (by omega)
        have hw : wrap64 (r.1 + r.2) = r.1 + r.2 := en_good hg
        refine ⟨b1, fun x => ?_⟩
        rw [b2 x, a2 x, hw]
        constructor
        · rintro ((hx | hx) | hx)
          · exact .inl hx
          · exact .inr ⟨by omega, .inl hx⟩
          · exact .inr ⟨by omega, .inr hx⟩
        · rintro (hx | ⟨_, hx | hx⟩)
          · exact .inl (.inl hx)
          · exact .inl (.inr hx)
          · exact .inr hx
    obtain ⟨c1, c2⟩ := fold_marks l (step xs r) hst.1 (fun q hq => hl q (by simp [hq]))
    refine ⟨c1, fun x => ?_⟩
    rw [List.foldl_cons, c2 x, hst.2 x]
    unfold Edge
    constructor
    · rintro ((hx | hx) | ⟨q, hq, hx⟩)
      · exact .inl hx
      · exact .inr ⟨r, by simp, hx⟩
      · exact .inr ⟨q, by simp [hq], hx⟩
    · rintro (hx | ⟨q, hq, hx⟩)
      · exact .inl (.inl hx)
      · rcases List.mem_cons.1 hq with rfl | hq
        · exact .inl (.inr hx)
        · exact .inr ⟨q, hq, hx⟩
theorem marks_is {l : List (Int × Int)} (hl : ∀ r ∈ l, Near r) : Up (marks l) ∧ ∀ x, x ∈ marks l ↔ Edge l x := by
  obtain ⟨h1, h2⟩ := fold_marks l [] List.Pairwise.nil hl
  exact ⟨h1, fun x => by unfold marks; rw [h2 x]; simp⟩

/-- A range that is near enough, empty or not. -/
def Fit (p : Int × Int) : Prop := -1099511627776 ≤ p.2 ∧ p.2 ≤ 1099511627776 ∧ -1099511627776 ≤ p.1 ∧ p.1 ≤ 1099511627776
theorem Fit.near {p : Int × Int} (h : Fit p) : Near p := by unfold Fit at h; unfold Near Rang.Good; omega
theorem hasB_is {l : List (Int × Int)} (hl : ∀ r ∈ l, Fit r) (t : Int) (ht : -4398046511104 ≤ t ∧ t ≤ 4398046511104) : hasB l t = true ↔ Has l t := by
  unfold hasB Has
  rw [List.any_eq_true]
  constructor
  · rintro ⟨p, hp, h⟩
    obtain ⟨h1, h2⟩ := of_decide_eq_true h
    have h3 := hl p hp
    unfold Fit at h3
    have : wrap64 (t - p.1) = t - p.1 := by unfold wrap64; omega
    exact ⟨p, hp, h1, by omega⟩
  · rintro ⟨p, hp, h1, h2⟩
    have h3 := hl p hp
    unfold Fit at h3
    have : wrap64 (t - p.1) = t - p.1 := by unfold wrap64; omega
    exact ⟨p, hp, decide_eq_true ⟨h1, by omega⟩⟩

/-! ### parts that grow at their end -/
theorem Parts.nil_of {H : Int → Prop} {a : Int} {l : List ((Int × Int) × Bool)} (h : Parts H a a l) : l = [] := by
  cases h with
  | nil => rfl
  | cons _ _ n p l h1 h2 h3 h4 h5 => omega
theorem Parts.snoc {H : Int → Prop} : ∀ {o : List ((Int × Int) × Bool)} {a s n : Int} {p : Bool}, Parts H a s o → 1 ≤ n → (∀ b, s ≤ b → b < s + n → (H b ↔ p = true)) → (∀ o' x, o = o' ++ [x] → x.2 ≠ p) → Parts H a (s + n) (o ++ [((s, n), p)]) := by
  intro o
  induction o with
  | nil =>
    intro a s n p h hn hall hlast
    cases h
    exact .cons _ _ _ _ _ hn (Int.le_refl _) hall (.inl rfl) (.nil _)
  | cons y o ih =>
    intro a s n p h hn hall hlast
    cases h with
    | cons _ _ n0 p0 _ h1 h2 h3 h4 h5 =>
      have hle := Parts.le h5
      refine .cons _ _ _ _ _ h1 (by omega) h3 ?_ (ih h5 hn hall (fun o' x hx => hlast (((a, n0), p0) :: o') x (by rw [hx]; rfl)))
      right
      rcases h4 with h4 | h4
      · rw [h4] at h5
        obtain rfl := Parts.nil_of h5
        have hne := hlast [] ((a, n0), p0) rfl
        have hs := hall s (Int.le_refl _) (by omega)
        rw [← h4] at hs
        rw [hs]
        cases p <;> cases p0 <;> simp at hne ⊢
      · exact h4
theorem Parts.grow {H : Int → Prop} : ∀ {o : List ((Int × Int) × Bool)} {a s t n m : Int} {p : Bool}, Parts H a s (o ++ [((t, n), p)]) → 1 ≤ m → (∀ b, s ≤ b → b < s + m → (H b ↔ p = true)) → Parts H a (s + m) (o ++ [((t, n + m), p)]) := by
  intro o
  induction o with
  | nil =>
    intro a s t n m p h hm hall
    cases h with
    | cons _ _ _ _ _ h1 h2 h3 h4 h5 =>
      have h6 : a + n = s := by cases h5; rfl
      subst h6
      rw [Int.add_assoc]
      refine .cons _ _ _ _ _ (by omega) (Int.le_refl _) (fun b hb1 hb2 => ?_) (.inl rfl) (.nil _)
      rcases Int.lt_or_le b (a + n) with hlt | hge
      · exact h3 b hb1 hlt
      · exact hall b hge (by omega)
  | cons y o ih =>
    intro a s t n m p h hm hall
    cases h with
    | cons _ _ n0 p0 _ h1 h2 h3 h4 h5 =>
      have hle := Parts.le h5
      refine .cons _ _ _ _ _ h1 (by omega) h3 ?_ (ih h5 hm hall)
      rcases h4 with h4 | h4
      · rw [h4] at h5
        have := Parts.nil_of h5
        simp at this
      · exact .inr h4

/-- Between two marks, one behind the other, all bytes are there, or none. -/
theorem between {l : List (Int × Int)} {a b : Int} (hm : ∀ x, Edge l x → x ≤ a ∨ b ≤ x) : ∀ x, a ≤ x → x < b → (Has l x ↔ Has l a) := by
  intro x h1 h2
  constructor
  · rintro ⟨p, hp, g1, g2⟩
    have e1 := hm p.1 ⟨p, hp, by omega, .inl rfl⟩
    exact ⟨p, hp, by omega, by omega⟩
  · rintro ⟨p, hp, g1, g2⟩
    have e1 := hm (p.1 + p.2) ⟨p, hp, by omega, .inr rfl⟩
    exact ⟨p, hp, by omega, by omega⟩
theorem partRun_parts {l : List (Int × Int)} (hl : ∀ r ∈ l, Fit r) {r : Int × Int} (hr : Rang.Good r) (hpos : 1 ≤ r.2) : ∀ (ms : List Int) (a : Int) (out : List ((Int × Int) × Bool)), Up (a :: ms) → (∀ x, Edge (l ++ [r]) x → x ≤ a ∨ x ∈ ms) →
    (∀ x ∈ a :: ms, -4398046511104 ≤ x ∧ x ≤ 4398046511104) → ((a ≤ r.1 ∧ out = []) ∨ (r.1 ≤ a ∧ a ≤ r.1 + r.2 ∧ Parts (Has l) r.1 a out) ∨ (r.1 + r.2 ≤ a ∧ Parts (Has l) r.1 (r.1 + r.2) out)) →
    Parts (Has l) r.1 (r.1 + r.2) (partRun l r (a :: ms) out) := by
  intro ms
  have hr' := hr
  unfold Rang.Good at hr'
  have eedge : Edge (l ++ [r]) (r.1 + r.2) := ⟨r, by simp, hpos, .inr rfl⟩
  have sedge : Edge (l ++ [r]) r.1 := ⟨r, by simp, hpos, .inl rfl⟩
  induction ms with
  | nil =>
    intro a out hup hm hb hst
    have h1 := (hm _ eedge).resolve_right (by simp)
    show Parts (Has l) r.1 (r.1 + r.2) out
    rcases hst with ⟨h2, _⟩ | ⟨h2, h3, h4⟩ | ⟨_, h4⟩
    · omega
    · have : a = r.1 + r.2 := by omega
      rw [this] at h4; exact h4
    · exact h4
  | cons b ms ih =>
    intro a out hup hm hb hst
    obtain ⟨u1, u2⟩ := List.pairwise_cons.1 hup
    have hab := u1 b (by simp)
    have hnext : ∀ x, Edge (l ++ [r]) x → x ≤ a ∨ b ≤ x := by
      intro x hx
      rcases hm x hx with h | h
      · exact .inl h
      · right
        rcases List.mem_cons.1 h with rfl | h
        · exact Int.le_refl _
        · have := (List.pairwise_cons.1 u2).1 x h; omega
    have hm2 : ∀ x, Edge (l ++ [r]) x → x ≤ b ∨ x ∈ ms := by
      intro x hx
      rcases hm x hx with h | h
      · left; omega
      · rcases List.mem_cons.1 h with rfl | h
        · exact .inl (Int.le_refl _)
        · exact .inr h
    show Parts (Has l) r.1 (r.1 + r.2) (partRun l r (b :: ms) (partStep l r out a b))
    refine ih b _ u2 hm2 (fun x hx => hb x (by simp at hx ⊢; exact .inr hx)) ?_
    have hw : wrap64 (r.1 + r.2) = r.1 + r.2 := by unfold wrap64; omega
    have ba := hb a (by simp)
    have bb := hb b (by simp)
    have hs := hnext _ sedge
    have he := hnext _ eedge
    unfold partStep
    rw [hw]
    by_cases hskip : a < r.1 ∨ r.1 + r.2 < b
    · rw [if_pos hskip]
      rcases hst with ⟨h2, h3⟩ | ⟨h2, h3, h4⟩ | ⟨h2, h4⟩
      · rcases hskip with h | h
        · left; exact ⟨by omega, h3⟩
        · exfalso; omega
      · right; right
        have : a = r.1 + r.2 := by omega
        rw [this] at h4
        exact ⟨by omega, h4⟩
      · right; right; exact ⟨by omega, h4⟩
    · rw [if_neg hskip]
      have hst2 : Parts (Has l) r.1 a out := by
        rcases hst with ⟨h2, h3⟩ | ⟨h2, h3, h4⟩ | ⟨h2, h4⟩
        · have : a = r.1 := by omega
          rw [this, h3]; exact .nil _
        · exact h4
        · exfalso; omega
      have hwd : wrap64 (b - a) = b - a := by unfold wrap64; omega
      have hall : ∀ x, a ≤ x → x < a + (b - a) → (Has l x ↔ hasB l a = true) := by
        intro x h1 h2
        have hb1 := between (l := l) (a := a) (b := b) (fun x hx => hnext x (by
          obtain ⟨q, hq, hh⟩ := hx
          exact ⟨q, by simp [hq], hh⟩)) x h1 (by omega)
        rw [hb1, hasB_is hl a ba]
      right; left
      refine ⟨by omega, by omega, ?_⟩
      rw [hwd]
      have eb : b = a + (b - a) := by omega
      rcases List.eq_nil_or_concat out with rfl | ⟨o, x, rfl⟩
      · have h := Parts.snoc hst2 (show 1 ≤ b - a by omega) hall (fun o' x hx => by simp at hx)
        rw [← eb] at h
        exact h
      · rw [List.concat_eq_append] at hst2 ⊢
        have hgl : (o ++ [x]).getLast? = some x := by simp
        rw [hgl]
        obtain ⟨⟨x0, x1⟩, xb⟩ := x
        simp only
        by_cases hsame : xb = hasB l a
        · rw [if_pos hsame]
          have hset : (o ++ [((x0, x1), xb)]).set ((o ++ [((x0, x1), xb)]).length - 1) ((x0, wrap64 (x1 + (b - a))), xb) = o ++ [((x0, wrap64 (x1 + (b - a))), xb)] := by
            rw [List.length_append, List.length_singleton, Nat.add_sub_cancel, List.set_append_right _ _ (Nat.le_refl _), Nat.sub_self]; rfl
          rw [hset]
          -- the last part lies within
          have hx1 : 1 ≤ x1 ∧ x1 ≤ 17592186044416 := by
            have key : ∀ {o : List ((Int × Int) × Bool)} {s e : Int}, Parts (Has l) s e (o ++ [((x0, x1), xb)]) → 1 ≤ x1 ∧ s + x1 ≤ e := by
              intro o
              induction o with
              | nil =>
                intro s e h
                cases h with
                | cons _ _ _ _ _ g1 g2 g3 g4 g5 => exact ⟨g1, g2⟩
              | cons y o ih =>
                intro s e h
                cases h with
                | cons _ _ n0 p0 _ g1 g2 g3 g4 g5 => have := ih g5; omega
            have := key hst2
            omega
          have hw2 : wrap64 (x1 + (b - a)) = x1 + (b - a) := by unfold wrap64; omega
          rw [hw2]
          have h := Parts.grow hst2 (show 1 ≤ b - a by omega) (by rw [hsame]; exact hall)
          rw [← eb] at h
          exact h
        · rw [if_neg hsame]
          have h := Parts.snoc hst2 (show 1 ≤ b - a by omega) hall (fun o' y hy => by
            obtain ⟨_, hy2⟩ := List.append_inj' hy rfl
            simp only [List.cons.injEq, and_true] at hy2
            rw [← hy2]; exact hsame)
          rw [← eb] at h
          exact h
/-- The reference's parts are the parts. -/
theorem partsB_parts {l : List (Int × Int)} (hl : ∀ r ∈ l, Fit r) {r : Int × Int} (hr : Rang.Good r) (hpos : 1 ≤ r.2) : Parts (Has l) r.1 (r.1 + r.2) (partsB l r) := by
  unfold partsB
  rw [if_neg (by omega)]
  have hnear : ∀ q ∈ l ++ [r], Near q ∧ (1 ≤ q.2 → -4398046511104 ≤ q.1 ∧ q.1 + q.2 ≤ 4398046511104) := fun q hq => by
    rcases List.mem_append.1 hq with h | h
    · exact ⟨(hl q h).near, fun _ => by have := hl q h; unfold Fit at this; omega⟩
    · simp at h; subst h; exact ⟨.inr hr, fun _ => by unfold Rang.Good at hr; omega⟩
  obtain ⟨m1, m2⟩ := marks_is (l := l ++ [r]) (fun q hq => (hnear q hq).1)
  have hbound : ∀ x ∈ marks (l ++ [r]), -4398046511104 ≤ x ∧ x ≤ 4398046511104 := by
    intro x hx
    obtain ⟨q, hq, h1, h | h⟩ := (m2 x).1 hx
    · have := (hnear q hq).2 h1; omega
    · have := (hnear q hq).2 h1; omega
  have hstart : r.1 ∈ marks (l ++ [r]) := (m2 _).2 ⟨r, by simp, hpos, .inl rfl⟩
  cases hms : marks (l ++ [r]) with
  | nil => rw [hms] at hstart; simp at hstart
  | cons a ms =>
    rw [hms] at m1 m2 hbound hstart
    refine partRun_parts hl hr hpos ms a [] m1 (fun x hx => ?_) hbound (.inl ⟨?_, rfl⟩)
    · rcases List.mem_cons.1 ((m2 x).2 hx) with rfl | h
      · exact .inl (Int.le_refl _)
      · exact .inr h
    · rcases List.mem_cons.1 hstart with h | h
      · omega
      · have := (List.pairwise_cons.1 m1).1 _ h; omega

/-! ### the parts that are there, as a set -/
def there (ps : List ((Int × Int) × Bool)) : List (Int × Int) := (ps.filter (·.2)).map (·.1)
theorem there_cons (x : (Int × Int) × Bool) (ps : List ((Int × Int) × Bool)) : there (x :: ps) = if x.2 then x.1 :: there ps else there ps := by
  unfold there
  rw [List.filter_cons]
  split <;> rfl
theorem there_apart {H : Int → Prop} {a e : Int} {ps : List ((Int × Int) × Bool)} (h : Parts H a e ps) (ha : -4398046511104 ≤ a) (he : e ≤ 4398046511104) :
    Apart (there ps) ∧ (∀ q ∈ there ps, a ≤ q.1) ∧ (∀ n ps', ps = ((a, n), false) :: ps' → ∀ q ∈ there ps, a < q.1) ∧ ∀ b, Has (there ps) b ↔ H b ∧ a ≤ b ∧ b < e := by
  induction h with
  | nil a => exact ⟨Apart.nil, fun q hq => by simp [there] at hq, fun _ _ h => by simp at h, fun b => ⟨fun h => absurd h (has_nil b), fun h => by omega⟩⟩
  | cons a e n p l h1 h2 h3 h4 h5 ih =>
    obtain ⟨i1, i2, i3, i4⟩ := ih (by omega) he
    have hle := Parts.le h5
    rw [there_cons]
    cases p with
    | false =>
      simp only [Bool.false_eq_true, if_false]
      refine ⟨i1, fun q hq => by have := i2 q hq; omega, fun _ _ _ q hq => by have := i2 q hq; omega, fun b => ?_⟩
      rw [i4 b]
      constructor
      · rintro ⟨g1, g2, g3⟩; exact ⟨g1, by omega, g3⟩
      · rintro ⟨g1, g2, g3⟩
        rcases Int.lt_or_le b (a + n) with hlt | hge
        · have := (h3 b g2 hlt).1 g1; cases this
        · exact ⟨g1, hge, g3⟩
    | true =>
      simp only [if_true]
      refine ⟨apart_cons.2 ⟨by unfold Rang.Good; simp only; omega, fun q hq => ?_, i1⟩, fun q hq => ?_, fun _ _ hx => by simp at hx, fun b => ?_⟩
      · -- what follows is not there
        cases h5 with
        | nil => simp [there] at hq
        | cons _ _ n' p' l' g1 g2 g3 g4 g5 =>
          have hp : p' = false := by
            rcases h4 with h | h
            · omega
            · have hh := g3 (a + n) (Int.le_refl _) (by omega)
              cases p' with
              | false => rfl
              | true => exact absurd (h.1 (hh.2 rfl)) (by simp)
          subst hp
          exact i3 n' l' rfl q hq
      · rcases List.mem_cons.1 hq with rfl | hq
        · exact Int.le_refl _
        · have := i2 q hq; omega
      · rw [has_cons, i4 b]
        constructor
        · rintro (⟨g1, g2⟩ | ⟨g1, g2, g3⟩)
          · exact ⟨(h3 b g1 g2).2 rfl, g1, by omega⟩
          · exact ⟨g1, by omega, g3⟩
        · rintro ⟨g1, g2, g3⟩
          rcases Int.lt_or_le b (a + n) with hlt | hge
          · exact .inl ⟨g2, hlt⟩
          · exact .inr ⟨g1, hge, g3⟩
end Go.Proofs.Ytfegihmnpcjdgaa.Marks

/- What is found of a range in a set, part by part; of this session. -/
import Derived.Test.YtfegihmnpcjdgaaRangPure
import Derived.Test.YtfegihmnpcjdgaaRang10
namespace Go.Proofs.Ytfegihmnpcjdgaa.Rang
open Go.RowKit Go.Proofs.YtfegihmnpcjdgaaW.PrintWords
set_option linter.unusedVariables false
set_option linter.unusedSimpArgs false

/-- What is common to two ranges, of which the one begins ahead of the other. -/
theorem inter_good {a b : Int × Int} (ha : Good a) (hb : Good b) :
    inter a b = if (b.1 ≤ a.1 ∧ a.1 < b.1 + b.2) ∨ (a.1 ≤ b.1 ∧ b.1 < a.1 + a.2) then (max a.1 b.1, min (a.1 + a.2) (b.1 + b.2) - max a.1 b.1) else (0, 0) := by
  have hm : meet a b ↔ ((b.1 ≤ a.1 ∧ a.1 < b.1 + b.2) ∨ (a.1 ≤ b.1 ∧ b.1 < a.1 + a.2)) := by unfold meet; rw [en_good ha, en_good hb]
  unfold inter
  by_cases h : (b.1 ≤ a.1 ∧ a.1 < b.1 + b.2) ∨ (a.1 ≤ b.1 ∧ b.1 < a.1 + a.2)
  · rw [if_pos (hm.2 h), if_pos h, en_good ha, en_good hb]
    unfold Good at ha hb
    congr 1; unfold wrap64; omega
  · rw [if_neg (fun x => h (hm.1 x)), if_neg h]

theorem has_at {xs : List (Int × Int)} (i : Nat) (hi : i < xs.length) {b : Int} (h1 : (el xs i).1 ≤ b) (h2 : b < (el xs i).1 + (el xs i).2) : Has xs b := by
  refine ⟨el xs i, ?_, h1, h2⟩
  rw [← el_get xs i hi]; exact List.getElem_mem hi
theorem has_el {xs : List (Int × Int)} {b : Int} (h : Has xs b) : ∃ i, i < xs.length ∧ (el xs i).1 ≤ b ∧ b < (el xs i).1 + (el xs i).2 := by
  obtain ⟨p, hp, h1, h2⟩ := h
  obtain ⟨i, hi, rfl⟩ := List.getElem_of_mem hp
  exact ⟨i, hi, by rw [← el_get xs i hi]; exact h1, by rw [← el_get xs i hi]; exact h2⟩
/-- What stands right behind a range of a set is not in it. -/
theorem has_gap {xs : List (Int × Int)} (h : Apart xs) (i : Nat) (hi : i < xs.length) : ¬ Has xs ((el xs i).1 + (el xs i).2) := by
  intro hb
  obtain ⟨j, hj, h1, h2⟩ := has_el hb
  have gi := el_good h i hi
  have gj := el_good h j hj
  unfold Good at gi gj
  rcases Nat.lt_trichotomy i j with hlt | rfl | hgt
  · have := apart_rise h i j hlt hj; omega
  · omega
  · have := apart_rise h j i hgt hi; omega

/-- FIND, in plain words. -/
structure FindIs (xs : List (Int × Int)) (r c n : Int × Int) (p : Bool) : Prop where
  at_ : c.1 = r.1
  pos : 1 ≤ c.2
  le : c.2 ≤ r.2
  all : ∀ b, c.1 ≤ b → b < c.1 + c.2 → (Has xs b ↔ p = true)
  rest : (c.2 = r.2 ∧ n.2 = 0) ∨ (c.2 < r.2 ∧ n = (r.1 + c.2, r.2 - c.2) ∧ (Has xs (r.1 + c.2) ↔ p = false))
theorem find_is (xs : List (Int × Int)) (r : Int × Int) (h : Apart xs) (hr : Good r) : FindIs xs r (find xs r).1 (find xs r).2.1 (find xs r).2.2 := by
  obtain ⟨p1, p2⟩ := place_is h r.1
  have hr' := hr
  unfold Good at hr'
  unfold find
  rw [if_neg (by omega)]
  generalize hi : place xs r.1 = i at p1 p2
  have hile : i ≤ xs.length := by rw [← hi]; exact place_le xs r.1
  -- the element ahead
  by_cases hc : 0 < i ∧ r.1 < (el xs (i - 1)).1 + (el xs (i - 1)).2
  · obtain ⟨h0, hlt⟩ := hc
    have ge := el_good h (i - 1) (by omega)
    have hpe := p1 (i - 1) (by omega)
    have e : inter (el xs (i - 1)) r = (r.1, min ((el xs (i - 1)).1 + (el xs (i - 1)).2) (r.1 + r.2) - r.1) := by
      rw [inter_good ge hr, if_pos (.inr ⟨by omega, hlt⟩)]
      congr 1 <;> omega
    have ge' := ge
    unfold Good at ge'
    rw [e, if_pos ⟨h0, by simp only; omega⟩]
    generalize hE : (el xs (i - 1)).1 + (el xs (i - 1)).2 = E at *
    have een : en (r.1, min E (r.1 + r.2) - r.1) = min E (r.1 + r.2) := by unfold en wrap64; simp only; omega
    have ew : wrap64 (r.2 - (min E (r.1 + r.2) - r.1)) = r.2 - (min E (r.1 + r.2) - r.1) := by unfold wrap64; omega
    simp only [een, ew]
    refine ⟨rfl, by simp only; omega, by simp only; omega, fun b h1 h2 => ?_, ?_⟩
    · simp only at h1 h2
      exact ⟨fun _ => rfl, fun _ => has_at (i - 1) (by omega) (by omega) (by omega)⟩
    · simp only
      rcases Int.lt_or_le E (r.1 + r.2) with hlt2 | hge
      · right
        refine ⟨by omega, by congr 1; omega, ?_⟩
        have hg := has_gap h (i - 1) (by omega)
        rw [hE] at hg
        rw [show r.1 + (min E (r.1 + r.2) - r.1) = E by omega]
        exact ⟨fun h => absurd h hg, fun h => by cases h⟩
      · left; omega
  · -- nothing of the elements ahead is there
    have hno : ∀ b, r.1 ≤ b → ∀ j, j < i → ¬ ((el xs j).1 ≤ b ∧ b < (el xs j).1 + (el xs j).2) := by
      intro b hb j hj hh
      have h0 : 0 < i := by omega
      have hle : ¬ r.1 < (el xs (i - 1)).1 + (el xs (i - 1)).2 := fun hlt => hc ⟨h0, hlt⟩
      rcases Nat.lt_or_eq_of_le (show j ≤ i - 1 by omega) with hlt | heq
      · have h1 := apart_rise h j (i - 1) hlt (by omega)
        have h2 := el_good h (i - 1) (by omega)
        unfold Good at h2; omega
      · subst heq; omega
    have hfirst : ¬ (0 < i ∧ ¬ (inter (el xs (i - 1)) r).2 ≤ 0) := by
      rintro ⟨h0, h1⟩
      have ge := el_good h (i - 1) (by omega)
      have hpe := p1 (i - 1) (by omega)
      have hle : ¬ r.1 < (el xs (i - 1)).1 + (el xs (i - 1)).2 := fun hlt => hc ⟨h0, hlt⟩
      rw [inter_good ge hr, if_neg (by omega)] at h1
      exact h1 (Int.le_refl _)
    rw [if_neg hfirst]
    by_cases hlen : xs.length ≤ i
    · rw [if_pos hlen]
      refine ⟨rfl, by simp only; omega, by simp only; omega, fun b h1 h2 => ?_, .inl ⟨rfl, rfl⟩⟩
      refine ⟨fun hb => ?_, fun hb => by cases hb⟩
      obtain ⟨j, hj, hh⟩ := has_el hb
      exact absurd hh (hno b h1 j (by omega))
    · rw [if_neg hlen]
      have gf := el_good h i (by omega)
      have hpf := p2 i (Nat.le_refl _) (by omega)
      have gf' := gf
      unfold Good at gf'
      have hbelow : ∀ b, r.1 ≤ b → b < (el xs i).1 → ¬ Has xs b := by
        intro b h1 h2 hb
        obtain ⟨j, hj, hh⟩ := has_el hb
        rcases Nat.lt_or_ge j i with hlt | hge
        · exact hno b h1 j hlt hh
        · rcases Nat.lt_or_eq_of_le hge with hlt | heq
          · have := apart_rise h i j hlt hj; omega
          · subst heq; omega
      by_cases hm : (el xs i).1 < r.1 + r.2
      · have e : inter (el xs i) r = ((el xs i).1, min ((el xs i).1 + (el xs i).2) (r.1 + r.2) - (el xs i).1) := by
          rw [inter_good gf hr, if_pos (.inl ⟨hpf, hm⟩)]
          congr 1 <;> omega
        rw [e, if_neg (by simp only; omega)]
        by_cases hlt : r.1 < (el xs i).1
        · rw [if_pos hlt]
          have w1 : wrap64 ((el xs i).1 - r.1) = (el xs i).1 - r.1 := by unfold wrap64; omega
          have w2 : wrap64 (r.1 + ((el xs i).1 - r.1)) = r.1 + ((el xs i).1 - r.1) := by unfold wrap64; omega
          have w3 : wrap64 (r.2 - ((el xs i).1 - r.1)) = r.2 - ((el xs i).1 - r.1) := by unfold wrap64; omega
          simp only [w1, w2, w3]
          refine ⟨rfl, by simp only; omega, by simp only; omega, fun b h1 h2 => ?_, .inr ⟨by simp only; omega, rfl, ?_⟩⟩
          · simp only at h1 h2
            exact ⟨fun hb => absurd hb (hbelow b h1 (by omega)), fun hb => by cases hb⟩
          · simp only
            exact ⟨fun _ => by simp, fun _ => has_at i (by omega) (by omega) (by omega)⟩
        · rw [if_neg hlt]
          have hreq : (el xs i).1 = r.1 := by omega
          generalize hE : (el xs i).1 + (el xs i).2 = E at *
          have een : en ((el xs i).1, min E (r.1 + r.2) - (el xs i).1) = min E (r.1 + r.2) := by unfold en wrap64; simp only; omega
          have ew : wrap64 (r.2 - (min E (r.1 + r.2) - (el xs i).1)) = r.2 - (min E (r.1 + r.2) - (el xs i).1) := by unfold wrap64; omega
          simp only [een, ew]
          refine ⟨hreq, by simp only; omega, by simp only; omega, fun b h1 h2 => ?_, ?_⟩
          · simp only at h1 h2
            exact ⟨fun _ => rfl, fun _ => has_at i (by omega) (by omega) (by omega)⟩
          · simp only
            rcases Int.lt_or_le E (r.1 + r.2) with hlt2 | hge
            · right
              refine ⟨by omega, by congr 1 <;> omega, ?_⟩
              have hg := has_gap h i (by omega)
              rw [hE] at hg
              rw [show r.1 + (min E (r.1 + r.2) - (el xs i).1) = E by omega]
              exact ⟨fun h => absurd h hg, fun h => by cases h⟩
            · left; omega
      · have e : inter (el xs i) r = (0, 0) := by rw [inter_good gf hr, if_neg (by omega)]
        rw [e, if_pos (by simp)]
        refine ⟨rfl, by simp only; omega, by simp only; omega, fun b h1 h2 => ?_, .inl ⟨rfl, rfl⟩⟩
        simp only at h1 h2
        exact ⟨fun hb => absurd hb (hbelow b h1 (by omega)), fun hb => by cases hb⟩

/-- The parts of a stretch, each as long as may be, in which all bytes are there, or none. -/
inductive Parts (H : Int → Prop) : Int → Int → List ((Int × Int) × Bool) → Prop
  | nil (a : Int) : Parts H a a []
  | cons (a e n : Int) (p : Bool) (l : List ((Int × Int) × Bool)) (h1 : 1 ≤ n) (h2 : a + n ≤ e) (h3 : ∀ b, a ≤ b → b < a + n → (H b ↔ p = true)) (h4 : a + n = e ∨ (H (a + n) ↔ p = false)) (h5 : Parts H (a + n) e l) : Parts H a e (((a, n), p) :: l)
theorem Parts.le {H : Int → Prop} {a e : Int} {l : List ((Int × Int) × Bool)} (h : Parts H a e l) : a ≤ e := by
  cases h with
  | nil => exact Int.le_refl _
  | cons _ _ n p l h1 h2 => omega
theorem Parts.imp {H H' : Int → Prop} (hh : ∀ b, H b ↔ H' b) {a e : Int} {l : List ((Int × Int) × Bool)} (h : Parts H a e l) : Parts H' a e l := by
  induction h with
  | nil a => exact .nil a
  | cons a e n p l h1 h2 h3 h4 h5 ih => exact .cons a e n p l h1 h2 (fun b hb1 hb2 => (hh b).symm.trans (h3 b hb1 hb2)) (h4.imp id (fun h => (hh _).symm.trans h)) ih
theorem Parts.unique {H : Int → Prop} : ∀ {l m : List ((Int × Int) × Bool)} {a e : Int}, Parts H a e l → Parts H a e m → l = m := by
  intro l
  induction l with
  | nil =>
    intro m a e h1 h2
    cases h1
    cases h2 with
    | nil => rfl
    | cons _ _ n p l g1 g2 => omega
  | cons x l ih =>
    intro m a e h1 h2
    cases h1 with
    | cons _ _ n p _ a1 a2 a3 a4 a5 =>
      cases h2 with
      | nil => omega
      | cons _ _ n' p' l' b1 b2 b3 b4 b5 =>
        have hp : p = p' := by
          have x1 := a3 a (Int.le_refl _) (by omega)
          have x2 := b3 a (Int.le_refl _) (by omega)
          rw [x1] at x2
          cases p <;> cases p' <;> simp at x2 ⊢
        subst hp
        have hn : n = n' := by
          rcases Int.lt_trichotomy n n' with hlt | heq | hgt
          · rcases a4 with h | h
            · omega
            · have := b3 (a + n) (by omega) (by omega)
              rw [h] at this
              cases p <;> simp at this
          · exact heq
          · rcases b4 with h | h
            · omega
            · have := a3 (a + n') (by omega) (by omega)
              rw [h] at this
              cases p <;> simp at this
        subst hn
        rw [ih a5 b5]

/-- FindAll, with so many rounds. -/
def findAll (xs : List (Int × Int)) : Nat → Int × Int → List ((Int × Int) × Bool)
  | 0, _ => []
  | k + 1, r => if r.2 ≤ 0 then [] else ((find xs r).1, (find xs r).2.2) :: findAll xs k (find xs r).2.1
theorem findAll_parts {xs : List (Int × Int)} (h : Apart xs) : ∀ (k : Nat) (r : Int × Int), Good r → r.2 ≤ k → Parts (Has xs) r.1 (r.1 + r.2) (findAll xs k r)
  | 0, r, hr, hk => by unfold Good at hr; omega
  | k + 1, r, hr, hk => by
    have f := find_is xs r h hr
    have hr' := hr
    unfold Good at hr'
    unfold findAll
    rw [if_neg (by omega)]
    generalize find xs r = q at f ⊢
    obtain ⟨⟨c1, c2⟩, n, p⟩ := q
    obtain ⟨e1, e2, e3, e4, e5⟩ := f
    simp only at e1 e2 e3 e4 e5
    subst e1
    refine .cons _ _ _ _ _ e2 (by omega) e4 ?_ ?_
    · rcases e5 with ⟨h1, _⟩ | ⟨_, _, h1⟩
      · left; omega
      · exact .inr h1
    · rcases e5 with ⟨h1, h2⟩ | ⟨h1, h2, _⟩
      · have e : findAll xs k n = [] := by
          cases k with
          | zero => rfl
          | succ k => unfold findAll; rw [if_pos (by omega)]
        rw [e, h1]; exact .nil _
      · subst h2
        have ih := findAll_parts h k (r.1 + c2, r.2 - c2) (by unfold Good; simp only; omega) (by simp only; omega)
        simp only at ih
        rw [show r.1 + c2 + (r.2 - c2) = r.1 + r.2 by omega] at ih
        exact ih

/-- Parts that are there: at most as many as ranges that end behind; and the others between them. -/
theorem parts_len {xs : List (Int × Int)} {a e : Int} {l : List ((Int × Int) × Bool)} (h : Parts (Has xs) a e l) :
    l.length ≤ 2 * (xs.countP (fun q => decide (a < q.1 + q.2))) + 1 ∧ (∀ n l', l = ((a, n), true) :: l' → l.length ≤ 2 * (xs.countP (fun q => decide (a < q.1 + q.2)))) := by
  induction h with
  | nil a => exact ⟨by simp, fun _ _ h => by cases h⟩
  | cons a e n p l h1 h2 h3 h4 h5 ih =>
    have hmono : xs.countP (fun q => decide (a + n < q.1 + q.2)) ≤ xs.countP (fun q => decide (a < q.1 + q.2)) := List.countP_mono_left (fun q _ hq => by simp at hq ⊢; omega)
    cases p with
    | false =>
      refine ⟨?_, fun _ _ h => by simp at h⟩
      -- what follows is there
      cases h5 with
      | nil => simp
      | cons _ _ n' p' l' g1 g2 g3 g4 g5 =>
        have hp : p' = true := by
          rcases h4 with h | h
          · omega
          · have := g3 (a + n) (Int.le_refl _) (by omega)
            exact this.1 (h.2 rfl)
        subst hp
        have := ih.2 n' l' rfl
        simp only [List.length_cons] at this ⊢
        omega
    | true =>
      have hhas : Has xs a := (h3 a (Int.le_refl _) (by omega)).2 rfl
      obtain ⟨q, hq, q1, q2⟩ := hhas
      have key : l.length + 1 ≤ 2 * (xs.countP (fun q => decide (a < q.1 + q.2))) := by
        have hpos : 0 < xs.countP (fun q => decide (a < q.1 + q.2)) := List.countP_pos_iff.2 ⟨q, hq, by simpa using q2⟩
        rcases h4 with h | h
        · cases h5 with
          | nil => simp; omega
          | cons _ _ n' p' l' g1 g2 => omega
        · have hend : q.1 + q.2 ≤ a + n := by
            rcases Int.lt_or_le (a + n) (q.1 + q.2) with hlt | hle
            · have : Has xs (a + n) := ⟨q, hq, by omega, hlt⟩
              have := h.1 this
              cases this
            · exact hle
          have hlt : xs.countP (fun q => decide (a + n < q.1 + q.2)) < xs.countP (fun q => decide (a < q.1 + q.2)) := by
            obtain ⟨s, t, rfl⟩ := List.append_of_mem hq
            simp only [List.countP_append, List.countP_cons]
            have m1 : s.countP (fun q => decide (a + n < q.1 + q.2)) ≤ s.countP (fun q => decide (a < q.1 + q.2)) := List.countP_mono_left (fun q _ hq => by simp at hq ⊢; omega)
            have m2 : t.countP (fun q => decide (a + n < q.1 + q.2)) ≤ t.countP (fun q => decide (a < q.1 + q.2)) := List.countP_mono_left (fun q _ hq => by simp at hq ⊢; omega)
            have b1 : decide (a + n < q.1 + q.2) = false := decide_eq_false (by omega)
            have b2 : decide (a < q.1 + q.2) = true := decide_eq_true q2
            rw [b1, b2]; simp; omega
          have := ih.1
          omega
      refine ⟨by simp only [List.length_cons]; omega, fun _ _ _ => by simp only [List.length_cons]; exact key⟩
end Go.Proofs.Ytfegihmnpcjdgaa.Rang

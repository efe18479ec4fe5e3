/- Sets of ranges as lists: what an insertion makes of them; of this session. -/
import Derived.Test.YtfegihmnpcjdgaaRang5
namespace Go.Proofs.Ytfegihmnpcjdgaa.Rang
open Go.RowKit Go.Proofs.YtfegihmnpcjdgaaW.PrintWords
set_option linter.unusedVariables false
set_option linter.unusedSimpArgs false

/-- A range that is near enough, and not empty. -/
def Good (p : Int × Int) : Prop := -4398046511104 ≤ p.1 ∧ p.1 + p.2 ≤ 4398046511104 ∧ 1 ≤ p.2
/-- Rising, and apart. -/
def Apart (xs : List (Int × Int)) : Prop := xs.Pairwise (fun p q => p.1 + p.2 < q.1) ∧ ∀ p ∈ xs, Good p
/-- A byte is in one of the ranges. -/
def Has (xs : List (Int × Int)) (b : Int) : Prop := ∃ p ∈ xs, p.1 ≤ b ∧ b < p.1 + p.2

theorem en_good {p : Int × Int} (h : Good p) : en p = p.1 + p.2 := by unfold en wrap64; unfold Good at h; omega
theorem Apart.nil : Apart [] := ⟨.nil, fun _ h => by simp at h⟩
theorem apart_cons {p : Int × Int} {xs : List (Int × Int)} : Apart (p :: xs) ↔ Good p ∧ (∀ q ∈ xs, p.1 + p.2 < q.1) ∧ Apart xs := by
  unfold Apart
  rw [List.pairwise_cons]
  constructor
  · rintro ⟨⟨h1, h2⟩, h3⟩
    exact ⟨h3 p (by simp), h1, h2, fun q hq => h3 q (by simp [hq])⟩
  · rintro ⟨h1, h2, h3, h4⟩
    refine ⟨⟨h2, h3⟩, fun q hq => ?_⟩
    rcases List.mem_cons.1 hq with rfl | hq
    · exact h1
    · exact h4 q hq
theorem apart_append {xs ys : List (Int × Int)} : Apart (xs ++ ys) ↔ Apart xs ∧ Apart ys ∧ ∀ p ∈ xs, ∀ q ∈ ys, p.1 + p.2 < q.1 := by
  unfold Apart
  rw [List.pairwise_append]
  constructor
  · rintro ⟨⟨h1, h2, h3⟩, h4⟩
    exact ⟨⟨h1, fun p hp => h4 p (by simp [hp])⟩, ⟨h2, fun p hp => h4 p (by simp [hp])⟩, h3⟩
  · rintro ⟨⟨h1, h2⟩, ⟨h3, h4⟩, h5⟩
    refine ⟨⟨h1, h3, h5⟩, fun p hp => ?_⟩
    rcases List.mem_append.1 hp with h | h
    · exact h2 p h
    · exact h4 p h
theorem has_nil (b : Int) : ¬ Has [] b := fun ⟨_, h, _⟩ => by simp at h
theorem has_cons {p : Int × Int} {xs : List (Int × Int)} {b : Int} : Has (p :: xs) b ↔ (p.1 ≤ b ∧ b < p.1 + p.2) ∨ Has xs b := by
  unfold Has
  constructor
  · rintro ⟨q, hq, h⟩
    rcases List.mem_cons.1 hq with rfl | hq
    · exact .inl h
    · exact .inr ⟨q, hq, h⟩
  · rintro (h | ⟨q, hq, h⟩)
    · exact ⟨p, by simp, h⟩
    · exact ⟨q, by simp [hq], h⟩
theorem has_append {xs ys : List (Int × Int)} {b : Int} : Has (xs ++ ys) b ↔ Has xs b ∨ Has ys b := by
  induction xs with
  | nil => simp [has_nil]
  | cons p l ih => rw [List.cons_append, has_cons, has_cons, ih, or_assoc]

/-- Two ranges that touch, as one. -/
theorem mg_good {p q : Int × Int} (hp : Good p) (hq : Good q) (h1 : p.1 ≤ q.1) (h2 : q.1 ≤ p.1 + p.2) :
    mg p q = (p.1, max (p.1 + p.2) (q.1 + q.2) - p.1) ∧ Good (mg p q) ∧ (∀ b, ((mg p q).1 ≤ b ∧ b < (mg p q).1 + (mg p q).2) ↔ ((p.1 ≤ b ∧ b < p.1 + p.2) ∨ (q.1 ≤ b ∧ b < q.1 + q.2))) := by
  have e : mg p q = (p.1, max (p.1 + p.2) (q.1 + q.2) - p.1) := by
    unfold mg
    rw [en_good hp, en_good hq]
    unfold Good at hp hq
    have hw : wrap64 (q.2 + wrap64 (q.1 - p.1)) = q.2 + (q.1 - p.1) := by unfold wrap64; omega
    rw [hw]
    split
    · congr 1; omega
    · congr 1; omega
  refine ⟨e, ?_, ?_⟩
  · rw [e]; unfold Good at hp hq ⊢; simp only; omega
  · intro b; rw [e]; unfold Good at hp hq; simp only; omega
theorem can_good {p q : Int × Int} (hp : Good p) : can p q = true ↔ q.1 ≤ p.1 + p.2 := by
  unfold can; rw [en_good hp]; simp

/-- A range, and the ranges behind it that it touches, as one. -/
def absorb (c : Int × Int) : List (Int × Int) → List (Int × Int)
  | [] => [c]
  | b :: l => if can c b then absorb (mg c b) l else c :: b :: l
theorem absorb_apart : ∀ (C : List (Int × Int)) (c : Int × Int), Good c → Apart C → (∀ q ∈ C, c.1 ≤ q.1) → ∃ d D, absorb c C = d :: D ∧ d.1 = c.1 ∧ Apart (d :: D) ∧ ∀ b, Has (d :: D) b ↔ (c.1 ≤ b ∧ b < c.1 + c.2) ∨ Has C b
  | [], c, hc, _, _ => ⟨c, [], rfl, rfl, apart_cons.2 ⟨hc, fun _ h => by simp at h, Apart.nil⟩, fun b => by rw [has_cons]⟩
  | b :: l, c, hc, hC, hle => by
    obtain ⟨hb, hbl, hl⟩ := apart_cons.1 hC
    have hcb := hle b (by simp)
    unfold absorb
    by_cases h : can c b = true
    · rw [if_pos h]
      have h2 := (can_good hc).1 h
      obtain ⟨e, hg, hbytes⟩ := mg_good hc hb hcb h2
      have e1 : (mg c b).1 = c.1 := by rw [e]
      obtain ⟨d, D, hd, hd1, ha, hh⟩ := absorb_apart l (mg c b) hg hl (fun q hq => by rw [e1]; exact hle q (by simp [hq]))
      refine ⟨d, D, hd, hd1.trans e1, ha, fun x => ?_⟩
      rw [hh x, has_cons, hbytes x, or_assoc]
    · rw [if_neg h]
      have h2 : ¬ b.1 ≤ c.1 + c.2 := fun hle => h ((can_good hc).2 hle)
      refine ⟨c, b :: l, rfl, rfl, apart_cons.2 ⟨hc, fun q hq => ?_, hC⟩, fun x => by rw [has_cons]⟩
      rcases List.mem_cons.1 hq with rfl | hq
      · omega
      · have := hbl q hq; unfold Good at hb; omega

theorem el_mid (X : List (Int × Int)) (c : Int × Int) (C : List (Int × Int)) : el (X ++ c :: C) X.length = c := by
  unfold el; rw [List.getD_eq_getElem?_getD]; simp
theorem runs_absorb : ∀ (C X : List (Int × Int)) (c : Int × Int) (k j : Nat), j = X.length → C.length ≤ k → 
    (runs k (X ++ c :: C) j).1.drop (runs k (X ++ c :: C) j).2 = absorb c C ∧ ∀ s, s ≤ j → (runs k (X ++ c :: C) j).1.take s = X.take s
  | [], X, c, k, j, hj, hk => by
    subst hj
    have e : runs k (X ++ [c]) X.length = (X ++ [c], X.length) := by
      cases k with
      | zero => rfl
      | succ k => unfold runs; rw [if_neg (by simp)]
    rw [e]
    refine ⟨by simp [absorb], fun s hs => ?_⟩
    exact List.take_append_of_le_length hs
  | b :: l, X, c, k, j, hj, hk => by
    subst hj
    obtain ⟨k, rfl⟩ : ∃ m, k = m + 1 := ⟨k - 1, by simp at hk; omega⟩
    have e1 : el (X ++ c :: b :: l) X.length = c := el_mid X c (b :: l)
    have e2 : el (X ++ c :: b :: l) (X.length + 1) = b := by
      have h := el_mid (X ++ [c]) b l
      simpa using h
    unfold runs
    rw [if_pos (by simp), e1, e2]
    unfold absorb
    by_cases h : can c b = true
    · rw [if_pos h, if_pos h]
      have em : merged (X ++ c :: b :: l) X.length = (X ++ [c]) ++ mg c b :: l := by
        unfold merged
        rw [e1, e2, if_pos h]
        rw [List.set_append_right _ _ (by omega)]
        simp
      rw [em]
      have ih := runs_absorb l (X ++ [c]) (mg c b) k (X.length + 1) (by simp) (by simp at hk; omega)
      refine ⟨ih.1, fun s hs => ?_⟩
      rw [ih.2 s (by omega), List.take_append_of_le_length hs]
    · rw [if_neg h, if_neg h]
      refine ⟨by simp, fun s hs => ?_⟩
      exact List.take_append_of_le_length hs
/-- What coalesce makes. -/
theorem coal_nil (c : Int × Int) (C : List (Int × Int)) : coal (c :: C) 0 = absorb c C := by
  have h := runs_absorb C [] c (c :: C).length 0 rfl (by simp)
  have e : coal (c :: C) 0 = (runs (c :: C).length (c :: C) 0).1.take 0 ++ (runs (c :: C).length (c :: C) 0).1.drop (runs (c :: C).length (c :: C) 0).2 := by
    unfold coal
    simp only [Nat.lt_irrefl, false_and, if_false]
  rw [e]
  have h1 := h.1
  simp only [List.nil_append] at h1
  rw [h1]; simp
theorem coal_last (A : List (Int × Int)) (a c : Int × Int) (C : List (Int × Int)) : coal (A ++ a :: c :: C) (A.length + 1) = if can a c then A ++ absorb (mg a c) C else A ++ a :: absorb c C := by
  have e1 : el (A ++ a :: c :: C) A.length = a := el_mid A a (c :: C)
  have e2 : el (A ++ a :: c :: C) (A.length + 1) = c := by
    have h := el_mid (A ++ [a]) c C
    simpa using h
  unfold coal
  simp only [Nat.add_sub_cancel, e1, e2, Nat.succ_pos, true_and]
  by_cases h : can a c = true
  · simp only [h, if_true]
    have em : merged (A ++ a :: c :: C) A.length = (A ++ [a]) ++ mg a c :: C := by
      unfold merged
      rw [e1, e2, if_pos h, List.set_append_right _ _ (by omega)]
      simp
    rw [em]
    have h2 := runs_absorb C (A ++ [a]) (mg a c) (A ++ a :: c :: C).length (A.length + 1) (by simp) (by simp; omega)
    rw [h2.1, h2.2 A.length (by omega)]
    simp
  · simp only [h]
    have h2 := runs_absorb C (A ++ [a]) c (A ++ a :: c :: C).length (A.length + 1) (by simp) (by simp; omega)
    have e3 : (A ++ [a]) ++ c :: C = A ++ a :: c :: C := by simp
    rw [e3] at h2
    rw [if_neg (by simp), h2.1, h2.2 (A.length + 1) (by omega)]
    rw [List.take_of_length_le (by simp)]
    simp
/-- Coalescing ranges apart, a further one among them. -/
theorem coal_apart (A : List (Int × Int)) (c : Int × Int) (C : List (Int × Int)) (hA : Apart A) (hc : Good c) (hC : Apart C) (h1 : ∀ p ∈ A, p.1 ≤ c.1) (h2 : ∀ q ∈ C, c.1 ≤ q.1) (h3 : ∀ p ∈ A, ∀ q ∈ C, p.1 + p.2 < q.1) :
    Apart (coal (A ++ c :: C) A.length) ∧ ∀ b, Has (coal (A ++ c :: C) A.length) b ↔ Has A b ∨ (c.1 ≤ b ∧ b < c.1 + c.2) ∨ Has C b := by
  rcases List.eq_nil_or_concat A with rfl | ⟨A', a, rfl⟩
  · simp only [List.nil_append, List.length_nil]
    rw [coal_nil]
    obtain ⟨d, D, hd, _, ha, hh⟩ := absorb_apart C c hc hC h2
    rw [hd]
    exact ⟨ha, fun b => by rw [hh b]; simp [has_nil]⟩
  · rw [List.concat_eq_append] at *
    have e : A' ++ [a] ++ c :: C = A' ++ a :: c :: C := by simp
    have el : (A' ++ [a]).length = A'.length + 1 := by simp
    rw [e, el, coal_last]
    obtain ⟨hA', haa, hlast⟩ := apart_append.1 hA
    obtain ⟨ha, _, _⟩ := apart_cons.1 haa
    have hac := h1 a (by simp)
    by_cases h : can a c = true
    · rw [if_pos h]
      have h4 := (can_good ha).1 h
      obtain ⟨em, hg, hbytes⟩ := mg_good ha hc hac h4
      have e1 : (mg a c).1 = a.1 := by rw [em]
      obtain ⟨d, D, hd, hd1, had, hh⟩ := absorb_apart C (mg a c) hg hC (fun q hq => by rw [e1]; have := h3 a (by simp) q hq; unfold Good at ha; omega)
      rw [hd]
      refine ⟨apart_append.2 ⟨hA', had, fun p hp q hq => ?_⟩, fun b => ?_⟩
      · have hpa := hlast p hp a (by simp)
        obtain ⟨hdg, hdD, _⟩ := apart_cons.1 had
        rcases List.mem_cons.1 hq with rfl | hq
        · rw [hd1, e1]; exact hpa
        · have := hdD q hq; unfold Good at hdg; rw [hd1, e1] at this hdg; omega
      · rw [has_append, hh b, has_append, has_cons, hbytes b]
        constructor
        · rintro (h | (h | h) | h)
          · exact .inl (.inl h)
          · exact .inl (.inr (.inl h))
          · exact .inr (.inl h)
          · exact .inr (.inr h)
        · rintro ((h | h | h) | h | h)
          · exact .inl h
          · exact .inr (.inl (.inl h))
          · exact absurd h (has_nil b)
          · exact .inr (.inl (.inr h))
          · exact .inr (.inr h)
    · rw [if_neg h]
      have h4 : ¬ c.1 ≤ a.1 + a.2 := fun hle => h ((can_good ha).2 hle)
      obtain ⟨d, D, hd, hd1, had, hh⟩ := absorb_apart C c hc hC h2
      rw [hd]
      have e2 : A' ++ a :: d :: D = (A' ++ [a]) ++ d :: D := by simp
      rw [e2]
      refine ⟨apart_append.2 ⟨hA, had, fun p hp q hq => ?_⟩, fun b => ?_⟩
      · obtain ⟨hdg, hdD, _⟩ := apart_cons.1 had
        have hpd : p.1 + p.2 < d.1 := by
          rw [hd1]
          rcases List.mem_append.1 hp with hp | hp
          · have := hlast p hp a (by simp); unfold Good at ha; omega
          · simp at hp; subst hp; omega
        rcases List.mem_cons.1 hq with rfl | hq
        · exact hpd
        · have := hdD q hq; unfold Good at hdg; omega
      · rw [has_append, hh b]

/-! ### where a range belongs -/
theorem bsearch_mono (p : Nat → Bool) (n : Nat) (hp : ∀ i j, i ≤ j → j < n → p i = true → p j = true) : ∀ (k i j : Nat), j - i ≤ k → i ≤ j → j ≤ n → (∀ m, m < i → p m = false) → (∀ m, j ≤ m → m < n → p m = true) →
    (∀ m, m < bsearch p k i j → p m = false) ∧ (∀ m, bsearch p k i j ≤ m → m < n → p m = true)
  | 0, i, j, h, hij, hjn, h1, h2 => by
    have : i = j := by omega
    subst this
    exact ⟨h1, h2⟩
  | k + 1, i, j, h, hij, hjn, h1, h2 => by
    unfold bsearch
    split
    · next hlt =>
      split
      · next hm => exact bsearch_mono p n hp k i ((i + j) / 2) (by omega) (by omega) (by omega) h1 (fun m hm1 hm2 => hp _ _ hm1 hm2 hm)
      · next hm =>
        refine bsearch_mono p n hp k ((i + j) / 2 + 1) j (by omega) (by omega) hjn (fun m hm1 => ?_) h2
        cases hq : p m with
        | false => rfl
        | true => exact absurd (hp m ((i + j) / 2) (by omega) (by omega) hq) (by simp at hm; simp [hm])
    · next hlt =>
      have : i = j := by omega
      subst this
      exact ⟨h1, h2⟩
theorem apart_rise {xs : List (Int × Int)} (h : Apart xs) (i j : Nat) (hij : i < j) (hj : j < xs.length) : (el xs i).1 + (el xs i).2 < (el xs j).1 := by
  have h1 := List.pairwise_iff_getElem.1 h.1 i j (by omega) hj hij
  rw [el_get, el_get] at h1
  exact h1
theorem el_good {xs : List (Int × Int)} (h : Apart xs) (i : Nat) (hi : i < xs.length) : Good (el xs i) := by
  rw [← el_get xs i hi]; exact h.2 _ (List.getElem_mem hi)
theorem place_is {xs : List (Int × Int)} (h : Apart xs) (r : Int) : (∀ i, i < place xs r → (el xs i).1 < r) ∧ (∀ i, place xs r ≤ i → i < xs.length → r ≤ (el xs i).1) := by
  have hm := bsearch_mono (fun i => decide (r ≤ (el xs i).1)) xs.length (fun i j hij hj hi => by
    simp only [decide_eq_true_eq] at hi ⊢
    rcases Nat.lt_or_eq_of_le hij with hlt | rfl
    · have h1 := apart_rise h i j hlt hj
      have h2 := el_good h i (by omega)
      unfold Good at h2; omega
    · exact hi) xs.length 0 xs.length (by omega) (by omega) (by omega) (fun m hm => by omega) (fun m h1 h2 => by omega)
  refine ⟨fun i hi => ?_, fun i h1 h2 => ?_⟩
  · have := hm.1 i hi; simp at this; omega
  · have := hm.2 i h1 h2; simpa using this
theorem place_take {xs : List (Int × Int)} (h : Apart xs) (r : Int) : (∀ p ∈ xs.take (place xs r), p.1 < r) ∧ (∀ q ∈ xs.drop (place xs r), r ≤ q.1) := by
  have hp := place_is h r
  have hle := place_le xs r
  refine ⟨fun p hp1 => ?_, fun q hq => ?_⟩
  · obtain ⟨i, hi, rfl⟩ := List.getElem_of_mem hp1
    have hi2 : i < place xs r := by simp at hi; omega
    have := hp.1 i hi2
    rw [← el_get xs i (by omega)] at this
    simpa using this
  · obtain ⟨i, hi, rfl⟩ := List.getElem_of_mem hq
    have hi2 : place xs r + i < xs.length := by simp at hi; omega
    have := hp.2 (place xs r + i) (by omega) hi2
    rw [← el_get xs _ hi2] at this
    simpa using this

/-- INSERT keeps a set apart, and puts the range's bytes in. -/
theorem ins_apart (xs : List (Int × Int)) (r : Int × Int) (h : Apart xs) (hr : Good r) : Apart (ins xs r) ∧ ∀ b, Has (ins xs r) b ↔ Has xs b ∨ (r.1 ≤ b ∧ b < r.1 + r.2) := by
  have hpos : ¬ r.2 ≤ 0 := by unfold Good at hr; omega
  unfold ins
  rw [if_neg hpos]
  by_cases hx : xs = []
  · subst hx
    rw [if_pos rfl]
    exact ⟨apart_cons.2 ⟨hr, fun _ h => by simp at h, Apart.nil⟩, fun b => by rw [has_cons]; simp [has_nil]⟩
  · rw [if_neg hx]
    have hle := place_le xs r.1
    obtain ⟨ht, hd⟩ := place_take h r.1
    have hsplit : xs.take (place xs r.1) ++ xs.drop (place xs r.1) = xs := List.take_append_drop _ _
    have hap := h
    rw [← hsplit] at hap
    obtain ⟨hA, hB, hAB⟩ := apart_append.1 hap
    have hlenA : (xs.take (place xs r.1)).length = place xs r.1 := by simp; omega
    have key : ∀ b, Has xs b ↔ Has (xs.take (place xs r.1)) b ∨ Has (xs.drop (place xs r.1)) b := fun b => by rw [← has_append, hsplit]
    unfold put
    by_cases hc : place xs r.1 < xs.length ∧ can r (el xs (place xs r.1)) = true
    · rw [if_pos hc]
      obtain ⟨hlt, hcan⟩ := hc
      have edrop : xs.drop (place xs r.1) = el xs (place xs r.1) :: xs.drop (place xs r.1 + 1) := by rw [← el_get xs _ hlt, List.drop_eq_getElem_cons hlt]
      rw [edrop] at hB hd hAB key
      obtain ⟨hb, hbl, hC⟩ := apart_cons.1 hB
      have hrb := hd (el xs (place xs r.1)) (by simp)
      obtain ⟨em, hg, hbytes⟩ := mg_good hr hb hrb ((can_good hr).1 hcan)
      have e1 : (mg r (el xs (place xs r.1))).1 = r.1 := by rw [em]
      have eset : xs.set (place xs r.1) (mg r (el xs (place xs r.1))) = xs.take (place xs r.1) ++ mg r (el xs (place xs r.1)) :: xs.drop (place xs r.1 + 1) := List.set_eq_take_append_cons_drop .. |>.trans (by rw [if_pos hlt])
      rw [eset]
      have hco := coal_apart (xs.take (place xs r.1)) (mg r (el xs (place xs r.1))) (xs.drop (place xs r.1 + 1)) hA hg hC (fun p hp => by rw [e1]; have := ht p hp; omega) (fun q hq => by rw [e1]; exact hd q (by simp [hq])) (fun p hp q hq => hAB p hp q (by simp [hq]))
      rw [hlenA] at hco
      refine ⟨hco.1, fun b => ?_⟩
      rw [hco.2 b, hbytes b, key b, has_cons]
      constructor
      · rintro (h | (h | h) | h)
        · exact .inl (.inl h)
        · exact .inr h
        · exact .inl (.inr (.inl h))
        · exact .inl (.inr (.inr h))
      · rintro ((h | h | h) | h)
        · exact .inl h
        · exact .inr (.inl (.inr h))
        · exact .inr (.inr h)
        · exact .inr (.inl (.inl h))
    · rw [if_neg hc]
      have hco := coal_apart (xs.take (place xs r.1)) r (xs.drop (place xs r.1)) hA hr hB (fun p hp => by have := ht p hp; omega) hd hAB
      rw [hlenA] at hco
      refine ⟨hco.1, fun b => ?_⟩
      rw [hco.2 b, key b]
      constructor
      · rintro (h | h | h)
        · exact .inl (.inl h)
        · exact .inr h
        · exact .inl (.inr h)
      · rintro ((h | h) | h)
        · exact .inl h
        · exact .inr (.inr h)
        · exact .inr (.inl h)

/-- A set is known by its bytes. -/
theorem apart_unique : ∀ (xs ys : List (Int × Int)), Apart xs → Apart ys → (∀ b, Has xs b ↔ Has ys b) → xs = ys
  | [], [], _, _, _ => rfl
  | [], q :: ys, _, hy, h => by
    have hq := (apart_cons.1 hy).1
    exact absurd ((h q.1).2 (has_cons.2 (.inl (by unfold Good at hq; omega)))) (has_nil _)
  | p :: xs, [], hx, _, h => by
    have hp := (apart_cons.1 hx).1
    exact absurd ((h p.1).1 (has_cons.2 (.inl (by unfold Good at hp; omega)))) (has_nil _)
  | p :: xs, q :: ys, hx, hy, h => by
    obtain ⟨hp, hpx, hxs⟩ := apart_cons.1 hx
    obtain ⟨hq, hqy, hys⟩ := apart_cons.1 hy
    have first : ∀ {p : Int × Int} {xs : List (Int × Int)}, Good p → (∀ q ∈ xs, p.1 + p.2 < q.1) → ∀ b, Has (p :: xs) b → p.1 ≤ b := by
      intro p xs hp hpx b hb
      rcases has_cons.1 hb with h | ⟨q, hq, h⟩
      · exact h.1
      · have := hpx q hq; unfold Good at hp; omega
    have gap : ∀ {p : Int × Int} {xs : List (Int × Int)}, (∀ q ∈ xs, p.1 + p.2 < q.1) → ¬ Has (p :: xs) (p.1 + p.2) := by
      intro p xs hpx hb
      rcases has_cons.1 hb with h | ⟨q, hq, h⟩
      · omega
      · have := hpx q hq; omega
    have e1 : p.1 = q.1 := by
      have h1 := first hq hqy p.1 ((h p.1).1 (has_cons.2 (.inl (by unfold Good at hp; omega))))
      have h2 := first hp hpx q.1 ((h q.1).2 (has_cons.2 (.inl (by unfold Good at hq; omega))))
      omega
    have e2 : p.2 = q.2 := by
      rcases Int.lt_trichotomy p.2 q.2 with hlt | heq | hgt
      · have : Has (q :: ys) (p.1 + p.2) := has_cons.2 (.inl (by unfold Good at hp; omega))
        exact absurd ((h _).2 this) (gap hpx)
      · exact heq
      · have : Has (p :: xs) (q.1 + q.2) := has_cons.2 (.inl (by unfold Good at hq; omega))
        exact absurd ((h _).1 this) (gap hqy)
    have e : p = q := Prod.ext e1 e2
    subst e
    congr 1
    refine apart_unique xs ys hxs hys (fun b => ?_)
    have hb := h b
    rw [has_cons, has_cons] at hb
    constructor
    · intro hx1
      rcases hb.1 (.inr hx1) with h | h
      · obtain ⟨q, hq1, hq2⟩ := hx1; have := hpx q hq1; omega
      · exact h
    · intro hy1
      rcases hb.2 (.inr hy1) with h | h
      · obtain ⟨q, hq1, hq2⟩ := hy1; have := hqy q hq1; omega
      · exact h

/-- Is a range near enough (empty ones as well)? -/
def Near (p : Int × Int) : Prop := p.2 ≤ 0 ∨ Good p
theorem ins_near (xs : List (Int × Int)) (r : Int × Int) (h : Apart xs) (hr : Near r) : Apart (ins xs r) ∧ ∀ b, Has (ins xs r) b ↔ Has xs b ∨ (r.1 ≤ b ∧ b < r.1 + r.2) := by
  by_cases h0 : r.2 ≤ 0
  · have e : ins xs r = xs := by unfold ins; rw [if_pos h0]
    rw [e]
    exact ⟨h, fun b => by constructor; exact .inl; rintro (h | h); exact h; omega⟩
  · exact ins_apart xs r h (hr.resolve_left h0)
/-- The set of a list. -/
theorem fold_apart : ∀ (l xs : List (Int × Int)), Apart xs → (∀ r ∈ l, Near r) → Apart (l.foldl ins xs) ∧ ∀ b, Has (l.foldl ins xs) b ↔ Has xs b ∨ Has l b
  | [], xs, h, _ => ⟨h, fun b => by simp [has_nil]⟩
  | r :: l, xs, h, hl => by
    obtain ⟨h1, h2⟩ := ins_near xs r h (hl r (by simp))
    obtain ⟨h3, h4⟩ := fold_apart l (ins xs r) h1 (fun q hq => hl q (by simp [hq]))
    refine ⟨h3, fun b => ?_⟩
    rw [List.foldl_cons, h4 b, h2 b, has_cons, or_assoc]
/-- The set of a list of ranges. -/
def setOf (l : List (Int × Int)) : List (Int × Int) := l.foldl ins []
theorem setOf_apart {l : List (Int × Int)} (hl : ∀ r ∈ l, Near r) : Apart (setOf l) := (fold_apart l [] Apart.nil hl).1
theorem setOf_has {l : List (Int × Int)} (hl : ∀ r ∈ l, Near r) (b : Int) : Has (setOf l) b ↔ Has l b := by
  have := (fold_apart l [] Apart.nil hl).2 b
  unfold setOf
  rw [this]; simp [has_nil]
theorem setOf_is {l xs : List (Int × Int)} (hl : ∀ r ∈ l, Near r) (hx : Apart xs) (h : ∀ b, Has xs b ↔ Has l b) : setOf l = xs :=
  apart_unique _ _ (setOf_apart hl) hx (fun b => (setOf_has hl b).trans (h b).symm)
theorem apart_near {xs : List (Int × Int)} (h : Apart xs) : ∀ r ∈ xs, Near r := fun r hr => .inr (h.2 r hr)
end Go.Proofs.Ytfegihmnpcjdgaa.Rang

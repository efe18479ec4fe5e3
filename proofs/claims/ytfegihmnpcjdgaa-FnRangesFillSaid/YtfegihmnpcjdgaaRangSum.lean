/- How many bytes a set has; of this session. -/
import Derived.Test.YtfegihmnpcjdgaaRangPure
namespace Go.Proofs.Ytfegihmnpcjdgaa.Rang
open Go.RowKit Go.Proofs.YtfegihmnpcjdgaaW.PrintWords
set_option linter.unusedVariables false
set_option linter.unusedSimpArgs false

/-- The bytes of ranges, each range's counted. -/
def mass (xs : List (Int × Int)) : Int := (xs.map (·.2)).sum
theorem mass_cons (p : Int × Int) (xs : List (Int × Int)) : mass (p :: xs) = p.2 + mass xs := by unfold mass; simp
theorem mass_append (xs ys : List (Int × Int)) : mass (xs ++ ys) = mass xs + mass ys := by unfold mass; simp
theorem mg_meets {p q : Int × Int} (hp : Good p) (hq : Good q) (h : q.1 = p.1 + p.2) : mg p q = (p.1, p.2 + q.2) := by
  obtain ⟨e, _, _⟩ := mg_good hp hq (by unfold Good at hp; omega) (by omega)
  rw [e]
  unfold Good at hp hq
  congr 1
  omega
theorem absorb_mass : ∀ (C : List (Int × Int)) (c : Int × Int), Good c → Apart C → (∀ q ∈ C, c.1 + c.2 ≤ q.1) → c.1 + c.2 ≤ 4398046511104 → mass (absorb c C) = c.2 + mass C
  | [], c, _, _, _, _ => by unfold absorb; rw [mass_cons]
  | b :: l, c, hc, hC, hle, _ => by
    obtain ⟨hb, hbl, hl⟩ := apart_cons.1 hC
    have hcb := hle b (by simp)
    unfold absorb
    by_cases h : can c b = true
    · rw [if_pos h]
      have h2 := (can_good hc).1 h
      have e := mg_meets hc hb (by omega)
      have hg : Good (c.1, c.2 + b.2) := by unfold Good at hc hb ⊢; simp only; omega
      rw [e, absorb_mass l (c.1, c.2 + b.2) hg hl (fun q hq => by have := hbl q hq; simp only; omega) (by unfold Good at hg; exact hg.2.1), mass_cons]
      simp only; omega
    · rw [if_neg h, mass_cons]
theorem coal_mass (A : List (Int × Int)) (c : Int × Int) (C : List (Int × Int)) (hA : Apart A) (hc : Good c) (hC : Apart C) (h1 : ∀ p ∈ A, p.1 + p.2 ≤ c.1) (h2 : ∀ q ∈ C, c.1 + c.2 ≤ q.1) : mass (coal (A ++ c :: C) A.length) = mass A + c.2 + mass C := by
  have hce : c.1 + c.2 ≤ 4398046511104 := hc.2.1
  rcases List.eq_nil_or_concat A with rfl | ⟨A', a, rfl⟩
  · simp only [List.nil_append, List.length_nil]
    rw [coal_nil, absorb_mass C c hc hC h2 hce]
    simp [mass]
  · rw [List.concat_eq_append] at *
    have e : A' ++ [a] ++ c :: C = A' ++ a :: c :: C := by simp
    have el : (A' ++ [a]).length = A'.length + 1 := by simp
    rw [e, el, coal_last]
    obtain ⟨hA', haa, hlast⟩ := apart_append.1 hA
    obtain ⟨ha, _, _⟩ := apart_cons.1 haa
    have hac := h1 a (by simp)
    by_cases h : can a c = true
    · rw [if_pos h]
      have h4 := (can_good ha).1 h
      have em := mg_meets ha hc (by omega)
      have hg : Good (a.1, a.2 + c.2) := by unfold Good at ha hc ⊢; simp only; omega
      rw [em, mass_append, absorb_mass C (a.1, a.2 + c.2) hg hC (fun q hq => by have := h2 q hq; simp only; omega) hg.2.1, mass_append, mass_cons]
      simp [mass]; omega
    · rw [if_neg h, mass_append, mass_cons, absorb_mass C c hc hC h2 hce, mass_append, mass_cons]
      simp [mass]; omega
/-- A range that has no byte of a set: inserted it adds its bytes. -/
theorem ins_mass (xs : List (Int × Int)) (r : Int × Int) (h : Apart xs) (hr : Good r) (hd : ∀ b, r.1 ≤ b → b < r.1 + r.2 → ¬ Has xs b) : mass (ins xs r) = mass xs + r.2 := by
  have hr' := hr
  unfold Good at hr'
  have hside : ∀ p ∈ xs, p.1 + p.2 ≤ r.1 ∨ r.1 + r.2 ≤ p.1 := by
    intro p hp
    have hg := h.2 p hp
    unfold Good at hg
    rcases Int.lt_or_le p.1 r.1 with h1 | h1
    · left
      rcases Int.lt_or_le r.1 (p.1 + p.2) with h2 | h2
      · exact absurd ⟨p, hp, by omega, h2⟩ (hd r.1 (Int.le_refl _) (by omega))
      · exact h2
    · right
      rcases Int.lt_or_le p.1 (r.1 + r.2) with h2 | h2
      · exact absurd ⟨p, hp, Int.le_refl _, by omega⟩ (hd p.1 h1 h2)
      · exact h2
  unfold ins
  rw [if_neg (by omega)]
  by_cases hx : xs = []
  · subst hx; rw [if_pos rfl]; simp [mass]
  · rw [if_neg hx]
    have hle := place_le xs r.1
    obtain ⟨ht, hdd⟩ := place_take h r.1
    have hsplit : xs.take (place xs r.1) ++ xs.drop (place xs r.1) = xs := List.take_append_drop _ _
    have hap := h
    rw [← hsplit] at hap
    obtain ⟨hA, hB, hAB⟩ := apart_append.1 hap
    have hlenA : (xs.take (place xs r.1)).length = place xs r.1 := by simp; omega
    have hAr : ∀ p ∈ xs.take (place xs r.1), p.1 + p.2 ≤ r.1 := by
      intro p hp
      have h1 := ht p hp
      have hg := hA.2 p hp
      unfold Good at hg
      rcases hside p (List.mem_of_mem_take hp) with h2 | h2
      · exact h2
      · omega
    have hBr : ∀ q ∈ xs.drop (place xs r.1), r.1 + r.2 ≤ q.1 := by
      intro q hq
      have h1 := hdd q hq
      have hg := hB.2 q hq
      unfold Good at hg
      rcases hside q (List.mem_of_mem_drop hq) with h2 | h2
      · omega
      · exact h2
    have hm : mass xs = mass (xs.take (place xs r.1)) + mass (xs.drop (place xs r.1)) := by rw [← mass_append, hsplit]
    unfold put
    by_cases hc : place xs r.1 < xs.length ∧ can r (el xs (place xs r.1)) = true
    · rw [if_pos hc]
      obtain ⟨hlt, hcan⟩ := hc
      have edrop : xs.drop (place xs r.1) = el xs (place xs r.1) :: xs.drop (place xs r.1 + 1) := by rw [← el_get xs _ hlt, List.drop_eq_getElem_cons hlt]
      rw [edrop] at hB hBr hm
      obtain ⟨hb, hbl, hC⟩ := apart_cons.1 hB
      have h3 := hBr (el xs (place xs r.1)) (by simp)
      have h4 := (can_good hr).1 hcan
      have em := mg_meets hr hb (by omega)
      have hg : Good (r.1, r.2 + (el xs (place xs r.1)).2) := by unfold Good at hr hb ⊢; simp only; omega
      have eset : xs.set (place xs r.1) (r.1, r.2 + (el xs (place xs r.1)).2) = xs.take (place xs r.1) ++ (r.1, r.2 + (el xs (place xs r.1)).2) :: xs.drop (place xs r.1 + 1) := List.set_eq_take_append_cons_drop .. |>.trans (by rw [if_pos hlt])
      rw [em, eset]
      have hco := coal_mass (xs.take (place xs r.1)) (r.1, r.2 + (el xs (place xs r.1)).2) (xs.drop (place xs r.1 + 1)) hA hg hC hAr (fun q hq => by have := hbl q hq; simp only; omega)
      rw [hlenA] at hco
      rw [hco, hm, mass_cons]
      simp only; omega
    · rw [if_neg hc]
      have hco := coal_mass (xs.take (place xs r.1)) r (xs.drop (place xs r.1)) hA hr hB hAr hBr
      rw [hlenA] at hco
      rw [hco, hm]; omega
theorem setOf_snoc (l : List (Int × Int)) (q : Int × Int) : setOf (l ++ [q]) = ins (setOf l) q := by unfold setOf; rw [List.foldl_append]; rfl
end Go.Proofs.Ytfegihmnpcjdgaa.Rang

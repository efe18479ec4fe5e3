import Derived.Test.YtnmnokjflkidmaaSeps
import Derived.Lib.CleanFns
namespace Go.Proofs.Ytnmnokjflkidmaa.Sane
open Go.Lib
set_option linter.unusedVariables false
/-! ### a path's pieces: of no program -/
def spl (p : UInt8 → Bool) : List UInt8 → List (List UInt8)
  | [] => [[]]
  | c :: t => if p c = true then [] :: spl p t else match spl p t with
    | e :: r => (c :: e) :: r
    | [] => [[c]]
def sl (c : UInt8) : Bool := decide (c = 47)
theorem spl_cons (p : UInt8 → Bool) : ∀ l, ∃ e r, spl p l = e :: r
  | [] => ⟨[], [], rfl⟩
  | c :: t => by
    obtain ⟨e, r, h⟩ := spl_cons p t
    unfold spl
    by_cases hc : p c = true
    · rw [if_pos hc]; exact ⟨_, _, rfl⟩
    · rw [if_neg hc, h]; exact ⟨_, _, rfl⟩
theorem spl_sep {p : UInt8 → Bool} {c : UInt8} (h : p c = true) (t : List UInt8) : spl p (c :: t) = [] :: spl p t := by
  rw [spl, if_pos h]
theorem spl_no {p : UInt8 → Bool} {c : UInt8} (h : p c = false) {t e : List UInt8} {r : List (List UInt8)} (ht : spl p t = e :: r) : spl p (c :: t) = (c :: e) :: r := by
  rw [spl, if_neg (by simp [h]), ht]
theorem els_spl : ∀ l, Pa.els l = spl sl l
  | [] => rfl
  | c :: t => by
    have ih := els_spl t
    obtain ⟨e, r, h⟩ := spl_cons sl t
    unfold Pa.els
    by_cases hc : c = 47
    · rw [if_pos hc, spl_sep (by simp [sl, hc]), ih]
    · rw [if_neg hc, ih, h, spl_no (by simp [sl, hc]) h]
theorem spl_app (p : UInt8 → Bool) (c : UInt8) (hc : p c = true) (b : List UInt8) : ∀ a, spl p (a ++ c :: b) = spl p a ++ spl p b
  | [] => by rw [List.nil_append, spl_sep hc]; rfl
  | x :: t => by
    have ih := spl_app p c hc b t
    obtain ⟨e, r, h⟩ := spl_cons p t
    rw [List.cons_append]
    by_cases hx : p x = true
    · rw [spl_sep hx, spl_sep hx, ih]; rfl
    · have hx' : p x = false := by simpa using hx
      rw [spl_no hx' h, spl_no (e := e) (r := r ++ spl p b) hx' (by rw [ih, h]; rfl)]; rfl
theorem spl_none (p : UInt8 → Bool) : ∀ l, (∀ x ∈ l, p x = false) → spl p l = [l]
  | [], _ => rfl
  | c :: t, h => by rw [spl_no (h c (by simp)) (spl_none p t (fun x hx => h x (by simp [hx])))]
theorem spl_mem (p : UInt8 → Bool) : ∀ l, ∀ e ∈ spl p l, ∀ x ∈ e, p x = false
  | [], e, he, x, hx => by simp [spl] at he; subst he; simp at hx
  | c :: t, e, he, x, hx => by
    obtain ⟨e', r, h⟩ := spl_cons p t
    by_cases hc : p c = true
    · rw [spl_sep hc] at he
      rcases List.mem_cons.1 he with rfl | he
      · simp at hx
      · exact spl_mem p t e he x hx
    · have hc' : p c = false := by simpa using hc
      rw [spl_no hc' h] at he
      rcases List.mem_cons.1 he with rfl | he
      · rcases List.mem_cons.1 hx with rfl | hx
        · exact hc'
        · exact spl_mem p t e' (by rw [h]; simp) x hx
      · exact spl_mem p t e (by rw [h]; simp [he]) x hx
theorem sep_of_sl {c : UInt8} (h : sl c = true) : sepB c = true := by
  simp [sl] at h; subst h; decide
theorem spl_two : ∀ l, spl sepB l = (spl sl l).flatMap (spl sepB)
  | [] => rfl
  | c :: t => by
    have ih := spl_two t
    obtain ⟨e, r, h⟩ := spl_cons sl t
    rw [h, List.flatMap_cons] at ih
    by_cases hc : sl c = true
    · rw [spl_sep hc, spl_sep (sep_of_sl hc), List.flatMap_cons, h, List.flatMap_cons, ih]; rfl
    · have hc' : sl c = false := by simpa using hc
      rw [spl_no hc' h, List.flatMap_cons]
      obtain ⟨e', r', h'⟩ := spl_cons sepB e
      by_cases h2 : sepB c = true
      · rw [spl_sep h2, spl_sep h2, ih]; rfl
      · have h2' : sepB c = false := by simpa using h2
        rw [spl_no h2' h', spl_no (e := e') (r := r' ++ r.flatMap (spl sepB)) h2' (by rw [ih, h']; rfl)]; rfl
theorem fgo_spl : ∀ (l cur e : List UInt8) (r : List (List UInt8)), spl sepB l = e :: r → fgo cur l = ((cur ++ e) :: r).filter (fun x => decide (x ≠ []))
  | [], cur, e, r, h => by
    simp only [spl, List.cons.injEq] at h
    obtain ⟨rfl, rfl⟩ := h
    unfold fgo
    by_cases hc : cur = []
    · simp [hc]
    · simp [hc]
  | c :: t, cur, e, r, h => by
    obtain ⟨e', r', h'⟩ := spl_cons sepB t
    unfold fgo
    by_cases hc : sepB c = true
    · rw [spl_sep hc, h'] at h
      simp only [List.cons.injEq] at h
      obtain ⟨rfl, rfl⟩ := h
      rw [if_pos hc]
      have ih := fgo_spl t [] e' r' h'
      rw [List.nil_append] at ih
      rw [ih, List.append_nil]
      by_cases hcur : cur = []
      · rw [if_pos hcur, hcur]; simp
      · rw [if_neg hcur]; simp [List.filter_cons, hcur]
    · have hc' : sepB c = false := by simpa using hc
      rw [spl_no hc' h'] at h
      simp only [List.cons.injEq] at h
      obtain ⟨rfl, rfl⟩ := h
      rw [if_neg hc, fgo_spl t (cur ++ [c]) e' r' h', List.append_assoc]; rfl
/-- A piece, between slashes and backslashes, is two points. -/
def DD (l : List UInt8) : Prop := ∃ e ∈ spl sl l, [46, 46] ∈ spl sepB e
theorem dotDot_is (s : ByteArray) : dotDot s = true ↔ DD s.data.toList := by
  rw [dotDot_iff]
  obtain ⟨e, r, h⟩ := spl_cons sepB s.data.toList
  rw [fgo_spl _ [] e r h, List.nil_append, ← h, List.mem_filter, spl_two, List.mem_flatMap]
  simp [DD]
def good (e : List UInt8) : Bool := decide (e ≠ [] ∧ e ≠ [46])
theorem good_not (e : List UInt8) : good e = true ↔ ¬ (e = [] ∨ e = [46]) := by simp [good, not_or]
def parts (l : List UInt8) : List (List UInt8) := (spl sl l).filter good
def joined (L : List (List UInt8)) : List UInt8 := [47].intercalate L
theorem joined_nil : joined [] = [] := rfl
theorem joined_one (a : List UInt8) : joined [a] = a := by simp [joined, List.intercalate]
theorem joined_two (a b : List UInt8) (L : List (List UInt8)) : joined (a :: b :: L) = a ++ 47 :: joined (b :: L) := by
  simp [joined, List.intercalate, List.intersperse]
theorem joined_app : ∀ (A B : List (List UInt8)), A ≠ [] → B ≠ [] → joined (A ++ B) = joined A ++ 47 :: joined B
  | [], _, h, _ => absurd rfl h
  | [a], [], _, h => absurd rfl h
  | [a], b :: B, _, _ => by rw [joined_one]; exact joined_two a b B
  | a :: a' :: A, B, _, h => by
    have ih := joined_app (a' :: A) B (by simp) h
    rw [joined_two, List.cons_append, List.cons_append, joined_two]
    rw [List.cons_append] at ih
    rw [ih]; simp
theorem spl_joined : ∀ (L : List (List UInt8)), L ≠ [] → (∀ e ∈ L, ∀ x ∈ e, sl x = false) → spl sl (joined L) = L
  | [], h, _ => absurd rfl h
  | [a], _, h => by rw [joined_one]; exact spl_none sl a (h a (by simp))
  | a :: b :: L, _, h => by
    rw [joined_two, spl_app sl 47 (by decide), spl_none sl a (h a (by simp)), spl_joined (b :: L) (by simp) (fun e he => h e (List.mem_cons_of_mem _ he))]
    rfl
theorem joined_ends (L : List (List UInt8)) (hne : L ≠ []) (h : ∀ e ∈ L, e ≠ [] ∧ ∀ x ∈ e, sl x = false) : ∃ c d m, joined L = c :: m ∧ sl c = false ∧ (∃ m', joined L = m' ++ [d]) ∧ sl d = false := by
  induction L with
  | nil => exact absurd rfl hne
  | cons a L ih =>
    obtain ⟨h1, h2⟩ := h a (by simp)
    obtain ⟨c, t, rfl⟩ : ∃ c t, a = c :: t := by cases a with | nil => exact absurd rfl h1 | cons c t => exact ⟨c, t, rfl⟩
    cases L with
    | nil =>
      rw [joined_one]
      refine ⟨c, (c :: t).getLast (by simp), t, rfl, h2 c (by simp), ⟨(c :: t).dropLast, (List.dropLast_concat_getLast (by simp)).symm⟩, h2 _ (List.getLast_mem _)⟩
    | cons b L =>
      obtain ⟨c', d', m', e1, e2, ⟨m'', e3⟩, e4⟩ := ih (by simp) (fun e he => h e (List.mem_cons_of_mem _ he))
      rw [joined_two]
      refine ⟨c, d', t ++ 47 :: joined (b :: L), rfl, h2 c (by simp), ⟨c :: t ++ 47 :: m'', by rw [e3]; simp⟩, e4⟩
theorem clean_steps (ro : Bool) : ∀ (L st : List (List UInt8)), (∀ e ∈ L, e ≠ [46, 46]) → L.foldl (Pa.cleanStep ro) st = (L.filter good).reverse ++ st
  | [], st, _ => rfl
  | e :: L, st, h => by
    rw [List.foldl_cons, clean_steps ro L _ (fun x hx => h x (by simp [hx]))]
    unfold Pa.cleanStep
    by_cases h1 : e = [] ∨ e = [46]
    · rw [if_pos h1, List.filter_cons, if_neg (fun q => (good_not e).1 q h1)]
    · rw [if_neg h1, if_neg (h e (by simp)), List.filter_cons, if_pos ((good_not e).2 h1)]
      simp
theorem not_dd {l : List UInt8} (h : ¬ DD l) : ∀ e ∈ spl sl l, e ≠ [46, 46] := by
  rintro e he rfl
  exact h ⟨_, he, by decide⟩
theorem parts_ok {l : List UInt8} (h : ¬ DD l) : ∀ e ∈ parts l, e ≠ [] ∧ e ≠ [46] ∧ e ≠ [46, 46] ∧ (∀ x ∈ e, sl x = false) ∧ [46, 46] ∉ spl sepB e := by
  intro e he
  obtain ⟨h1, h2⟩ := List.mem_filter.1 he
  have h3 : e ≠ [] ∧ e ≠ [46] := by simpa [good] using h2
  exact ⟨h3.1, h3.2, not_dd h e h1, spl_mem sl l e h1, fun hh => h ⟨e, h1, hh⟩⟩
theorem clean_is_parts {l : List UInt8} (h : ¬ DD l) : Pa.cleanEls l = (if l.head? = some 47 then 47 :: joined (parts l) else if parts l = [] then [46] else joined (parts l)) := by
  unfold Pa.cleanEls
  by_cases h0 : l = []
  · subst h0; decide
  rw [if_neg h0]
  simp only
  rw [els_spl, clean_steps _ _ _ (not_dd h), List.append_nil, List.reverse_reverse]
  have hj : ([47].intercalate ((spl sl l).filter good) = []) ↔ parts l = [] := by
    show joined (parts l) = [] ↔ _
    constructor
    · intro hh
      rcases Classical.em (parts l = []) with hn | hn
      · exact hn
      · obtain ⟨c, d, m, e, _⟩ := joined_ends (parts l) hn (fun e he => ⟨(parts_ok h e he).1, (parts_ok h e he).2.2.2.1⟩)
        rw [hh] at e; cases e
    · intro hh; rw [hh]; rfl
  by_cases hr : l.head? = some 47
  · rw [if_pos hr, if_pos (by simp [hr])]; rfl
  · rw [if_neg hr, if_neg (by simp [hr])]
    by_cases hp : parts l = []
    · rw [if_pos (hj.2 hp), if_pos hp]
    · rw [if_neg (fun q => hp (hj.1 q)), if_neg hp]; rfl
/-- What is told of a path. -/
def pathOf (l : List UInt8) : List UInt8 := joined (parts l)
theorem path_ends {l : List UInt8} (h : ¬ DD l) : pathOf l = [] ∨ ∃ c d m, pathOf l = c :: m ∧ sl c = false ∧ (∃ m', pathOf l = m' ++ [d]) ∧ sl d = false := by
  rcases Classical.em (parts l = []) with hn | hn
  · left; unfold pathOf; rw [hn]; rfl
  · right; exact joined_ends (parts l) hn (fun e he => ⟨(parts_ok h e he).1, (parts_ok h e he).2.2.2.1⟩)
theorem path_spl {l : List UInt8} (h : ¬ DD l) (hn : parts l ≠ []) : spl sl (pathOf l) = parts l := spl_joined _ hn (fun e he => (parts_ok h e he).2.2.2.1)
theorem path_not_dot {l : List UInt8} (h : ¬ DD l) : pathOf l ≠ [46] := by
  intro e
  rcases Classical.em (parts l = []) with hn | hn
  · unfold pathOf at e; rw [hn] at e; cases e
  · have h2 := path_spl h hn
    rw [e] at h2
    have h3 : [46] ∈ parts l := by rw [← h2]; decide
    exact (parts_ok h _ h3).2.1 rfl
theorem path_again {l : List UInt8} (h : ¬ DD l) : ¬ DD (pathOf l) ∧ pathOf (pathOf l) = pathOf l := by
  rcases Classical.em (parts l = []) with hn | hn
  · have : pathOf l = [] := by unfold pathOf; rw [hn]; rfl
    rw [this]
    refine ⟨?_, by decide⟩
    rintro ⟨e, he, h2⟩
    simp [spl] at he; subst he; simp [spl] at h2
  · have h2 := path_spl h hn
    refine ⟨?_, ?_⟩
    · rintro ⟨e, he, h3⟩
      rw [h2] at he
      exact (parts_ok h e he).2.2.2.2 h3
    · have h4 : parts (pathOf l) = parts l := by
        unfold parts
        rw [h2]
        unfold parts
        rw [List.filter_filter]
        congr 1
        funext x
        simp
      unfold pathOf at h4 ⊢
      rw [h4]
theorem path_both {a b : List UInt8} (ha : ¬ DD a) (hb : ¬ DD b) : ¬ DD (a ++ 47 :: b) ∧ pathOf (a ++ 47 :: b) = if pathOf a = [] then pathOf b else if pathOf b = [] then pathOf a else pathOf a ++ 47 :: pathOf b := by
  have hs := spl_app sl 47 (by decide) b a
  refine ⟨?_, ?_⟩
  · rintro ⟨e, he, h2⟩
    rw [hs] at he
    rcases List.mem_append.1 he with he | he
    · exact ha ⟨e, he, h2⟩
    · exact hb ⟨e, he, h2⟩
  · have hp : parts (a ++ 47 :: b) = parts a ++ parts b := by unfold parts; rw [hs, List.filter_append]
    have hz : ∀ {l}, ¬ DD l → (pathOf l = [] ↔ parts l = []) := by
      intro l h
      constructor
      · intro e
        rcases Classical.em (parts l = []) with hn | hn
        · exact hn
        · obtain ⟨c, d, m, e2, _⟩ := joined_ends (parts l) hn (fun e he => ⟨(parts_ok h e he).1, (parts_ok h e he).2.2.2.1⟩)
          unfold pathOf at e; rw [e] at e2; cases e2
      · intro e; unfold pathOf; rw [e]; rfl
    by_cases h1 : parts a = []
    · rw [if_pos ((hz ha).2 h1)]; unfold pathOf; rw [hp, h1]; rfl
    · rw [if_neg (fun q => h1 ((hz ha).1 q))]
      by_cases h2 : parts b = []
      · rw [if_pos ((hz hb).2 h2)]; unfold pathOf; rw [hp, h2, List.append_nil]
      · rw [if_neg (fun q => h2 ((hz hb).1 q))]; unfold pathOf; rw [hp, joined_app _ _ h1 h2]
def sumLen (L : List (List UInt8)) : Nat := (L.map (fun e => e.length + 1)).sum
theorem spl_sum (p : UInt8 → Bool) : ∀ l, sumLen (spl p l) = l.length + 1
  | [] => rfl
  | c :: t => by
    have ih := spl_sum p t
    obtain ⟨e, r, h⟩ := spl_cons p t
    by_cases hc : p c = true
    · rw [spl_sep hc]; simp [sumLen] at ih ⊢; omega
    · rw [spl_no (by simpa using hc) h]; rw [h] at ih; simp [sumLen] at ih ⊢; omega
theorem filter_sum (q : List UInt8 → Bool) : ∀ L, sumLen (L.filter q) ≤ sumLen L
  | [] => Nat.le_refl _
  | e :: L => by
    have ih := filter_sum q L
    rw [List.filter_cons]
    split
    · simp [sumLen] at ih ⊢; omega
    · simp [sumLen] at ih ⊢; omega
theorem joined_sum : ∀ L, (joined L).length ≤ sumLen L
  | [] => Nat.zero_le _
  | [a] => by rw [joined_one]; simp [sumLen]
  | a :: b :: L => by
    have ih := joined_sum (b :: L)
    rw [joined_two]
    simp [sumLen] at ih ⊢; omega
theorem path_len (l : List UInt8) : (pathOf l).length ≤ l.length + 1 := by
  have h1 := joined_sum (parts l)
  have h2 := filter_sum good (spl sl l)
  have h3 := spl_sum sl l
  unfold pathOf parts at *
  omega
end Go.Proofs.Ytnmnokjflkidmaa.Sane

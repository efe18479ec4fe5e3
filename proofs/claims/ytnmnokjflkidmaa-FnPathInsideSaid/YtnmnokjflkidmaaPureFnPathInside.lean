/- A path that is taken has, cleaned, pieces alone that are leaves, and stays as it is when it is cleaned again; joined to whatever such one, it is what both are together: for all paths. -/
import Derived.Test.YtnmnokjflkidmaaPFnPathInsidex2
import Derived.Test.YtnmnokjflkidmaaPlain
import Derived.Test.YtnmnokjflkidmaaPieces
namespace Go.Proofs.Ytnmnokjflkidmaa.Pure
open Go.RowKit Go.Proofs.Ytnmnokjflkidmaa.PFnPathInside Go.Proofs.YtnmnokjflkidmaaW.PrintWords Go.Proofs.YtnmnokjflkidmaaW.PrintLast Go.Proofs.Ytnmnokjflkidmaa.Plain Go.Proofs.Ytnmnokjflkidmaa.Sane
set_option linter.unusedVariables false

theorem inB_iff (set : ByteArray) (c : UInt8) : inB set c = true ↔ ∃ i, ∃ h : i < set.size, (set[i]'h) = c := by
  simp only [inB, inSet, decide_eq_true_eq]
  constructor
  · rintro ⟨i, h, e⟩; exact ⟨i, h, UInt8.toNat_inj.1 (by omega)⟩
  · rintro ⟨i, h, e⟩; exact ⟨i, h, by rw [e]⟩

/-- The inner loop: is the byte ahead of place n one of the set's? -/
theorem trimR1 (s set : ByteArray) (hs : s.size ≤ 140737488351232) (hset : set.size ≤ 140737488351232) (n : Nat) (hn : n < s.size) (r : ByteArray) (d : Nat) : ∀ (j : Nat) (b : Bool), set.size - j = d → j ≤ set.size →
    (∀ x, (b || decide (∃ i, ∃ h : i < set.size, j ≤ i ∧ (set[i]'h) = (s[n]'hn))) = x → if x = true then Ev (fun k => sanitize_zzTrimRight.l0 k s set (n : Int)) r else r = s.extract 0 (n + 1)) →
    Ev (fun k => sanitize_zzTrimRight.l1 k s set ((n + 1 : Nat) : Int) b (j : Int)) r := by
  induction d with
  | zero =>
    intro j b hd hj hx
    refine Ev.step (fun _ => sanitize_zzTrimRight.l1.eq_2 ..) ?_
    refine Ev.if_neg (by omega) ?_
    have hx' := hx b (by
      have : ¬ ∃ i, ∃ h : i < set.size, j ≤ i ∧ (set[i]'h) = (s[n]'hn) := by rintro ⟨i, h, h1, _⟩; omega
      rw [decide_eq_false this, Bool.or_false])
    cases b with
    | true =>
      refine Ev.if_pos rfl ?_
      rw [wrap64_of (by omega) (by omega), show ((n + 1 : Nat) : Int) - 1 = (n : Int) by omega]
      exact hx'
    | false =>
      refine Ev.if_neg (by simp) ?_
      refine Ev.if_pos (by omega) ?_
      refine Ev.if_pos (by omega) ?_
      rw [if_neg (by simp)] at hx'
      rw [hx', Int.toNat_natCast]
      exact Ev.now _
  | succ d ih =>
    intro j b hd hj hx
    have hjlt : j < set.size := by omega
    refine Ev.step (fun _ => sanitize_zzTrimRight.l1.eq_2 ..) ?_
    rw [wrap64_of (x := ((n + 1 : Nat) : Int) - 1) (by omega) (by omega), wrap64_of (x := (j : Int) + 1) (by omega) (by omega), show ((n + 1 : Nat) : Int) - 1 = (n : Int) by omega, show (j : Int) + 1 = ((j + 1 : Nat) : Int) by omega]
    refine Ev.if_pos (by omega) ?_
    refine Ev.if_pos (by omega) ?_
    refine Ev.if_pos (by omega) ?_
    refine Ev.if_pos (by omega) ?_
    rw [bt_is set j hjlt, bt_is s n hn]
    by_cases e : (set[j]'hjlt) = (s[n]'hn)
    · refine Ev.if_pos (by rw [e]) ?_
      refine ih (j + 1) true (by omega) (by omega) (fun x h => hx x ?_)
      rw [← h]
      have : ∃ i, ∃ h : i < set.size, j ≤ i ∧ (set[i]'h) = (s[n]'hn) := ⟨j, hjlt, Nat.le_refl _, e⟩
      rw [decide_eq_true this, Bool.or_true, Bool.true_or]
    · refine Ev.if_neg (fun h => e (UInt8.toNat_inj.1 (by omega))) ?_
      refine ih (j + 1) b (by omega) (by omega) (fun x h => hx x ?_)
      rw [← h]
      congr 1
      rw [Bool.eq_iff_iff, decide_eq_true_eq, decide_eq_true_eq]
      constructor
      · rintro ⟨i, h, h1, h2⟩
        refine ⟨i, h, ?_, h2⟩
        by_cases e2 : i = j
        · subst e2; exact absurd h2 e
        · omega
      · rintro ⟨i, h, h1, h2⟩; exact ⟨i, h, by omega, h2⟩

/-- The outer loop: what stays of a text's first n bytes, if from m on all are in the set, and none at its end. -/
theorem trimR0 (s set : ByteArray) (hs : s.size ≤ 140737488351232) (hset : set.size ≤ 140737488351232) (m : Nat) (hm : m = 0 ∨ ∃ h : m - 1 < s.size, inB set (s[m - 1]'h) = false) (d : Nat) :
    ∀ n, n - m = d → m ≤ n → n ≤ s.size → (∀ i (h : i < s.size), m ≤ i → i < n → inB set (s[i]'h) = true) →
    Ev (fun k => sanitize_zzTrimRight.l0 k s set (n : Int)) (s.extract 0 m) := by
  induction d with
  | zero =>
    intro n hd hmn hn hall
    obtain rfl : n = m := by omega
    refine Ev.step (fun _ => sanitize_zzTrimRight.l0.eq_2 ..) ?_
    by_cases h0 : n = 0
    · subst h0
      refine Ev.if_neg (by omega) ?_
      refine Ev.if_pos (by omega) ?_
      refine Ev.if_pos (by omega) ?_
      exact Ev.now _
    · refine Ev.if_pos (by omega) ?_
      obtain ⟨n, rfl⟩ : ∃ q, n = q + 1 := ⟨n - 1, by omega⟩
      rcases hm with hm | ⟨h, hm⟩
      · omega
      · refine trimR1 s set hs hset n (by omega) _ set.size 0 false (by omega) (by omega) (fun x hx => ?_)
        have : x = false := by
          rw [← hx, Bool.false_or, decide_eq_false_iff_not]
          rintro ⟨i, hi, _, e⟩
          have := (inB_iff set (s[n]'(by omega))).2 ⟨i, hi, e⟩
          simp at hm
          rw [hm] at this; cases this
        subst this
        simp
  | succ d ih =>
    intro n hd hmn hn hall
    obtain ⟨n, rfl⟩ : ∃ q, n = q + 1 := ⟨n - 1, by omega⟩
    refine Ev.step (fun _ => sanitize_zzTrimRight.l0.eq_2 ..) ?_
    refine Ev.if_pos (by omega) ?_
    refine trimR1 s set hs hset n (by omega) _ set.size 0 false (by omega) (by omega) (fun x hx => ?_)
    have : x = true := by
      rw [← hx, Bool.false_or, decide_eq_true_eq]
      obtain ⟨i, hi, e⟩ := (inB_iff set _).1 (hall n (by omega) (by omega) (by omega))
      exact ⟨i, hi, Nat.zero_le _, e⟩
    subst this
    rw [if_pos rfl]
    exact ih n (by omega) (by omega) (by omega) (fun i h h1 h2 => hall i h h1 (by omega))

theorem get_append (a b : ByteArray) (i : Nat) (h : i < (a ++ b).size) : (a ++ b)[i]'h = if h' : i < a.size then a[i]'h' else b[i - a.size]'(by rw [size_append] at h; omega) := by
  rw [get_data]
  simp only [data_append]
  rw [List.getElem_append]
  rfl

/-- The first place of a byte in a list, counted from i on; -1: there is none. -/
def idx1 (c : UInt8) : List UInt8 → Nat → Int
  | [], _ => -1
  | a :: l, i => if a = c then (i : Int) else idx1 c l (i + 1)
theorem idx1_nonneg (c : UInt8) (l : List UInt8) : ∀ i, 0 ≤ idx1 c l i ↔ c ∈ l := by
  induction l with
  | nil => intro i; simp [idx1]
  | cons a l ih =>
    intro i
    unfold idx1
    by_cases e : a = c
    · subst e; rw [if_pos rfl]; simp
    · rw [if_neg e, ih (i + 1)]
      simp [Ne.symm e]
theorem drop_cons (s : ByteArray) (i : Nat) (h : i < s.size) : s.data.toList.drop i = (s[i]'h) :: s.data.toList.drop (i + 1) := by
  rw [List.drop_eq_getElem_cons (by exact h)]; rfl
theorem one_extract (s : ByteArray) (i : Nat) (h : i < s.size) (c : UInt8) : (s.extract i (i + 1)).toList = (⟨#[c]⟩ : ByteArray).toList ↔ (s[i]'h) = c := by
  rw [Go.ByteArray.toList_eq, Go.ByteArray.toList_eq, data_extract, drop_cons s i h]
  simp

theorem zzIndex_tells (s : ByteArray) (hs : s.size ≤ 140737488351232) (c : UInt8) (d : Nat) : ∀ i, s.size - i = d → i ≤ s.size →
    Ev (fun k => sanitize_zzIndex.l0 k s (⟨#[c]⟩ : ByteArray) (i : Int)) (idx1 c (s.data.toList.drop i) i) := by
  have h1 : ((⟨#[c]⟩ : ByteArray).size : Int) = 1 := rfl
  induction d with
  | zero =>
    intro i hd hi
    obtain rfl : i = s.size := by omega
    refine Ev.step (fun _ => sanitize_zzIndex.l0.eq_2 ..) ?_
    rw [h1, wrap64_of (by omega) (by omega)]
    refine Ev.if_neg (by omega) ?_
    rw [List.drop_of_length_le (by exact Nat.le_refl _)]
    exact Ev.now _
  | succ d ih =>
    intro i hd hi
    have hlt : i < s.size := by omega
    refine Ev.step (fun _ => sanitize_zzIndex.l0.eq_2 ..) ?_
    rw [h1, wrap64_of (by omega) (by omega), drop_cons s i hlt, show (i : Int) + 1 = ((i + 1 : Nat) : Int) by omega]
    refine Ev.if_pos (by omega) ?_
    refine Ev.if_pos (by omega) ?_
    refine Ev.if_pos (by omega) ?_
    simp only [Int.toNat_natCast]
    unfold idx1
    by_cases e : (s[i]'hlt) = c
    · rw [if_pos e]
      exact Ev.if_pos ((one_extract s i hlt c).2 e) (Ev.now _)
    · rw [if_neg e]
      exact Ev.if_neg (fun h => e ((one_extract s i hlt c).1 h)) (ih (i + 1) (by omega) (by omega))

theorem contains_tells (s : ByteArray) (hs : s.size ≤ 140737488351232) (c : UInt8) : Ev (fun k => sanitize_zzContains.f k s (⟨#[c]⟩ : ByteArray)) (decide (c ∈ s.data.toList)) := by
  unfold sanitize_zzContains.f sanitize_zzIndex.f
  have := zzIndex_tells s hs c s.size 0 (by omega) (by omega)
  rw [List.drop_zero] at this
  refine Ev.bind this ?_
  have e : (decide (idx1 c s.data.toList 0 ≥ 0)) = decide (c ∈ s.data.toList) := by
    rw [Bool.eq_iff_iff, decide_eq_true_eq, decide_eq_true_eq]; exact idx1_nonneg c _ 0
  rw [e]
  exact Ev.now _

/-- What both tell. -/
def leaf (s : ByteArray) : Bool := !(decide (s.toList = []) || decide (s.toList = [46]) || decide (s.toList = [46, 46]) || decide ((47 : UInt8) ∈ s.data.toList))

theorem check_tells (s : ByteArray) (hs : s.size ≤ 140737488351232) : Ev (fun k => impl_LeafCheck.f k s) (leaf s) := by
  unfold impl_LeafCheck.f leaf
  by_cases c1 : s.toList = []
  · refine Ev.if_pos c1 ?_
    rw [decide_eq_true c1]; exact Ev.now _
  refine Ev.if_neg c1 ?_
  by_cases c2 : s.toList = [46]
  · refine Ev.if_pos c2 ?_
    rw [decide_eq_true c2]; simp only [Bool.or_true, Bool.true_or]; exact Ev.now _
  refine Ev.if_neg c2 ?_
  by_cases c3 : s.toList = [46, 46]
  · refine Ev.if_pos c3 ?_
    rw [decide_eq_true c3]; simp only [Bool.or_true, Bool.true_or]; exact Ev.now _
  refine Ev.if_neg c3 ?_
  rw [decide_eq_false c1, decide_eq_false c2, decide_eq_false c3]
  simp only [Bool.false_or]
  exact Ev.bind (contains_tells s hs 47) (Ev.now _)


/-! ### a path, cleaned -/
def text (l : List UInt8) : ByteArray := ⟨l.toArray⟩
theorem text_list (l : List UInt8) : (text l).data.toList = l := by simp [text]
theorem text_toList (l : List UInt8) : (text l).toList = l := by rw [Go.ByteArray.toList_eq]; exact text_list l
theorem text_size (l : List UInt8) : (text l).size = l.length := by rw [← size_data, text_list]
theorem text_get (l : List UInt8) (i : Nat) (h : i < (text l).size) : (text l)[i]'h = l[i]'(by rw [text_size] at h; exact h) := by
  simp [text, get_data]
theorem text_of (s : ByteArray) : text s.data.toList = s := data_ext (text_list _)
theorem slash_in (c : UInt8) : inB (⟨#[47]⟩ : ByteArray) c = sl c := by
  rw [Bool.eq_iff_iff, inB_iff]
  simp only [sl, decide_eq_true_eq]
  constructor
  · rintro ⟨i, h, e⟩
    have h2 : i < 1 := h
    obtain rfl : i = 0 := by omega
    exact e.symm
  · rintro rfl; exact ⟨0, by decide, rfl⟩
theorem trims (pre J : List UInt8) (hp : pre = [] ∨ pre = [47]) (hl : J.length ≤ 140737488350000) (hJ : J = [] ∨ ∃ c d m, J = c :: m ∧ sl c = false ∧ (∃ m', J = m' ++ [d]) ∧ sl d = false) :
    Ev (fun k => sanitize_zzTrim.f k (text (pre ++ J)) (⟨#[47]⟩ : ByteArray)) (text J) := by
  have hpl : pre.length ≤ 1 := by rcases hp with rfl | rfl <;> simp
  have e1 : trimL (text (pre ++ J)) (⟨#[47]⟩ : ByteArray) = text J := by
    rw [trimL_at pre.length]
    · apply data_ext
      rw [data_extract, text_list, text_list, text_size, List.drop_left' rfl, List.take_of_length_le (by simp)]
    · intro i h hi
      rw [slash_in, text_get, List.getElem_append_left hi]
      rcases hp with rfl | rfl
      · simp at hi
      · have : i = 0 := by simp at hi; omega
        subst this; rfl
    · rcases hJ with rfl | ⟨c, d, m, rfl, hc, _⟩
      · left; rw [text_size]; simp
      · right
        refine ⟨by rw [text_size]; simp, ?_⟩
        rw [slash_in, text_get]
        simpa using hc
  have e2 : Ev (fun k => sanitize_zzTrimRight.f k (text J) (⟨#[47]⟩ : ByteArray)) (text J) := by
    have hm : J.length = 0 ∨ ∃ h : J.length - 1 < (text J).size, inB (⟨#[47]⟩ : ByteArray) ((text J)[J.length - 1]'h) = false := by
      rcases hJ with rfl | ⟨c, d, m, _, _, ⟨m', rfl⟩, hd⟩
      · left; rfl
      · right
        refine ⟨by rw [text_size]; simp, ?_⟩
        rw [slash_in, text_get]
        simpa using hd
    have := trimR0 (text J) ⟨#[47]⟩ (by rw [text_size]; omega) (by decide) J.length hm 0 J.length (by omega) (by omega) (by rw [text_size]; omega) (fun i h h1 h2 => by omega)
    rw [show (text J).extract 0 J.length = text J by
      apply data_ext
      rw [data_extract, text_list]; simp] at this
    unfold sanitize_zzTrimRight.f
    rw [text_size]
    exact this
  have e3 : sanitize_zzTrimLeft.f (text (pre ++ J)) (⟨#[47]⟩ : ByteArray) = some (text J) := by
    unfold sanitize_zzTrimLeft.f
    rw [if_pos (by decide), if_pos (by rw [text_size]; simp; omega), e1]
  unfold sanitize_zzTrim.f
  refine Ev.bindc e3 ?_
  exact Ev.bind e2 (Ev.now _)

theorem clean_bad (s : ByteArray) (hs : s.size ≤ 4294967296) (h : DD s.data.toList) : Ev (fun k => impl_PathClean.f k s) ((⟨#[]⟩ : ByteArray), false) := by
  unfold impl_PathClean.f
  refine Ev.if_pos hs ?_
  exact Ev.if_pos ((dotDot_is s).2 h) (Ev.now _)
theorem clean_good (s : ByteArray) (hs : s.size ≤ 4294967296) (h : ¬ DD s.data.toList) : Ev (fun k => impl_PathClean.f k s) (text (pathOf s.data.toList), true) := by
  unfold impl_PathClean.f
  refine Ev.if_pos hs ?_
  refine Ev.if_neg (fun q => h ((dotDot_is s).1 q)) ?_
  have hlen := path_len s.data.toList
  rw [size_data] at hlen
  have hc := clean_is_parts h
  have hends := path_ends h
  have hcl : cleaned s = text (Go.Lib.Pa.cleanEls s.data.toList) := rfl
  rw [hcl, hc]
  by_cases h1 : s.data.toList.head? = some 47
  · rw [if_pos h1]
    refine Ev.bind (trims [47] (pathOf s.data.toList) (.inr rfl) (by omega) hends) ?_
    refine Ev.if_neg ?_ (Ev.now _)
    rw [text_toList]; exact path_not_dot h
  · rw [if_neg h1]
    by_cases h2 : parts s.data.toList = []
    · rw [if_pos h2]
      refine Ev.bind (trims [] [46] (.inl rfl) (by decide) (.inr ⟨46, 46, [], rfl, by decide, ⟨[], rfl⟩, by decide⟩)) ?_
      refine Ev.if_pos (by rw [text_toList]) ?_
      have : pathOf s.data.toList = [] := by unfold pathOf; rw [h2]; rfl
      rw [this]; exact Ev.now _
    · rw [if_neg h2]
      refine Ev.bind (trims [] (pathOf s.data.toList) (.inl rfl) (by omega) hends) ?_
      refine Ev.if_neg ?_ (Ev.now _)
      rw [text_toList]; exact path_not_dot h

/-- The law's loop over a cleaned path's pieces. -/
theorem pieces_loop (a b x y : ByteArray) (hx : x.size ≤ 10000) (hend : Ev (fun k => laws_FnPathInside.j5 k a b x y ((x.size : Int) + 1) ((x.size : Int) + 1) false) true) (hne : x.toList ≠ []) (d : Nat) :
    ∀ (fr i : Nat), x.size + 1 - i = d → fr ≤ i → i ≤ x.size → (∀ c ∈ (x.data.toList.drop fr).take (i - fr), sl c = false) → (∀ e ∈ spl sl (x.data.toList.drop fr), e ≠ [] ∧ e ≠ [46] ∧ e ≠ [46, 46]) →
    Ev (fun k => laws_FnPathInside.l0 k a b x y (fr : Int) (i : Int)) true := by
  induction d with
  | zero => intro fr i hd; omega
  | succ d ih =>
    intro fr i hd hfi hi hsep hall
    have hleaf : ∀ (hgood : (x.data.toList.drop fr).take (i - fr) ∈ spl sl (x.data.toList.drop fr)), Ev (fun k => impl_LeafCheck.f k (x.extract fr i)) true := by
      intro hgood
      obtain ⟨g1, g2, g3⟩ := hall _ hgood
      have hc := check_tells (x.extract fr i) (by rw [← size_data, data_extract]; simp; omega)
      have e : leaf (x.extract fr i) = true := by
        unfold leaf
        rw [Go.ByteArray.toList_eq, data_extract, decide_eq_false g1, decide_eq_false g2, decide_eq_false g3, decide_eq_false (fun hm => by have := hsep 47 hm; simp [sl] at this)]
        rfl
      rw [e] at hc; exact hc
    refine Ev.step (fun _ => laws_FnPathInside.l0.eq_2 ..) ?_
    refine Ev.if_pos (by omega) ?_
    refine Ev.step (fun _ => laws_FnPathInside.j5.eq_2 ..) ?_
    refine Ev.if_pos (by simpa using hne) ?_
    have key : ∀ (q : Bool), (q = true → (x.data.toList.drop fr).take (i - fr) ∈ spl sl (x.data.toList.drop fr) ∧ Ev (fun k => laws_FnPathInside.l0 k a b x y ((i + 1 : Nat) : Int) ((i + 1 : Nat) : Int)) true) → (q = false → Ev (fun k => laws_FnPathInside.l0 k a b x y (fr : Int) ((i + 1 : Nat) : Int)) true) →
        Ev (fun k => laws_FnPathInside.j6 k a b x y (fr : Int) (i : Int) q) true := by
      intro q h1 h2
      refine Ev.step (fun _ => laws_FnPathInside.j6.eq_2 ..) ?_
      rw [wrap64_of (x := (i : Int) + 1) (by omega) (by omega), show (i : Int) + 1 = ((i + 1 : Nat) : Int) by omega]
      cases q with
      | true =>
        obtain ⟨g1, g2⟩ := h1 rfl
        refine Ev.if_pos rfl ?_
        refine Ev.if_pos (by omega) ?_
        refine Ev.if_pos (by omega) ?_
        refine Ev.if_pos (by omega) ?_
        simp only [Int.toNat_natCast]
        refine Ev.bind (hleaf g1) ?_
        exact Ev.if_pos rfl g2
      | false => exact Ev.if_neg (by simp) (h2 rfl)
    have hlen : x.data.toList.length = x.size := rfl
    by_cases hl : i = x.size
    · refine Ev.if_pos (by omega) ?_
      have hall2 : (x.data.toList.drop fr).take (i - fr) = x.data.toList.drop fr := List.take_of_length_le (by rw [List.length_drop]; omega)
      refine key true (fun _ => ⟨?_, ?_⟩) (fun h => by cases h)
      · rw [hall2]
        rw [hall2] at hsep
        rw [spl_none sl _ hsep]; simp
      · subst hl
        refine Ev.step (fun _ => laws_FnPathInside.l0.eq_2 ..) ?_
        refine Ev.if_neg (by omega) ?_
        rw [show ((x.size + 1 : Nat) : Int) = (x.size : Int) + 1 by omega]
        exact hend
    · have hlt : i < x.size := by omega
      refine Ev.if_neg (by omega) ?_
      refine Ev.if_pos (by omega) ?_
      refine Ev.if_pos (by omega) ?_
      rw [bt_is x i hlt]
      have hsplit : x.data.toList.drop fr = (x.data.toList.drop fr).take (i - fr) ++ (x[i]'hlt) :: x.data.toList.drop (i + 1) := by
        have h1 := (List.take_append_drop (i - fr) (x.data.toList.drop fr)).symm
        rw [List.drop_drop, show fr + (i - fr) = i by omega, drop_cons x i hlt] at h1
        exact h1
      by_cases hc : (x[i]'hlt) = 47
      · rw [show ((((x[i]'hlt).toNat : Int)) == 47) = true by rw [hc]; rfl]
        have hs2 : spl sl (x.data.toList.drop fr) = (x.data.toList.drop fr).take (i - fr) :: spl sl (x.data.toList.drop (i + 1)) := by
          conv => lhs; rw [hsplit, hc]
          rw [spl_app sl 47 (by decide), spl_none sl _ hsep]; rfl
        refine key true (fun _ => ⟨by rw [hs2]; simp, ?_⟩) (fun h => by cases h)
        refine ih (i + 1) (i + 1) (by omega) (by omega) (by omega) (fun c h => by simp at h) (fun e he => hall e (by rw [hs2]; simp [he]))
      · rw [show ((((x[i]'hlt).toNat : Int)) == 47) = false by
          rw [beq_eq_false_iff_ne]; intro h; exact hc (UInt8.toNat_inj.1 (by simpa using Int.ofNat.inj h))]
        refine key false (fun h => by cases h) (fun _ => ?_)
        refine ih fr (i + 1) (by omega) (by omega) (by omega) (fun c h => ?_) hall
        rw [show i + 1 - fr = (i - fr) + 1 by omega, List.take_succ_eq_append_getElem (by rw [List.length_drop]; omega)] at h
        rcases List.mem_append.1 h with h | h
        · exact hsep c h
        · simp only [List.mem_singleton] at h
          rw [h]
          have e : (x.data.toList.drop fr)[i - fr]'(by rw [List.length_drop]; omega) = x[i]'hlt := by
            rw [List.getElem_drop]; simp only [show fr + (i - fr) = i by omega]; rfl
          rw [e]
          simp [sl, hc]

theorem dd_ab : ¬ DD [97, 47, 98] := by
  rintro ⟨e, he, h⟩
  have : e = [97] ∨ e = [98] := by simpa [spl, sl] using he
  rcases this with rfl | rfl
  · exact absurd h (by decide)
  · exact absurd h (by decide)

theorem FnPathInside : laws_FnPathInside.Pure := by
  intro a b ha hb
  refine Ev.rounds ?_
  have hdone : Ev (fun k => laws_FnPathInside.j0 k a b true) true := by
    refine Ev.step (fun _ => laws_FnPathInside.j0.eq_2 ..) ?_
    exact Ev.if_pos rfl (Ev.now _)
  have hdone1 : Ev (fun k => laws_FnPathInside.j1 k a b true) true := by
    refine Ev.step (fun _ => laws_FnPathInside.j1.eq_2 ..) ?_
    exact Ev.if_pos rfl (Ev.now _)
  unfold laws_FnPathInside.f
  by_cases c1 : (a.size : Int) > 2147483647
  · exact Ev.if_pos c1 hdone
  refine Ev.if_neg c1 ?_
  by_cases c2 : (b.size : Int) > 2147483647
  · rw [decide_eq_true c2]; exact hdone
  rw [decide_eq_false c2]
  refine Ev.step (fun _ => laws_FnPathInside.j0.eq_2 ..) ?_
  refine Ev.if_neg (by simp) ?_
  by_cases c3 : (a.size : Int) > 5000
  · exact Ev.if_pos c3 hdone1
  refine Ev.if_neg c3 ?_
  by_cases c4 : (b.size : Int) > 5000
  · rw [decide_eq_true c4]; exact hdone1
  rw [decide_eq_false c4]
  refine Ev.step (fun _ => laws_FnPathInside.j1.eq_2 ..) ?_
  refine Ev.if_neg (by simp) ?_
  have hab := clean_good (⟨#[97, 47, 98]⟩ : ByteArray) (by decide) dd_ab
  rw [show text (pathOf (⟨#[97, 47, 98]⟩ : ByteArray).data.toList) = (⟨#[97, 47, 98]⟩ : ByteArray) by
    apply data_ext; rw [text_list]; decide] at hab
  by_cases da : DD a.data.toList
  · refine Ev.bind (clean_bad a (by omega) da) ?_
    by_cases db : DD b.data.toList
    · refine Ev.bind (clean_bad b (by omega) db) ?_
      refine Ev.bind hab ?_
      refine Ev.if_pos rfl ?_
      refine Ev.step (fun _ => laws_FnPathInside.j2.eq_2 ..) ?_
      refine Ev.if_neg (by simp) ?_
      refine Ev.if_neg (by simp) ?_
      refine Ev.step (fun _ => laws_FnPathInside.j3.eq_2 ..) ?_
      exact Ev.if_pos rfl (Ev.now _)
    · refine Ev.bind (clean_good b (by omega) db) ?_
      refine Ev.bind hab ?_
      refine Ev.if_pos rfl ?_
      refine Ev.step (fun _ => laws_FnPathInside.j2.eq_2 ..) ?_
      refine Ev.if_neg (by simp) ?_
      refine Ev.if_neg (by simp) ?_
      refine Ev.step (fun _ => laws_FnPathInside.j3.eq_2 ..) ?_
      exact Ev.if_pos rfl (Ev.now _)
  refine Ev.bind (clean_good a (by omega) da) ?_
  by_cases db : DD b.data.toList
  · refine Ev.bind (clean_bad b (by omega) db) ?_
    refine Ev.bind hab ?_
    refine Ev.if_pos rfl ?_
    refine Ev.step (fun _ => laws_FnPathInside.j2.eq_2 ..) ?_
    refine Ev.if_neg (by simp) ?_
    refine Ev.if_pos rfl ?_
    refine Ev.step (fun _ => laws_FnPathInside.j3.eq_2 ..) ?_
    exact Ev.if_pos rfl (Ev.now _)
  refine Ev.bind (clean_good b (by omega) db) ?_
  refine Ev.bind hab ?_
  refine Ev.if_pos rfl ?_
  refine Ev.step (fun _ => laws_FnPathInside.j2.eq_2 ..) ?_
  refine Ev.if_neg (by simp) ?_
  refine Ev.if_pos rfl ?_
  refine Ev.step (fun _ => laws_FnPathInside.j3.eq_2 ..) ?_
  refine Ev.if_neg (by simp) ?_
  have lx := path_len a.data.toList
  have ly := path_len b.data.toList
  rw [size_data] at lx ly
  obtain ⟨ag1, ag2⟩ := path_again da
  obtain ⟨bo1, bo2⟩ := path_both da db
  have hx : (text (pathOf a.data.toList)).size = (pathOf a.data.toList).length := text_size _
  have hy : (text (pathOf b.data.toList)).size = (pathOf b.data.toList).length := text_size _
  have hagain := clean_good (text (pathOf a.data.toList)) (by omega) (by rw [text_list]; exact ag1)
  rw [text_list, ag2] at hagain
  have hcat : ((a ++ (⟨#[47]⟩ : ByteArray)) ++ b).data.toList = a.data.toList ++ 47 :: b.data.toList := by
    rw [data_append, data_append]; simp
  have hboth := clean_good ((a ++ (⟨#[47]⟩ : ByteArray)) ++ b) (by rw [size_append, size_append, show (⟨#[47]⟩ : ByteArray).size = 1 from rfl]; omega) (by rw [hcat]; exact bo1)
  rw [hcat, bo2] at hboth
  have one : (⟨#[47]⟩ : ByteArray).size = 1 := rfl
  -- what stands behind the loop
  have hend : ∀ (u v : Int), Ev (fun k => laws_FnPathInside.j5 k a b (text (pathOf a.data.toList)) (text (pathOf b.data.toList)) u v false) true := by
    intro u v
    refine Ev.step (fun _ => laws_FnPathInside.j5.eq_2 ..) ?_
    refine Ev.if_neg (by simp) ?_
    refine Ev.bind hagain ?_
    refine Ev.if_pos (by omega) ?_
    refine Ev.if_pos (by rw [size_append, one]; omega) ?_
    refine Ev.bind hboth ?_
    by_cases h1 : pathOf a.data.toList = []
    · refine Ev.if_pos (by rw [text_toList]; exact h1) ?_
      refine Ev.if_pos rfl ?_
      refine Ev.if_pos rfl ?_
      refine Ev.if_pos rfl ?_
      refine Ev.if_pos (by omega) ?_
      simp only [if_pos h1]
      rw [show (text (pathOf a.data.toList)) ++ text (pathOf b.data.toList) = text (pathOf b.data.toList) by
        apply data_ext; rw [data_append, text_list, text_list, h1]; rfl, beq_self_eq_true]
      exact Ev.now _
    · refine Ev.if_neg (by rw [text_toList]; exact h1) ?_
      by_cases h2 : pathOf b.data.toList = []
      · refine Ev.if_pos (by rw [text_toList]; exact h2) ?_
        refine Ev.if_pos rfl ?_
        refine Ev.if_pos rfl ?_
        refine Ev.if_pos rfl ?_
        refine Ev.if_pos (by omega) ?_
        simp only [if_neg h1, if_pos h2]
        rw [show (text (pathOf a.data.toList)) ++ text (pathOf b.data.toList) = text (pathOf a.data.toList) by
          apply data_ext; rw [data_append, text_list, text_list, h2]; simp, beq_self_eq_true]
        exact Ev.now _
      · refine Ev.if_neg (by rw [text_toList]; exact h2) ?_
        refine Ev.if_pos (by omega) ?_
        refine Ev.if_pos rfl ?_
        refine Ev.if_pos rfl ?_
        refine Ev.if_pos rfl ?_
        refine Ev.if_pos (by rw [size_append, one]; omega) ?_
        simp only [if_neg h1, if_neg h2]
        rw [show (text (pathOf a.data.toList) ++ (⟨#[47]⟩ : ByteArray)) ++ text (pathOf b.data.toList) = text (pathOf a.data.toList ++ 47 :: pathOf b.data.toList) by
          apply data_ext; rw [data_append, data_append, text_list, text_list, text_list]; simp, beq_self_eq_true]
        exact Ev.now _
  by_cases h1 : pathOf a.data.toList = []
  · refine Ev.step (fun _ => laws_FnPathInside.l0.eq_2 ..) ?_
    refine Ev.if_pos (by omega) ?_
    rw [show ((text (pathOf a.data.toList)).toList != ([] : List UInt8)) = false by rw [text_toList, h1]; rfl]
    exact hend 0 0
  · have hp : parts a.data.toList ≠ [] := by
      intro e; apply h1; unfold pathOf; rw [e]; rfl
    have := pieces_loop a b (text (pathOf a.data.toList)) (text (pathOf b.data.toList)) (by omega) (hend _ _) (by rw [text_toList]; exact h1) _ 0 0 rfl (Nat.le_refl _) (Nat.zero_le _) (fun c h => by simp at h)
      (fun e he => by
        rw [List.drop_zero, text_list, path_spl da hp] at he
        obtain ⟨q1, q2, q3, _⟩ := parts_ok da e he
        exact ⟨q1, q2, q3⟩)
    exact this

end Go.Proofs.Ytnmnokjflkidmaa.Pure

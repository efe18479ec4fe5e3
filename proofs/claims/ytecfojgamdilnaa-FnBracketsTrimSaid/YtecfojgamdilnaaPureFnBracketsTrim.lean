/- Braces that open ahead of a text, and close behind it, however many, go; the text, which neither begins nor ends with one, stays: for every text and all numbers of braces. -/
import Derived.Test.YtecfojgamdilnaaPFnBracketsTrimx2
import Derived.Test.YtecfojgamdilnaaPlain
namespace Go.Proofs.Ytecfojgamdilnaa.Pure
open Go.RowKit Go.Proofs.Ytecfojgamdilnaa.PFnBracketsTrim Go.Proofs.YtecfojgamdilnaaW.PrintWords Go.Proofs.YtecfojgamdilnaaW.PrintLast Go.Proofs.Ytecfojgamdilnaa.Plain

theorem inB_iff (set : ByteArray) (c : UInt8) : inB set c = true ↔ ∃ i, ∃ h : i < set.size, (set[i]'h) = c := by
  simp only [inB, inSet, decide_eq_true_eq]
  constructor
  · rintro ⟨i, h, e⟩; exact ⟨i, h, UInt8.toNat_inj.1 (by omega)⟩
  · rintro ⟨i, h, e⟩; exact ⟨i, h, by rw [e]⟩

/-- The inner loop: is the byte ahead of place n one of the set's? -/
theorem trimR1 (s set : ByteArray) (hs : s.size ≤ 140737488351232) (hset : set.size ≤ 140737488351232) (n : Nat) (hn : n < s.size) (r : ByteArray) (d : Nat) : ∀ (j : Nat) (b : Bool), set.size - j = d → j ≤ set.size →
    (∀ x, (b || decide (∃ i, ∃ h : i < set.size, j ≤ i ∧ (set[i]'h) = (s[n]'hn))) = x → if x = true then Ev (fun k => transform_zzTrimRight.l0 k s set (n : Int)) r else r = s.extract 0 (n + 1)) →
    Ev (fun k => transform_zzTrimRight.l1 k s set ((n + 1 : Nat) : Int) b (j : Int)) r := by
  induction d with
  | zero =>
    intro j b hd hj hx
    refine Ev.step (fun _ => transform_zzTrimRight.l1.eq_2 ..) ?_
    refine Ev.if_neg (by omega) ?_
    have hx' := hx b (by
      have : ¬ ∃ i, ∃ h : i < set.size, j ≤ i ∧ (set[i]'h) = (s[n]'hn) := by rintro ⟨i, h, h1, _⟩; omega
      rw [decide_eq_false this, Bool.or_false])
    cases b with
    | true =>
      refine Ev.if_pos rfl ?_
      rw [wrap64_of (by omega) (by omega), show ((n + 1 : Nat) : Int) - 1 = (n : Int) by omega]
      exact hx'
    | false =>
      refine Ev.if_neg (by simp) ?_
      refine Ev.if_pos (by omega) ?_
      refine Ev.if_pos (by omega) ?_
      rw [if_neg (by simp)] at hx'
      rw [hx', Int.toNat_natCast]
      exact Ev.now _
  | succ d ih =>
    intro j b hd hj hx
    have hjlt : j < set.size := by omega
    refine Ev.step (fun _ => transform_zzTrimRight.l1.eq_2 ..) ?_
    rw [wrap64_of (x := ((n + 1 : Nat) : Int) - 1) (by omega) (by omega), wrap64_of (x := (j : Int) + 1) (by omega) (by omega), show ((n + 1 : Nat) : Int) - 1 = (n : Int) by omega, show (j : Int) + 1 = ((j + 1 : Nat) : Int) by omega]
    refine Ev.if_pos (by omega) ?_
    refine Ev.if_pos (by omega) ?_
    refine Ev.if_pos (by omega) ?_
    refine Ev.if_pos (by omega) ?_
    rw [bt_is set j hjlt, bt_is s n hn]
    by_cases e : (set[j]'hjlt) = (s[n]'hn)
    · refine Ev.if_pos (by rw [e]) ?_
      refine ih (j + 1) true (by omega) (by omega) (fun x h => hx x ?_)
      rw [← h]
      have : ∃ i, ∃ h : i < set.size, j ≤ i ∧ (set[i]'h) = (s[n]'hn) := ⟨j, hjlt, Nat.le_refl _, e⟩
      rw [decide_eq_true this, Bool.or_true, Bool.true_or]
    · refine Ev.if_neg (fun h => e (UInt8.toNat_inj.1 (by omega))) ?_
      refine ih (j + 1) b (by omega) (by omega) (fun x h => hx x ?_)
      rw [← h]
      congr 1
      rw [Bool.eq_iff_iff, decide_eq_true_eq, decide_eq_true_eq]
      constructor
      · rintro ⟨i, h, h1, h2⟩
        refine ⟨i, h, ?_, h2⟩
        by_cases e2 : i = j
        · subst e2; exact absurd h2 e
        · omega
      · rintro ⟨i, h, h1, h2⟩; exact ⟨i, h, by omega, h2⟩

/-- The outer loop: what stays of a text's first n bytes, if from m on all are in the set, and none at its end. -/
theorem trimR0 (s set : ByteArray) (hs : s.size ≤ 140737488351232) (hset : set.size ≤ 140737488351232) (m : Nat) (hm : m = 0 ∨ ∃ h : m - 1 < s.size, inB set (s[m - 1]'h) = false) (d : Nat) :
    ∀ n, n - m = d → m ≤ n → n ≤ s.size → (∀ i (h : i < s.size), m ≤ i → i < n → inB set (s[i]'h) = true) →
    Ev (fun k => transform_zzTrimRight.l0 k s set (n : Int)) (s.extract 0 m) := by
  induction d with
  | zero =>
    intro n hd hmn hn hall
    obtain rfl : n = m := by omega
    refine Ev.step (fun _ => transform_zzTrimRight.l0.eq_2 ..) ?_
    by_cases h0 : n = 0
    · subst h0
      refine Ev.if_neg (by omega) ?_
      refine Ev.if_pos (by omega) ?_
      refine Ev.if_pos (by omega) ?_
      exact Ev.now _
    · refine Ev.if_pos (by omega) ?_
      obtain ⟨n, rfl⟩ : ∃ q, n = q + 1 := ⟨n - 1, by omega⟩
      rcases hm with hm | ⟨h, hm⟩
      · omega
      · refine trimR1 s set hs hset n (by omega) _ set.size 0 false (by omega) (by omega) (fun x hx => ?_)
        have : x = false := by
          rw [← hx, Bool.false_or, decide_eq_false_iff_not]
          rintro ⟨i, hi, _, e⟩
          have := (inB_iff set (s[n]'(by omega))).2 ⟨i, hi, e⟩
          simp at hm
          rw [hm] at this; cases this
        subst this
        simp
  | succ d ih =>
    intro n hd hmn hn hall
    obtain ⟨n, rfl⟩ : ∃ q, n = q + 1 := ⟨n - 1, by omega⟩
    refine Ev.step (fun _ => transform_zzTrimRight.l0.eq_2 ..) ?_
    refine Ev.if_pos (by omega) ?_
    refine trimR1 s set hs hset n (by omega) _ set.size 0 false (by omega) (by omega) (fun x hx => ?_)
    have : x = true := by
      rw [← hx, Bool.false_or, decide_eq_true_eq]
      obtain ⟨i, hi, e⟩ := (inB_iff set _).1 (hall n (by omega) (by omega) (by omega))
      exact ⟨i, hi, Nat.zero_le _, e⟩
    subst this
    rw [if_pos rfl]
    exact ih n (by omega) (by omega) (by omega) (fun i h h1 h2 => hall i h h1 (by omega))

def open_ : ByteArray := ⟨#[123]⟩
def shut_ : ByteArray := ⟨#[125]⟩
def braces : ByteArray := ⟨#[123, 125]⟩
/-- So many times one byte. -/
def many (n : Nat) (c : UInt8) : ByteArray := ⟨(List.replicate n c).toArray⟩
theorem many_size (n : Nat) (c : UInt8) : (many n c).size = n := by simp [many, ByteArray.size]
theorem many_snoc (n : Nat) (c : UInt8) : many n c ++ (⟨#[c]⟩ : ByteArray) = many (n + 1) c := by
  apply data_ext
  rw [data_append]
  simp [many, List.replicate_succ']
theorem many_get (n : Nat) (c : UInt8) (i : Nat) (h : i < (many n c).size) : (many n c)[i]'h = c := by
  simp [many, get_data]
theorem braces_in (c : UInt8) : inB braces c = true ↔ c = 123 ∨ c = 125 := by
  rw [inB_iff]
  constructor
  · rintro ⟨i, h, e⟩
    have h2 : i < 2 := h
    rcases i with _ | _ | i
    · exact .inl e.symm
    · exact .inr e.symm
    · omega
  · rintro (rfl | rfl)
    · exact ⟨0, by decide, rfl⟩
    · exact ⟨1, by decide, rfl⟩
theorem braces_ascii : asciiSet braces = true := by decide

theorem get_append (a b : ByteArray) (i : Nat) (h : i < (a ++ b).size) : (a ++ b)[i]'h = if h' : i < a.size then a[i]'h' else b[i - a.size]'(by rw [size_append] at h; omega) := by
  rw [get_data]
  simp only [data_append]
  rw [List.getElem_append]
  rfl

theorem trims (s : ByteArray) (hs : s.size ≤ 5000) (h0 : 0 < s.size) (hf : inB braces (s[0]'h0) = false) (hl : inB braces (s[s.size - 1]'(by omega)) = false) (a b : Nat) (ha : a ≤ 7) (hb : b ≤ 7) :
    Ev (fun k => impl_BracketsTrim.f k ((many a 123 ++ s) ++ many b 125)) s := by
  have e1 : trimL ((many a 123 ++ s) ++ many b 125) braces = s ++ many b 125 := by
    rw [trimL_at a]
    · apply data_ext
      have hA : (many a 123).data.toList.length = a := many_size a 123
      rw [data_extract, List.take_of_length_le (by rw [List.length_drop, size_data]; exact Nat.le_refl _), data_append, data_append, data_append, List.append_assoc, List.drop_left' hA]
    · intro i h hi
      have hi' : i < (many a 123 ++ s).size := by rw [size_append, many_size]; omega
      rw [get_append, dif_pos hi', get_append, dif_pos (by rw [many_size]; exact hi), many_get]
      exact (braces_in _).2 (.inl rfl)
    · have hlt : a < ((many a 123 ++ s) ++ many b 125).size := by rw [size_append, size_append, many_size]; omega
      refine .inr ⟨hlt, ?_⟩
      have hi' : a < (many a 123 ++ s).size := by rw [size_append, many_size]; omega
      rw [get_append, dif_pos hi', get_append, dif_neg (by rw [many_size]; omega)]
      simp only [many_size, Nat.sub_self]
      exact hf
  have e2 : Ev (fun k => transform_zzTrimRight.f k (s ++ many b 125) braces) s := by
    have hsz : (s ++ many b 125).size = s.size + b := by rw [size_append, many_size]
    have := trimR0 (s ++ many b 125) braces (by omega) (by decide) s.size (.inr ⟨by omega, by rw [get_append, dif_pos (by omega)]; exact hl⟩) b (s.size + b) (by omega) (by omega) (by omega)
      (fun i h h1 h2 => by rw [get_append, dif_neg (by omega), many_get]; exact (braces_in _).2 (.inr rfl))
    rw [show (s ++ many b 125).extract 0 s.size = s by
      apply data_ext
      rw [data_extract, data_append, List.drop_zero, Nat.sub_zero]
      exact List.take_left' rfl] at this
    rw [← hsz] at this
    exact this
  have e3 : transform_zzTrimLeft.f ((many a 123 ++ s) ++ many b 125) braces = some (s ++ many b 125) := by
    unfold transform_zzTrimLeft.f
    rw [if_pos braces_ascii, if_pos (by rw [size_append, size_append, many_size, many_size]; omega), e1]
  unfold impl_BracketsTrim.f transform_TrimBrackets.f transform_zzTrim.f
  refine Ev.bind (a := s) ?_ (Ev.now _)
  refine Ev.bind (a := s) ?_ (Ev.now _)
  refine Ev.bindc e3 ?_
  exact Ev.bind e2 (Ev.now _)

theorem loop2 (s : ByteArray) (hs : s.size ≤ 5000) (h0 : 0 < s.size) (hf : inB braces (s[0]'h0) = false) (hl : inB braces (s[s.size - 1]'(by omega)) = false) (a n : Nat) (ha : a ≤ 7) (hn : n ≤ 7) (d : Nat) : ∀ j, n - j = d → j ≤ n →
    Ev (fun k => laws_FnBracketsTrim.l2 k s (many a 123) (many j 125) (n : Int) (j : Int)) true := by
  induction d with
  | zero =>
    intro j hd hj
    obtain rfl : j = n := by omega
    refine Ev.step (fun _ => laws_FnBracketsTrim.l2.eq_2 ..) ?_
    refine Ev.if_neg (by omega) ?_
    refine Ev.if_pos (by rw [many_size]; omega) ?_
    refine Ev.if_pos (by rw [size_append, many_size, many_size]; omega) ?_
    refine Ev.bind (trims s hs h0 hf hl a j ha hn) ?_
    simp only [beq_self_eq_true]
    exact Ev.now _
  | succ d ih =>
    intro j hd hj
    refine Ev.step (fun _ => laws_FnBracketsTrim.l2.eq_2 ..) ?_
    refine Ev.if_pos (by omega) ?_
    refine Ev.if_pos (by rw [many_size]; omega) ?_
    rw [many_snoc, show ((j : Int) + 1) % 256 = ((j + 1 : Nat) : Int) by omega]
    exact ih (j + 1) (by omega) (by omega)

theorem loop1 (s : ByteArray) (hs : s.size ≤ 5000) (h0 : 0 < s.size) (hf : inB braces (s[0]'h0) = false) (hl : inB braces (s[s.size - 1]'(by omega)) = false) (b n : Nat) (hb : b ≤ 255) (hn : n ≤ 7) (d : Nat) : ∀ j, n - j = d → j ≤ n →
    Ev (fun k => laws_FnBracketsTrim.l1 k (b : Int) s (many j 123) (⟨#[]⟩ : ByteArray) (n : Int) (j : Int)) true := by
  induction d with
  | zero =>
    intro j hd hj
    obtain rfl : j = n := by omega
    refine Ev.step (fun _ => laws_FnBracketsTrim.l1.eq_2 ..) ?_
    refine Ev.if_neg (by omega) ?_
    rw [show Int.tmod (b : Int) 8 = ((b % 8 : Nat) : Int) by rw [Int.tmod_eq_emod_of_nonneg (by omega)]; omega]
    exact loop2 s hs h0 hf hl j (b % 8) hn (by omega) _ 0 rfl (by omega)
  | succ d ih =>
    intro j hd hj
    refine Ev.step (fun _ => laws_FnBracketsTrim.l1.eq_2 ..) ?_
    refine Ev.if_pos (by omega) ?_
    refine Ev.if_pos (by rw [many_size]; omega) ?_
    rw [many_snoc, show ((j : Int) + 1) % 256 = ((j + 1 : Nat) : Int) by omega]
    exact ih (j + 1) (by omega) (by omega)

theorem not_braces {c : UInt8} (h1 : ¬ ((c.toNat : Int) = 123)) (h2 : ¬ ((c.toNat : Int) = 125)) : inB braces c = false := by
  rw [Bool.eq_false_iff]
  intro h
  rcases (braces_in c).1 h with rfl | rfl
  · exact h1 rfl
  · exact h2 rfl

theorem FnBracketsTrim : laws_FnBracketsTrim.Pure := by
  intro a0 a1 s h0 h1 hs
  have hb0 := bounds_u8 h0
  have hb1 := bounds_u8 h1
  obtain ⟨a, rfl⟩ : ∃ q : Nat, a0 = q := ⟨a0.toNat, by omega⟩
  obtain ⟨b, rfl⟩ : ∃ q : Nat, a1 = q := ⟨a1.toNat, by omega⟩
  refine Ev.rounds ?_
  unfold laws_FnBracketsTrim.f
  by_cases c1 : (s.size : Int) > 2147483647
  · exact Ev.if_pos c1 (Ev.now _)
  refine Ev.if_neg c1 ?_
  by_cases c2 : (s.size : Int) > 5000
  · refine Ev.if_pos c2 ?_
    refine Ev.step (fun _ => laws_FnBracketsTrim.j0.eq_2 ..) ?_
    exact Ev.if_pos rfl (Ev.now _)
  refine Ev.if_neg c2 ?_
  refine Ev.step (fun _ => laws_FnBracketsTrim.j0.eq_2 ..) ?_
  by_cases c3 : s.toList = []
  · exact Ev.if_pos (by simp [c3]) (Ev.now _)
  refine Ev.if_neg (by simpa using c3) ?_
  have hpos : 0 < s.size := by
    rcases Nat.eq_zero_or_pos s.size with h | h
    · exact absurd (by rw [Go.ByteArray.toList_eq]; exact List.length_eq_zero_iff.1 h) c3
    · exact h
  rw [wrap64_of (by omega) (by omega)]
  refine Ev.if_pos (by omega) ?_
  refine Ev.if_pos (by omega) ?_
  refine Ev.if_pos (by omega) ?_
  have hb : bt s 0 = ((s[0]'hpos).toNat : Int) := bt_is s 0 hpos
  have hb2 : bt s ((s.size : Int) - 1) = ((s[s.size - 1]'(by omega)).toNat : Int) := by
    rw [show (s.size : Int) - 1 = ((s.size - 1 : Nat) : Int) by omega]; exact bt_is s _ (by omega)
  refine Ev.bindc rfl ?_
  rw [hb, hb2]
  simp only [List.length_cons, List.length_nil]
  refine Ev.step (fun _ => laws_FnBracketsTrim.l0.eq_2 ..) ?_
  refine Ev.if_pos (by omega) ?_
  refine Ev.if_pos (by omega) ?_
  refine Ev.if_pos (by simp) ?_
  simp only [rd, Int.toNat_zero, List.getD_cons_zero]
  by_cases d1 : ((s[0]'hpos).toNat : Int) = 123
  · exact Ev.if_pos d1 (Ev.now _)
  refine Ev.if_neg d1 ?_
  by_cases d2 : ((s[0]'hpos).toNat : Int) = 125
  · exact Ev.if_pos d2 (Ev.now _)
  refine Ev.if_neg d2 ?_
  rw [show wrap64 ((0 : Int) + 1) = 1 from wrap64_of (by omega) (by omega)]
  refine Ev.step (fun _ => laws_FnBracketsTrim.l0.eq_2 ..) ?_
  refine Ev.if_pos (by omega) ?_
  refine Ev.if_pos (by omega) ?_
  refine Ev.if_pos (by simp) ?_
  simp only [rd, Int.toNat_one, List.getD_cons_succ, List.getD_cons_zero]
  by_cases d3 : ((s[s.size - 1]'(by omega)).toNat : Int) = 123
  · exact Ev.if_pos d3 (Ev.now _)
  refine Ev.if_neg d3 ?_
  by_cases d4 : ((s[s.size - 1]'(by omega)).toNat : Int) = 125
  · exact Ev.if_pos d4 (Ev.now _)
  refine Ev.if_neg d4 ?_
  rw [show wrap64 ((1 : Int) + 1) = 2 from wrap64_of (by omega) (by omega)]
  refine Ev.step (fun _ => laws_FnBracketsTrim.l0.eq_2 ..) ?_
  refine Ev.if_neg (by omega) ?_
  rw [show Int.tmod (a : Int) 8 = ((a % 8 : Nat) : Int) by rw [Int.tmod_eq_emod_of_nonneg (by omega)]; omega]
  exact loop1 s (by omega) hpos (not_braces d1 d2) (not_braces d3 d4) b (a % 8) (by omega) (by omega) _ 0 rfl (by omega)

end Go.Proofs.Ytecfojgamdilnaa.Pure

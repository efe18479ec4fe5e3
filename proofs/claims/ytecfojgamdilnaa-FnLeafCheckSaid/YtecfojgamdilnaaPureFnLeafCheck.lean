/- A name is a leaf unless it is empty, . or .., or has a slash: for every name. -/
import Derived.Test.YtecfojgamdilnaaPFnLeafCheckx1
import Derived.Test.YtecfojgamdilnaaPlain
namespace Go.Proofs.Ytecfojgamdilnaa.Pure
open Go.RowKit Go.Proofs.Ytecfojgamdilnaa.PFnLeafCheck Go.Proofs.YtecfojgamdilnaaW.PrintWords Go.Proofs.YtecfojgamdilnaaW.PrintLast Go.Proofs.Ytecfojgamdilnaa.Plain

/-- The first place of a byte in a list, counted from i on; -1: there is none. -/
def idx1 (c : UInt8) : List UInt8 → Nat → Int
  | [], _ => -1
  | a :: l, i => if a = c then (i : Int) else idx1 c l (i + 1)
theorem idx1_nonneg (c : UInt8) (l : List UInt8) : ∀ i, 0 ≤ idx1 c l i ↔ c ∈ l := by
  induction l with
  | nil => intro i; simp [idx1]
  | cons a l ih =>
    intro i
    unfold idx1
    by_cases e : a = c
    · subst e; rw [if_pos rfl]; simp
    · rw [if_neg e, ih (i + 1)]
      simp [Ne.symm e]
theorem drop_cons (s : ByteArray) (i : Nat) (h : i < s.size) : s.data.toList.drop i = (s[i]'h) :: s.data.toList.drop (i + 1) := by
  rw [List.drop_eq_getElem_cons (by exact h)]; rfl
theorem one_extract (s : ByteArray) (i : Nat) (h : i < s.size) (c : UInt8) : (s.extract i (i + 1)).toList = (⟨#[c]⟩ : ByteArray).toList ↔ (s[i]'h) = c := by
  rw [Go.ByteArray.toList_eq, Go.ByteArray.toList_eq, data_extract, drop_cons s i h]
  simp

theorem zzIndex_tells (s : ByteArray) (hs : s.size ≤ 140737488351232) (c : UInt8) (d : Nat) : ∀ i, s.size - i = d → i ≤ s.size →
    Ev (fun k => sanitize_zzIndex.l0 k s (⟨#[c]⟩ : ByteArray) (i : Int)) (idx1 c (s.data.toList.drop i) i) := by
  have h1 : ((⟨#[c]⟩ : ByteArray).size : Int) = 1 := rfl
  induction d with
  | zero =>
    intro i hd hi
    obtain rfl : i = s.size := by omega
    refine Ev.step (fun _ => sanitize_zzIndex.l0.eq_2 ..) ?_
    rw [h1, wrap64_of (by omega) (by omega)]
    refine Ev.if_neg (by omega) ?_
    rw [List.drop_of_length_le (by exact Nat.le_refl _)]
    exact Ev.now _
  | succ d ih =>
    intro i hd hi
    have hlt : i < s.size := by omega
    refine Ev.step (fun _ => sanitize_zzIndex.l0.eq_2 ..) ?_
    rw [h1, wrap64_of (by omega) (by omega), drop_cons s i hlt, show (i : Int) + 1 = ((i + 1 : Nat) : Int) by omega]
    refine Ev.if_pos (by omega) ?_
    refine Ev.if_pos (by omega) ?_
    refine Ev.if_pos (by omega) ?_
    simp only [Int.toNat_natCast]
    unfold idx1
    by_cases e : (s[i]'hlt) = c
    · rw [if_pos e]
      exact Ev.if_pos ((one_extract s i hlt c).2 e) (Ev.now _)
    · rw [if_neg e]
      exact Ev.if_neg (fun h => e ((one_extract s i hlt c).1 h)) (ih (i + 1) (by omega) (by omega))

theorem contains_tells (s : ByteArray) (hs : s.size ≤ 140737488351232) (c : UInt8) : Ev (fun k => sanitize_zzContains.f k s (⟨#[c]⟩ : ByteArray)) (decide (c ∈ s.data.toList)) := by
  unfold sanitize_zzContains.f sanitize_zzIndex.f
  have := zzIndex_tells s hs c s.size 0 (by omega) (by omega)
  rw [List.drop_zero] at this
  refine Ev.bind this ?_
  have e : (decide (idx1 c s.data.toList 0 ≥ 0)) = decide (c ∈ s.data.toList) := by
    rw [Bool.eq_iff_iff, decide_eq_true_eq, decide_eq_true_eq]; exact idx1_nonneg c _ 0
  rw [e]
  exact Ev.now _

theorem last_tells (s : ByteArray) (hs : s.size ≤ 140737488351232) : ∀ n, n ≤ s.size → ∃ r, Ev (fun k => spec_LastSlash.l0 k s ((n : Int) - 1)) r ∧ (0 ≤ r ↔ (47 : UInt8) ∈ s.data.toList.take n) := by
  intro n
  induction n with
  | zero =>
    intro _
    refine ⟨-1, ?_, by simp⟩
    refine Ev.step (fun _ => spec_LastSlash.l0.eq_2 ..) ?_
    exact Ev.if_neg (by omega) (Ev.now _)
  | succ n ih =>
    intro hn
    obtain ⟨r, h1, h2⟩ := ih (by omega)
    have hlt : n < s.size := by omega
    have ht : s.data.toList.take (n + 1) = s.data.toList.take n ++ [s[n]'hlt] := by
      rw [List.take_succ_eq_append_getElem (by exact hlt)]; rfl
    by_cases e : (s[n]'hlt) = 47
    · refine ⟨(n : Int), ?_, by rw [ht]; simp [e]⟩
      refine Ev.step (fun _ => spec_LastSlash.l0.eq_2 ..) ?_
      rw [show ((n + 1 : Nat) : Int) - 1 = (n : Int) by omega]
      refine Ev.if_pos (by omega) ?_
      refine Ev.if_pos (by omega) ?_
      refine Ev.if_pos (by omega) ?_
      rw [bt_is s n hlt]
      exact Ev.if_pos (by rw [e]; rfl) (Ev.now _)
    · refine ⟨r, ?_, by rw [ht, h2]; simp [Ne.symm e]⟩
      refine Ev.step (fun _ => spec_LastSlash.l0.eq_2 ..) ?_
      rw [show ((n + 1 : Nat) : Int) - 1 = (n : Int) by omega]
      refine Ev.if_pos (by omega) ?_
      refine Ev.if_pos (by omega) ?_
      refine Ev.if_pos (by omega) ?_
      rw [bt_is s n hlt, wrap64_of (by omega) (by omega)]
      exact Ev.if_neg (fun h => e (UInt8.toNat_inj.1 (by simpa using Int.ofNat.inj h))) h1

/-- What both tell. -/
def leaf (s : ByteArray) : Bool := !(decide (s.toList = []) || decide (s.toList = [46]) || decide (s.toList = [46, 46]) || decide ((47 : UInt8) ∈ s.data.toList))

theorem check_tells (s : ByteArray) (hs : s.size ≤ 140737488351232) : Ev (fun k => impl_LeafCheck.f k s) (leaf s) := by
  unfold impl_LeafCheck.f leaf
  by_cases c1 : s.toList = []
  · refine Ev.if_pos c1 ?_
    rw [decide_eq_true c1]; exact Ev.now _
  refine Ev.if_neg c1 ?_
  by_cases c2 : s.toList = [46]
  · refine Ev.if_pos c2 ?_
    rw [decide_eq_true c2]; simp only [Bool.or_true, Bool.true_or]; exact Ev.now _
  refine Ev.if_neg c2 ?_
  by_cases c3 : s.toList = [46, 46]
  · refine Ev.if_pos c3 ?_
    rw [decide_eq_true c3]; simp only [Bool.or_true, Bool.true_or]; exact Ev.now _
  refine Ev.if_neg c3 ?_
  rw [decide_eq_false c1, decide_eq_false c2, decide_eq_false c3]
  simp only [Bool.false_or]
  exact Ev.bind (contains_tells s hs 47) (Ev.now _)

theorem spec_tells (s : ByteArray) (hs : s.size ≤ 140737488351232) : Ev (fun k => spec_LeafSafe.f k s) (leaf s) := by
  unfold spec_LeafSafe.f leaf
  by_cases c1 : s.toList = []
  · refine Ev.if_pos c1 ?_
    rw [decide_eq_true c1]; exact Ev.now _
  refine Ev.if_neg c1 ?_
  by_cases c2 : s.toList = [46]
  · refine Ev.if_pos c2 ?_
    rw [decide_eq_true c2]; simp only [Bool.or_true, Bool.true_or]; exact Ev.now _
  refine Ev.if_neg c2 ?_
  by_cases c3 : s.toList = [46, 46]
  · refine Ev.if_pos c3 ?_
    rw [decide_eq_true c3]; simp only [Bool.or_true, Bool.true_or]; exact Ev.now _
  refine Ev.if_neg c3 ?_
  rw [decide_eq_false c1, decide_eq_false c2, decide_eq_false c3]
  simp only [Bool.false_or]
  obtain ⟨r, h1, h2⟩ := last_tells s hs s.size (Nat.le_refl _)
  rw [List.take_of_length_le (by exact Nat.le_refl _)] at h2
  unfold spec_LastSlash.f
  rw [wrap64_of (by omega) (by omega)]
  refine Ev.bind h1 ?_
  have e : decide (r < 0) = !decide ((47 : UInt8) ∈ s.data.toList) := by
    by_cases h : (47 : UInt8) ∈ s.data.toList
    · have := h2.2 h; rw [decide_eq_true h, decide_eq_false (by omega)]; rfl
    · have : ¬ 0 ≤ r := fun hh => h (h2.1 hh)
      rw [decide_eq_false h, decide_eq_true (by omega)]; rfl
  rw [e]
  exact Ev.now _

theorem FnLeafCheck : laws_FnLeafCheck.Pure := by
  intro s hs
  refine Ev.rounds ?_
  unfold laws_FnLeafCheck.f
  by_cases c1 : (s.size : Int) > 2147483647
  · exact Ev.if_pos c1 (Ev.now _)
  refine Ev.if_neg c1 ?_
  by_cases c2 : (s.size : Int) > 5000
  · exact Ev.if_pos c2 (Ev.now _)
  refine Ev.if_neg c2 ?_
  refine Ev.bind (check_tells s hs) ?_
  refine Ev.bind (spec_tells s hs) ?_
  refine Ev.if_pos (by simp) ?_
  refine Ev.bind (check_tells _ (by decide)) ?_
  refine Ev.if_pos (by decide +kernel) ?_
  refine Ev.bind (check_tells _ (by decide)) ?_
  have e : (!leaf (⟨#[46, 46]⟩ : ByteArray)) = true := by decide +kernel
  rw [e]
  exact Ev.now _

end Go.Proofs.Ytecfojgamdilnaa.Pure

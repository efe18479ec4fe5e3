import Derived.Test.YtlgoghonnnobfaaDoorSdp
namespace Go.Proofs.YtlgoghonnnobfaaDoor.Sdp
open Go Go.Lib Go.Proofs.YtlgoghonnnobfaaDoor.Fr Go.Proofs.YtlgoghonnnobfaaDoor.Tok Go.Proofs.YtlgoghonnnobfaaDoor.Out
open Go.Proofs.YtlgoghonnnobfaaDoor.Enc (heads tails tailsIf encodeT)
set_option linter.unusedVariables false
set_option linter.unusedSimpArgs false
/-! ### what the encoder writes, by its head, its middle and its tail (plain Lean, no program in sight) -/
def ehead (m : Int) : List T → List UInt8 × List T
  | [] => ([], [])
  | t :: L => if takenL m t.1 = true then (enc (Sg t.1), L) else if takenL m (SO t.1) = true then (enc 8219 ++ t.2, L) else ([], t :: L)
def etailR (m : Int) : List T → List UInt8 × List T
  | [] => ([], [])
  | t :: L => if takenR m t.1 = true then (enc (Sg t.1), L) else if takenR m (SO t.1) = true then (enc 8219 ++ t.2, L) else ([], t :: L)
def nameE (m : Int) (L : List T) : List UInt8 := (ehead m L).1 ++ Tok.bytes ((etailR m (ehead m L).2.reverse).2.reverse.flatMap (unitT m)) ++ (etailR m (ehead m L).2.reverse).1
theorem L_asc (m : Int) : Asc7 (takenL m) := ⟨fun _ h => L_low h⟩
theorem R_asc (m : Int) : Asc7 (takenR m) := ⟨fun _ h => R_low h⟩
theorem text_enc {t : T} (ht : Out.Form t) (h : t.1 ≠ 65533) : t.2 = enc t.1 := by
  rcases ht with ⟨r, hr, rfl⟩ | ⟨b, rfl⟩
  · rfl
  · exact absurd rfl h
theorem heads_tk (m : Int) (s : ByteArray) (hs : s.data.toList ≠ []) : (heads m s).1.data.toList = (ehead m (tk s.data.toList)).1 ∧ tk (heads m s).2.data.toList = (ehead m (tk s.data.toList)).2 := by
  obtain ⟨t, L, hl⟩ : ∃ t L, tk s.data.toList = t :: L := ⟨_, _, tk_step _ hs⟩
  have hft : Out.Form t := tk_form _ t (by rw [hl]; simp)
  rw [hl, ehead]
  rcases heads_word m s t.1 L (fst_of s t L hl) with ⟨h1, h2, h4⟩ | ⟨h1, h2, h4, h5⟩ | ⟨h1, h2, h4⟩
  · rw [if_pos h1]; exact ⟨h2, h4⟩
  · rw [in_so (L_asc m)] at h2
    have hne : t.1 ≠ 65533 := by
      intro e
      rw [e, so_bad, l_none] at h2
      cases h2
    rw [h1, if_neg (by decide), if_pos h2, text_enc hft hne]
    exact ⟨h4, h5⟩
  · rw [in_so (L_asc m)] at h2
    rw [h1, if_neg (by decide), h2, if_neg (by decide), h4]
    exact ⟨rfl, hl⟩
theorem tails_tk (m : Int) (s : ByteArray) : (tailsIf m s).1.data.toList = (etailR m (tk s.data.toList).reverse).1 ∧ tk (tailsIf m s).2.data.toList = (etailR m (tk s.data.toList).reverse).2.reverse := by
  have hf := tk_form s.data.toList
  have hrev : tk s.data.toList = (tk s.data.toList).reverse.reverse := by rw [List.reverse_reverse]
  by_cases hs : s.data.toList = []
  · unfold tailsIf
    rw [if_pos hs, hs]
    exact ⟨rfl, rfl⟩
  rw [show tailsIf m s = tails m s by unfold tailsIf; rw [if_neg hs]]
  generalize hR : (tk s.data.toList).reverse = R at hrev
  cases R with
  | nil => rw [tk_step _ hs] at hrev; cases hrev
  | cons t R =>
    rw [List.reverse_cons] at hrev
    have hft : Out.Form t := hf t (by rw [hrev]; simp)
    rw [etailR]
    rcases tails_word m s t.1 R.reverse (lst_of s t R.reverse hft hrev) with ⟨h1, h2, h4⟩ | ⟨h1, h2, h4, h5⟩ | ⟨h1, h2, h4⟩
    · rw [if_pos h1]; exact ⟨h2, h4⟩
    · rw [in_so (R_asc m)] at h2
      have hne : t.1 ≠ 65533 := by
        intro e
        rw [e, so_bad, r_none] at h2
        cases h2
      rw [h1, if_neg (by decide), if_pos h2, text_enc hft hne]
      exact ⟨h4, h5⟩
    · rw [in_so (R_asc m)] at h2
      rw [h1, if_neg (by decide), h2, if_neg (by decide), h4]
      exact ⟨rfl, by rw [hrev, List.reverse_cons]⟩
theorem encodeT_tk (m : Int) (s : ByteArray) (hs : s.data.toList ≠ []) : (encodeT m s).data.toList = nameE m (tk s.data.toList) := by
  obtain ⟨h1, h2⟩ := heads_tk m s hs
  obtain ⟨t1, t2⟩ := tails_tk m (heads m s).2
  unfold encodeT nameE
  simp only
  rw [body_F, t1, h1, ← h2]
  unfold Out.F
  rw [t2]
end Go.Proofs.YtlgoghonnnobfaaDoor.Sdp

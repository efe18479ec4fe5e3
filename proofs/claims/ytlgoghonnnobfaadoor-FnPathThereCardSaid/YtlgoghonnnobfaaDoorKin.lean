import Derived.Test.YtlgoghonnnobfaaDoorOni
namespace Go.Proofs.YtlgoghonnnobfaaDoor.Kin
open Go Go.Lib Go.Proofs.YtlgoghonnnobfaaDoor.Fr Go.Proofs.YtlgoghonnnobfaaDoor.Tok Go.Proofs.YtlgoghonnnobfaaDoor.Out
set_option linter.unusedVariables false
set_option linter.unusedSimpArgs false
/-! ### names of points -/
theorem sg46 (A : Nat → Bool) : SgIn A 65294 = A 46 := by
  rw [Bool.eq_iff_iff, sgIn_iff]
  exact ⟨fun ⟨c, hc, h1, h2⟩ => by rw [show 46 = c from sg_inj (by decide) hc h2]; exact h1, fun h => ⟨46, by decide, h, rfl⟩⟩
theorem wd_one (A : Nat → Bool) (hA : Asc7 A) (inv : Bool) (t : T) (ht : Out.Form t) (e : Wd A inv t = [ch 65294]) : (t = ch 46 ∧ A 46 = true) ∨ (t = ch 65294 ∧ A 46 = false) := by
  rcases ht with ⟨r, hr, rfl⟩ | ⟨b, rfl⟩
  · rw [wd_ch] at e
    by_cases h1 : A r = true
    · rw [if_pos h1] at e
      injection e with e
      have h46 : r = 46 := sg_inj (hA.low r h1) (by decide) (ch_inj e)
      subst h46
      exact .inl ⟨rfl, h1⟩
    · rw [if_neg h1] at e
      split at e
      · simp at e
      · rename_i h2
        injection e with e
        have : r = 65294 := ch_inj e
        subst this
        refine .inr ⟨rfl, ?_⟩
        rw [← sg46 A]
        cases h : SgIn A 65294 with
        | false => rfl
        | true => exact absurd (.inr h) h2
  · rw [wd_bad] at e
    split at e
    · simp [quotedT] at e
    · injection e with e
      exact (ch_ne_bad (by decide) e.symm).elim
theorem wd_two (A : Nat → Bool) (inv : Bool) (t : T) (ht : Out.Form t) (e : Wd A inv t = [ch 8219, ch 65294]) : t = ch 65294 := by
  rcases ht with ⟨r, hr, rfl⟩ | ⟨b, rfl⟩
  · rw [wd_ch] at e
    split at e
    · simp at e
    · split at e
      · injection e with _ e
        injection e with e
      · simp at e
  · rw [wd_bad] at e
    split at e
    · simp [quotedT] at e
    · simp at e
theorem am46 (m : Int) : AM m 46 = false := by
  have h : ∀ b ∈ Enc.bits, (46 : Int) ∉ b.cs := by decide +kernel
  unfold AM
  cases e : anyC m 46 Enc.bits with
  | false => rfl
  | true =>
    obtain ⟨b, hb1, h2⟩ := List.any_eq_true.1 e
    rw [Bool.and_eq_true] at h2
    exact absurd (List.contains_iff_mem.1 h2.2) (h b hb1)
theorem a146 (m : Int) : A1 m 46 = hb m 262144 := by
  unfold A1
  rw [am46, Bool.or_false]
  simp [takenL, Enc.isCtl]
theorem an46 (m : Int) : AN m 46 = hb m 4194304 := by
  unfold AN
  rw [am46, Bool.or_false]
  simp [takenR, Enc.isCtl]
/-- A name of two points, one of them fullwidth, where the bits of the left and of the right differ. -/
def dotOpen (m : Int) (l : List UInt8) : Prop := hb m 33554432 = true ∧ hb m 262144 ≠ hb m 4194304 ∧ (l = [46, 239, 188, 142] ∨ l = [239, 188, 142, 46])
def Dots (l : List UInt8) : Prop := l = [46] ∨ l = [46, 46] ∨ l = [239, 188, 142] ∨ l = [239, 188, 142, 239, 188, 142]
theorem enc46 : enc 46 = [46] ∧ enc 65294 = [239, 188, 142] := by decide
theorem isW1 : IsW [ch 65294] := .inl ⟨_, rfl, fun e => absurd (ch_inj e) (by decide)⟩
theorem isW2 : IsW [ch 8219, ch 65294] := .inr (.inl ⟨65294, by decide, rfl⟩)
theorem bytes_one (l : List UInt8) (t : T) (h : tk l = [t]) : l = t.2 := by
  have := bytes_tk' l
  rw [h, bytes_cons, bytes_nil, List.append_nil] at this
  exact this.symm
theorem bytes_two (l : List UInt8) (t u : T) (h : tk l = [t, u]) : l = t.2 ++ u.2 := by
  have := bytes_tk' l
  rw [h, bytes_cons, bytes_cons, bytes_nil, List.append_nil] at this
  exact this.symm
/-- Such a name's writing is no other one's. -/
theorem dot_not (m : Int) (b : ByteArray) (hne : b.data.toList ≠ []) (hD : hb m 33554432 = true) (hnd : ¬ Dots b.data.toList) (hno : ¬ dotOpen m b.data.toList) (U : List T) (hU : U = [ch 65294] ∨ U = [ch 65294] ++ [ch 65294] ∨ U = [ch 8219, ch 65294] ∨ U = [ch 8219, ch 65294] ++ [ch 8219, ch 65294]) : tk (Enc.encodeT m b).data.toList ≠ U := by
  intro e
  rw [encodeT_code m b hne] at e
  have hf := tk_form b.data.toList
  have f1 : (ch 46).2 = [46] := enc46.1
  have f2 : (ch 65294).2 = [239, 188, 142] := enc46.2
  have n1 : ¬ b.data.toList = [46] := fun h => hnd (.inl h)
  have n2 : ¬ b.data.toList = [46, 46] := fun h => hnd (.inr (.inl h))
  have n3 : ¬ b.data.toList = [239, 188, 142] := fun h => hnd (.inr (.inr (.inl h)))
  have n4 : ¬ b.data.toList = [239, 188, 142, 239, 188, 142] := fun h => hnd (.inr (.inr (.inr h)))
  have one : ∀ (w : List T), IsW w → ∀ t, tk b.data.toList = [t] → ∀ X, w ++ X = code1 (A1 m) (AM m) (AN m) (AO m) (hb m 16777216) (tk b.data.toList) → Wd (AO m) (hb m 16777216) t = w ∧ X = [] := by
    intro w hw t ht X h
    rw [ht, code1, ← List.append_nil (Wd (AO m) (hb m 16777216) t)] at h
    have := seg hw (wd_isW (AO m) (AO_asc m) _ t (hf t (by rw [ht]; simp))) h
    exact ⟨this.1.symm, this.2⟩
  have more : ∀ (w : List T), IsW w → ∀ t t' r, tk b.data.toList = t :: t' :: r → ∀ X, w ++ X = code1 (A1 m) (AM m) (AN m) (AO m) (hb m 16777216) (tk b.data.toList) → Wd (A1 m) (hb m 16777216) t = w ∧ X = codeR (AM m) (AN m) (hb m 16777216) (t' :: r) := by
    intro w hw t t' r ht X h
    rw [ht, code1] at h
    have := seg hw (wd_isW (A1 m) (A1_asc m) _ t (hf t (by rw [ht]; simp))) h
    exact ⟨this.1.symm, this.2⟩
  have sec : ∀ (w : List T), IsW w → ∀ t' r, (∀ x ∈ t' :: r, Out.Form x) → w = codeR (AM m) (AN m) (hb m 16777216) (t' :: r) → r = [] ∧ Wd (AN m) (hb m 16777216) t' = w := by
    intro w hw t' r hfr h
    cases r with
    | nil => exact ⟨rfl, h.symm⟩
    | cons a r =>
      rw [codeR, ← List.append_nil w] at h
      have := (seg hw (wd_isW (AM m) (AM_asc m) _ t' (hfr t' (by simp))) h).2
      exact absurd this.symm (codeR_ne (AM_asc m) (AN_asc m) _ a r (hfr a (by simp)))
  obtain ⟨t, L, hl⟩ : ∃ t L, tk b.data.toList = t :: L := ⟨_, _, tk_step _ hne⟩
  have ht := hf t (by rw [hl]; simp)
  rcases hU with rfl | rfl | rfl | rfl
  · cases L with
    | nil =>
      obtain ⟨g1, _⟩ := one _ isW1 t hl [] (by rw [List.append_nil]; exact e.symm)
      rcases wd_one _ (AO_asc m) _ t ht g1 with ⟨rfl, _⟩ | ⟨rfl, _⟩
      · exact n1 ((bytes_one _ _ hl).trans f1)
      · exact n3 ((bytes_one _ _ hl).trans f2)
    | cons t' r =>
      have := (more _ isW1 t t' r hl [] (by rw [List.append_nil]; exact e.symm)).2
      exact codeR_ne (AM_asc m) (AN_asc m) _ t' r (hf t' (by rw [hl]; simp)) this.symm
  · cases L with
    | nil =>
      have := (one _ isW1 t hl _ e.symm).2
      simp at this
    | cons t' r =>
      obtain ⟨g1, g2⟩ := more _ isW1 t t' r hl _ e.symm
      obtain ⟨rfl, g3⟩ := sec _ isW1 t' r (fun x hx => hf x (by rw [hl]; exact List.mem_cons_of_mem _ hx)) g2
      have ht' := hf t' (by rw [hl]; simp)
      rcases wd_one _ (A1_asc m) _ t ht g1 with ⟨rfl, p1⟩ | ⟨rfl, p1⟩
      · rcases wd_one _ (AN_asc m) _ t' ht' g3 with ⟨rfl, p2⟩ | ⟨rfl, p2⟩
        · exact n2 (by rw [bytes_two _ _ _ hl, f1]; rfl)
        · refine hno ⟨hD, by rw [← a146, ← an46, p1, p2]; decide, .inl (by rw [bytes_two _ _ _ hl, f1, f2]; rfl)⟩
      · rcases wd_one _ (AN_asc m) _ t' ht' g3 with ⟨rfl, p2⟩ | ⟨rfl, p2⟩
        · refine hno ⟨hD, by rw [← a146, ← an46, p1, p2]; decide, .inr (by rw [bytes_two _ _ _ hl, f1, f2]; rfl)⟩
        · exact n4 (by rw [bytes_two _ _ _ hl, f2]; rfl)
  · cases L with
    | nil =>
      obtain ⟨g1, _⟩ := one _ isW2 t hl [] (by rw [List.append_nil]; exact e.symm)
      have := wd_two _ _ t ht g1
      subst this
      exact n3 ((bytes_one _ _ hl).trans f2)
    | cons t' r =>
      have := (more _ isW2 t t' r hl [] (by rw [List.append_nil]; exact e.symm)).2
      exact codeR_ne (AM_asc m) (AN_asc m) _ t' r (hf t' (by rw [hl]; simp)) this.symm
  · cases L with
    | nil =>
      have := (one _ isW2 t hl _ e.symm).2
      simp at this
    | cons t' r =>
      obtain ⟨g1, g2⟩ := more _ isW2 t t' r hl _ e.symm
      obtain ⟨rfl, g3⟩ := sec _ isW2 t' r (fun x hx => hf x (by rw [hl]; exact List.mem_cons_of_mem _ hx)) g2
      have ht' := hf t' (by rw [hl]; simp)
      have q1 := wd_two _ _ t ht g1
      have q2 := wd_two _ _ t' ht' g3
      subst q1
      subst q2
      exact n4 (by rw [bytes_two _ _ _ hl, f2]; rfl)
/-- What a name is written as, by its kind. -/
theorem enc_kinds (m : Int) (s : ByteArray) (h1 : m ≠ 1) : (s.data.toList = [] ∧ (Enc.encode m s).data.toList = []) ∨
    (s.data.toList ≠ [] ∧ hb m 33554432 = true ∧ ((s.data.toList = [46] ∧ tk (Enc.encode m s).data.toList = [ch 65294]) ∨ (s.data.toList = [46, 46] ∧ tk (Enc.encode m s).data.toList = [ch 65294] ++ [ch 65294]) ∨ (s.data.toList = [239, 188, 142] ∧ tk (Enc.encode m s).data.toList = [ch 8219, ch 65294]) ∨ (s.data.toList = [239, 188, 142, 239, 188, 142] ∧ tk (Enc.encode m s).data.toList = [ch 8219, ch 65294] ++ [ch 8219, ch 65294]))) ∨
    (s.data.toList ≠ [] ∧ Enc.encode m s = Enc.encodeT m s ∧ (hb m 33554432 = true → ¬ Dots s.data.toList)) := by
  unfold Enc.encode
  rw [if_neg h1]
  by_cases h0 : s.data.toList = []
  · rw [if_pos h0]; exact .inl ⟨h0, rfl⟩
  rw [if_neg h0]
  right
  by_cases d1 : hb m 33554432 = true ∧ s.data.toList = [46]
  · rw [if_pos d1]; exact .inl ⟨h0, d1.1, .inl ⟨d1.2, by decide⟩⟩
  rw [if_neg d1]
  by_cases d2 : hb m 33554432 = true ∧ s.data.toList = [46, 46]
  · rw [if_pos d2]; exact .inl ⟨h0, d2.1, .inr (.inl ⟨d2.2, by decide⟩)⟩
  rw [if_neg d2]
  by_cases d3 : hb m 33554432 = true ∧ s.data.toList = [239, 188, 142]
  · rw [if_pos d3]; exact .inl ⟨h0, d3.1, .inr (.inr (.inl ⟨d3.2, by decide⟩))⟩
  rw [if_neg d3]
  by_cases d4 : hb m 33554432 = true ∧ s.data.toList = [239, 188, 142, 239, 188, 142]
  · rw [if_pos d4]; exact .inl ⟨h0, d4.1, .inr (.inr (.inr ⟨d4.2, by decide⟩))⟩
  rw [if_neg d4]
  exact .inr ⟨h0, rfl, fun hd => by
    rintro (h | h | h | h)
    · exact d1 ⟨hd, h⟩
    · exact d2 ⟨hd, h⟩
    · exact d3 ⟨hd, h⟩
    · exact d4 ⟨hd, h⟩⟩
theorem encT_ne (m : Int) (s : ByteArray) (h : s.data.toList ≠ []) : (Enc.encodeT m s).data.toList ≠ [] := by
  intro e
  have h1 := encodeT_code m s h
  rw [e, tk_nil] at h1
  have := code1_inj (A1_asc m) (AM_asc m) (AN_asc m) (AO_asc m) (hb m 16777216) [] _ (fun t ht => by cases ht) (tk_form s.data.toList) h1
  rw [tk_step _ h] at this
  cases this
theorem encode_inj (m : Int) (a b : ByteArray) (ha : ¬ dotOpen m a.data.toList) (hb' : ¬ dotOpen m b.data.toList) (e : (Enc.encode m a).data.toList = (Enc.encode m b).data.toList) : a.data.toList = b.data.toList := by
  by_cases h1 : m = 1
  · unfold Enc.encode at e
    rw [if_pos h1, if_pos h1] at e
    exact e
  have ne1 : ∀ (w : List T) (l : List UInt8), tk l = w → w ≠ [] → l ≠ [] := by
    rintro w l h hw rfl
    rw [tk_nil] at h
    exact hw h.symm
  have c1 : (ch 65294) ≠ ch 8219 := fun h => absurd (ch_inj h) (by decide)
  rcases enc_kinds m a h1 with ⟨a0, a1⟩ | ⟨a0, aD, ak⟩ | ⟨a0, a1, a2⟩
  · rcases enc_kinds m b h1 with ⟨b0, b1⟩ | ⟨b0, bD, bk⟩ | ⟨b0, b1, b2⟩
    · rw [a0, b0]
    · exfalso
      rw [a1] at e
      rcases bk with ⟨_, h⟩ | ⟨_, h⟩ | ⟨_, h⟩ | ⟨_, h⟩
      all_goals exact ne1 _ _ h (by simp) e.symm
    · exfalso
      rw [a1, b1] at e
      exact encT_ne m b b0 e.symm
  · rcases enc_kinds m b h1 with ⟨b0, b1⟩ | ⟨b0, bD, bk⟩ | ⟨b0, b1, b2⟩
    · exfalso
      rw [b1] at e
      rcases ak with ⟨_, h⟩ | ⟨_, h⟩ | ⟨_, h⟩ | ⟨_, h⟩
      all_goals exact ne1 _ _ h (by simp) e
    · rcases ak with ⟨x, h⟩ | ⟨x, h⟩ | ⟨x, h⟩ | ⟨x, h⟩
      all_goals
        rcases bk with ⟨y, g⟩ | ⟨y, g⟩ | ⟨y, g⟩ | ⟨y, g⟩
        all_goals first
          | (rw [x, y]; done)
          | (exfalso; rw [e, g] at h; simp at h; done)
          | (exfalso; rw [e, g] at h; simp at h; exact c1 h.1)
          | (exfalso; rw [e, g] at h; simp at h; exact c1 h.1.symm)
          | (exfalso; rw [e, g] at h; simp at h; exact c1 h)
          | (exfalso; rw [e, g] at h; simp at h; exact c1 h.symm)
    · exfalso
      have := b2 aD
      rcases ak with ⟨x, h⟩ | ⟨x, h⟩ | ⟨x, h⟩ | ⟨x, h⟩
      · exact dot_not m b b0 aD this hb' _ (.inl rfl) (by rw [← b1, ← e]; exact h)
      · exact dot_not m b b0 aD this hb' _ (.inr (.inl rfl)) (by rw [← b1, ← e]; exact h)
      · exact dot_not m b b0 aD this hb' _ (.inr (.inr (.inl rfl))) (by rw [← b1, ← e]; exact h)
      · exact dot_not m b b0 aD this hb' _ (.inr (.inr (.inr rfl))) (by rw [← b1, ← e]; exact h)
  · rcases enc_kinds m b h1 with ⟨b0, b1⟩ | ⟨b0, bD, bk⟩ | ⟨b0, b1, b2⟩
    · exfalso
      rw [a1, b1] at e
      exact encT_ne m a a0 e
    · exfalso
      have := a2 bD
      rcases bk with ⟨x, h⟩ | ⟨x, h⟩ | ⟨x, h⟩ | ⟨x, h⟩
      · exact dot_not m a a0 bD this ha _ (.inl rfl) (by rw [← a1, e]; exact h)
      · exact dot_not m a a0 bD this ha _ (.inr (.inl rfl)) (by rw [← a1, e]; exact h)
      · exact dot_not m a a0 bD this ha _ (.inr (.inr (.inl rfl))) (by rw [← a1, e]; exact h)
      · exact dot_not m a a0 bD this ha _ (.inr (.inr (.inr rfl))) (by rw [← a1, e]; exact h)
    · refine encodeT_inj m a b a0 b0 ?_
      rw [a1, b1] at e
      apply ByteArray.ext
      exact Array.ext' e
end Go.Proofs.YtlgoghonnnobfaaDoor.Kin

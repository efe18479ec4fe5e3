import Derived.Test.YtlgoghonnnobfaaDoorPFnNameOnex1
import Derived.Test.YtlgoghonnnobfaaDoorOni
namespace Go.Proofs.YtlgoghonnnobfaaDoor.Pure
open Go Go.RowKit Go.Proofs.YtlgoghonnnobfaaDoor.PFnNameOne Go.Proofs.YtlgoghonnnobfaaDoorW.PrintWords Go.Proofs.YtlgoghonnnobfaaDoorW.PrintLast
open Go.Proofs.YtlgoghonnnobfaaDoor.Fr Go.Proofs.YtlgoghonnnobfaaDoor.Tok Go.Proofs.YtlgoghonnnobfaaDoor.Out
set_option linter.unusedVariables false
set_option linter.unusedSimpArgs false
theorem short_two (k : Nat) (a b : ByteArray) (ha : a.size ≤ 2147483647) (hb : b.size ≤ 2147483647) : laws_encShort.f (k + 3) [a, b] = some (decide ((a.size : Int) + b.size ≤ 65536)) := by
  have w1 : wrap64 (0 + (a.size : Int)) = (a.size : Int) := by rw [Int.zero_add]; exact IntWalk.wrap64_in _ (by omega)
  have w2 : wrap64 ((a.size : Int) + (b.size : Int)) = (a.size : Int) + b.size := IntWalk.wrap64_in _ (by omega)
  have r1 : rdOf ByteArray.empty [a, b] 0 = a := rfl
  have r2 : rdOf ByteArray.empty [a, b] 1 = b := rfl
  have w3 : wrap64 (0 + 1) = 1 := IntWalk.wrap64_in _ (by omega)
  have w4 : wrap64 (1 + 1) = 2 := IntWalk.wrap64_in _ (by omega)
  have hl : (([a, b] : List ByteArray).length : Int) = 2 := rfl
  simp only [laws_encShort.f, laws_encShort.l0, r1, r2, w1, w2, w3, w4, hl, Int.reduceLT, Int.reduceLE, if_true, if_false]
/-! ### names of points -/
theorem sg46 (A : Nat → Bool) : SgIn A 65294 = A 46 := by
  rw [Bool.eq_iff_iff, sgIn_iff]
  exact ⟨fun ⟨c, hc, h1, h2⟩ => by rw [show 46 = c from sg_inj (by decide) hc h2]; exact h1, fun h => ⟨46, by decide, h, rfl⟩⟩
theorem wd_one (A : Nat → Bool) (hA : Asc7 A) (inv : Bool) (t : T) (ht : Out.Form t) (e : Wd A inv t = [ch 65294]) : (t = ch 46 ∧ A 46 = true) ∨ (t = ch 65294 ∧ A 46 = false) := by
  rcases ht with ⟨r, hr, rfl⟩ | ⟨b, rfl⟩
  · rw [wd_ch] at e
    by_cases h1 : A r = true
    · rw [if_pos h1] at e
      injection e with e
      have h46 : r = 46 := sg_inj (hA.low r h1) (by decide) (ch_inj e)
      subst h46
      exact .inl ⟨rfl, h1⟩
    · rw [if_neg h1] at e
      split at e
      · simp at e
      · rename_i h2
        injection e with e
        have : r = 65294 := ch_inj e
        subst this
        refine .inr ⟨rfl, ?_⟩
        rw [← sg46 A]
        cases h : SgIn A 65294 with
        | false => rfl
        | true => exact absurd (.inr h) h2
  · rw [wd_bad] at e
    split at e
    · simp [quotedT] at e
    · injection e with e
      exact (ch_ne_bad (by decide) e.symm).elim
theorem wd_two (A : Nat → Bool) (inv : Bool) (t : T) (ht : Out.Form t) (e : Wd A inv t = [ch 8219, ch 65294]) : t = ch 65294 := by
  rcases ht with ⟨r, hr, rfl⟩ | ⟨b, rfl⟩
  · rw [wd_ch] at e
    split at e
    · simp at e
    · split at e
      · injection e with _ e
        injection e with e
      · simp at e
  · rw [wd_bad] at e
    split at e
    · simp [quotedT] at e
    · simp at e
theorem am46 (m : Int) : AM m 46 = false := by
  have h : ∀ b ∈ Enc.bits, (46 : Int) ∉ b.cs := by decide +kernel
  unfold AM
  cases e : anyC m 46 Enc.bits with
  | false => rfl
  | true =>
    obtain ⟨b, hb1, h2⟩ := List.any_eq_true.1 e
    rw [Bool.and_eq_true] at h2
    exact absurd (List.contains_iff_mem.1 h2.2) (h b hb1)
theorem a146 (m : Int) : A1 m 46 = hb m 262144 := by
  unfold A1
  rw [am46, Bool.or_false]
  simp [takenL, Enc.isCtl]
theorem an46 (m : Int) : AN m 46 = hb m 4194304 := by
  unfold AN
  rw [am46, Bool.or_false]
  simp [takenR, Enc.isCtl]
/-- A name of two points, one of them fullwidth, where the bits of the left and of the right differ. -/
def dotOpen (m : Int) (l : List UInt8) : Prop := hb m 33554432 = true ∧ hb m 262144 ≠ hb m 4194304 ∧ (l = [46, 239, 188, 142] ∨ l = [239, 188, 142, 46])
def Dots (l : List UInt8) : Prop := l = [46] ∨ l = [46, 46] ∨ l = [239, 188, 142] ∨ l = [239, 188, 142, 239, 188, 142]
theorem enc46 : enc 46 = [46] ∧ enc 65294 = [239, 188, 142] := by decide
theorem isW1 : IsW [ch 65294] := .inl ⟨_, rfl, fun e => absurd (ch_inj e) (by decide)⟩
theorem isW2 : IsW [ch 8219, ch 65294] := .inr (.inl ⟨65294, by decide, rfl⟩)
theorem bytes_one (l : List UInt8) (t : T) (h : tk l = [t]) : l = t.2 := by
  have := bytes_tk' l
  rw [h, bytes_cons, bytes_nil, List.append_nil] at this
  exact this.symm
theorem bytes_two (l : List UInt8) (t u : T) (h : tk l = [t, u]) : l = t.2 ++ u.2 := by
  have := bytes_tk' l
  rw [h, bytes_cons, bytes_cons, bytes_nil, List.append_nil] at this
  exact this.symm
/-- Such a name's writing is no other one's. -/
theorem dot_not (m : Int) (b : ByteArray) (hne : b.data.toList ≠ []) (hD : hb m 33554432 = true) (hnd : ¬ Dots b.data.toList) (hno : ¬ dotOpen m b.data.toList) (U : List T) (hU : U = [ch 65294] ∨ U = [ch 65294] ++ [ch 65294] ∨ U = [ch 8219, ch 65294] ∨ U = [ch 8219, ch 65294] ++ [ch 8219, ch 65294]) : tk (Enc.encodeT m b).data.toList ≠ U := by
  intro e
  rw [encodeT_code m b hne] at e
  have hf := tk_form b.data.toList
  have f1 : (ch 46).2 = [46] := enc46.1
  have f2 : (ch 65294).2 = [239, 188, 142] := enc46.2
  have n1 : ¬ b.data.toList = [46] := fun h => hnd (.inl h)
  have n2 : ¬ b.data.toList = [46, 46] := fun h => hnd (.inr (.inl h))
  have n3 : ¬ b.data.toList = [239, 188, 142] := fun h => hnd (.inr (.inr (.inl h)))
  have n4 : ¬ b.data.toList = [239, 188, 142, 239, 188, 142] := fun h => hnd (.inr (.inr (.inr h)))
  have one : ∀ (w : List T), IsW w → ∀ t, tk b.data.toList = [t] → ∀ X, w ++ X = code1 (A1 m) (AM m) (AN m) (AO m) (hb m 16777216) (tk b.data.toList) → Wd (AO m) (hb m 16777216) t = w ∧ X = [] := by
    intro w hw t ht X h
    rw [ht, code1, ← List.append_nil (Wd (AO m) (hb m 16777216) t)] at h
    have := seg hw (wd_isW (AO m) (AO_asc m) _ t (hf t (by rw [ht]; simp))) h
    exact ⟨this.1.symm, this.2⟩
  have more : ∀ (w : List T), IsW w → ∀ t t' r, tk b.data.toList = t :: t' :: r → ∀ X, w ++ X = code1 (A1 m) (AM m) (AN m) (AO m) (hb m 16777216) (tk b.data.toList) → Wd (A1 m) (hb m 16777216) t = w ∧ X = codeR (AM m) (AN m) (hb m 16777216) (t' :: r) := by
    intro w hw t t' r ht X h
    rw [ht, code1] at h
    have := seg hw (wd_isW (A1 m) (A1_asc m) _ t (hf t (by rw [ht]; simp))) h
    exact ⟨this.1.symm, this.2⟩
  have sec : ∀ (w : List T), IsW w → ∀ t' r, (∀ x ∈ t' :: r, Out.Form x) → w = codeR (AM m) (AN m) (hb m 16777216) (t' :: r) → r = [] ∧ Wd (AN m) (hb m 16777216) t' = w := by
    intro w hw t' r hfr h
    cases r with
    | nil => exact ⟨rfl, h.symm⟩
    | cons a r =>
      rw [codeR, ← List.append_nil w] at h
      have := (seg hw (wd_isW (AM m) (AM_asc m) _ t' (hfr t' (by simp))) h).2
      exact absurd this.symm (codeR_ne (AM_asc m) (AN_asc m) _ a r (hfr a (by simp)))
  obtain ⟨t, L, hl⟩ : ∃ t L, tk b.data.toList = t :: L := ⟨_, _, tk_step _ hne⟩
  have ht := hf t (by rw [hl]; simp)
  rcases hU with rfl | rfl | rfl | rfl
  · cases L with
    | nil =>
      obtain ⟨g1, _⟩ := one _ isW1 t hl [] (by rw [List.append_nil]; exact e.symm)
      rcases wd_one _ (AO_asc m) _ t ht g1 with ⟨rfl, _⟩ | ⟨rfl, _⟩
      · exact n1 ((bytes_one _ _ hl).trans f1)
      · exact n3 ((bytes_one _ _ hl).trans f2)
    | cons t' r =>
      have := (more _ isW1 t t' r hl [] (by rw [List.append_nil]; exact e.symm)).2
      exact codeR_ne (AM_asc m) (AN_asc m) _ t' r (hf t' (by rw [hl]; simp)) this.symm
  · cases L with
    | nil =>
      have := (one _ isW1 t hl _ e.symm).2
      simp at this
    | cons t' r =>
      obtain ⟨g1, g2⟩ := more _ isW1 t t' r hl _ e.symm
      obtain ⟨rfl, g3⟩ := sec _ isW1 t' r (fun x hx => hf x (by rw [hl]; exact List.mem_cons_of_mem _ hx)) g2
      have ht' := hf t' (by rw [hl]; simp)
      rcases wd_one _ (A1_asc m) _ t ht g1 with ⟨rfl, p1⟩ | ⟨rfl, p1⟩
      · rcases wd_one _ (AN_asc m) _ t' ht' g3 with ⟨rfl, p2⟩ | ⟨rfl, p2⟩
        · exact n2 (by rw [bytes_two _ _ _ hl, f1]; rfl)
        · refine hno ⟨hD, by rw [← a146, ← an46, p1, p2]; decide, .inl (by rw [bytes_two _ _ _ hl, f1, f2]; rfl)⟩
      · rcases wd_one _ (AN_asc m) _ t' ht' g3 with ⟨rfl, p2⟩ | ⟨rfl, p2⟩
        · refine hno ⟨hD, by rw [← a146, ← an46, p1, p2]; decide, .inr (by rw [bytes_two _ _ _ hl, f1, f2]; rfl)⟩
        · exact n4 (by rw [bytes_two _ _ _ hl, f2]; rfl)
  · cases L with
    | nil =>
      obtain ⟨g1, _⟩ := one _ isW2 t hl [] (by rw [List.append_nil]; exact e.symm)
      have := wd_two _ _ t ht g1
      subst this
      exact n3 ((bytes_one _ _ hl).trans f2)
    | cons t' r =>
      have := (more _ isW2 t t' r hl [] (by rw [List.append_nil]; exact e.symm)).2
      exact codeR_ne (AM_asc m) (AN_asc m) _ t' r (hf t' (by rw [hl]; simp)) this.symm
  · cases L with
    | nil =>
      have := (one _ isW2 t hl _ e.symm).2
      simp at this
    | cons t' r =>
      obtain ⟨g1, g2⟩ := more _ isW2 t t' r hl _ e.symm
      obtain ⟨rfl, g3⟩ := sec _ isW2 t' r (fun x hx => hf x (by rw [hl]; exact List.mem_cons_of_mem _ hx)) g2
      have ht' := hf t' (by rw [hl]; simp)
      have q1 := wd_two _ _ t ht g1
      have q2 := wd_two _ _ t' ht' g3
      subst q1
      subst q2
      exact n4 (by rw [bytes_two _ _ _ hl, f2]; rfl)
/-- What a name is written as, by its kind. -/
theorem enc_kinds (m : Int) (s : ByteArray) (h1 : m ≠ 1) : (s.data.toList = [] ∧ (Enc.encode m s).data.toList = []) ∨
    (s.data.toList ≠ [] ∧ hb m 33554432 = true ∧ ((s.data.toList = [46] ∧ tk (Enc.encode m s).data.toList = [ch 65294]) ∨ (s.data.toList = [46, 46] ∧ tk (Enc.encode m s).data.toList = [ch 65294] ++ [ch 65294]) ∨ (s.data.toList = [239, 188, 142] ∧ tk (Enc.encode m s).data.toList = [ch 8219, ch 65294]) ∨ (s.data.toList = [239, 188, 142, 239, 188, 142] ∧ tk (Enc.encode m s).data.toList = [ch 8219, ch 65294] ++ [ch 8219, ch 65294]))) ∨
    (s.data.toList ≠ [] ∧ Enc.encode m s = Enc.encodeT m s ∧ (hb m 33554432 = true → ¬ Dots s.data.toList)) := by
  unfold Enc.encode
  rw [if_neg h1]
  by_cases h0 : s.data.toList = []
  · rw [if_pos h0]; exact .inl ⟨h0, rfl⟩
  rw [if_neg h0]
  right
  by_cases d1 : hb m 33554432 = true ∧ s.data.toList = [46]
  · rw [if_pos d1]; exact .inl ⟨h0, d1.1, .inl ⟨d1.2, by decide⟩⟩
  rw [if_neg d1]
  by_cases d2 : hb m 33554432 = true ∧ s.data.toList = [46, 46]
  · rw [if_pos d2]; exact .inl ⟨h0, d2.1, .inr (.inl ⟨d2.2, by decide⟩)⟩
  rw [if_neg d2]
  by_cases d3 : hb m 33554432 = true ∧ s.data.toList = [239, 188, 142]
  · rw [if_pos d3]; exact .inl ⟨h0, d3.1, .inr (.inr (.inl ⟨d3.2, by decide⟩))⟩
  rw [if_neg d3]
  by_cases d4 : hb m 33554432 = true ∧ s.data.toList = [239, 188, 142, 239, 188, 142]
  · rw [if_pos d4]; exact .inl ⟨h0, d4.1, .inr (.inr (.inr ⟨d4.2, by decide⟩))⟩
  rw [if_neg d4]
  exact .inr ⟨h0, rfl, fun hd => by
    rintro (h | h | h | h)
    · exact d1 ⟨hd, h⟩
    · exact d2 ⟨hd, h⟩
    · exact d3 ⟨hd, h⟩
    · exact d4 ⟨hd, h⟩⟩
theorem encT_ne (m : Int) (s : ByteArray) (h : s.data.toList ≠ []) : (Enc.encodeT m s).data.toList ≠ [] := by
  intro e
  have h1 := encodeT_code m s h
  rw [e, tk_nil] at h1
  have := code1_inj (A1_asc m) (AM_asc m) (AN_asc m) (AO_asc m) (hb m 16777216) [] _ (fun t ht => by cases ht) (tk_form s.data.toList) h1
  rw [tk_step _ h] at this
  cases this
theorem encode_inj (m : Int) (a b : ByteArray) (ha : ¬ dotOpen m a.data.toList) (hb' : ¬ dotOpen m b.data.toList) (e : (Enc.encode m a).data.toList = (Enc.encode m b).data.toList) : a.data.toList = b.data.toList := by
  by_cases h1 : m = 1
  · unfold Enc.encode at e
    rw [if_pos h1, if_pos h1] at e
    exact e
  have ne1 : ∀ (w : List T) (l : List UInt8), tk l = w → w ≠ [] → l ≠ [] := by
    rintro w l h hw rfl
    rw [tk_nil] at h
    exact hw h.symm
  have c1 : (ch 65294) ≠ ch 8219 := fun h => absurd (ch_inj h) (by decide)
  rcases enc_kinds m a h1 with ⟨a0, a1⟩ | ⟨a0, aD, ak⟩ | ⟨a0, a1, a2⟩
  · rcases enc_kinds m b h1 with ⟨b0, b1⟩ | ⟨b0, bD, bk⟩ | ⟨b0, b1, b2⟩
    · rw [a0, b0]
    · exfalso
      rw [a1] at e
      rcases bk with ⟨_, h⟩ | ⟨_, h⟩ | ⟨_, h⟩ | ⟨_, h⟩
      all_goals exact ne1 _ _ h (by simp) e.symm
    · exfalso
      rw [a1, b1] at e
      exact encT_ne m b b0 e.symm
  · rcases enc_kinds m b h1 with ⟨b0, b1⟩ | ⟨b0, bD, bk⟩ | ⟨b0, b1, b2⟩
    · exfalso
      rw [b1] at e
      rcases ak with ⟨_, h⟩ | ⟨_, h⟩ | ⟨_, h⟩ | ⟨_, h⟩
      all_goals exact ne1 _ _ h (by simp) e
    · rcases ak with ⟨x, h⟩ | ⟨x, h⟩ | ⟨x, h⟩ | ⟨x, h⟩
      all_goals
        rcases bk with ⟨y, g⟩ | ⟨y, g⟩ | ⟨y, g⟩ | ⟨y, g⟩
        all_goals first
          | (rw [x, y]; done)
          | (exfalso; rw [e, g] at h; simp at h; done)
          | (exfalso; rw [e, g] at h; simp at h; exact c1 h.1)
          | (exfalso; rw [e, g] at h; simp at h; exact c1 h.1.symm)
          | (exfalso; rw [e, g] at h; simp at h; exact c1 h)
          | (exfalso; rw [e, g] at h; simp at h; exact c1 h.symm)
    · exfalso
      have := b2 aD
      rcases ak with ⟨x, h⟩ | ⟨x, h⟩ | ⟨x, h⟩ | ⟨x, h⟩
      · exact dot_not m b b0 aD this hb' _ (.inl rfl) (by rw [← b1, ← e]; exact h)
      · exact dot_not m b b0 aD this hb' _ (.inr (.inl rfl)) (by rw [← b1, ← e]; exact h)
      · exact dot_not m b b0 aD this hb' _ (.inr (.inr (.inl rfl))) (by rw [← b1, ← e]; exact h)
      · exact dot_not m b b0 aD this hb' _ (.inr (.inr (.inr rfl))) (by rw [← b1, ← e]; exact h)
  · rcases enc_kinds m b h1 with ⟨b0, b1⟩ | ⟨b0, bD, bk⟩ | ⟨b0, b1, b2⟩
    · exfalso
      rw [a1, b1] at e
      exact encT_ne m a a0 e
    · exfalso
      have := a2 bD
      rcases bk with ⟨x, h⟩ | ⟨x, h⟩ | ⟨x, h⟩ | ⟨x, h⟩
      · exact dot_not m a a0 bD this ha _ (.inl rfl) (by rw [← a1, e]; exact h)
      · exact dot_not m a a0 bD this ha _ (.inr (.inl rfl)) (by rw [← a1, e]; exact h)
      · exact dot_not m a a0 bD this ha _ (.inr (.inr (.inl rfl))) (by rw [← a1, e]; exact h)
      · exact dot_not m a a0 bD this ha _ (.inr (.inr (.inr rfl))) (by rw [← a1, e]; exact h)
    · refine encodeT_inj m a b a0 b0 ?_
      rw [a1, b1] at e
      apply ByteArray.ext
      exact Array.ext' e
/-! ### the law -/
theorem right_total (m c : Int) : ∃ b, spec_TakesRight.f m c = some b := by
  unfold spec_TakesRight.f
  repeat' split
  all_goals exact ⟨_, rfl⟩
theorem open_total (k : Nat) (m : Int) (s : ByteArray) (hs : s.size ≤ 1000000) : ∃ b, spec_NameOpen.f (k + 1) m s = some b ∧ (b = false → ¬ dotOpen m s.data.toList) := by
  have jt : spec_NameOpen.j0 (k + 1) m s true = some true := by rw [spec_NameOpen.j0, if_pos rfl]
  have jf : ∃ b, spec_NameOpen.j0 (k + 1) m s false = some b := by
    rw [spec_NameOpen.j0, if_neg (by decide), spec_Units.f, if_pos hs, Option.bind_some]
    have hcnt : (Uts.units s).length ≤ 1000000 := by
      have key : ∀ f pos, (Uts.unitsFrom s f pos).length ≤ f := by
        intro f
        induction f with
        | zero => intro pos; simp [Uts.unitsFrom]
        | succ f ih =>
          intro pos
          rw [Uts.unitsFrom]
          split
          · have := ih (pos + (Utf8.decode s pos).2); simp only [List.length_cons]; omega
          · simp
      exact Nat.le_trans (key s.size 0) hs
    generalize hL : (Uts.units s).map (fun x => (⟨x.1, x.2.1, x.2.2⟩ : S37)) = L
    have hlen : L.length ≤ 1000000 := by rw [← hL, List.length_map]; exact hcnt
    by_cases h1 : (L.length : Int) > 1
    · have w2 : wrap64 ((L.length : Int) - 2) = (L.length : Int) - 2 := IntWalk.wrap64_in _ (by omega)
      have w1 : wrap64 ((L.length : Int) - 1) = (L.length : Int) - 1 := IntWalk.wrap64_in _ (by omega)
      rw [if_pos h1, w2, w1, if_pos (by omega), if_pos (by omega)]
      split
      · rw [if_pos (by omega), if_pos (by omega)]
        obtain ⟨b, hb⟩ := right_total m ((rd_T37 L ((L.length : Int) - 1)).f1)
        rw [hb]
        exact ⟨b, rfl⟩
      · exact ⟨_, rfl⟩
    · rw [if_neg h1]; exact ⟨_, rfl⟩
  obtain ⟨b0, hb0⟩ := jf
  unfold spec_NameOpen.f
  by_cases hd : Go.bits .and .u64 m 33554432 = 0
  · rw [if_pos hd, hb0]
    refine ⟨b0, rfl, fun _ ho => ?_⟩
    have := ho.1
    unfold Fr.hb at this
    rw [hd] at this
    exact absurd this (by decide)
  rw [if_neg hd]
  by_cases hlr : (((Go.bits .and .u64 m 262144) != 0) != ((Go.bits .and .u64 m 4194304) != 0)) = true
  · rw [if_pos hlr]
    by_cases s1 : s.toList = ([46, 239, 188, 142] : List UInt8)
    · rw [if_pos s1, jt]; exact ⟨true, rfl, fun h => by cases h⟩
    rw [if_neg s1]
    by_cases s2 : s.toList = ([239, 188, 142, 46] : List UInt8)
    · rw [show (s.toList == ([239, 188, 142, 46] : List UInt8)) = true by simpa using s2, jt]
      exact ⟨true, rfl, fun h => by cases h⟩
    · rw [show (s.toList == ([239, 188, 142, 46] : List UInt8)) = false by simpa using s2, hb0]
      refine ⟨b0, rfl, fun _ ho => ?_⟩
      rw [Lib.toList_data] at s1 s2
      rcases ho.2.2 with h | h
      · exact s1 h
      · exact s2 h
  · rw [if_neg hlr, hb0]
    refine ⟨b0, rfl, fun _ ho => hlr ?_⟩
    have := ho.2.1
    unfold Fr.hb at this
    simpa using this
theorem stays_a (m : Int) : Enc.encode m ⟨#[97]⟩ = ⟨#[97]⟩ := by
  by_cases h1 : m = 1
  · unfold Enc.encode; rw [if_pos h1]
  obtain ⟨k1, k2⟩ := kept m ⟨#[97]⟩ h1 (by decide)
  have hE : Enc.encode m ⟨#[97]⟩ = Enc.encodeT m ⟨#[97]⟩ := by
    unfold Enc.encode
    rw [if_neg h1, if_neg (by decide), if_neg (by rintro ⟨_, h⟩; exact absurd h (by decide)), if_neg (by rintro ⟨_, h⟩; exact absurd h (by decide)), if_neg (by rintro ⟨_, h⟩; exact absurd h (by decide)), if_neg (by rintro ⟨_, h⟩; exact absurd h (by decide))]
  have hc := encodeT_code m ⟨#[97]⟩ (by decide)
  have htk : tk (⟨#[97]⟩ : ByteArray).data.toList = [ch 97] := by decide
  have hw : Wd (AO m) (hb m 16777216) (ch 97) = [ch 97] := by
    have hno : ∀ b ∈ Enc.bits, (97 : Int) ∉ b.cs := by decide +kernel
    have hA : AO m 97 = false := by
      have h2 : AM m 97 = false := by
        unfold AM
        cases e : anyC m 97 Enc.bits with
        | false => rfl
        | true =>
          obtain ⟨b, hb1, h2⟩ := List.any_eq_true.1 e
          rw [Bool.and_eq_true] at h2
          exact absurd (List.contains_iff_mem.1 h2.2) (hno b hb1)
      unfold AO AN
      rw [h2]
      simp [takenL, takenR, Enc.isCtl]
    have hS : SgIn (AO m) 97 = false := by
      cases h : SgIn (AO m) 97 with
      | false => rfl
      | true =>
        obtain ⟨c, hc, _, e⟩ := (sgIn_iff _ _).1 h
        have := (sg_all ⟨c, hc⟩).1
        simp only at this
        omega
    rw [wd_ch, hA, if_neg (by decide), hS, if_neg (by decide)]
  rw [htk, code1, hw] at hc
  have hb := bytes_tk' (Enc.encodeT m ⟨#[97]⟩).data.toList
  rw [hc] at hb
  rw [hE]
  apply ByteArray.ext
  apply Array.ext'
  rw [← hb]
  decide
theorem FnNameOne (a0 : Int) (a1 a2 : ByteArray) : ∃ k, laws_FnNameOne.f k a0 a1 a2 = some true := by
  have jt : ∀ k, laws_FnNameOne.j0 (k + 1) a0 a1 a2 true = some true := fun k => by rw [laws_FnNameOne.j0, if_pos rfl]
  have j1t : ∀ k, laws_FnNameOne.j1 (k + 1) a0 a1 a2 true = some true := fun k => by rw [laws_FnNameOne.j1, if_pos rfl]
  refine ⟨4 + 1, ?_⟩
  unfold laws_FnNameOne.f
  by_cases h1 : (a1.size : Int) > 2147483647
  · rw [if_pos h1]; exact jt 4
  rw [if_neg h1]
  by_cases h2 : (a2.size : Int) > 2147483647
  · rw [decide_eq_true h2]; exact jt 4
  rw [decide_eq_false h2, laws_FnNameOne.j0, if_neg (by decide), show (4 : Nat) = 1 + 3 from rfl, short_two 1 a1 a2 (by omega) (by omega), Option.bind_some]
  by_cases hsum : (a1.size : Int) + a2.size ≤ 65536
  · rw [if_pos (by simpa using hsum)]
    obtain ⟨b1, o1, p1⟩ := open_total 3 a0 a1 (by omega)
    obtain ⟨b2, o2, p2⟩ := open_total 3 a0 a2 (by omega)
    rw [show (1 + 3 : Nat) = 3 + 1 from rfl, o1, Option.bind_some]
    cases b1 with
    | true => rw [if_pos rfl]; exact j1t 3
    | false =>
      rw [if_neg (by decide), o2, Option.bind_some]
      cases b2 with
      | true => exact j1t 3
      | false =>
        have hinj := encode_inj a0 a1 a2 (p1 rfl) (p2 rfl)
        have c1 : a1.size ≤ 400000 := by omega
        have c2 : a2.size ≤ 400000 := by omega
        have c3 : (⟨#[97]⟩ : ByteArray).size ≤ 400000 := by decide
        have heq : (((Enc.encode a0 a1).toList == (Enc.encode a0 a2).toList) == (a1.toList == a2.toList)) = true := by
          rw [Lib.toList_data, Lib.toList_data, Lib.toList_data, Lib.toList_data, beq_iff_eq, Bool.eq_iff_iff, beq_iff_eq, beq_iff_eq]
          refine ⟨hinj, fun e => ?_⟩
          have : a1 = a2 := by apply ByteArray.ext; exact Array.ext' e
          rw [this]
        rw [laws_FnNameOne.j1, if_neg (by decide)]
        simp only [impl_NameEncode.f, if_pos c1, if_pos c2, if_pos c3, Option.bind_some, heq, if_true, stays_a]
        rw [Lib.toList_data]
        rfl
  · rw [if_neg (by simpa using hsum)]
    exact j1t 3
theorem FnNameOne_walk (a0 : Int) (a1 a2 : ByteArray) (w : World) (hglob : GlobE w) : Calls Tryd.prog 4 #[.int .u64 a0, .string a1, .string a2] w fun e w' => e = .returned (.bool true) ∧ Below w.heap.size w w' := by
  obtain ⟨k, h⟩ := FnNameOne a0 a1 a2
  exact laws_FnNameOne.calls k a0 a1 a2 true w hglob h
end Go.Proofs.YtlgoghonnnobfaaDoor.Pure

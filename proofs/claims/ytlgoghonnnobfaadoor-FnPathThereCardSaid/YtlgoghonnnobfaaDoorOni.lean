import Derived.Test.YtlgoghonnnobfaaDoorCod
namespace Go.Proofs.YtlgoghonnnobfaaDoor.Out
open Go Go.Lib Go.Proofs.YtlgoghonnnobfaaDoor.Fr Go.Proofs.YtlgoghonnnobfaaDoor.Tok
open Go.Proofs.YtlgoghonnnobfaaDoor.Enc (Bit by' unit encFrom encAll idxE bodyL stopE heads tailsIf tails encodeT encode hexc isCtl sgn lstep lstep4 rstep rstep4 both)
set_option linter.unusedVariables false
set_option linter.unusedSimpArgs false
/-! ### no two names become one -/
theorem wd_j1 (X B : Nat → Bool) (inv : Bool) (r : Nat) (h : X r = true) : Wd (fun x => X x || B x) inv (ch r) = [ch (Sg r)] := by
  rw [wd_ch, if_pos (by rw [h, Bool.true_or])]
theorem wd_j2 (X B : Nat → Bool) (inv : Bool) (r : Nat) (hA : Asc7 (fun x => X x || B x)) (h : SgIn X r = true) : Wd (fun x => X x || B x) inv (ch r) = [ch 8219, ch r] := by
  obtain ⟨c, hc, h1, rfl⟩ := (sgIn_iff X r).1 h
  rw [wd_ch, if_neg (fun g => by have := hA.low _ g; have := (sg_all ⟨c, hc⟩).1; simp only at this; omega), if_pos (.inr ((sgIn_iff _ _).2 ⟨c, hc, by rw [h1, Bool.true_or], rfl⟩))]
theorem wd_j3 (X B : Nat → Bool) (inv : Bool) (t : T) (ht : Form t) (h1 : X t.1 = false) (h2 : SgIn X t.1 = false) : Wd (fun x => X x || B x) inv t = Wd B inv t := by
  rcases ht with ⟨r, hr, rfl⟩ | ⟨b, rfl⟩
  · have e : SgIn (fun x => X x || B x) r = SgIn B r := by
      rw [Bool.eq_iff_iff, sgIn_iff, sgIn_iff]
      constructor
      · rintro ⟨c, hc, h, e⟩
        rcases Bool.or_eq_true _ _ ▸ h with h | h
        · have := (sgIn_iff X r).2 ⟨c, hc, h, e⟩
          rw [show (ch r).1 = r from rfl] at h2
          rw [h2] at this; cases this
        · exact ⟨c, hc, h, e⟩
      · rintro ⟨c, hc, h, e⟩
        exact ⟨c, hc, by rw [h, Bool.or_true], e⟩
    rw [wd_ch, wd_ch, e, show (X r || B r) = B r by rw [show X r = false from h1, Bool.false_or]]
  · rw [wd_bad, wd_bad]
theorem bad_first (m : Int) (b : UInt8) : takenL m (badT b).1 = false ∧ takenR m (badT b).1 = false ∧ SgIn (takenL m) (badT b).1 = false ∧ SgIn (takenR m) (badT b).1 = false := by
  refine ⟨(low_not m 65533 (by decide)).1, (low_not m 65533 (by decide)).2, ?_, ?_⟩
  all_goals
    cases h : SgIn _ (badT b).1 with
    | false => rfl
    | true =>
      obtain ⟨c, hc, _, e⟩ := (sgIn_iff _ _).1 h
      exact absurd e.symm (sg_all ⟨c, hc⟩).2.2.2
theorem codeR_snoc (AM AN : Nat → Bool) (inv : Bool) (t : T) : ∀ L : List T, codeR AM AN inv (L ++ [t]) = L.flatMap (Wd AM inv) ++ Wd AN inv t
  | [] => rfl
  | [a] => by simp [codeR]
  | a :: b :: L => by
    have := codeR_snoc AM AN inv t (b :: L)
    show Wd AM inv a ++ codeR AM AN inv (b :: L ++ [t]) = _
    rw [this]
    simp [List.flatMap_cons, List.append_assoc]
/-- What the tail of a text, and the rest of it, are written as. -/
theorem tail_code (m : Int) (s : ByteArray) : (tk (tailsIf m s).2.data.toList).flatMap (unitT m) ++ tk (tailsIf m s).1.data.toList = codeR (AM m) (AN m) (hb m 16777216) (tk s.data.toList) := by
  have hflat : ∀ L : List T, (∀ t ∈ L, Form t) → L.flatMap (unitT m) = L.flatMap (Wd (AM m) (hb m 16777216)) := by
    intro L
    induction L with
    | nil => intro _; rfl
    | cons t L ih => intro h; rw [List.flatMap_cons, List.flatMap_cons, unitT_wd m t (h t (by simp)), ih fun x hx => h x (by simp [hx])]
  by_cases hs : s.data.toList = []
  · unfold tailsIf
    rw [if_pos hs, hs]
    rfl
  have ht : tailsIf m s = tails m s := by unfold tailsIf; rw [if_neg hs]
  rw [ht]
  rcases List.eq_nil_or_concat (tk s.data.toList) with hl | ⟨L, t, hl⟩
  · rw [tk_step _ hs] at hl; cases hl
  rw [List.concat_eq_append] at hl
  have hform := tk_form s.data.toList
  have hft : Form t := hform t (by rw [hl]; simp)
  have hfL : ∀ x ∈ L, Form x := fun x hx => hform x (by rw [hl]; simp [hx])
  have F := lst_of s t L hft hl
  rw [hl, codeR_snoc]
  rcases tails_word m s t.1 L F with ⟨h1, h2, h3⟩ | ⟨h1, h2, h3, h4⟩ | ⟨h1, h2, h3⟩
  · rcases hft with ⟨r, hr, rfl⟩ | ⟨b, rfl⟩
    · have ho := (sg_all ⟨r, R_low h1⟩).2.2.1
      rw [h2, h3, hflat L hfL]
      congr 1
      have : tk (enc (Sg r)) = [ch (Sg r)] := by have := tk_enc (Sg r) ho []; rwa [List.append_nil, tk_nil] at this
      rw [show (ch r).1 = r from rfl, this]
      exact (wd_j1 (takenR m) (AM m) _ r h1).symm
    · rw [(bad_first m b).2.1] at h1; cases h1
  · rcases hft with ⟨r, hr, rfl⟩ | ⟨b, rfl⟩
    · rw [h3, h4, hflat L hfL]
      congr 1
      have : tk (enc 8219 ++ enc r) = [ch 8219, ch r] := by
        rw [tk_enc 8219 (by decide)]
        have := tk_enc r hr []
        rw [List.append_nil, tk_nil] at this
        rw [this]
      rw [show (ch r).1 = r from rfl, this]
      exact (wd_j2 (takenR m) (AM m) _ r (AN_asc m) h2).symm
    · rw [(bad_first m b).2.2.2] at h2; cases h2
  · rw [h3, tk_nil, List.append_nil, hl, List.flatMap_append, hflat L hfL, List.flatMap_singleton, unitT_wd m t hft]
    congr 1
    exact (wd_j3 (takenR m) (AM m) _ t hft h1 h2).symm
/-- WHAT THE ENCODER WRITES: a word for each character. -/
theorem encodeT_code (m : Int) (s : ByteArray) (hs : s.data.toList ≠ []) : tk (encodeT m s).data.toList = code1 (A1 m) (AM m) (AN m) (AO m) (hb m 16777216) (tk s.data.toList) := by
  have hE : (encodeT m s).data.toList = (heads m s).1.data.toList ++ F m (tailsIf m (heads m s).2).2.data.toList ++ (tailsIf m (heads m s).2).1.data.toList := by
    unfold encodeT
    rw [body_F]
  obtain ⟨P, hP, eP⟩ := (heads_no m s).list
  obtain ⟨Q, hQ, eQ⟩ := (tails_no m (heads m s).2).list
  have hcl : clean (Tok.bytes (Q.map ch)) := by
    cases Q with
    | nil => exact clean_nil
    | cons q Q => rw [List.map_cons, bytes_cons]; exact enc_clean q _
  have h3 : tk (encodeT m s).data.toList = tk (heads m s).1.data.toList ++ codeR (AM m) (AN m) (hb m 16777216) (tk (heads m s).2.data.toList) := by
    rw [← tail_code, hE, List.append_assoc, eP, eQ, tk_chs P (fun x hx => (hP x hx).2), tk_app _ _ hcl, tk_F, tk_chs' P (fun x hx => (hP x hx).2)]
  obtain ⟨t, L, hl⟩ : ∃ t L, tk s.data.toList = t :: L := ⟨_, _, tk_step _ hs⟩
  have hform := tk_form s.data.toList
  have hft : Form t := hform t (by rw [hl]; simp)
  have F := fst_of s t L hl
  rw [h3]
  have first : ∀ w, (∀ L', code1 (A1 m) (AM m) (AN m) (AO m) (hb m 16777216) (t :: L') = (match L' with | [] => Wd (AO m) (hb m 16777216) t | t' :: r => Wd (A1 m) (hb m 16777216) t ++ codeR (AM m) (AN m) (hb m 16777216) (t' :: r))) → Wd (A1 m) (hb m 16777216) t = w → Wd (AO m) (hb m 16777216) t = w → w ++ codeR (AM m) (AN m) (hb m 16777216) L = code1 (A1 m) (AM m) (AN m) (AO m) (hb m 16777216) (t :: L) := by
    intro w _ h1 h2
    cases L with
    | nil => rw [code1, h2, codeR, List.append_nil]
    | cons t' r => rw [code1, h1]
  have triv : ∀ L', code1 (A1 m) (AM m) (AN m) (AO m) (hb m 16777216) (t :: L') = (match L' with | [] => Wd (AO m) (hb m 16777216) t | t' :: r => Wd (A1 m) (hb m 16777216) t ++ codeR (AM m) (AN m) (hb m 16777216) (t' :: r)) := by
    intro L'
    cases L' <;> rfl
  rcases heads_word m s t.1 L F with ⟨h1, h2, h4⟩ | ⟨h1, h2, h4, h5⟩ | ⟨h1, h2, h4⟩
  · rcases hft with ⟨r, hr, rfl⟩ | ⟨b, rfl⟩
    · have ho := (sg_all ⟨r, L_low h1⟩).2.2.1
      have hw : tk (enc (Sg r)) = [ch (Sg r)] := by have := tk_enc (Sg r) ho []; rwa [List.append_nil, tk_nil] at this
      rw [h2, h4, hl, show (ch r).1 = r from rfl, hw]
      exact first _ triv (wd_j1 (takenL m) (AM m) _ r h1) (wd_j1 (takenL m) (AN m) _ r h1)
    · rw [(bad_first m b).1] at h1; cases h1
  · rcases hft with ⟨r, hr, rfl⟩ | ⟨b, rfl⟩
    · have hw : tk (enc 8219 ++ enc r) = [ch 8219, ch r] := by
        rw [tk_enc 8219 (by decide)]
        have := tk_enc r hr []
        rw [List.append_nil, tk_nil] at this
        rw [this]
      rw [h4, h5, hl, show (ch r).1 = r from rfl, hw]
      exact first _ triv (wd_j2 (takenL m) (AM m) _ r (A1_asc m) h2) (wd_j2 (takenL m) (AN m) _ r (AO_asc m) h2)
    · rw [(bad_first m b).2.2.1] at h2; cases h2
  · rw [h4]
    show tk [] ++ codeR (AM m) (AN m) (hb m 16777216) (tk s.data.toList) = _
    rw [tk_nil, List.nil_append, hl]
    have w1 := wd_j3 (takenL m) (AM m) (hb m 16777216) t hft h1 h2
    have w2 := wd_j3 (takenL m) (AN m) (hb m 16777216) t hft h1 h2
    cases L with
    | nil => rw [codeR, code1]; exact w2.symm
    | cons t' r => rw [codeR, code1]; exact congrArg (· ++ _) w1.symm
theorem encodeT_inj (m : Int) (a b : ByteArray) (ha : a.data.toList ≠ []) (hb' : b.data.toList ≠ []) (e : encodeT m a = encodeT m b) : a.data.toList = b.data.toList := by
  have e1 := encodeT_code m a ha
  rw [e, encodeT_code m b hb'] at e1
  have e2 := code1_inj (A1_asc m) (AM_asc m) (AN_asc m) (AO_asc m) _ _ _ (tk_form _) (tk_form _) e1
  rw [← bytes_tk' a.data.toList, ← e2, bytes_tk']
end Go.Proofs.YtlgoghonnnobfaaDoor.Out

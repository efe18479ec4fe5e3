import Derived.Test.YtlgoghonnnobfaaDoorSep
import Derived.Test.YtlgoghonnnobfaaDoorKin
namespace Go.Proofs.YtlgoghonnnobfaaDoor.Rtp
open Go Go.Lib Go.Proofs.YtlgoghonnnobfaaDoor.Fr Go.Proofs.YtlgoghonnnobfaaDoor.Tok Go.Proofs.YtlgoghonnnobfaaDoor.Out Go.Proofs.YtlgoghonnnobfaaDoor.Sdp Go.Proofs.YtlgoghonnnobfaaDoor.Kin
open Go.Proofs.YtlgoghonnnobfaaDoor.Enc (heads tails tailsIf encodeT hexc)
open Go.Proofs.YtlgoghonnnobfaaDoor.Pu (hexd)
set_option linter.unusedVariables false
set_option linter.unusedSimpArgs false
/-! ### there and back: what was written is read as it was (plain Lean, no program in sight) -/
theorem tokens (m : Int) (s : ByteArray) : tk (encodeT m s).data.toList = tk (heads m s).1.data.toList ++ ((tk (tailsIf m (heads m s).2).2.data.toList).flatMap (unitT m) ++ tk (tailsIf m (heads m s).2).1.data.toList) := by
  have hE : (encodeT m s).data.toList = (heads m s).1.data.toList ++ F m (tailsIf m (heads m s).2).2.data.toList ++ (tailsIf m (heads m s).2).1.data.toList := by
    unfold encodeT
    rw [body_F]
  obtain ⟨P, hP, eP⟩ := (heads_no m s).list
  obtain ⟨Q, hQ, eQ⟩ := (tails_no m (heads m s).2).list
  have hcl : clean (Tok.bytes (Q.map ch)) := by
    cases Q with
    | nil => exact clean_nil
    | cons q Q => rw [List.map_cons, bytes_cons]; exact enc_clean q _
  rw [hE, List.append_assoc, eP, eQ, tk_chs P (fun x hx => (hP x hx).2), tk_app _ _ hcl, tk_F, tk_chs' P (fun x hx => (hP x hx).2)]
/-- A word for a character. -/
def Wrd (t : T) (w : List T) : Prop := (t.1 < 128 ∧ w = [ch (Sg t.1)]) ∨ w = [ch 8219, t] ∨ (∃ x y, x < 128 ∧ y < 128 ∧ w = [ch 8219, ch x, ch y]) ∨ (w = [t] ∧ t.1 ≠ 8219)
theorem hex_lt : ∀ n : Fin 16, (hexc n.val).toNat < 128 ∧ hexd (hexc n.val).toNat = some n.val := by decide
theorem so_low {x : Nat} (h : x < 128) : SO x = 128 := by
  unfold SO
  rw [if_neg (by omega), if_neg (by omega), if_neg (by omega)]
theorem unit_wrd (m : Int) (t : T) (ht : Out.Form t) : Wrd t (unitT m t) := by
  rcases ht with ⟨r, hr, rfl⟩ | ⟨b, rfl⟩
  · rw [unitT_wd m _ (.inl ⟨r, hr, rfl⟩), wd_ch]
    split
    · rename_i h
      exact .inl ⟨(AM_asc m).low r h, rfl⟩
    · split
      · exact .inr (.inl rfl)
      · rename_i h
        exact .inr (.inr (.inr ⟨rfl, fun e => h (.inl e)⟩))
  · rw [unitT_bad]
    split
    · exact .inr (.inr (.inl ⟨_, _, (hex_lt ⟨b.toNat / 16, by have := b.toNat_lt; omega⟩).1, (hex_lt ⟨b.toNat % 16, by omega⟩).1, rfl⟩))
    · exact .inr (.inr (.inr ⟨rfl, show (65533 : Nat) ≠ 8219 by decide⟩))
theorem shead_word (m : Int) {t : T} {w : List T} (hw : Wrd t w) (h1 : takenL m t.1 = false) (h2 : takenL m (SO t.1) = false) (Y : List T) : shead m (w ++ Y) = ([], w ++ Y) := by
  have hq : takenL m (SO (ch 8219).1) = false := by rw [show SO (ch 8219).1 = 128 from so_quote, l_none]
  rcases hw with ⟨hlt, rfl⟩ | rfl | ⟨x, y, hx, hy, rfl⟩ | ⟨rfl, hne⟩
  · have h3 : takenL m (SO (ch (Sg t.1)).1) = false := by rw [show SO (ch (Sg t.1)).1 = t.1 from so_sg hlt, h1]
    have h4 : (ch (Sg t.1)).1 ≠ 8219 := (sg_all ⟨t.1, hlt⟩).2.1
    cases Y with
    | nil => rw [List.append_nil, shead, h3, if_neg (by decide)]
    | cons u M => rw [List.cons_append, List.nil_append, shead, h3, if_neg (by decide), if_neg (fun h => h4 h.1)]
  · rw [List.cons_append, List.cons_append, List.nil_append, shead, hq, if_neg (by decide), h2, if_neg (by rintro ⟨_, h⟩; cases h)]
  · have h3 : takenL m (SO (ch x).1) = false := by rw [show SO (ch x).1 = 128 from so_low hx, l_none]
    rw [List.cons_append, List.cons_append, shead, hq, if_neg (by decide), h3, if_neg (by rintro ⟨_, h⟩; cases h)]
  · cases Y with
    | nil => rw [List.append_nil, shead, h2, if_neg (by decide)]
    | cons u M => rw [List.cons_append, List.nil_append, shead, h2, if_neg (by decide), if_neg (fun h => hne h.1)]
/-- The last character of a word. -/
theorem last_word {t : T} {w : List T} (hw : Wrd t w) : ∃ p z, w = p ++ [z] ∧ ((t.1 < 128 ∧ z = ch (Sg t.1)) ∨ z = t ∨ ∃ y, y < 128 ∧ z = ch y) ∧ (z.1 = 8219 → t.1 = 8219) := by
  rcases hw with ⟨hlt, rfl⟩ | rfl | ⟨x, y, hx, hy, rfl⟩ | ⟨rfl, hne⟩
  · exact ⟨[], _, rfl, .inl ⟨hlt, rfl⟩, fun h => absurd h (sg_all ⟨t.1, hlt⟩).2.1⟩
  · exact ⟨[_], _, rfl, .inr (.inl rfl), id⟩
  · exact ⟨[_, _], _, rfl, .inr (.inr ⟨y, hy, rfl⟩), fun h => by have : y = 8219 := h; omega⟩
  · exact ⟨[], _, rfl, .inr (.inl rfl), id⟩
theorem stail_word (m : Int) {t : T} {w : List T} (hw : Wrd t w) (h1 : takenR m t.1 = false) (h2 : takenR m (SO t.1) = false) (Y : List T) : stailR m (Y ++ w).reverse = ([], (Y ++ w).reverse) := by
  obtain ⟨p, z, rfl, hz, _⟩ := last_word hw
  have h3 : takenR m (SO z.1) = false := by
    rcases hz with ⟨hlt, rfl⟩ | rfl | ⟨y, hy, rfl⟩
    · rw [show SO (ch (Sg t.1)).1 = t.1 from so_sg hlt, h1]
    · exact h2
    · rw [show SO (ch y).1 = 128 from so_low hy, r_none]
  rw [← List.append_assoc, List.reverse_append, List.reverse_singleton, List.singleton_append]
  cases (Y ++ p).reverse with
  | nil => rw [stailR, h3, if_neg (by decide)]
  | cons q M => rw [stailR, h3, if_neg (by decide)]
/-- The middle. -/
theorem dl_word (m : Int) (t : T) (ht : Out.Form t) (X : List T) : dl m (unitT m t ++ X) = t.2 ++ dl m X := by
  rcases ht with ⟨r, hr, rfl⟩ | ⟨b, rfl⟩
  · rw [unitT_wd m _ (.inl ⟨r, hr, rfl⟩), wd_ch]
    by_cases h1 : AM m r = true
    · have hlt := (AM_asc m).low r h1
      rw [if_pos h1, List.cons_append, List.nil_append, dl_cons, stp, if_neg (show ¬ (ch (Sg r)).1 = 8219 from (sg_all ⟨r, hlt⟩).2.1), if_pos (by rw [show SO (ch (Sg r)).1 = r from so_sg hlt]; exact h1), show SO (ch (Sg r)).1 = r from so_sg hlt]
      rfl
    rw [if_neg h1]
    by_cases h2 : r = 8219 ∨ SgIn (AM m) r = true
    · rw [if_pos h2, List.cons_append, List.cons_append, List.nil_append, dl_cons, stp, if_pos (show (ch 8219).1 = 8219 from rfl), qst, if_pos (by rwa [in_so (AM_asc m)] at h2)]
      rfl
    · rw [if_neg h2, List.cons_append, List.nil_append, dl_cons, stp, if_neg (show ¬ (ch r).1 = 8219 from fun h => h2 (.inl h)), if_neg (fun h => h2 (.inr (by rw [in_so (AM_asc m)]; exact h)))]
      rfl
  · rw [unitT_bad]
    by_cases h1 : hb m 16777216 = true
    · have x1 := hex_lt ⟨b.toNat / 16, by have := b.toNat_lt; omega⟩
      have x2 := hex_lt ⟨b.toNat % 16, by omega⟩
      simp only at x1 x2
      rw [if_pos h1, quotedT, List.cons_append, List.cons_append, List.cons_append, List.nil_append, dl_cons, stp, if_pos (show (ch 8219).1 = 8219 from rfl), qst, if_neg]
      · rw [show hx m (ch (hexc (b.toNat / 16)).toNat) (ch (hexc (b.toNat % 16)).toNat :: X) = some b.toNat from by
          unfold hx
          rw [if_pos h1, show hexd (ch (hexc (b.toNat / 16)).toNat).1 = some (b.toNat / 16) from x1.2, Option.bind_some, List.head?_cons, Option.bind_some, show hexd (ch (hexc (b.toNat % 16)).toNat).1 = some (b.toNat % 16) from x2.2, Option.map_some]
          congr 1
          omega]
        simp [badT]
      · rintro (h | h)
        · have : (hexc (b.toNat / 16)).toNat = 8219 := h
          omega
        · rw [show SO (ch (hexc (b.toNat / 16)).toNat).1 = 128 from so_low x1.1, am_none] at h
          cases h
    · rw [if_neg h1, List.cons_append, List.nil_append, dl_cons, stp, if_neg (show ¬ (badT b).1 = 8219 from show ¬ (65533 : Nat) = 8219 by decide), if_neg (by rw [show SO (badT b).1 = 128 from so_bad, am_none]; decide)]
      rfl
theorem dl_words (m : Int) : ∀ L : List T, (∀ t ∈ L, Out.Form t) → dl m (L.flatMap (unitT m)) = Tok.bytes L
  | [], _ => rfl
  | t :: L, h => by rw [List.flatMap_cons, dl_word m t (h t (by simp)), bytes_cons, dl_words m L fun x hx => h x (by simp [hx])]
/-- Is it open whether a name is read back: a quote stands ahead of a last character that a bit of the right takes. -/
def quoteOpen (m : Int) (L : List T) : Prop := ∃ M q t, L = M ++ [q, t] ∧ q.1 = 8219 ∧ takenR m t.1 = true
theorem tk_one {r : Nat} (h : ok r) : tk (enc r) = [ch r] := by have := tk_enc r h []; rwa [List.append_nil, tk_nil] at this
theorem tk_two {r : Nat} (h : ok r) : tk (enc 8219 ++ enc r) = [ch 8219, ch r] := by rw [tk_enc 8219 (by decide), tk_one h]
theorem form_ch {t : T} (ht : Out.Form t) (h : t.1 ≠ 65533) : ok t.1 ∧ t = ch t.1 := by
  rcases ht with ⟨r, hr, rfl⟩ | ⟨b, rfl⟩
  · exact ⟨hr, rfl⟩
  · exact absurd rfl h
/-- The tail. -/
theorem tail_back (m : Int) (R : List T) (hf : ∀ t ∈ R, Out.Form t) (hno : ¬ quoteOpen m R) :
    ∃ Z b, (stailR m ((etailR m R.reverse).2.reverse.flatMap (unitT m) ++ tk (etailR m R.reverse).1).reverse) = (b, Z) ∧ dl m Z.reverse ++ b = Tok.bytes R := by
  rcases List.eq_nil_or_concat R with rfl | ⟨R0, t, rfl⟩
  · exact ⟨[], [], rfl, rfl⟩
  rw [List.concat_eq_append] at hf hno ⊢
  have hft : Out.Form t := hf t (by simp)
  have hf0 : ∀ x ∈ R0, Out.Form x := fun x hx => hf x (by simp [hx])
  have hbt : Tok.bytes (R0 ++ [t]) = Tok.bytes R0 ++ t.2 := by rw [bytes_append, bytes_cons, bytes_nil, List.append_nil]
  rw [show (R0 ++ [t]).reverse = t :: R0.reverse from by simp, etailR]
  by_cases c1 : takenR m t.1 = true
  · have hlt := R_low c1
    have ho := (sg_all ⟨t.1, hlt⟩).2.2.1
    obtain ⟨hok, htc⟩ := form_ch hft (by omega)
    have hS : SO (ch (Sg t.1)).1 = t.1 := so_sg hlt
    have he : enc t.1 = t.2 := (congrArg Prod.snd htc).symm
    rw [if_pos c1]
    simp only [List.reverse_reverse]
    rw [tk_one ho, List.reverse_append, List.reverse_singleton, List.singleton_append]
    cases hM : (R0.flatMap (unitT m)).reverse with
    | nil =>
      rw [stailR, hS, if_pos c1]
      refine ⟨_, _, rfl, ?_⟩
      rw [hbt, ← dl_words m R0 hf0, show R0.flatMap (unitT m) = [] from by simpa using congrArg List.reverse hM, he]
      rfl
    | cons q M =>
      rw [stailR, hS, if_pos c1, if_neg]
      · refine ⟨_, _, rfl, ?_⟩
        rw [← hM, List.reverse_reverse, dl_words m R0 hf0, hbt, he]
      · intro hq
        rcases List.eq_nil_or_concat R0 with rfl | ⟨R1, u, rfl⟩
        · cases hM
        · rw [List.concat_eq_append] at hM hno hf0
          obtain ⟨p, z, hz1, _, hz2⟩ := last_word (unit_wrd m u (hf0 u (by simp)))
          rw [List.flatMap_append, List.flatMap_singleton, hz1, ← List.append_assoc, List.reverse_append, List.reverse_singleton, List.singleton_append] at hM
          injection hM with h1 h2
          exact hno ⟨R1, u, t, by simp, hz2 (by rw [h1]; exact hq), c1⟩
  · rw [if_neg c1]
    by_cases c2 : takenR m (SO t.1) = true
    · have hne : t.1 ≠ 65533 := by
        intro e
        rw [e, so_bad, r_none] at c2
        cases c2
      obtain ⟨hok, htc⟩ := form_ch hft hne
      have he : t.2 = enc t.1 := congrArg Prod.snd htc
      rw [if_pos c2]
      simp only [List.reverse_reverse]
      rw [he, tk_two hok, ← htc, List.reverse_append, show ([ch 8219, t] : List T).reverse = [t, ch 8219] from rfl, List.cons_append, List.cons_append, List.nil_append, stailR, if_pos c2, if_pos (show (ch 8219).1 = 8219 from rfl)]
      refine ⟨_, _, rfl, ?_⟩
      rw [List.reverse_reverse, dl_words m R0 hf0, hbt]
    · rw [if_neg c2]
      simp only [List.reverse_cons, List.reverse_reverse, tk_nil, List.append_nil]
      rw [List.flatMap_append, List.flatMap_singleton, stail_word m (unit_wrd m t hft) (by simpa using c1) (by simpa using c2)]
      refine ⟨_, _, rfl, ?_⟩
      rw [List.reverse_reverse, List.append_nil]
      have := dl_words m (R0 ++ [t]) hf
      rw [List.flatMap_append, List.flatMap_singleton] at this
      exact this
theorem word_ahead (m : Int) (t : T) (L : List T) (hf : ∀ x ∈ t :: L, Out.Form x) : ∃ w Y, Wrd t w ∧ (etailR m (t :: L).reverse).2.reverse.flatMap (unitT m) ++ tk (etailR m (t :: L).reverse).1 = w ++ Y := by
  have hft : Out.Form t := hf t (by simp)
  rcases List.eq_nil_or_concat L with rfl | ⟨L0, u, rfl⟩
  · rw [List.reverse_singleton, etailR]
    by_cases c1 : takenR m t.1 = true
    · have hlt := R_low c1
      rw [if_pos c1]
      exact ⟨[ch (Sg t.1)], [], .inl ⟨hlt, rfl⟩, by rw [tk_one (sg_all ⟨t.1, hlt⟩).2.2.1]; rfl⟩
    · rw [if_neg c1]
      by_cases c2 : takenR m (SO t.1) = true
      · have hne : t.1 ≠ 65533 := by
          intro e
          rw [e, so_bad, r_none] at c2
          cases c2
        obtain ⟨hok, htc⟩ := form_ch hft hne
        rw [if_pos c2]
        refine ⟨[ch 8219, t], [], .inr (.inl rfl), ?_⟩
        simp only
        rw [show t.2 = enc t.1 from congrArg Prod.snd htc, tk_two hok, ← htc]
        rfl
      · rw [if_neg c2]
        exact ⟨unitT m t, [], unit_wrd m t hft, by simp [tk_nil]⟩
  · rw [List.concat_eq_append, ← List.cons_append, List.reverse_append, List.reverse_singleton, List.singleton_append, etailR]
    by_cases c1 : takenR m u.1 = true
    · rw [if_pos c1]
      simp only [List.reverse_reverse, List.flatMap_cons, List.append_assoc]
      exact ⟨_, _, unit_wrd m t hft, rfl⟩
    · rw [if_neg c1]
      by_cases c2 : takenR m (SO u.1) = true
      · rw [if_pos c2]
        simp only [List.reverse_reverse, List.flatMap_cons, List.append_assoc]
        exact ⟨_, _, unit_wrd m t hft, rfl⟩
      · rw [if_neg c2]
        simp only [List.reverse_cons, List.reverse_append, List.reverse_reverse, List.reverse_nil, List.nil_append, List.cons_append, List.flatMap_cons, List.append_assoc]
        exact ⟨_, _, unit_wrd m t hft, rfl⟩
theorem nameT_back (m : Int) (s : ByteArray) (hs : s.data.toList ≠ []) (hno : ¬ quoteOpen m (tk s.data.toList)) : nameD m (tk (encodeT m s).data.toList) = s.data.toList := by
  obtain ⟨h1, h2⟩ := heads_tk m s hs
  obtain ⟨t1, t2⟩ := tails_tk m (heads m s).2
  rw [tokens, h1, t1, t2, h2]
  have hb := bytes_tk' s.data.toList
  have hf := tk_form s.data.toList
  obtain ⟨t, L, hl⟩ : ∃ t L, tk s.data.toList = t :: L := ⟨_, _, tk_step _ hs⟩
  rw [hl] at hf hno hb ⊢
  have hft : Out.Form t := hf t (by simp)
  have hno' : ¬ quoteOpen m L := fun ⟨M, q, u, e, g1, g2⟩ => hno ⟨t :: M, q, u, by rw [e]; rfl, g1, g2⟩
  rw [bytes_cons] at hb
  rw [← hb, ehead]
  unfold nameD
  by_cases c1 : takenL m t.1 = true
  · have hlt := L_low c1
    obtain ⟨hok, htc⟩ := form_ch hft (by omega)
    obtain ⟨Z, b, hz, hzb⟩ := tail_back m L (fun x hx => hf x (by simp [hx])) hno'
    rw [if_pos c1]
    simp only
    rw [tk_one (sg_all ⟨t.1, hlt⟩).2.2.1]
    have hsh : ∀ X, shead m ([ch (Sg t.1)] ++ X) = (t.2, X) := by
      intro X
      have hS : SO (ch (Sg t.1)).1 = t.1 := so_sg hlt
      have he : enc t.1 = t.2 := (congrArg Prod.snd htc).symm
      cases X with
      | nil => rw [List.append_nil, shead, hS, if_pos c1, he]
      | cons u M => rw [List.cons_append, List.nil_append, shead, hS, if_pos c1, he]
    rw [hsh, hz, List.append_assoc, hzb]
  rw [if_neg c1]
  by_cases c2 : takenL m (SO t.1) = true
  · have hne : t.1 ≠ 65533 := by
      intro e
      rw [e, so_bad, l_none] at c2
      cases c2
    obtain ⟨hok, htc⟩ := form_ch hft hne
    obtain ⟨Z, b, hz, hzb⟩ := tail_back m L (fun x hx => hf x (by simp [hx])) hno'
    rw [if_pos c2]
    simp only
    rw [show t.2 = enc t.1 from congrArg Prod.snd htc, tk_two hok, ← htc, List.cons_append, List.cons_append, List.nil_append, shead, if_neg (by rw [show SO (ch 8219).1 = 128 from so_quote, l_none]; decide), if_pos ⟨rfl, c2⟩]
    simp only
    rw [hz, List.append_assoc, hzb, ← show t.2 = enc t.1 from congrArg Prod.snd htc]
  · rw [if_neg c2]
    simp only
    rw [tk_nil, List.nil_append]
    obtain ⟨w, Y, hw, hY⟩ := word_ahead m t L hf
    obtain ⟨Z, b, hz, hzb⟩ := tail_back m (t :: L) hf hno
    have hsh := shead_word m hw (by simpa using c1) (by simpa using c2) Y
    rw [← hY] at hsh
    rw [hsh]
    simp only
    rw [hz, List.nil_append, hzb, bytes_cons]
theorem ba {a b : ByteArray} (h : a.data.toList = b.data.toList) : a = b := by apply ByteArray.ext; exact Array.ext' h
theorem dec_dot {m : Int} (h1 : m ≠ 1) (hD : hb m 33554432 = true) (s : ByteArray) (i : List UInt8) (hi : (i = [46] ∧ s.data.toList = [239, 188, 142]) ∨ (i = [46, 46] ∧ s.data.toList = [239, 188, 142, 239, 188, 142]) ∨ (i = [239, 188, 142] ∧ s.data.toList = [226, 128, 155, 239, 188, 142]) ∨ (i = [239, 188, 142, 239, 188, 142] ∧ s.data.toList = [226, 128, 155, 239, 188, 142, 226, 128, 155, 239, 188, 142])) : (Dec.decode m s).data.toList = i := by
  unfold Dec.decode
  rw [if_neg h1]
  rcases hi with ⟨rfl, h⟩ | ⟨rfl, h⟩ | ⟨rfl, h⟩ | ⟨rfl, h⟩
  · rw [if_pos ⟨hD, h⟩]
  · rw [if_neg (by rw [h]; simp), if_pos ⟨hD, h⟩]
  · rw [if_neg (by rw [h]; simp), if_neg (by rw [h]; simp), if_pos ⟨hD, h⟩]
  · rw [if_neg (by rw [h]; simp), if_neg (by rw [h]; simp), if_neg (by rw [h]; simp), if_pos ⟨hD, h⟩]
theorem dec_empty (m : Int) (s : ByteArray) (h : s.data.toList = []) : (Dec.decode m s).data.toList = [] := by
  have hs : s = ⟨#[]⟩ := ba h
  subst hs
  unfold Dec.decode
  split
  · rfl
  rw [if_neg (by simp), if_neg (by simp), if_neg (by simp), if_neg (by simp)]
  have hd : Dec.dheads m ⟨#[]⟩ = (⟨#[]⟩, ⟨#[]⟩) := by
    unfold Dec.dheads
    rw [show (decodeGo (⟨#[]⟩ : ByteArray)).1 = 65533 from rfl, (dleft_form m 65533).1, so_bad, l_none, if_neg (by decide)]
    simp
  obtain ⟨t1, t2⟩ := dtails_tk m ⟨#[]⟩
  unfold Dec.decodeT
  rw [hd]
  simp only
  rw [body_D, t1, t2]
  rfl
/-- THERE AND BACK. -/
theorem decode_encode (m : Int) (s : ByteArray) (h1 : ¬ dotOpen m s.data.toList) (h2 : ¬ quoteOpen m (tk s.data.toList)) : Dec.decode m (Enc.encode m s) = s := by
  apply ba
  by_cases hm : m = 1
  · unfold Enc.encode Dec.decode
    rw [if_pos hm, if_pos hm]
  have inj : ∀ i : ByteArray, Dots i.data.toList → (Enc.encode m s).data.toList = (Enc.encode m i).data.toList → s.data.toList = i.data.toList := by
    intro i hi e
    refine encode_inj m s i h1 ?_ e
    rintro ⟨_, _, h⟩
    rcases hi with g | g | g | g
    all_goals (rw [g] at h; simp at h)
  rcases enc_kinds m s hm with ⟨a0, a1⟩ | ⟨a0, aD, ak⟩ | ⟨a0, a1, a2⟩
  · rw [a0]; exact dec_empty m _ a1
  · have e46 : enc 65294 = [239, 188, 142] := by decide
    have e8 : enc 8219 = [226, 128, 155] := by decide
    have hb' := bytes_tk' (Enc.encode m s).data.toList
    refine dec_dot hm aD _ _ ?_
    rcases ak with ⟨x, h⟩ | ⟨x, h⟩ | ⟨x, h⟩ | ⟨x, h⟩
    all_goals
      rw [h] at hb'
      simp only [List.cons_append, List.nil_append, bytes_cons, bytes_nil, ch, e46, e8, List.append_nil] at hb'
      rw [x, ← hb']
      simp
  · have enot : ∀ i : List UInt8, hb m 33554432 = true → Dots i → (Enc.encode m s).data.toList ≠ (Enc.encode m ⟨i.toArray⟩).data.toList := fun i hD hi e => by
      have := inj ⟨i.toArray⟩ (by simpa using hi) e
      refine a2 hD ?_
      rw [this]
      simpa using hi
    have k1 : hb m 33554432 = true → (Enc.encode m ⟨[46].toArray⟩).data.toList = [239, 188, 142] := fun hD => by
      unfold Enc.encode; rw [if_neg hm, if_neg (by simp), if_pos ⟨hD, rfl⟩]
    have k2 : hb m 33554432 = true → (Enc.encode m ⟨[46, 46].toArray⟩).data.toList = [239, 188, 142, 239, 188, 142] := fun hD => by
      unfold Enc.encode; rw [if_neg hm, if_neg (by simp), if_neg (by simp), if_pos ⟨hD, rfl⟩]
    have k3 : hb m 33554432 = true → (Enc.encode m ⟨[239, 188, 142].toArray⟩).data.toList = [226, 128, 155, 239, 188, 142] := fun hD => by
      unfold Enc.encode; rw [if_neg hm, if_neg (by simp), if_neg (by simp), if_neg (by simp), if_pos ⟨hD, rfl⟩]
    have k4 : hb m 33554432 = true → (Enc.encode m ⟨[239, 188, 142, 239, 188, 142].toArray⟩).data.toList = [226, 128, 155, 239, 188, 142, 226, 128, 155, 239, 188, 142] := fun hD => by
      unfold Enc.encode; rw [if_neg hm, if_neg (by simp), if_neg (by simp), if_neg (by simp), if_neg (by simp), if_pos ⟨hD, rfl⟩]
    have hdec : Dec.decode m (Enc.encode m s) = Dec.decodeT m (Enc.encode m s) := by
      unfold Dec.decode
      rw [if_neg hm, if_neg, if_neg, if_neg, if_neg]
      · rintro ⟨hD, e⟩
        exact enot _ hD (.inr (.inr (.inr rfl))) (e.trans (k4 hD).symm)
      · rintro ⟨hD, e⟩
        exact enot _ hD (.inr (.inr (.inl rfl))) (e.trans (k3 hD).symm)
      · rintro ⟨hD, e⟩
        exact enot _ hD (.inr (.inl rfl)) (e.trans (k2 hD).symm)
      · rintro ⟨hD, e⟩
        exact enot _ hD (.inl rfl) (e.trans (k1 hD).symm)
    rw [hdec, a1, decodeT_tk m _ (encT_ne m s a0)]
    exact nameT_back m s a0 h2
end Go.Proofs.YtlgoghonnnobfaaDoor.Rtp

import Derived.Test.YtlgoghonnnobfaaDoorMt
namespace Go.Proofs.YtlgoghonnnobfaaDoor.Out
open Go Go.Lib Go.Proofs.YtlgoghonnnobfaaDoor.Fr Go.Proofs.YtlgoghonnnobfaaDoor.Tok
open Go.Proofs.YtlgoghonnnobfaaDoor.Enc (Bit by' unit encFrom encAll idxE bodyL stopE heads tailsIf tails encodeT encode hexc isCtl sgn lstep lstep4 rstep rstep4 both)
set_option linter.unusedVariables false
set_option linter.unusedSimpArgs false
/-! ### what the encoder writes, character by character (plain Lean, no program in sight) -/
abbrev T := Nat × List UInt8
def byR (m : Int) (r : Nat) : List Bit → List Nat
  | [] => [r]
  | b :: t => if hb m b.f = true ∧ (r : Int) ∈ b.cs then [((r : Int) + b.off).toNat] else if hb m b.f = true ∧ (r : Int) ∈ b.ds then [8219, r] else byR m r t
def unitR (m : Int) (r : Nat) : List Nat := if r = 0 then [9216] else if r = 9216 ∨ r = 8219 then [8219, r] else byR m r Enc.bits
def quotedT (b : UInt8) : List T := [ch 8219, ch (hexc (b.toNat / 16)).toNat, ch (hexc (b.toNat % 16)).toNat]
def unitT (m : Int) (t : T) : List T := if t.1 = 65533 ∧ t.2.length = 1 then (if hb m 16777216 = true then quotedT (t.2.headD 0) else [t]) else (unitR m t.1).map ch
theorem hex_all : ∀ n : Fin 16, enc (hexc n.val).toNat = [hexc n.val] ∧ ok (hexc n.val).toNat ∧ (hexc n.val).toNat ≠ 0 ∧ (hexc n.val).toNat ≠ 32 ∧ (hexc n.val).toNat ≠ 46 ∧ (hexc n.val).toNat ≠ 126 ∧ isCtl (hexc n.val).toNat = false ∧ (∀ b ∈ Enc.bits, ((hexc n.val).toNat : Int) ∉ b.cs) := by decide +kernel
theorem quoted_T (b : UInt8) : Tok.bytes (quotedT b) = Enc.quoted b := by
  have h1 := (hex_all ⟨b.toNat / 16, by have := b.toNat_lt; omega⟩).1
  have h2 := (hex_all ⟨b.toNat % 16, by omega⟩).1
  have h3 : enc 8219 = [226, 128, 155] := by decide
  simp only at h1 h2
  simp only [quotedT, bytes_cons, bytes_nil, ch, h1, h2, h3, Enc.quoted, List.append_nil, List.cons_append, List.nil_append]
theorem off_all : ∀ b ∈ Enc.bits, 0 ≤ b.off ∧ (∀ c ∈ b.cs, ok (c + b.off).toNat ∧ 128 ≤ (c + b.off).toNat) ∧ (∀ d ∈ b.ds, 128 ≤ d) := by decide +kernel
theorem by_R (m : Int) (r : Nat) : ∀ l : List Bit, (∀ b ∈ l, 0 ≤ b.off) → by' m (r : Int) l = Tok.bytes ((byR m r l).map ch)
  | [], _ => by simp [by', byR, bytes_cons, bytes_nil, ch, enc]
  | b :: t, h => by
    have h0 := h b (by simp)
    rw [by', byR]
    split
    · simp only [List.map_cons, List.map_nil, bytes_cons, bytes_nil, ch, enc, List.append_nil]
      congr 1
      omega
    · split
      · simp only [List.map_cons, List.map_nil, bytes_cons, bytes_nil, ch, enc, List.append_nil]
        rfl
      · exact by_R m r t fun c hc => h c (by simp [hc])
theorem byR_prop (m : Int) (r : Nat) (hr : ok r) : ∀ l : List Bit, (∀ b ∈ l, b ∈ Enc.bits) → byR m r l ≠ [] ∧ ∀ x ∈ byR m r l, ok x ∧ (128 ≤ x ∨ (x = r ∧ ∀ b ∈ l, hb m b.f = true → (r : Int) ∉ b.cs))
  | [], _ => ⟨by simp [byR], fun x hx => by
    simp only [byR, List.mem_singleton] at hx
    subst hx
    exact ⟨hr, .inr ⟨rfl, fun b hb => by cases hb⟩⟩⟩
  | b :: t, h => by
    obtain ⟨o1, o2, o3⟩ := off_all b (h b (by simp))
    rw [byR]
    split
    · rename_i hc
      refine ⟨by simp, fun x hx => ?_⟩
      rw [List.mem_singleton.1 hx]
      exact ⟨(o2 _ hc.2).1, .inl (o2 _ hc.2).2⟩
    · rename_i hc
      split
      · rename_i hd
        refine ⟨by simp, fun x hx => ?_⟩
        have := o3 _ hd.2
        simp only [List.mem_cons, List.not_mem_nil, or_false] at hx
        rcases hx with rfl | rfl
        · exact ⟨by decide, .inl (by decide)⟩
        · exact ⟨hr, .inl (by omega)⟩
      · obtain ⟨i1, i2⟩ := byR_prop m r hr t fun c hc => h c (by simp [hc])
        refine ⟨i1, fun x hx => ?_⟩
        obtain ⟨j1, j2⟩ := i2 x hx
        refine ⟨j1, j2.imp id fun ⟨e, g⟩ => ⟨e, fun c hcm hon => ?_⟩⟩
        rcases List.mem_cons.1 hcm with rfl | hcm
        · exact fun hm => hc ⟨hon, hm⟩
        · exact g c hcm hon
theorem unitR_prop (m : Int) (r : Nat) (hr : ok r) : unitR m r ≠ [] ∧ ∀ x ∈ unitR m r, ok x ∧ (128 ≤ x ∨ (x = r ∧ r ≠ 0 ∧ ∀ b ∈ Enc.bits, hb m b.f = true → (r : Int) ∉ b.cs)) := by
  unfold unitR
  split
  · exact ⟨by simp, fun x hx => by rw [List.mem_singleton.1 hx]; exact ⟨by decide, .inl (by decide)⟩⟩
  · split
    · rename_i h
      refine ⟨by simp, fun x hx => ?_⟩
      simp only [List.mem_cons, List.not_mem_nil, or_false] at hx
      rcases hx with rfl | rfl
      · exact ⟨by decide, .inl (by decide)⟩
      · exact ⟨hr, .inl (by omega)⟩
    · rename_i h0 _
      obtain ⟨i1, i2⟩ := byR_prop m r hr Enc.bits fun _ h => h
      exact ⟨i1, fun x hx => ⟨(i2 x hx).1, (i2 x hx).2.imp id fun g => ⟨g.1, h0, g.2⟩⟩⟩
theorem enc_three : (enc 65533).length = 3 := by decide
theorem ch_not_bad (r : Nat) : ¬ ((ch r).1 = 65533 ∧ (ch r).2.length = 1) := by
  rintro ⟨h1, h2⟩
  have : r = 65533 := h1
  subst this
  rw [show (ch 65533).2.length = 3 from enc_three] at h2
  cases h2
theorem unitT_ch (m : Int) (r : Nat) : unitT m (ch r) = (unitR m r).map ch := by rw [unitT, if_neg (ch_not_bad r)]; rfl
theorem unitT_bad (m : Int) (b : UInt8) : unitT m (badT b) = if hb m 16777216 = true then quotedT b else [badT b] := by rw [unitT, if_pos ⟨rfl, rfl⟩]; rfl
/-- What stands from a place on is written as. -/
def F (m : Int) (l : List UInt8) : List UInt8 := Tok.bytes ((tk l).flatMap (unitT m))
theorem unit_ok (m : Int) (s : ByteArray) (pos r : Nat) (hr : ok r) (h : Utf8.decode s pos = (r, (enc r).length)) : unit m s pos = Tok.bytes ((unitR m r).map ch) := by
  unfold unit unitR
  rw [h]
  simp only
  split
  · subst_vars; decide
  · split
    · simp only [List.map_cons, List.map_nil, bytes_cons, bytes_nil, ch, enc, List.append_nil]
      rfl
    · rw [if_neg (by rintro ⟨rfl, h2⟩; rw [enc_three] at h2; cases h2)]
      exact by_R m r Enc.bits fun b hb => (off_all b hb).1
theorem encFrom_F (m : Int) (s : ByteArray) : ∀ f pos, s.size ≤ pos + f → encFrom m s f pos = F m (s.data.toList.drop pos)
  | 0, pos, h => by
    rw [List.drop_eq_nil_of_le (show s.data.toList.length ≤ pos from h)]
    rfl
  | f + 1, pos, h => by
    rw [encFrom]
    split
    · rename_i hp
      have hne : s.data.toList.drop pos ≠ [] := by
        intro e
        have := congrArg List.length e
        rw [List.length_drop] at this
        have hl : s.data.toList.length = s.size := rfl
        rw [hl] at this
        simp at this
        omega
      have hw := Enc.dec_pos s pos hp
      rw [encFrom_F m s f _ (by omega), ← List.drop_drop]
      have hd := decodeL_drop s pos
      unfold F
      rcases tk_head _ hne with ⟨b, t, e, hdec, htk⟩ | ⟨r, t, hr, e, hdec, htk⟩
      · rw [htk, List.flatMap_cons, bytes_append, unitT_bad]
        have hdec' : Utf8.decode s pos = (65533, 1) := by rw [← hd, hdec]
        have hb : s.get! pos = b := by
          rw [← getD_get!', List.getD_eq_getElem?_getD, ← List.head?_drop, e]
          rfl
        rw [hdec']
        congr 1
        · unfold unit
          rw [hdec', hb]
          simp only
          rw [if_neg (by decide), if_neg (by decide), if_pos (by decide)]
          split
          · rw [quoted_T]
          · rfl
        · rw [e]; rfl
      · rw [htk, List.flatMap_cons, bytes_append, unitT_ch]
        have hdec' : Utf8.decode s pos = (r, (enc r).length) := by rw [← hd, hdec]
        rw [unit_ok m s pos r hr hdec', hdec']
        simp only
        rw [e, List.drop_left]
    · rename_i hp
      rw [List.drop_eq_nil_of_le (show s.data.toList.length ≤ pos from by have hl : s.data.toList.length = s.size := rfl; omega)]
      rfl
theorem encAll_F (m : Int) (s : ByteArray) : encAll m s = F m s.data.toList := by
  unfold encAll
  rw [encFrom_F m s s.size 0 (by omega), List.drop_zero]
/-! ### up to where the encoder begins to change -/
theorem hit_by (m : Int) (r : Nat) : ∀ l : List Bit, Enc.hit m (r : Int) (l.map both) = false → byR m r l = [r]
  | [], _ => rfl
  | b :: t, h => by
    rw [List.map_cons, both, Enc.hit] at h
    split at h
    · cases h
    · rename_i hn
      rw [byR, if_neg (fun g => hn ⟨g.1, List.mem_append_left _ g.2⟩), if_neg (fun g => hn ⟨g.1, List.mem_append_right _ g.2⟩)]
      exact hit_by m r t h
theorem F_step (m : Int) (l : List UInt8) (hne : l ≠ []) (hst : stopE m ((decodeL l).1 : Int) = false) : F m l = l.take (decodeL l).2 ++ F m (l.drop (decodeL l).2) := by
  unfold stopE at hst
  split at hst
  · cases hst
  rename_i hn
  rcases tk_head l hne with ⟨b, t, e, hdec, htk⟩ | ⟨r, t, hr, e, hdec, htk⟩
  · rw [hdec] at hn
    exact absurd (.inr (.inr (.inr rfl))) hn
  · rw [hdec] at hn hst ⊢
    simp only at hn hst ⊢
    unfold F
    have hu : unitR m r = [r] := by
      unfold unitR
      rw [if_neg (by omega), if_neg (by omega)]
      exact hit_by m r _ hst
    rw [htk, List.flatMap_cons, bytes_append, unitT_ch, hu, e, List.take_left, List.drop_left]
    simp [bytes_cons, bytes_nil, ch]
theorem idx_F (m : Int) (s : ByteArray) : ∀ f pos, s.size ≤ pos + f → (idxFuncFrom (fun x => stopE m (x : Int)) true s f pos = -1 → F m (s.data.toList.drop pos) = s.data.toList.drop pos) ∧ (∀ i : Nat, idxFuncFrom (fun x => stopE m (x : Int)) true s f pos = (i : Int) → F m (s.data.toList.drop pos) = (s.data.toList.drop pos).take (i - pos) ++ F m (s.data.toList.drop i) ∧ pos ≤ i)
  | 0, pos, h => ⟨fun _ => by rw [List.drop_eq_nil_of_le (show s.data.toList.length ≤ pos from h)]; rfl, fun i hi => by unfold idxFuncFrom at hi; omega⟩
  | f + 1, pos, h => by
    have hl : s.data.toList.length = s.size := rfl
    unfold idxFuncFrom
    by_cases hp : pos < s.size
    · rw [if_pos hp]
      have hne : s.data.toList.drop pos ≠ [] := by
        intro e
        have := congrArg List.length e
        rw [List.length_drop, hl] at this
        simp at this
        omega
      have hd := decodeL_drop s pos
      have hw := Enc.dec_pos s pos hp
      by_cases hst : stopE m ((Utf8.decode s pos).1 : Int) = true
      · rw [if_pos hst]
        refine ⟨fun e => by omega, fun i hi => ?_⟩
        have : i = pos := by omega
        subst this
        simp
      · rw [if_neg hst]
        have hst' : stopE m ((decodeL (s.data.toList.drop pos)).1 : Int) = false := by rw [hd]; simpa using hst
        have hF := F_step m _ hne hst'
        obtain ⟨i1, i2⟩ := idx_F m s f (pos + (Utf8.decode s pos).2) (by omega)
        rw [hd, List.drop_drop] at hF
        refine ⟨fun e => ?_, fun i hi => ?_⟩
        · rw [hF, i1 e, ← List.drop_drop, List.take_append_drop]
        · obtain ⟨j1, j2⟩ := i2 i hi
          refine ⟨?_, by omega⟩
          rw [hF, j1, ← List.append_assoc, ← List.drop_drop]
          congr 1
          have e1 : i - pos = (Utf8.decode s pos).2 + (i - (pos + (Utf8.decode s pos).2)) := by omega
          rw [e1, List.take_add]
    · rw [if_neg hp]
      refine ⟨fun _ => by rw [List.drop_eq_nil_of_le (show s.data.toList.length ≤ pos from by omega)]; rfl, fun i hi => by omega⟩
theorem drop_data (s : ByteArray) (n : Nat) : (s.extract n s.size).data.toList = s.data.toList.drop n := by
  rw [← Lib.toList_data, Lib.extract_toList, List.take_of_length_le]
  rw [List.length_drop]
  exact Nat.le_refl _
theorem take_data (s : ByteArray) (n : Nat) : (s.extract 0 n).data.toList = s.data.toList.take n := by
  rw [← Lib.toList_data, Lib.extract_toList]
  simp
theorem body_F (m : Int) (p q s : ByteArray) : bodyL m p q s = p.data.toList ++ F m s.data.toList ++ q.data.toList := by
  unfold bodyL
  split
  · rename_i h
    rw [h.1, h.2, List.nil_append, List.append_nil]
    obtain ⟨i1, i2⟩ := idx_F m s s.size 0 (by omega)
    rw [List.drop_zero] at i1 i2
    have hi : idxE m s = idxFuncFrom (fun x => stopE m (x : Int)) true s s.size 0 := rfl
    rcases Enc.idx_range m s with h1 | ⟨h1, h2⟩
    · rw [if_pos h1]
      exact (i1 (by rw [← hi]; exact h1)).symm
    · rw [if_neg (by omega), encAll_F, drop_data, take_data]
      have := (i2 (idxE m s).toNat (by rw [← hi]; omega)).1
      rw [Nat.sub_zero] at this
      exact this.symm
  · rw [encAll_F]
/-! ### heads and tails -/
/-- Characters that are none of ASCII. -/
def Hi (l : List UInt8) : Prop := ∃ rs : List Nat, rs ≠ [] ∧ (∀ x ∈ rs, 128 ≤ x ∧ ok x) ∧ l = Tok.bytes (rs.map ch)
theorem hi_all : (Hi [226, 144, 160] ∧ Hi [239, 188, 142] ∧ Hi [239, 189, 158]) ∧ (Hi (226 :: 128 :: 155 :: [226, 144, 160]) ∧ Hi (226 :: 128 :: 155 :: [239, 188, 142]) ∧ Hi (226 :: 128 :: 155 :: [239, 189, 158])) :=
  ⟨⟨⟨[9248], by decide, by decide, by decide⟩, ⟨[65294], by decide, by decide, by decide⟩, ⟨[65374], by decide, by decide, by decide⟩⟩, ⟨[8219, 9248], by decide, by decide, by decide⟩, ⟨[8219, 65294], by decide, by decide, by decide⟩, ⟨[8219, 65374], by decide, by decide, by decide⟩⟩
theorem hi_sgn {c : Nat} (h : isCtl c = true) : Hi (sgn c).data.toList ∧ Hi (⟨#[226, 128, 155]⟩ ++ sgn c : ByteArray).data.toList := by
  rcases Enc.ctl_cases h with rfl | rfl | rfl | rfl
  · exact ⟨⟨[9225], by decide, by decide, by decide⟩, ⟨[8219, 9225], by decide, by decide, by decide⟩⟩
  · exact ⟨⟨[9226], by decide, by decide, by decide⟩, ⟨[8219, 9226], by decide, by decide, by decide⟩⟩
  · exact ⟨⟨[9227], by decide, by decide, by decide⟩, ⟨[8219, 9227], by decide, by decide, by decide⟩⟩
  · exact ⟨⟨[9229], by decide, by decide, by decide⟩, ⟨[8219, 9229], by decide, by decide, by decide⟩⟩
/-- Nothing, or characters that are none of ASCII. -/
def No (l : List UInt8) : Prop := l = [] ∨ Hi l
theorem lstep_no (m f : Int) (c R : Nat) (S : List UInt8) (p : ByteArray × ByteArray) (h : No p.1.data.toList) (h1 : Hi S) (h2 : Hi (226 :: 128 :: 155 :: S)) : No (lstep m f c R S p).1.data.toList := by
  unfold lstep
  split
  · split
    · exact .inr (by simpa using h1)
    · split
      · exact .inr (by simpa using h2)
      · exact h
  · exact h
theorem rstep_no (m f : Int) (c R : Nat) (S : List UInt8) (p : ByteArray × ByteArray) (h : No p.1.data.toList) (h1 : Hi S) (h2 : Hi (226 :: 128 :: 155 :: S)) : No (rstep m f c R S p).1.data.toList := by
  unfold rstep
  split
  · split
    · exact .inr (by simpa using h1)
    · split
      · exact .inr (by simpa using h2)
      · exact h
  · exact h
theorem heads_no (m : Int) (s : ByteArray) : No (heads m s).1.data.toList := by
  unfold heads
  have h3 := lstep_no m 524288 126 65374 _ _ (lstep_no m 262144 46 65294 _ _ (lstep_no m 131072 32 9248 _ (⟨#[]⟩, s) (.inl rfl) hi_all.1.1 hi_all.2.1) hi_all.1.2.1 hi_all.2.2.1) hi_all.1.2.2 hi_all.2.2.2
  generalize lstep m 524288 126 65374 [239, 189, 158] (lstep m 262144 46 65294 [239, 188, 142] (lstep m 131072 32 9248 [226, 144, 160] (⟨#[]⟩, s))) = q at h3
  unfold lstep4
  split
  · split
    · rename_i hc; exact .inr (hi_sgn hc).1
    · split
      · rename_i hc; exact .inr (hi_sgn hc.2).2
      · exact h3
  · exact h3
theorem tails_no (m : Int) (s : ByteArray) : No (tailsIf m s).1.data.toList := by
  unfold tailsIf
  split
  · exact .inl rfl
  unfold tails
  have h3 := rstep_no m 4194304 46 65294 _ _ (rstep_no m 2097152 32 9248 _ (⟨#[]⟩, s) (.inl rfl) hi_all.1.1 hi_all.2.1) hi_all.1.2.1 hi_all.2.2.1
  generalize rstep m 4194304 46 65294 [239, 188, 142] (rstep m 2097152 32 9248 [226, 144, 160] (⟨#[]⟩, s)) = q at h3
  unfold rstep4
  split
  · split
    · rename_i hc; exact .inr (hi_sgn hc).1
    · split
      · rename_i hc; exact .inr (hi_sgn hc.2).2
      · exact h3
  · exact h3
/-- A head that is nothing: the text as it was, whose first byte no bit of the left takes. -/
theorem Hi.ne {l : List UInt8} (h : Hi l) : l ≠ [] := by
  obtain ⟨rs, h1, _, rfl⟩ := h
  cases rs with
  | nil => exact absurd rfl h1
  | cons x t => rw [List.map_cons, bytes_cons]; simp [ch, enc_ne]
theorem lstep_none {m f : Int} {c R : Nat} {S : List UInt8} {p : ByteArray × ByteArray} (hS : S ≠ []) (h : (lstep m f c R S p).1.data.toList = []) : p.1.data.toList = [] ∧ lstep m f c R S p = p ∧ (hb m f = true → (p.2.get! 0).toNat ≠ c) := by
  unfold lstep at h ⊢
  by_cases hc : hb m f = true ∧ p.1.data.toList = []
  · rw [if_pos hc] at h ⊢
    by_cases h1 : (p.2.get! 0).toNat = c
    · rw [if_pos h1] at h; exact absurd (by simpa using h) hS
    · rw [if_neg h1] at h ⊢
      by_cases h2 : (decodeGo p.2).1 = R
      · rw [if_pos h2] at h; simp at h
      · rw [if_neg h2]; exact ⟨hc.2, rfl, fun _ => h1⟩
  · rw [if_neg hc] at h ⊢
    exact ⟨h, rfl, fun ho => absurd ⟨ho, h⟩ hc⟩
theorem rstep_none {m f : Int} {c R : Nat} {S : List UInt8} {p : ByteArray × ByteArray} (hS : S ≠ []) (h : (rstep m f c R S p).1.data.toList = []) : p.1.data.toList = [] ∧ rstep m f c R S p = p ∧ (hb m f = true → (p.2.get! (p.2.size - 1)).toNat ≠ c) := by
  unfold rstep at h ⊢
  by_cases hc : hb m f = true ∧ p.1.data.toList = []
  · rw [if_pos hc] at h ⊢
    by_cases h1 : (p.2.get! (p.2.size - 1)).toNat = c
    · rw [if_pos h1] at h; exact absurd (by simpa using h) hS
    · rw [if_neg h1] at h ⊢
      by_cases h2 : (decodeLastL p.2.data.toList).1 = R
      · rw [if_pos h2] at h; simp at h
      · rw [if_neg h2]; exact ⟨hc.2, rfl, fun _ => h1⟩
  · rw [if_neg hc] at h ⊢
    exact ⟨h, rfl, fun ho => absurd ⟨ho, h⟩ hc⟩
/-- Does a bit of the left take a character; does one of the right. -/
def takenL (m : Int) (r : Nat) : Bool := (r == 32 && hb m 131072) || (r == 46 && hb m 262144) || (r == 126 && hb m 524288) || (isCtl r && hb m 1048576)
def takenR (m : Int) (r : Nat) : Bool := (r == 32 && hb m 2097152) || (r == 46 && hb m 4194304) || (isCtl r && hb m 8388608)
theorem heads_none {m : Int} {s : ByteArray} (h : (heads m s).1.data.toList = []) : (heads m s).2 = s ∧ takenL m (s.get! 0).toNat = false := by
  unfold heads at h ⊢
  have h4 : ∀ q : ByteArray × ByteArray, (lstep4 m q).1.data.toList = [] → q.1.data.toList = [] ∧ lstep4 m q = q ∧ (hb m 1048576 = true → isCtl (q.2.get! 0).toNat = false) := by
    intro q hq
    unfold lstep4 at hq ⊢
    by_cases hc : hb m 1048576 = true ∧ q.1.data.toList = []
    · rw [if_pos hc] at hq ⊢
      by_cases h1 : isCtl (q.2.get! 0).toNat = true
      · rw [if_pos h1] at hq; exact absurd hq (hi_sgn h1).1.ne
      · rw [if_neg h1] at hq ⊢
        by_cases h2 : 9216 ≤ (decodeGo q.2).1 ∧ isCtl ((decodeGo q.2).1 - 9216) = true
        · rw [if_pos h2] at hq; exact absurd hq (hi_sgn h2.2).2.ne
        · rw [if_neg h2]; exact ⟨hc.2, rfl, fun _ => by simpa using h1⟩
    · rw [if_neg hc] at hq ⊢
      exact ⟨hq, rfl, fun ho => absurd ⟨ho, hq⟩ hc⟩
  obtain ⟨a4, b4, c4⟩ := h4 _ h
  obtain ⟨a3, b3, c3⟩ := lstep_none (by simp) a4
  obtain ⟨a2, b2, c2⟩ := lstep_none (by simp) a3
  obtain ⟨a1, b1, c1⟩ := lstep_none (by simp) a2
  have d1 : hb m 131072 = true → (s.get! 0).toNat ≠ 32 := c1
  have d2 : hb m 262144 = true → (s.get! 0).toNat ≠ 46 := by rw [b1] at c2; exact c2
  have d3 : hb m 524288 = true → (s.get! 0).toNat ≠ 126 := by rw [b2, b1] at c3; exact c3
  have d4 : hb m 1048576 = true → isCtl (s.get! 0).toNat = false := by rw [b3, b2, b1] at c4; exact c4
  rw [b4, b3, b2, b1]
  refine ⟨rfl, ?_⟩
  clear h h4 a1 a2 a3 a4 b1 b2 b3 b4 c1 c2 c3 c4
  simp only [takenL, Bool.or_eq_false_iff, Bool.and_eq_false_iff]
  refine ⟨⟨⟨?_, ?_⟩, ?_⟩, ?_⟩
  · cases g : hb m 131072 with
    | false => exact .inr rfl
    | true => exact .inl (by simpa using d1 g)
  · cases g : hb m 262144 with
    | false => exact .inr rfl
    | true => exact .inl (by simpa using d2 g)
  · cases g : hb m 524288 with
    | false => exact .inr rfl
    | true => exact .inl (by simpa using d3 g)
  · cases g : hb m 1048576 with
    | false => exact .inr rfl
    | true => exact .inl (d4 g)
theorem tails_none {m : Int} {s : ByteArray} (h : (tailsIf m s).1.data.toList = []) : (tailsIf m s).2 = s ∧ (s.data.toList ≠ [] → takenR m (s.get! (s.size - 1)).toNat = false) := by
  unfold tailsIf at h ⊢
  by_cases hs : s.data.toList = []
  · rw [if_pos hs]; exact ⟨rfl, fun g => absurd hs g⟩
  rw [if_neg hs] at h ⊢
  unfold tails at h ⊢
  have h4 : ∀ q : ByteArray × ByteArray, (rstep4 m q).1.data.toList = [] → q.1.data.toList = [] ∧ rstep4 m q = q ∧ (hb m 8388608 = true → isCtl (q.2.get! (q.2.size - 1)).toNat = false) := by
    intro q hq
    unfold rstep4 at hq ⊢
    by_cases hc : hb m 8388608 = true ∧ q.1.data.toList = []
    · rw [if_pos hc] at hq ⊢
      by_cases h1 : isCtl (q.2.get! (q.2.size - 1)).toNat = true
      · rw [if_pos h1] at hq; exact absurd hq (hi_sgn h1).1.ne
      · rw [if_neg h1] at hq ⊢
        by_cases h2 : 9216 ≤ (decodeLastL q.2.data.toList).1 ∧ isCtl ((decodeLastL q.2.data.toList).1 - 9216) = true
        · rw [if_pos h2] at hq; exact absurd hq (hi_sgn h2.2).2.ne
        · rw [if_neg h2]; exact ⟨hc.2, rfl, fun _ => by simpa using h1⟩
    · rw [if_neg hc] at hq ⊢
      exact ⟨hq, rfl, fun ho => absurd ⟨ho, hq⟩ hc⟩
  obtain ⟨a4, b4, c4⟩ := h4 _ h
  obtain ⟨a2, b2, c2⟩ := rstep_none (by simp) a4
  obtain ⟨a1, b1, c1⟩ := rstep_none (by simp) a2
  have d1 : hb m 2097152 = true → (s.get! (s.size - 1)).toNat ≠ 32 := c1
  have d2 : hb m 4194304 = true → (s.get! (s.size - 1)).toNat ≠ 46 := by rw [b1] at c2; exact c2
  have d4 : hb m 8388608 = true → isCtl (s.get! (s.size - 1)).toNat = false := by rw [b2, b1] at c4; exact c4
  rw [b4, b2, b1]
  refine ⟨rfl, fun _ => ?_⟩
  clear h h4 a1 a2 a4 b1 b2 b4 c1 c2 c4
  simp only [takenR, Bool.or_eq_false_iff, Bool.and_eq_false_iff]
  refine ⟨⟨?_, ?_⟩, ?_⟩
  · cases g : hb m 2097152 with
    | false => exact .inr rfl
    | true => exact .inl (by simpa using d1 g)
  · cases g : hb m 4194304 with
    | false => exact .inr rfl
    | true => exact .inl (by simpa using d2 g)
  · cases g : hb m 8388608 with
    | false => exact .inr rfl
    | true => exact .inl (d4 g)
end Go.Proofs.YtlgoghonnnobfaaDoor.Out

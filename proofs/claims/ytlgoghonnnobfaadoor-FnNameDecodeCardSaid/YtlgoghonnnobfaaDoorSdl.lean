import Derived.Test.YtlgoghonnnobfaaDoorSdp
import Derived.Test.YtlgoghonnnobfaaDoorSne
namespace Go.Proofs.YtlgoghonnnobfaaDoor.Sdl
open Go Go.Lib Go.RowKit Go.Proofs.YtlgoghonnnobfaaDoor.Fr Go.Proofs.YtlgoghonnnobfaaDoor.Tok Go.Proofs.YtlgoghonnnobfaaDoor.Out Go.Proofs.YtlgoghonnnobfaaDoor.Sdp
open Go.Proofs.YtlgoghonnnobfaaDoor.Sfn (S37 rd_T37 z37)
open Go.Proofs.YtlgoghonnnobfaaDoor.Spc (takes takesL takesR signOf sign bitOf bit_f hexv unq)
open Go.Proofs.YtlgoghonnnobfaaDoor.Snd (leftB rightB headS tailS stepS loopS bodyS specD unitsL dotP isDot unitsFrom_facts rd_mem)
open Go.Proofs.YtlgoghonnnobfaaDoor.Pu (hexd)
open Go.Proofs.YtlgoghonnnobfaaDoor.Enc (Bit isCtl)
set_option linter.unusedVariables false
set_option linter.unusedSimpArgs false
/-! ### what spec tells of names, and what the decoder does, are one (plain Lean, no program in sight) -/
/-! #### bits of characters -/
def bitN (x : Nat) : Nat := Enc.bits.foldl (fun acc b => if (x : Int) ∈ b.cs then acc ||| b.f.toNat else acc) 0
theorem bit_all : ∀ x : Fin 128, x.val ≠ 0 → Sfn.spec_bit.f 4 (x.val : Int) = some (bitN x.val : Int) ∧ bitN x.val < 18446744073709551616 := by decide +kernel
theorem f_all : ∀ b ∈ Enc.bits, 0 ≤ b.f ∧ b.f < 18446744073709551616 := by decide +kernel
theorem fold_any (m x : Nat) (hm : m < 18446744073709551616) : ∀ (l : List Bit) (acc : Nat), (∀ b ∈ l, 0 ≤ b.f ∧ b.f < 18446744073709551616) → (m &&& l.foldl (fun acc b => if (x : Int) ∈ b.cs then acc ||| b.f.toNat else acc) acc != 0) = ((m &&& acc != 0) || anyC (m : Int) x l)
  | [], acc, _ => by simp [anyC]
  | b :: t, acc, h => by
    rw [List.foldl_cons, fold_any m x hm t _ fun c hc => h c (by simp [hc])]
    obtain ⟨f0, f1⟩ := h b (by simp)
    obtain ⟨q, hq⟩ := Int.eq_ofNat_of_zero_le f0
    have e : anyC (m : Int) x (b :: t) = ((hb (m : Int) b.f && b.cs.contains (x : Int)) || anyC (m : Int) x t) := by unfold anyC; rw [List.any_cons]
    rw [e]
    by_cases hx : (x : Int) ∈ b.cs
    · have hh : hb (m : Int) b.f = (m &&& q != 0) := by rw [hq]; exact Cong.hb_nat m q hm (by omega)
      rw [if_pos hx, List.contains_iff_mem.2 hx, Bool.and_true, hh, hq, Int.toNat_natCast, Nat.and_or_distrib_left, ← Bool.or_assoc]
      congr 1
      rw [Bool.eq_iff_iff]
      simp only [bne_iff_ne, Bool.or_eq_true, ne_eq, Nat.or_eq_zero_iff]
      omega
    · have : b.cs.contains (x : Int) = false := by
        cases h2 : b.cs.contains (x : Int) with
        | false => rfl
        | true => exact absurd (List.contains_iff_mem.1 h2) hx
      rw [if_neg hx, this, Bool.and_false, Bool.false_or]
theorem takes_am (m : Nat) (hm : m < 18446744073709551616) {x : Nat} (hx : x < 128) : takes (m : Int) (x : Int) = AM (m : Int) x := by
  unfold takes AM
  by_cases h0 : x = 0
  · subst h0; rfl
  obtain ⟨b1, b2⟩ := bit_all ⟨x, hx⟩ h0
  have hb1 : bitOf (x : Int) = (bitN x : Int) := Option.some.inj ((bit_f (x : Int)).symm.trans b1)
  have e1 : (x == 0) = false := by simpa using h0
  have e2 : ((x : Int) == 0) = false := by simp only [beq_eq_false_iff_ne]; omega
  rw [e1, e2, Bool.false_or, Bool.false_or, decide_eq_true (by omega : (0 : Int) < (x : Int)), Bool.true_and, hb1]
  have := Cong.hb_nat m (bitN x) hm b2
  unfold hb at this
  rw [this, bitN, fold_any m x hm Enc.bits 0 f_all]
  simp
theorem band_hb (m f : Int) : (Go.bits .and .u64 m f != 0) = hb m f := rfl
theorem takesL_l (m : Int) (x : Nat) : takesL m (x : Int) = takenL m x := by
  unfold takesL
  simp only [Sfn.spec_TakesLeft.f, band_hb, takenL, isCtl]
  by_cases c1 : x = 32
  · subst c1; simp
  by_cases c2 : x = 46
  · subst c2; simp
  by_cases c3 : x = 126
  · subst c3; simp
  by_cases c4 : x = 13
  · subst c4; simp
  by_cases c5 : x = 10
  · subst c5; simp
  by_cases c6 : x = 9
  · subst c6; simp
  by_cases c7 : x = 11
  · subst c7; simp
  rw [if_neg (by omega), if_neg (by omega), if_neg (by omega), if_neg (by omega), if_neg (by omega), if_neg (by omega), if_neg (by omega)]
  simp [c1, c2, c3, c4, c5, c6, c7]
theorem takesR_r (m : Int) (x : Nat) : takesR m (x : Int) = takenR m x := by
  unfold takesR
  simp only [Sfn.spec_TakesRight.f, band_hb, takenR, isCtl]
  by_cases c1 : x = 32
  · subst c1; simp
  by_cases c2 : x = 46
  · subst c2; simp
  by_cases c4 : x = 13
  · subst c4; simp
  by_cases c5 : x = 10
  · subst c5; simp
  by_cases c6 : x = 9
  · subst c6; simp
  by_cases c7 : x = 11
  · subst c7; simp
  rw [if_neg (by omega), if_neg (by omega), if_neg (by omega), if_neg (by omega), if_neg (by omega), if_neg (by omega)]
  simp [c1, c2, c4, c5, c6, c7]
/-! #### units are characters -/
theorem utf8_enc (r : Nat) : (Utf8.encode (r : Int)).data.toList = enc r := by
  have hv : Utf8.valid (r : Int) = decide (¬ ((55296 ≤ r ∧ r ≤ 57343) ∨ 1114111 < r)) := by
    rw [Bool.eq_iff_iff]
    simp [Utf8.valid]
    omega
  unfold enc Lib.encodeRune
  by_cases hb' : (55296 ≤ r ∧ r ≤ 57343) ∨ 1114111 < r
  · have hv' : Utf8.valid (r : Int) = false := by rw [hv]; exact decide_eq_false (fun h => h hb')
    rw [Lib.encodeRuneZ_bad (by omega), show (Utf8.encode (r : Int)).data.toList = [239, 191, 189] from by simp [Utf8.encode, hv', Utf8.runeError]]
    rfl
  have hv' : Utf8.valid (r : Int) = true := by rw [hv]; exact decide_eq_true hb'
  have e8 : ∀ (n : Nat) (z : Int), z = (n : Int) → UInt8.ofNat n = z.toNat.toUInt8 := fun n z h => by rw [h, Int.toNat_natCast]
  by_cases c1 : r < 128
  · rw [Lib.encodeRuneZ_one (by omega) (by omega), show (Utf8.encode (r : Int)).data.toList = [UInt8.ofNat r] from by simp [Utf8.encode, hv', c1]]
    simp only [List.map_cons, List.map_nil]
    rw [e8 r _ rfl]
  by_cases c2 : r < 2048
  · rw [Lib.encodeRuneZ_two (by omega) (by omega), show (Utf8.encode (r : Int)).data.toList = [UInt8.ofNat (192 + r / 64), UInt8.ofNat (128 + r % 64)] from by simp [Utf8.encode, hv', c1, c2]]
    simp only [List.map_cons, List.map_nil]
    rw [e8 (192 + r / 64) (192 + (r : Int) / 64) (by omega), e8 (128 + r % 64) (128 + (r : Int) % 64) (by omega)]
  by_cases c3 : r < 65536
  · rw [Lib.encodeRuneZ_three (by omega), show (Utf8.encode (r : Int)).data.toList = [UInt8.ofNat (224 + r / 4096), UInt8.ofNat (128 + r / 64 % 64), UInt8.ofNat (128 + r % 64)] from by simp [Utf8.encode, hv', c1, c2, c3]]
    simp only [List.map_cons, List.map_nil]
    rw [e8 (224 + r / 4096) (224 + (r : Int) / 4096) (by omega), e8 (128 + r / 64 % 64) (128 + (r : Int) / 64 % 64) (by omega), e8 (128 + r % 64) (128 + (r : Int) % 64) (by omega)]
  · rw [Lib.encodeRuneZ_four (by omega) (by omega), show (Utf8.encode (r : Int)).data.toList = [UInt8.ofNat (240 + r / 262144), UInt8.ofNat (128 + r / 4096 % 64), UInt8.ofNat (128 + r / 64 % 64), UInt8.ofNat (128 + r % 64)] from by simp [Utf8.encode, hv', c1, c2, c3]]
    simp only [List.map_cons, List.map_nil]
    rw [e8 (240 + r / 262144) (240 + (r : Int) / 262144) (by omega), e8 (128 + r / 4096 % 64) (128 + (r : Int) / 4096 % 64) (by omega), e8 (128 + r / 64 % 64) (128 + (r : Int) / 64 % 64) (by omega), e8 (128 + r % 64) (128 + (r : Int) % 64) (by omega)]
def un (t : T) : S37 := if t.1 = 65533 ∧ t.2.length = 1 then ⟨⟨t.2.toArray⟩, -1, true⟩ else ⟨⟨t.2.toArray⟩, (t.1 : Int), false⟩
theorem un_ch (r : Nat) : un (ch r) = ⟨⟨(enc r).toArray⟩, (r : Int), false⟩ := by unfold un; rw [if_neg (ch_not_bad r)]; rfl
theorem un_bad (b : UInt8) : un (badT b) = ⟨⟨#[b]⟩, -1, true⟩ := by unfold un badT; rw [if_pos ⟨rfl, rfl⟩]
theorem unitsFrom_un (s : ByteArray) : ∀ f pos, s.size ≤ pos + f → (Uts.unitsFrom s f pos).map (fun x => (⟨x.1, x.2.1, x.2.2⟩ : S37)) = (tk (s.data.toList.drop pos)).map un
  | 0, pos, h => by
    rw [List.drop_eq_nil_of_le (show s.data.toList.length ≤ pos from h)]
    rfl
  | f + 1, pos, h => by
    have hl : s.data.toList.length = s.size := rfl
    rw [Uts.unitsFrom]
    split
    · rename_i hp
      have hne := pos_ne s hp
      have hw := Enc.dec_pos s pos hp
      have hd := Lib.decodeL_drop s pos
      rw [List.map_cons, unitsFrom_un s f _ (by omega), ← List.drop_drop]
      rcases tk_head _ hne with ⟨b, t, e, hdec, htk⟩ | ⟨r, t, hr, e, hdec, htk⟩
      · have hdec' : Utf8.decode s pos = (65533, 1) := by rw [← hd, hdec]
        rw [htk, hdec', List.map_cons]
        congr 1
        · unfold Uts.unitAt
          rw [hdec', if_pos ⟨rfl, rfl⟩, un_bad]
          have : s.extract pos (pos + 1) = ⟨#[b]⟩ := by
            apply ByteArray.ext
            apply Array.ext'
            rw [← Lib.toList_data, Lib.extract_toList, Nat.add_sub_cancel_left, e]
            rfl
          simp only [this]
        · rw [e]; rfl
      · have hdec' : Utf8.decode s pos = (r, (enc r).length) := by rw [← hd, hdec]
        have hn : ¬ (r = 65533 ∧ (enc r).length = 1) := ch_not_bad r
        rw [htk, hdec', List.map_cons]
        congr 1
        · unfold Uts.unitAt
          rw [hdec', if_neg hn, un_ch]
          have : Utf8.encode (r : Int) = ⟨(enc r).toArray⟩ := by
            apply ByteArray.ext
            apply Array.ext'
            rw [utf8_enc]
          simp only [this]
        · simp only
          rw [e, List.drop_left]
    · rename_i hp
      rw [List.drop_eq_nil_of_le (show s.data.toList.length ≤ pos by omega)]
      rfl
theorem unitsL_tk (s : ByteArray) : unitsL s = (tk s.data.toList).map un := by
  have := unitsFrom_un s s.size 0 (by omega)
  rw [List.drop_zero] at this
  exact this
/-- A character's number, as a unit has it. -/
theorem un_cases {t : T} (ht : Out.Form t) : ((un t).f1 = (t.1 : Int) ∧ (un t).f2 = false) ∨ (t.1 = 65533 ∧ (un t).f1 = -1 ∧ (un t).f2 = true) := by
  rcases ht with ⟨r, hr, rfl⟩ | ⟨b, rfl⟩
  · rw [un_ch]; exact .inl ⟨rfl, rfl⟩
  · rw [un_bad]; exact .inr ⟨rfl, rfl, rfl⟩
theorem un_text (t : T) : (un t).f0.data.toList = t.2 := by unfold un; split <;> rfl
theorem un_is {t : T} (ht : Out.Form t) {c : Nat} (hc : c ≠ 65533) : (un t).f1 = (c : Int) ↔ t.1 = c := by
  rcases un_cases ht with ⟨h, _⟩ | ⟨h1, h2, _⟩
  · rw [h]; omega
  · rw [h2]; omega
theorem un_q {t : T} (ht : Out.Form t) : (un t).f1 = 8219 ↔ t.1 = 8219 := un_is ht (c := 8219) (by decide)
theorem sign_so (r : Nat) : signOf (r : Int) = if SO r < 128 then (SO r : Int) else -1 := by
  unfold signOf SO
  by_cases h1 : 9216 ≤ r ∧ r ≤ 9248
  · rw [if_pos (by omega), if_pos h1, if_pos (by omega)]; omega
  · rw [if_neg (by omega), if_neg h1]
    by_cases h2 : r = 9249
    · rw [if_pos (by omega), if_pos h2]; rfl
    · rw [if_neg (by omega), if_neg h2]
      by_cases h3 : 65281 ≤ r ∧ r ≤ 65374
      · rw [if_pos (by omega), if_pos h3, if_pos (by omega)]; omega
      · rw [if_neg (by omega), if_neg h3]; rfl
theorem un_so {t : T} (ht : Out.Form t) : signOf (un t).f1 = if SO t.1 < 128 then (SO t.1 : Int) else -1 := by
  rcases un_cases ht with ⟨h, _⟩ | ⟨h1, h2, _⟩
  · rw [h, sign_so]
  · rw [h2, h1]; rfl
theorem left_un (m : Int) {t : T} (ht : Out.Form t) : leftB m (un t).f1 = takenL m (SO t.1) := by
  unfold leftB
  rw [un_so ht]
  split
  · rw [decide_eq_true (by omega), Bool.true_and, takesL_l]
  · have : SO t.1 = 128 := by have := so_le t.1; omega
    rw [this, l_none]
    rfl
theorem right_un (m : Int) {t : T} (ht : Out.Form t) : rightB m (un t).f1 = takenR m (SO t.1) := by
  unfold rightB
  rw [un_so ht]
  split
  · rw [decide_eq_true (by omega), Bool.true_and, takesR_r]
  · have : SO t.1 = 128 := by have := so_le t.1; omega
    rw [this, r_none]
    rfl
theorem takes_un (m : Nat) (hm : m < 18446744073709551616) {t : T} (ht : Out.Form t) : (0 ≤ signOf (un t).f1 ∧ takes (m : Int) (signOf (un t).f1) = true) ↔ AM (m : Int) (SO t.1) = true := by
  rw [un_so ht]
  split
  · rename_i h
    rw [takes_am m hm h]
    exact ⟨fun h => h.2, fun h => ⟨by omega, h⟩⟩
  · have : SO t.1 = 128 := by have := so_le t.1; omega
    rw [this, am_none]
    exact ⟨fun h => absurd h.1 (by decide), fun h => by cases h⟩
theorem sign_text {t : T} (ht : Out.Form t) (h : SO t.1 < 128) : (Utf8.encode (signOf (un t).f1)).data.toList = enc (SO t.1) := by
  rw [un_so ht, if_pos h, utf8_enc]
theorem hex_un {t : T} (ht : Out.Form t) : (0 ≤ hexv (un t) ↔ (hexd t.1).isSome = true) ∧ ∀ x, hexd t.1 = some x → hexv (un t) = (x : Int) := by
  rcases un_cases ht with ⟨h, g⟩ | ⟨h1, h2, g⟩
  · unfold hexv hexd
    rw [g, h, if_neg (by decide)]
    by_cases c1 : 48 ≤ t.1 ∧ t.1 ≤ 57
    · rw [if_pos (by omega), if_pos c1]
      exact ⟨⟨fun _ => rfl, fun _ => by omega⟩, fun x hx => by injection hx; omega⟩
    rw [if_neg (by omega), if_neg c1]
    by_cases c2 : 97 ≤ t.1 ∧ t.1 ≤ 102
    · rw [if_pos (by omega), if_pos c2]
      exact ⟨⟨fun _ => rfl, fun _ => by omega⟩, fun x hx => by injection hx; omega⟩
    rw [if_neg (by omega), if_neg c2]
    by_cases c3 : 65 ≤ t.1 ∧ t.1 ≤ 70
    · rw [if_pos (by omega), if_pos c3]
      exact ⟨⟨fun _ => rfl, fun _ => by omega⟩, fun x hx => by injection hx; omega⟩
    rw [if_neg (by omega), if_neg c3]
    exact ⟨⟨fun h => absurd h (by decide), fun h => by cases h⟩, fun x hx => by cases hx⟩
  · unfold hexv
    rw [g, h1, if_pos rfl]
    exact ⟨⟨fun h => absurd h (by decide), fun h => by cases h⟩, fun x hx => by cases hx⟩
theorem rd_un (L : List T) (k : Nat) (h : k < L.length) : rd_T37 (L.map un) (k : Int) = un L[k] := by
  unfold rd_T37
  rw [Int.toNat_natCast, List.getD_eq_getElem?_getD, List.getElem?_map, List.getElem?_eq_getElem h]
  rfl
/-! #### head, tail and loop -/
theorem head_un (m : Int) (L : List T) (hf : ∀ t ∈ L, Out.Form t) (hne : L ≠ []) : (headS m (L.map un)).1.data.toList = (shead m L).1 ∧ (headS m (L.map un)).2 = (shead m L).2.map un := by
  have key : ∀ {t : T}, Out.Form t → takenL m (SO t.1) = true → (Utf8.encode (signOf (un t).f1)).data.toList = enc (SO t.1) := fun ht h => by
    refine sign_text ht ?_
    rcases Nat.lt_or_ge (SO _) 128 with h' | h'
    · exact h'
    · rw [(low_not m _ h').1] at h; cases h
  match L, hf, hne with
  | [t], hf, _ =>
    have ht := hf t (by simp)
    have r0 : rd_T37 ([t].map un) ((0 : Nat) : Int) = un t := rfl
    unfold headS
    rw [r0, left_un m ht, shead]
    by_cases c1 : takenL m (SO t.1) = true
    · rw [if_pos c1, if_pos c1]; exact ⟨key ht c1, rfl⟩
    · rw [if_neg c1, if_neg c1, if_neg (by simp)]; exact ⟨rfl, rfl⟩
  | t :: u :: M, hf, _ =>
    have ht := hf t (by simp)
    have hu := hf u (by simp)
    have r0 : rd_T37 ((t :: u :: M).map un) ((0 : Nat) : Int) = un t := rfl
    have r1 : rd_T37 ((t :: u :: M).map un) ((1 : Nat) : Int) = un u := rfl
    unfold headS
    rw [r0, r1, left_un m ht, left_un m hu, shead]
    by_cases c1 : takenL m (SO t.1) = true
    · rw [if_pos c1, if_pos c1]; exact ⟨key ht c1, rfl⟩
    · rw [if_neg c1, if_neg c1]
      by_cases c2 : t.1 = 8219 ∧ takenL m (SO u.1) = true
      · rw [if_pos c2, if_pos ⟨by simp, (un_q ht).2 c2.1, c2.2⟩]
        exact ⟨un_text u, rfl⟩
      · rw [if_neg c2, if_neg (fun h => c2 ⟨(un_q ht).1 h.2.1, h.2.2⟩)]
        exact ⟨rfl, rfl⟩
theorem tail_un (m : Int) (R : List T) (hf : ∀ t ∈ R, Out.Form t) : (tailS m (R.reverse.map un)).1.data.toList = (stailR m R).1 ∧ (tailS m (R.reverse.map un)).2 = (stailR m R).2.reverse.map un := by
  have key : ∀ {t : T}, Out.Form t → takenR m (SO t.1) = true → (Utf8.encode (signOf (un t).f1)).data.toList = enc (SO t.1) := fun ht h => by
    refine sign_text ht ?_
    rcases Nat.lt_or_ge (SO _) 128 with h' | h'
    · exact h'
    · rw [(low_not m _ h').2] at h; cases h
  match R, hf with
  | [], _ => exact ⟨rfl, rfl⟩
  | [t], hf =>
    have ht := hf t (by simp)
    have e1 : rd_T37 ([t].reverse.map un) (((([t].reverse.map un).length - 1 : Nat)) : Int) = un t := rfl
    unfold tailS
    rw [e1, right_un m ht, stailR]
    by_cases c1 : takenR m (SO t.1) = true
    · rw [if_pos c1, if_pos ⟨by simp, c1⟩, if_neg (by simp)]; exact ⟨key ht c1, rfl⟩
    · rw [if_neg c1, if_neg (fun h => c1 h.2)]; exact ⟨rfl, rfl⟩
  | t :: q :: M, hf =>
    have ht := hf t (by simp)
    have hq := hf q (by simp)
    have hl : ((t :: q :: M).reverse.map un).length = M.length + 2 := by simp
    have e0 : (t :: q :: M).reverse = M.reverse ++ [q, t] := by simp
    have e1 : rd_T37 ((t :: q :: M).reverse.map un) ((M.length + 2 - 1 : Nat) : Int) = un t := by
      rw [rd_un _ _ (by simp)]
      congr 1
      simp only [e0]
      rw [List.getElem_append_right (by simp)]
      simp
    have e2 : rd_T37 ((t :: q :: M).reverse.map un) ((M.length + 2 - 2 : Nat) : Int) = un q := by
      rw [rd_un _ _ (by simp)]
      congr 1
      simp only [e0]
      rw [List.getElem_append_right (by simp)]
      simp
    unfold tailS
    rw [hl, e1, e2, right_un m ht, stailR]
    by_cases c1 : takenR m (SO t.1) = true
    · rw [if_pos c1, if_pos ⟨by omega, c1⟩]
      by_cases c2 : q.1 = 8219
      · rw [if_pos c2, if_pos ⟨by omega, (un_q hq).2 c2⟩]
        refine ⟨un_text t, ?_⟩
        simp only [e0, List.map_append]
        rw [List.take_left' (by simp)]
      · rw [if_neg c2, if_neg (fun h => c2 ((un_q hq).1 h.2))]
        refine ⟨key ht c1, ?_⟩
        simp only [e0, List.map_append, List.reverse_cons, List.map_cons, List.map_nil]
        rw [show (List.map un M.reverse ++ [un q, un t]) = (List.map un M.reverse ++ [un q]) ++ [un t] by simp, List.take_left' (by simp)]
    · rw [if_neg c1, if_neg (fun h => c1 h.2)]
      exact ⟨rfl, rfl⟩
theorem step_un (m : Nat) (hm : m < 18446744073709551616) (t : T) (L : List T) (hf : ∀ x ∈ t :: L, Out.Form x) : (stepS (m : Int) ((t :: L).map un)).1.data.toList = (stp (m : Int) t L).1 ∧ (stepS (m : Int) ((t :: L).map un)).2 = (stp (m : Int) t L).2 + 1 := by
  have ht := hf t (by simp)
  have r0 : rd_T37 ((t :: L).map un) ((0 : Nat) : Int) = un t := rfl
  have r0' : rd_T37 ((t :: L).map un) 0 = un t := rfl
  unfold stepS stp
  rw [r0]
  by_cases c1 : t.1 = 8219
  · rw [if_pos ((un_q ht).2 c1), if_pos c1]
    unfold unq
    rw [r0']
    match L, hf with
    | [], _ => rw [if_neg (by simp), if_neg (by simp), qst]; exact ⟨un_text t, rfl⟩
    | u :: M, hf =>
      have hu := hf u (by simp)
      have r1 : rd_T37 ((t :: u :: M).map un) 1 = un u := rfl
      rw [r1, qst]
      by_cases c2 : u.1 = 8219 ∨ AM (m : Int) (SO u.1) = true
      · have h' : 1 < ((t :: u :: M).map un).length ∧ ((un u).f1 = 8219 ∨ (0 ≤ signOf (un u).f1 ∧ takes (m : Int) (signOf (un u).f1) = true)) := ⟨by simp, c2.imp (fun h => (un_q hu).2 h) (fun h => (takes_un m hm hu).2 h)⟩
        rw [if_pos c2, if_pos h']
        exact ⟨un_text u, rfl⟩
      · have h' : ¬ (1 < ((t :: u :: M).map un).length ∧ ((un u).f1 = 8219 ∨ (0 ≤ signOf (un u).f1 ∧ takes (m : Int) (signOf (un u).f1) = true))) := fun h => c2 (h.2.imp (fun h => (un_q hu).1 h) (fun h => (takes_un m hm hu).1 h))
        rw [if_neg c2, if_neg h']
        unfold hx
        by_cases c3 : hb (m : Int) 16777216 = true
        · rw [if_pos c3]
          have c3' : Go.bits .and .u64 (m : Int) 16777216 ≠ 0 := by unfold hb at c3; simpa using c3
          match M, hf with
          | [], _ =>
            rw [if_neg (by simp)]
            have : ((hexd u.1).bind fun x => (([] : List T).head?.bind fun v => hexd v.1).map fun y => 16 * x + y) = none := by cases hexd u.1 <;> rfl
            rw [this]
            exact ⟨un_text t, rfl⟩
          | v :: N, hf =>
            have hv := hf v (by simp)
            have r2 : rd_T37 ((t :: u :: v :: N).map un) 2 = un v := rfl
            rw [r2]
            obtain ⟨a1, a2⟩ := hex_un hu
            obtain ⟨b1, b2⟩ := hex_un hv
            cases e1 : hexd u.1 with
            | none =>
              rw [if_neg (fun h => by have := a1.1 h.2.2.1; rw [e1] at this; cases this)]
              exact ⟨un_text t, rfl⟩
            | some x =>
              cases e2 : hexd v.1 with
              | none =>
                rw [if_neg (fun h => by have := b1.1 h.2.2.2; rw [e2] at this; cases this)]
                simp only [List.head?_cons, Option.bind_some, e2]
                exact ⟨un_text t, rfl⟩
              | some y =>
                rw [if_pos ⟨c3', by simp, a1.2 (by rw [e1]; rfl), b1.2 (by rw [e2]; rfl)⟩, a2 x e1, b2 y e2]
                simp only [List.head?_cons, Option.bind_some, e2, Option.map_some]
                refine ⟨?_, rfl⟩
                rw [show (16 * (x : Int) + (y : Int)).toNat = 16 * x + y by omega]
        · have c3' : ¬ (Go.bits .and .u64 (m : Int) 16777216 ≠ 0 ∧ 2 < ((t :: u :: M).map un).length ∧ 0 ≤ hexv (un u) ∧ 0 ≤ hexv (rd_T37 ((t :: u :: M).map un) 2)) := fun h => c3 (by unfold hb; simpa using h.1)
          rw [if_neg c3, if_neg c3']
          exact ⟨un_text t, rfl⟩
  · rw [if_neg (fun h => c1 ((un_q ht).1 h)), if_neg c1]
    by_cases c2 : AM (m : Int) (SO t.1) = true
    · rw [if_pos c2, if_pos ((takes_un m hm ht).2 c2)]
      exact ⟨sign_text ht ((AM_asc _).low _ c2), rfl⟩
    · rw [if_neg c2, if_neg (fun h => c2 ((takes_un m hm ht).1 h))]
      exact ⟨un_text t, rfl⟩
theorem loop_un (m : Nat) (hm : m < 18446744073709551616) : ∀ (f : Nat) (L : List T), (∀ x ∈ L, Out.Form x) → loopS (m : Int) f (L.map un) = dlF (m : Int) f L
  | 0, _, _ => rfl
  | f + 1, [], _ => by rw [List.map_nil, loopS, if_pos rfl, dlF]
  | f + 1, t :: L, hf => by
    obtain ⟨h1, h2⟩ := step_un m hm t L hf
    rw [loopS, if_neg (by simp), h1, h2, dlF, ← List.map_drop, List.drop_succ_cons, loop_un m hm f _ fun x hx => hf x (List.mem_cons_of_mem _ (List.mem_of_mem_drop hx))]
theorem mem_shead (m : Int) (L : List T) : ∀ x ∈ (shead m L).2, x ∈ L := by
  match L with
  | [] => intro x hx; cases hx
  | [t] =>
    intro x hx
    rw [shead] at hx
    split at hx
    · cases hx
    · exact hx
  | t :: u :: M =>
    intro x hx
    rw [shead] at hx
    split at hx
    · exact List.mem_cons_of_mem _ hx
    · split at hx
      · exact List.mem_cons_of_mem _ (List.mem_cons_of_mem _ hx)
      · exact hx
theorem mem_stail (m : Int) (L : List T) : ∀ x ∈ (stailR m L).2, x ∈ L := by
  match L with
  | [] => intro x hx; cases hx
  | [t] =>
    intro x hx
    rw [stailR] at hx
    split at hx
    · cases hx
    · exact hx
  | t :: u :: M =>
    intro x hx
    rw [stailR] at hx
    split at hx
    · split at hx
      · exact List.mem_cons_of_mem _ (List.mem_cons_of_mem _ hx)
      · exact List.mem_cons_of_mem _ hx
    · exact hx
theorem body_un (m : Nat) (hm : m < 18446744073709551616) (L : List T) (hf : ∀ x ∈ L, Out.Form x) (hne : L ≠ []) : (bodyS (m : Int) (L.map un)).data.toList = nameD (m : Int) L := by
  obtain ⟨h1, h2⟩ := head_un (m : Int) L hf hne
  have hf2 : ∀ x ∈ (shead (m : Int) L).2, Out.Form x := fun x hx => hf x (mem_shead _ _ x hx)
  obtain ⟨t1, t2⟩ := tail_un (m : Int) (shead (m : Int) L).2.reverse (fun x hx => hf2 x (List.mem_reverse.1 hx))
  rw [List.reverse_reverse] at t1 t2
  unfold bodyS nameD
  simp only
  rw [h1, h2, t1, t2, loop_un m hm _ _ fun x hx => hf2 x (List.mem_reverse.1 (mem_stail _ _ x (List.mem_reverse.1 hx)))]
  rw [List.length_map]
  rfl
theorem ba {a b : ByteArray} (h : a.data.toList = b.data.toList) : a = b := by apply ByteArray.ext; exact Array.ext' h
theorem dec_empty (m : Int) (s : ByteArray) (h : s.data.toList = []) : (Dec.decode m s).data.toList = [] := by
  have hs : s = ⟨#[]⟩ := ba h
  subst hs
  unfold Dec.decode
  split
  · rfl
  rw [if_neg (by simp), if_neg (by simp), if_neg (by simp), if_neg (by simp)]
  have hd : Dec.dheads m ⟨#[]⟩ = (⟨#[]⟩, ⟨#[]⟩) := by
    unfold Dec.dheads
    rw [show (decodeGo (⟨#[]⟩ : ByteArray)).1 = 65533 from rfl, (dleft_form m 65533).1, so_bad, l_none, if_neg (by decide)]
    simp
  obtain ⟨t1, t2⟩ := dtails_tk m ⟨#[]⟩
  unfold Dec.decodeT
  rw [hd]
  simp only
  rw [body_D, t1, t2]
  rfl
/-- What spec tells of a written name is what the decoder reads. -/
theorem specD_decode (m : Nat) (hm : m < 18446744073709551616) (s : ByteArray) : specD (m : Int) s = Dec.decode (m : Int) s := by
  by_cases h1 : (m : Int) = 1
  · unfold specD Dec.decode
    rw [if_pos (.inl h1), if_pos h1]
  by_cases h0 : s.data.toList = []
  · apply ba
    rw [dec_empty _ s h0]
    unfold specD
    rw [if_pos (.inr h0), h0]
  have hh : ∀ d : ByteArray × ByteArray, Snd.hit (m : Int) s d = true ↔ (hb (m : Int) 33554432 = true ∧ s.data.toList = d.2.data.toList) := fun d => by
    unfold Snd.hit isDot
    rw [Bool.and_eq_true, beq_iff_eq, Lib.toList_data, Lib.toList_data]
    rfl
  unfold specD Dec.decode
  rw [if_neg (by rintro (h | h); exact h1 h; exact h0 h), if_neg h1]
  unfold dotP
  by_cases d1 : hb (m : Int) 33554432 = true ∧ s.data.toList = [239, 188, 142]
  · rw [if_pos d1, List.find?_cons_of_pos ((hh _).2 d1)]
  rw [if_neg d1, List.find?_cons_of_neg (fun h => d1 ((hh _).1 h))]
  by_cases d2 : hb (m : Int) 33554432 = true ∧ s.data.toList = [239, 188, 142, 239, 188, 142]
  · rw [if_pos d2, List.find?_cons_of_pos ((hh _).2 d2)]
  rw [if_neg d2, List.find?_cons_of_neg (fun h => d2 ((hh _).1 h))]
  by_cases d3 : hb (m : Int) 33554432 = true ∧ s.data.toList = [226, 128, 155, 239, 188, 142]
  · rw [if_pos d3, List.find?_cons_of_pos ((hh _).2 d3)]
  rw [if_neg d3, List.find?_cons_of_neg (fun h => d3 ((hh _).1 h))]
  by_cases d4 : hb (m : Int) 33554432 = true ∧ s.data.toList = [226, 128, 155, 239, 188, 142, 226, 128, 155, 239, 188, 142]
  · rw [if_pos d4, List.find?_cons_of_pos ((hh _).2 d4)]
  rw [if_neg d4, List.find?_cons_of_neg (fun h => d4 ((hh _).1 h)), List.find?_nil]
  simp only
  apply ba
  have hne : tk s.data.toList ≠ [] := by rw [tk_step _ h0]; simp
  rw [unitsL_tk, body_un m hm _ (tk_form _) hne, decodeT_tk _ _ h0]
end Go.Proofs.YtlgoghonnnobfaaDoor.Sdl

import Derived.Test.YtlgoghonnnobfaaDoorMe
import Derived.Test.YtlgoghonnnobfaaDoorCod
namespace Go.Proofs.YtlgoghonnnobfaaDoor.Sdp
open Go Go.Lib Go.Proofs.YtlgoghonnnobfaaDoor.Fr Go.Proofs.YtlgoghonnnobfaaDoor.Tok Go.Proofs.YtlgoghonnnobfaaDoor.Out
open Go.Proofs.YtlgoghonnnobfaaDoor.Enc (Bit isCtl sgn ctl_cases signs)
open Go.Proofs.YtlgoghonnnobfaaDoor.Dec (decBy dstep decFrom decAll dat idxD bodyD dleft dleftq dright isS cut dheads dtails lst decodeT)
open Go.Proofs.YtlgoghonnnobfaaDoor.Pu (hexd two)
open Go.Proofs.YtlgoghonnnobfaaDoor.Enc (qb stopD)
set_option linter.unusedVariables false
set_option linter.unusedSimpArgs false
/-! ### what the decoder reads, character by character (plain Lean, no program in sight) -/
/-- The character for which a sign stands; 128: none. -/
def SO (r : Nat) : Nat := if 9216 ≤ r ∧ r ≤ 9248 then r - 9216 else if r = 9249 then 127 else if 65281 ≤ r ∧ r ≤ 65374 then r - 65248 else 128
theorem so_all : ∀ c : Fin 128, SO (Sg c.val) = c.val ∨ (c.val = 127 ∧ SO (Sg c.val) = 127) := by decide
theorem so_sg {c : Nat} (h : c < 128) : SO (Sg c) = c := by
  rcases so_all ⟨c, h⟩ with h | ⟨h1, h2⟩
  · exact h
  · simp only at h1 h2; rw [h2, h1]
theorem sg_so {r : Nat} (h : SO r < 128) : Sg (SO r) = r := by
  unfold SO at h ⊢
  by_cases h1 : 9216 ≤ r ∧ r ≤ 9248
  · rw [if_pos h1]; unfold Sg; rw [if_neg (by omega), if_pos (by omega)]; omega
  · rw [if_neg h1] at h ⊢
    by_cases h2 : r = 9249
    · rw [if_pos h2, h2]; rfl
    · rw [if_neg h2] at h ⊢
      by_cases h3 : 65281 ≤ r ∧ r ≤ 65374
      · rw [if_pos h3]; unfold Sg; rw [if_neg (by omega), if_neg (by omega)]; omega
      · rw [if_neg h3] at h; omega
theorem so_le (r : Nat) : SO r ≤ 128 := by
  unfold SO
  repeat' split
  all_goals omega
theorem so_zero {r : Nat} : SO r = 0 ↔ r = 9216 := by
  unfold SO
  repeat' split
  all_goals omega
theorem am_none (m : Int) : AM m 128 = false := by
  cases h : AM m 128 with
  | false => rfl
  | true => exact absurd ((AM_asc m).low _ h) (by decide)
theorem l_none (m : Int) : takenL m 128 = false := (low_not m 128 (by decide)).1
theorem r_none (m : Int) : takenR m 128 = false := (low_not m 128 (by decide)).2
theorem so_bad : SO 65533 = 128 := by decide
theorem so_quote : SO 8219 = 128 := by decide
theorem in_so {A : Nat → Bool} (hA : Asc7 A) (r : Nat) : SgIn A r = A (SO r) := by
  cases h : A (SO r) with
  | true => exact (sgIn_iff A r).2 ⟨SO r, hA.low _ h, h, (sg_so (hA.low _ h)).symm⟩
  | false =>
    cases h2 : SgIn A r with
    | false => rfl
    | true =>
      obtain ⟨c, hc, h3, rfl⟩ := (sgIn_iff A r).1 h2
      rw [so_sg hc, h3] at h
      exact h
/-! #### the chain of bits -/
theorem decBy_form (m : Int) (r : Nat) (uq : Bool) : ∀ l : List Bit, (∀ b ∈ l, b ∈ Enc.bits) → decBy m (r : Int) uq l = if anyD m r l = true then some (Lib.encodeRune (if uq = true then (r : Int) else (SO r : Int))) else none
  | [], _ => rfl
  | b :: t, h => by
    obtain ⟨c1, c2⟩ := cs_all b (h b (by simp))
    rw [decBy]
    by_cases g : hb m b.f = true ∧ (r : Int) ∈ b.ds
    · have hA : anyD m r (b :: t) = true := by unfold anyD; rw [List.any_cons, g.1, List.contains_iff_mem.2 g.2]; rfl
      rw [if_pos g, if_pos hA]
      have hm := g.2
      rw [c2] at hm
      obtain ⟨c, hc, e⟩ := List.mem_map.1 hm
      obtain ⟨k1, k2, k3⟩ := c1 c hc
      have hr : r = Sg c.toNat := by rw [← k3]; omega
      have hs : SO r = c.toNat := by rw [hr, so_sg (by omega)]
      have e2 : (r : Int) - b.off = (SO r : Int) := by rw [hs]; omega
      rw [e2]
    · rw [if_neg g, decBy_form m r uq t fun c hc => h c (by simp [hc])]
      have e3 : anyD m r (b :: t) = anyD m r t := by
        unfold anyD
        rw [List.any_cons]
        have : (hb m b.f && b.ds.contains (r : Int)) = false := by
          rw [Bool.and_eq_false_iff]
          by_cases h1 : hb m b.f = true
          · right
            cases h2 : b.ds.contains (r : Int) with
            | false => rfl
            | true => exact absurd ⟨h1, List.contains_iff_mem.1 h2⟩ g
          · left; simpa using h1
        rw [this, Bool.false_or]
      rw [e3]
theorem anyD_so (m : Int) {r : Nat} (h : r ≠ 9216) : anyD m r Enc.bits = AM m (SO r) := by
  have h0 : (SO r == 0) = false := by
    have := @so_zero r
    simp only [beq_eq_false_iff_ne, ne_eq]
    omega
  unfold AM
  rw [h0, Bool.false_or]
  cases e : anyC m (SO r) Enc.bits with
  | true => exact (anyD_iff m r).2 ⟨SO r, anyC_low e, e, (sg_so (anyC_low e)).symm⟩
  | false =>
    cases e2 : anyD m r Enc.bits with
    | false => rfl
    | true =>
      obtain ⟨c, hc, h3, rfl⟩ := (anyD_iff m r).1 e2
      rw [so_sg hc, h3] at e
      exact e
theorem hit_signs (m : Int) (r : Nat) : ∀ l : List Bit, Enc.hit m (r : Int) (l.map signs) = false → anyD m r l = false
  | [], _ => rfl
  | b :: t, h => by
    rw [List.map_cons, signs, Enc.hit] at h
    split at h
    · cases h
    · rename_i hn
      have ih := hit_signs m r t h
      unfold anyD at ih ⊢
      rw [List.any_cons, ih, Bool.or_false, Bool.and_eq_false_iff]
      by_cases h1 : hb m b.f = true
      · right
        cases h2 : b.ds.contains (r : Int) with
        | false => rfl
        | true => exact absurd ⟨h1, List.contains_iff_mem.1 h2⟩ hn
      · left; simpa using h1
/-! #### steps over characters -/
def hx (m : Int) (u : T) (M : List T) : Option Nat := if hb m 16777216 = true then (hexd u.1).bind fun x => (M.head?.bind fun v => hexd v.1).map fun y => 16 * x + y else none
/-- What a quote and what is behind it mean, and how many more characters. -/
def qst (m : Int) (t : T) : List T → List UInt8 × Nat
  | [] => (t.2, 0)
  | u :: M => if u.1 = 8219 ∨ AM m (SO u.1) = true then (u.2, 1) else match hx m u M with
    | some z => ([UInt8.ofNat z], 2)
    | none => (t.2, 0)
def stp (m : Int) (t : T) (L : List T) : List UInt8 × Nat := if t.1 = 8219 then qst m t L else if AM m (SO t.1) = true then (enc (SO t.1), 0) else (t.2, 0)
def dlF (m : Int) : Nat → List T → List UInt8
  | 0, _ => []
  | f + 1, [] => []
  | f + 1, t :: L => (stp m t L).1 ++ dlF m f (L.drop (stp m t L).2)
theorem dlF_fuel (m : Int) : ∀ (f g : Nat) (L : List T), L.length ≤ f → L.length ≤ g → dlF m f L = dlF m g L
  | f, g, [], _, _ => by cases f <;> cases g <;> rfl
  | 0, _, t :: L, h, _ => by simp at h
  | _ + 1, 0, t :: L, _, h => by simp at h
  | f + 1, g + 1, t :: L, hf, hg => by
    rw [dlF, dlF, dlF_fuel m f g _ (by simp at hf ⊢; omega) (by simp at hg ⊢; omega)]
/-- What characters mean. -/
def dl (m : Int) (L : List T) : List UInt8 := dlF m L.length L
theorem dl_nil (m : Int) : dl m [] = [] := rfl
theorem dl_cons (m : Int) (t : T) (L : List T) : dl m (t :: L) = (stp m t L).1 ++ dl m (L.drop (stp m t L).2) := by
  unfold dl
  rw [List.length_cons, dlF, dlF_fuel m L.length _ _ (by simp) (Nat.le_refl _)]
def pre (un : Bool) : List T := if un = true then [ch 8219] else []
def out (p : List UInt8 × Bool) : List UInt8 := p.1 ++ (if p.2 = true then enc 8219 else [])
theorem dl_pre (m : Int) (un : Bool) : dl m (pre un ++ []) = if un = true then enc 8219 else [] := by
  cases un
  · rfl
  · rw [pre, if_pos rfl, List.append_nil, dl_cons]
    unfold stp
    rw [if_pos rfl, qst]
    simp [dl_nil, ch]
theorem hexd_high {c : Nat} (h : 128 ≤ c) : hexd c = none := by
  unfold hexd
  rw [if_neg (by omega), if_neg (by omega), if_neg (by omega)]
theorem hexd_head {a : UInt8} {l' : List UInt8} {t : T} {L : List T} (h : tk (a :: l') = t :: L) : hexd t.1 = hexd a.toNat ∧ ((hexd a.toNat).isSome = true → L = tk l') := by
  rcases tk_head (a :: l') (by simp) with ⟨b, x, e, hd, htk⟩ | ⟨r, x, hr, e, hd, htk⟩
  · obtain ⟨b', x', e', hb⟩ := bad_high (by simp) hd
    injection e' with e1 e2
    rw [htk] at h
    injection h with h1 h2
    have ha : hexd a.toNat = none := hexd_high (by rw [e1]; exact hb)
    refine ⟨?_, fun g => ?_⟩
    · rw [← h1, ha]; rfl
    · rw [ha] at g; cases g
  · rw [htk] at h
    injection h with h1 h2
    rcases Nat.lt_or_ge r 128 with h' | h'
    · rw [enc_low r h'] at e
      injection e with e1 e2
      have : (UInt8.ofNat r).toNat = r := by simp only [UInt8.toNat_ofNat']; omega
      refine ⟨by rw [← h1, e1, this]; rfl, fun _ => by rw [← h2, e2]; rfl⟩
    · obtain ⟨b, x', e2, hb⟩ := enc_first r hr h'
      rw [e2] at e
      injection e with e1 e3
      have ha : hexd a.toNat = none := hexd_high (by rw [e1]; exact hb)
      refine ⟨by rw [← h1, ha]; exact hexd_high h', fun g => ?_⟩
      rw [ha] at g; cases g
theorem qb_tk (m : Int) (X : ByteArray) {t : T} {L : List T} (h : tk X.data.toList = t :: L) : qb X = (hexd t.1).bind fun x => (L.head?.bind fun v => hexd v.1).map fun y => 16 * x + y := by
  have hsz : X.size = X.data.toList.length := rfl
  unfold qb
  generalize hl : X.data.toList = l at h
  have hl2 : (X.extract 0 2).data.toList = l.take 2 := by rw [take_data, hl]
  cases l with
  | nil => rw [tk_nil] at h; cases h
  | cons a l' =>
    obtain ⟨g1, g2⟩ := hexd_head h
    cases l' with
    | nil =>
      rw [if_pos (by rw [hsz, hl]; simp), g1]
      cases e : hexd a.toNat with
      | none => rfl
      | some x =>
        rw [g2 (by rw [e]; rfl), tk_nil]
        rfl
    | cons b l'' =>
      rw [if_neg (by rw [hsz, hl]; simp)]
      unfold two
      have e0 : (X.extract 0 2).get! 0 = a := by rw [← getD_get!', hl2]; rfl
      have e1 : (X.extract 0 2).get! 1 = b := by rw [← getD_get!', hl2]; rfl
      rw [e0, e1, g1]
      cases e : hexd a.toNat with
      | none => rfl
      | some x =>
        rw [g2 (by rw [e]; rfl)]
        obtain ⟨v, M, hv⟩ : ∃ v M, tk (b :: l'') = v :: M := ⟨_, _, tk_step _ (by simp)⟩
        rw [hv]
        simp only [List.head?_cons, Option.bind_some]
        rw [(hexd_head hv).1]
/-- A step of the decoder is one over characters. -/
theorem step_key (m : Int) (un : Bool) (t : T) (L : List T) (ht : Out.Form t) (rest : ByteArray) (hq : qb rest = (hexd t.1).bind fun x => (L.head?.bind fun v => hexd v.1).map fun y => 16 * x + y) :
    (dstep m (t.1 : Int) un t.2 rest).1 ++ dl m (pre (dstep m (t.1 : Int) un t.2 rest).2.1 ++ (if (dstep m (t.1 : Int) un t.2 rest).2.2 = true then L.drop 1 else L)) = dl m (pre un ++ t :: L) ∧ ((dstep m (t.1 : Int) un t.2 rest).2.2 = true → L ≠ [] ∧ (dstep m (t.1 : Int) un t.2 rest).2.1 = false) := by
  have hch : t.1 ≠ 65533 → t = ch t.1 := by
    intro h
    rcases ht with ⟨r, hr, rfl⟩ | ⟨b, rfl⟩
    · rfl
    · exact absurd rfl h
  have henc : t.1 ≠ 65533 → t.2 = enc t.1 := fun h => congrArg Prod.snd (hch h)
  have hraw : (if (t.1 : Int) = 65533 then t.2 else Lib.encodeRune (t.1 : Int)) = t.2 := by
    split
    · rfl
    · exact (henc (by omega)).symm
  have two : ∀ u M, dl m (ch 8219 :: u :: M) = (qst m (ch 8219) (u :: M)).1 ++ dl m ((u :: M).drop (qst m (ch 8219) (u :: M)).2) := fun u M => by
    rw [dl_cons, stp, if_pos (show (ch 8219).1 = 8219 from rfl)]
  unfold dstep
  by_cases c1 : t.1 = 9216
  · rw [if_pos (by omega)]
    have hA : AM m (SO t.1) = true := by rw [c1]; simp [AM, SO]
    refine ⟨?_, fun h => by cases h⟩
    cases un
    · simp only [pre, if_neg (show ¬ (false = true) by decide), List.nil_append]
      rw [dl_cons, stp, if_neg (by omega), if_pos hA, c1]
      rfl
    · simp only [pre, if_true, if_neg (show ¬ (false = true) by decide), List.nil_append, List.cons_append]
      rw [two, qst, if_pos (.inr hA), henc (by omega)]
      rfl
  rw [if_neg (by omega)]
  by_cases c2 : t.1 = 8219
  · rw [if_pos (by omega)]
    refine ⟨?_, fun h => by cases h⟩
    cases un
    · simp only [pre, if_neg (show ¬ (false = true) by decide), List.nil_append, Bool.not_false, if_true, List.cons_append]
      rw [hch (by omega), c2]
    · simp only [pre, if_true, Bool.not_true, if_neg (show ¬ (false = true) by decide), List.nil_append, List.cons_append]
      rw [two, qst, if_pos (.inl c2), henc (by omega)]
      rfl
  rw [if_neg (by omega), decBy_form m t.1 un Enc.bits fun _ h => h, anyD_so m c1]
  by_cases c3 : AM m (SO t.1) = true
  · rw [if_pos c3]
    have hne : t.1 ≠ 65533 := by
      intro e
      rw [e, so_bad, am_none] at c3
      cases c3
    refine ⟨?_, fun h => by cases h⟩
    cases un
    · simp only [pre, if_neg (show ¬ (false = true) by decide), List.nil_append]
      rw [dl_cons, stp, if_neg c2, if_pos c3]
      rfl
    · simp only [pre, if_true, if_neg (show ¬ (false = true) by decide), List.nil_append, List.cons_append]
      rw [two, qst, if_pos (.inr c3), henc hne]
      rfl
  rw [if_neg c3]
  simp only
  have hst : stp m t L = (t.2, 0) := by rw [stp, if_neg c2, if_neg c3]
  by_cases c4 : un = true ∧ hb m 16777216 = true ∧ (qb rest).isSome = true
  · rw [if_pos c4]
    obtain ⟨z, hz⟩ := Option.isSome_iff_exists.1 c4.2.2
    have hL : L ≠ [] := by
      rintro rfl
      rw [hz] at hq
      cases e : hexd t.1 with
      | none => rw [e] at hq; cases hq
      | some x => rw [e] at hq; cases hq
    refine ⟨?_, fun _ => ⟨hL, rfl⟩⟩
    rw [c4.1]
    simp only [pre, if_true, if_neg (show ¬ (false = true) by decide), List.nil_append, List.cons_append]
    have hh : hx m t L = some z := by rw [hx, if_pos c4.2.1, ← hq, hz]
    rw [two, qst, if_neg (by rintro (h | h); exact c2 h; exact c3 h), hh, hz]
    rfl
  · rw [if_neg c4, hraw]
    refine ⟨?_, fun h => by cases h⟩
    cases un
    · simp only [pre, if_neg (show ¬ (false = true) by decide), List.nil_append]
      rw [dl_cons, hst]
      rfl
    · simp only [pre, if_true, if_neg (show ¬ (false = true) by decide), List.nil_append, List.cons_append]
      have hh : hx m t L = none := by
        unfold hx
        split
        · rename_i h
          rw [← hq]
          cases e : qb rest with
          | none => rfl
          | some z => exact absurd ⟨rfl, h, by rw [e]; rfl⟩ c4
        · rfl
      rw [two, qst, if_neg (by rintro (h | h); exact c2 h; exact c3 h), hh]
      simp only [List.drop_zero]
      rw [dl_cons m t L, hst, List.append_assoc]
      rfl
theorem pos_ne (s : ByteArray) {pos : Nat} (hp : pos < s.size) : s.data.toList.drop pos ≠ [] := by
  intro e
  have := congrArg List.length e
  rw [List.length_drop, show s.data.toList.length = s.size from rfl] at this
  simp at this
  omega
theorem dec_dl (m : Int) (s : ByteArray) : ∀ f, (∀ pos un, s.size ≤ pos + f → out (decFrom m s f pos un false) = dl m (pre un ++ tk (s.data.toList.drop pos))) ∧ (∀ pos, pos < s.size → s.size ≤ pos + f → out (decFrom m s f pos false true) = dl m (tk (s.data.toList.drop (pos + (Utf8.decode s pos).2))))
  | 0 => ⟨fun pos un h => by
    rw [List.drop_eq_nil_of_le (show s.data.toList.length ≤ pos from h), tk_nil, dl_pre]
    cases un <;> simp [decFrom, out], fun pos h1 h2 => by omega⟩
  | f + 1 => by
    obtain ⟨ihA, ihB⟩ := dec_dl m s f
    refine ⟨fun pos un h => ?_, fun pos h1 h2 => ?_⟩
    · by_cases hp : pos < s.size
      · have hne := pos_ne s hp
        have hd := decodeL_drop s pos
        have hw := Enc.dec_pos s pos hp
        obtain ⟨t, L, htk⟩ : ∃ t L, tk (s.data.toList.drop pos) = t :: L := ⟨_, _, tk_step _ hne⟩
        have hst := tk_step _ hne
        rw [htk, hd] at hst
        injection hst with h1 h2
        rw [List.drop_drop] at h2
        have htf : Out.Form t := tk_form _ t (by rw [htk]; simp)
        have hq := qb_tk m (s.extract pos s.size) (t := t) (L := L) (by rw [drop_data]; exact htk)
        obtain ⟨k1, k2⟩ := step_key m un t L htf _ hq
        have hraw : (s.extract pos (pos + (Utf8.decode s pos).2)).toList = t.2 := by
          rw [Lib.extract_toList, h1, Nat.add_sub_cancel_left]
        have hdat : dat m s pos un = dstep m (t.1 : Int) un t.2 (s.extract pos s.size) := by
          unfold dat
          rw [hraw, h1]
        rw [decFrom, if_pos hp, if_neg (by decide), hdat]
        unfold out
        simp only
        rw [List.append_assoc]
        have ho : ∀ p : List UInt8 × Bool, p.1 ++ (if p.2 = true then enc 8219 else []) = out p := fun p => rfl
        rw [ho]
        generalize dstep m (t.1 : Int) un t.2 (s.extract pos s.size) = q at k1 k2
        rw [htk, ← k1]
        congr 1
        cases e : q.2.2 with
        | false =>
          rw [ihA _ _ (by omega), if_neg (by decide), h2]
        | true =>
          obtain ⟨g1, g2⟩ := k2 e
          have hlt : pos + (Utf8.decode s pos).2 < s.size := by
            rcases Nat.lt_or_ge (pos + (Utf8.decode s pos).2) s.size with h' | h'
            · exact h'
            · rw [List.drop_eq_nil_of_le (show s.data.toList.length ≤ _ from h'), tk_nil] at h2
              exact absurd h2 g1
          rw [g2, ihB _ hlt (by omega), if_pos rfl]
          have hn2 := pos_ne s hlt
          rw [h2, tk_step _ hn2, decodeL_drop]
          rw [List.drop_drop]
          rfl
      · rw [List.drop_eq_nil_of_le (show s.data.toList.length ≤ pos from by have hl : s.data.toList.length = s.size := rfl; omega), tk_nil, dl_pre, Dec.decFrom_end m s _ pos un false hp]
        cases un <;> simp [out]
    · rw [decFrom, if_pos h1, if_pos rfl]
      have hw := Enc.dec_pos s pos h1
      rw [ihA _ _ (by omega)]
      rfl
theorem decAll_dl (m : Int) (s : ByteArray) : decAll m s = dl m (tk s.data.toList) := by
  have := (dec_dl m s s.size).1 0 false (by omega)
  rw [List.drop_zero] at this
  exact this
/-! #### up to where the decoder begins to change -/
theorem d_step (m : Int) (l : List UInt8) (hne : l ≠ []) (hst : stopD m ((decodeL l).1 : Int) = false) : dl m (tk l) = l.take (decodeL l).2 ++ dl m (tk (l.drop (decodeL l).2)) := by
  unfold stopD at hst
  split at hst
  · cases hst
  rename_i hn
  have hA : AM m (SO (decodeL l).1) = false := by rw [← anyD_so m (by omega)]; exact hit_signs m _ _ hst
  rw [tk_step _ hne, dl_cons, stp, if_neg (by simp only; omega), if_neg (by rw [hA]; decide)]
  rfl
theorem idx_D (m : Int) (s : ByteArray) : ∀ f pos, s.size ≤ pos + f → (idxFuncFrom (fun x => stopD m (x : Int)) true s f pos = -1 → dl m (tk (s.data.toList.drop pos)) = s.data.toList.drop pos) ∧ (∀ i : Nat, idxFuncFrom (fun x => stopD m (x : Int)) true s f pos = (i : Int) → dl m (tk (s.data.toList.drop pos)) = (s.data.toList.drop pos).take (i - pos) ++ dl m (tk (s.data.toList.drop i)) ∧ pos ≤ i)
  | 0, pos, h => ⟨fun _ => by rw [List.drop_eq_nil_of_le (show s.data.toList.length ≤ pos from h)]; rfl, fun i hi => by unfold idxFuncFrom at hi; omega⟩
  | f + 1, pos, h => by
    have hl : s.data.toList.length = s.size := rfl
    unfold idxFuncFrom
    by_cases hp : pos < s.size
    · rw [if_pos hp]
      have hne := pos_ne s hp
      have hd := decodeL_drop s pos
      have hw := Enc.dec_pos s pos hp
      by_cases hst : stopD m ((Utf8.decode s pos).1 : Int) = true
      · rw [if_pos hst]
        refine ⟨fun e => by omega, fun i hi => ?_⟩
        have : i = pos := by omega
        subst this
        simp
      · rw [if_neg hst]
        have hst' : stopD m ((decodeL (s.data.toList.drop pos)).1 : Int) = false := by rw [hd]; simpa using hst
        have hF := d_step m _ hne hst'
        obtain ⟨i1, i2⟩ := idx_D m s f (pos + (Utf8.decode s pos).2) (by omega)
        rw [hd, List.drop_drop] at hF
        refine ⟨fun e => ?_, fun i hi => ?_⟩
        · rw [hF, i1 e, ← List.drop_drop, List.take_append_drop]
        · obtain ⟨j1, j2⟩ := i2 i hi
          refine ⟨?_, by omega⟩
          rw [hF, j1, ← List.append_assoc, ← List.drop_drop]
          congr 1
          have e1 : i - pos = (Utf8.decode s pos).2 + (i - (pos + (Utf8.decode s pos).2)) := by omega
          rw [e1, List.take_add]
    · rw [if_neg hp]
      refine ⟨fun _ => by rw [List.drop_eq_nil_of_le (show s.data.toList.length ≤ pos from by omega)]; rfl, fun i hi => by omega⟩
theorem body_D (m : Int) (p q s : ByteArray) : bodyD m p q s = p.data.toList ++ dl m (tk s.data.toList) ++ q.data.toList := by
  unfold bodyD
  split
  · rename_i h
    rw [h.1, h.2, List.nil_append, List.append_nil]
    obtain ⟨i1, i2⟩ := idx_D m s s.size 0 (by omega)
    rw [List.drop_zero] at i1 i2
    have hi : idxD m s = idxFuncFrom (fun x => stopD m (x : Int)) true s s.size 0 := rfl
    rcases Dec.idxD_range m s with h1 | ⟨h1, h2⟩
    · rw [if_pos h1]
      exact (i1 (by rw [← hi]; exact h1)).symm
    · rw [if_neg (by omega), decAll_dl, drop_data, take_data]
      have := (i2 (idxD m s).toNat (by rw [← hi]; omega)).1
      rw [Nat.sub_zero] at this
      exact this.symm
  · rw [decAll_dl]
/-! #### heads and tails -/
theorem so_iff {c : Nat} (hc : c < 128) (r : Nat) : SO r = c ↔ r = Sg c := ⟨fun h => by rw [← h, sg_so (by omega)], fun h => by rw [h, so_sg hc]⟩
theorem isS_so (r : Nat) : isS r = isCtl (SO r) := by
  have e : ∀ c, c < 32 → (SO r = c ↔ r = 9216 + c) := fun c hc => by
    rw [so_iff (by omega)]
    unfold Sg
    rw [if_neg (by omega), if_pos (by omega)]
  have e9 := e 9 (by decide)
  have e10 := e 10 (by decide)
  have e11 := e 11 (by decide)
  have e13 := e 13 (by decide)
  rw [Bool.eq_iff_iff]
  simp only [isS, isCtl, Bool.and_eq_true, Bool.or_eq_true, beq_iff_eq, decide_eq_true_eq]
  omega
theorem so_beq {c : Nat} (hc : c < 128) (R : Nat) (hR : Sg c = R) (r : Nat) : (SO r == c) = ((r : Int) == (R : Int)) := by
  subst hR
  have := @so_iff c hc r
  rw [Bool.eq_iff_iff, beq_iff_eq, beq_iff_eq]
  omega
theorem takenL_so (m : Int) (r : Nat) : takenL m (SO r) = ((hb m 131072 && ((r : Int) == 9248)) || (hb m 262144 && ((r : Int) == 65294)) || (hb m 524288 && ((r : Int) == 65374)) || (hb m 1048576 && isS r)) := by
  unfold takenL
  rw [so_beq (c := 32) (by decide) 9248 rfl, so_beq (c := 46) (by decide) 65294 rfl, so_beq (c := 126) (by decide) 65374 rfl, isS_so]
  simp only [Bool.and_comm]
  rfl
theorem takenR_so (m : Int) (r : Nat) : takenR m (SO r) = ((hb m 2097152 && ((r : Int) == 9248)) || (hb m 4194304 && ((r : Int) == 65294)) || (hb m 8388608 && isS r)) := by
  unfold takenR
  rw [so_beq (c := 32) (by decide) 9248 rfl, so_beq (c := 46) (by decide) 65294 rfl, isS_so]
  simp only [Bool.and_comm]
  rfl
def tx (l : List UInt8) : ByteArray := ⟨l.toArray⟩
theorem tx_list (l : List UInt8) : (tx l).data.toList = l := rfl
theorem sgn_so {r : Nat} (h : isS r = true) : Dec.one (r - 9216) = tx (enc (SO r)) ∧ sgn (r - 9216) = tx (enc r) := by
  have h' := h
  rw [isS_so] at h
  have e : ∀ c, c < 32 → SO r = c → r = 9216 + c := fun c hc g => by
    rw [so_iff (by omega)] at g
    unfold Sg at g
    rw [if_neg (by omega), if_pos (by omega)] at g
    exact g
  rcases ctl_cases h with g | g | g | g
  all_goals
    have := e _ (by decide) g
    rw [g, this]
    exact ⟨by decide, by decide⟩
theorem dleft_form (m : Int) (r : Nat) : dleft m r = (if takenL m (SO r) = true then some (tx (enc (SO r))) else none) ∧ dleftq m r = (if takenL m (SO r) = true then some (tx (enc r)) else none) := by
  rw [takenL_so]
  unfold dleft dleftq
  by_cases h1 : (hb m 131072 && ((r : Int) == 9248)) = true
  · have : r = 9248 := by rw [Bool.and_eq_true, beq_iff_eq] at h1; omega
    rw [if_pos h1, if_pos h1, h1, if_pos (by rfl), if_pos (by rfl), this]
    exact ⟨by decide, by decide⟩
  rw [if_neg h1, if_neg h1, show (hb m 131072 && ((r : Int) == 9248)) = false by simpa using h1, Bool.false_or]
  by_cases h2 : (hb m 262144 && ((r : Int) == 65294)) = true
  · have : r = 65294 := by rw [Bool.and_eq_true, beq_iff_eq] at h2; omega
    rw [if_pos h2, if_pos h2, h2, if_pos (by rfl), if_pos (by rfl), this]
    exact ⟨by decide, by decide⟩
  rw [if_neg h2, if_neg h2, show (hb m 262144 && ((r : Int) == 65294)) = false by simpa using h2, Bool.false_or]
  by_cases h3 : (hb m 524288 && ((r : Int) == 65374)) = true
  · have : r = 65374 := by rw [Bool.and_eq_true, beq_iff_eq] at h3; omega
    rw [if_pos h3, if_pos h3, h3, if_pos (by rfl), if_pos (by rfl), this]
    exact ⟨by decide, by decide⟩
  rw [if_neg h3, if_neg h3, show (hb m 524288 && ((r : Int) == 65374)) = false by simpa using h3, Bool.false_or]
  by_cases h4 : (hb m 1048576 && isS r) = true
  · obtain ⟨g1, g2⟩ := sgn_so (r := r) (by rw [Bool.and_eq_true] at h4; exact h4.2)
    rw [if_pos h4, if_pos h4, if_pos h4, if_pos h4, g1, g2]
    exact ⟨rfl, rfl⟩
  · rw [if_neg h4, if_neg h4, if_neg h4, if_neg h4]
    exact ⟨rfl, rfl⟩
theorem dright_form (m : Int) (r : Nat) : dright m r = if takenR m (SO r) = true then some (tx (enc (SO r)), tx (enc r)) else none := by
  rw [takenR_so]
  unfold dright
  by_cases h1 : (hb m 2097152 && ((r : Int) == 9248)) = true
  · have : r = 9248 := by rw [Bool.and_eq_true, beq_iff_eq] at h1; omega
    rw [if_pos h1, h1, if_pos (by rfl), this]
    decide
  rw [if_neg h1, show (hb m 2097152 && ((r : Int) == 9248)) = false by simpa using h1, Bool.false_or]
  by_cases h2 : (hb m 4194304 && ((r : Int) == 65294)) = true
  · have : r = 65294 := by rw [Bool.and_eq_true, beq_iff_eq] at h2; omega
    rw [if_pos h2, h2, if_pos (by rfl), this]
    decide
  rw [if_neg h2, show (hb m 4194304 && ((r : Int) == 65294)) = false by simpa using h2, Bool.false_or]
  by_cases h4 : (hb m 8388608 && isS r) = true
  · obtain ⟨g1, g2⟩ := sgn_so (r := r) (by rw [Bool.and_eq_true] at h4; exact h4.2)
    rw [if_pos h4, if_pos h4, g1, g2]
  · rw [if_neg h4, if_neg h4]
/-- The head of a name. -/
def shead (m : Int) : List T → List UInt8 × List T
  | [] => ([], [])
  | [t] => if takenL m (SO t.1) = true then (enc (SO t.1), []) else ([], [t])
  | t :: u :: M => if takenL m (SO t.1) = true then (enc (SO t.1), u :: M) else if t.1 = 8219 ∧ takenL m (SO u.1) = true then (u.2, M) else ([], t :: u :: M)
/-- The tail of a name, from its end. -/
def stailR (m : Int) : List T → List UInt8 × List T
  | [] => ([], [])
  | [t] => if takenR m (SO t.1) = true then (enc (SO t.1), []) else ([], [t])
  | t :: q :: M => if takenR m (SO t.1) = true then (if q.1 = 8219 then (t.2, M) else (enc (SO t.1), q :: M)) else ([], t :: q :: M)
theorem cut_data (s : ByteArray) (n : Nat) : (cut s n).data.toList = s.data.toList.drop n := drop_data s n
theorem dheads_tk (m : Int) (s : ByteArray) (hs : s.data.toList ≠ []) : (dheads m s).1.data.toList = (shead m (tk s.data.toList)).1 ∧ tk (dheads m s).2.data.toList = (shead m (tk s.data.toList)).2 := by
  obtain ⟨t, L, htk⟩ : ∃ t L, tk s.data.toList = t :: L := ⟨_, _, tk_step _ hs⟩
  have F := fst_of s t L htk
  have h8 : decodeGo (⟨#[]⟩ : ByteArray) = (65533, 0) := rfl
  unfold dheads
  rw [F.go, (dleft_form m t.1).1, htk]
  by_cases c1 : takenL m (SO t.1) = true
  · have hne : t.1 ≠ 65533 := by
      intro e
      rw [e, so_bad, l_none] at c1
      cases c1
    rw [if_pos c1]
    cases L with
    | nil =>
      rw [shead, if_pos c1]
      exact ⟨rfl, F.all hne⟩
    | cons u M =>
      rw [shead, if_pos c1]
      exact ⟨rfl, F.all hne⟩
  · rw [if_neg c1]
    by_cases c2 : t.1 = 8219
    · have hcut := F.all (by omega)
      rw [if_pos (by simpa using by omega), (dleft_form m _).2]
      cases L with
      | nil =>
        have hz : (cut s (decodeGo s).2).data.toList = [] := by
          cases e : (cut s (decodeGo s).2).data.toList with
          | nil => rfl
          | cons a b =>
            have h2 : tk (cut s (decodeGo s).2).data.toList = [] := hcut
            rw [e, tk_step _ (by simp)] at h2
            cases h2
        have hz2 : ∀ X : ByteArray, X.data.toList = [] → decodeGo X = (65533, 0) := fun X h => by
          unfold decodeGo
          rw [if_pos (show X.size = 0 from congrArg List.length h)]
        rw [hz2 _ hz, if_neg (by rw [so_bad, l_none]; decide), shead, if_neg c1]
        exact ⟨rfl, htk⟩
      | cons u M =>
        have F2 := fst_of (cut s (decodeGo s).2) u M hcut
        rw [F2.go, shead, if_neg c1]
        by_cases c3 : takenL m (SO u.1) = true
        · have hne : u.1 ≠ 65533 := by
            intro e
            rw [e, so_bad, l_none] at c3
            cases c3
          have hu : u.2 = enc u.1 := by
            rcases tk_form _ u (by rw [htk]; simp) with ⟨r, hr, rfl⟩ | ⟨b, rfl⟩
            · rfl
            · exact absurd rfl hne
          rw [if_pos c3, if_pos ⟨c2, c3⟩]
          refine ⟨hu.symm, ?_⟩
          have h3 := F2.all hne
          rw [drop_data, cut_data, List.drop_drop] at h3
          simp only
          rw [cut_data]
          exact h3
        · rw [if_neg c3, if_neg (fun h => c3 h.2)]
          exact ⟨rfl, htk⟩
    · rw [if_neg (by simpa using by omega)]
      cases L with
      | nil => rw [shead, if_neg c1]; exact ⟨rfl, htk⟩
      | cons u M => rw [shead, if_neg c1, if_neg (fun h => c2 h.1)]; exact ⟨rfl, htk⟩
theorem dtails_tk (m : Int) (s : ByteArray) : (dtails m s).1.data.toList = (stailR m (tk s.data.toList).reverse).1 ∧ tk (dtails m s).2.data.toList = (stailR m (tk s.data.toList).reverse).2.reverse := by
  have empty : ∀ X : ByteArray, tk X.data.toList = [] → (lst X).1 = 65533 := by
    intro X hX
    have hz : X.data.toList = [] := by
      cases e : X.data.toList with
      | nil => rfl
      | cons a b => rw [e, tk_step _ (by simp)] at hX; cases hX
    unfold lst
    rw [hz]
    rfl
  have hf := tk_form s.data.toList
  have hrev : tk s.data.toList = (tk s.data.toList).reverse.reverse := by rw [List.reverse_reverse]
  unfold dtails
  rw [dright_form]
  generalize hR : (tk s.data.toList).reverse = R at hrev
  cases R with
  | nil =>
    rw [empty s hrev, if_neg (by rw [so_bad, r_none]; decide), stailR]
    exact ⟨rfl, hrev⟩
  | cons t R =>
    rw [List.reverse_cons] at hrev
    have G := lst_of s t R.reverse (hf t (by rw [hrev]; simp)) hrev
    rw [show (lst s).1 = t.1 from G.go]
    by_cases c1 : takenR m (SO t.1) = true
    · have hne : t.1 ≠ 65533 := by
        intro e
        rw [e, so_bad, r_none] at c1
        cases c1
      have ht2 : t.2 = enc t.1 := by
        rcases hf t (by rw [hrev]; simp) with ⟨r, hr, rfl⟩ | ⟨b, rfl⟩
        · rfl
        · exact absurd rfl hne
      have hcut : tk (s.extract 0 (s.size - (lst s).2)).data.toList = R.reverse := G.all hne
      rw [if_pos c1]
      simp only
      generalize s.extract 0 (s.size - (lst s).2) = X at hcut
      cases R with
      | nil =>
        rw [empty X hcut, if_neg (by decide), stailR, if_pos c1]
        exact ⟨rfl, hcut⟩
      | cons q M =>
        rw [List.reverse_cons] at hcut
        have G2 := lst_of X q M.reverse (hf q (by rw [hrev]; simp)) hcut
        rw [show (lst X).1 = q.1 from G2.go, stailR, if_pos c1]
        by_cases c2 : q.1 = 8219
        · rw [if_pos (by simpa using by omega), if_pos c2]
          exact ⟨ht2.symm, G2.all (by omega)⟩
        · rw [if_neg (by simpa using by omega), if_neg c2]
          exact ⟨rfl, by rw [hcut, List.reverse_cons]⟩
    · rw [if_neg c1]
      simp only
      cases R with
      | nil => rw [stailR, if_neg c1]; exact ⟨rfl, hrev⟩
      | cons q M => rw [stailR, if_neg c1]; exact ⟨rfl, by rw [hrev]; simp⟩
/-- What a name's characters mean. -/
def nameD (m : Int) (L : List T) : List UInt8 := (shead m L).1 ++ dl m (stailR m (shead m L).2.reverse).2.reverse ++ (stailR m (shead m L).2.reverse).1
theorem decodeT_tk (m : Int) (s : ByteArray) (hs : s.data.toList ≠ []) : (decodeT m s).data.toList = nameD m (tk s.data.toList) := by
  obtain ⟨h1, h2⟩ := dheads_tk m s hs
  obtain ⟨t1, t2⟩ := dtails_tk m (dheads m s).2
  unfold decodeT nameD
  simp only
  rw [body_D, t1, t2, h2, h1]
end Go.Proofs.YtlgoghonnnobfaaDoor.Sdp
namespace Go.Proofs.YtlgoghonnnobfaaDoor.Sdl
open Go Go.Lib Go.Proofs.YtlgoghonnnobfaaDoor.Fr Go.Proofs.YtlgoghonnnobfaaDoor.Tok Go.Proofs.YtlgoghonnnobfaaDoor.Out
open Go.Proofs.YtlgoghonnnobfaaDoor.Enc (Bit isCtl sgn ctl_cases signs)
open Go.Proofs.YtlgoghonnnobfaaDoor.Dec (decBy dstep decFrom decAll dat idxD bodyD dleft dleftq dright isS cut dheads dtails lst decodeT)
open Go.Proofs.YtlgoghonnnobfaaDoor.Pu (hexd two)
open Go.Proofs.YtlgoghonnnobfaaDoor.Enc (qb stopD) 
open Go.Proofs.YtlgoghonnnobfaaDoor.Sdp
theorem ba {a b : ByteArray} (h : a.data.toList = b.data.toList) : a = b := by apply ByteArray.ext; exact Array.ext' h
theorem dec_empty (m : Int) (s : ByteArray) (h : s.data.toList = []) : (Dec.decode m s).data.toList = [] := by
  have hs : s = ⟨#[]⟩ := ba h
  subst hs
  unfold Dec.decode
  split
  · rfl
  rw [if_neg (by simp), if_neg (by simp), if_neg (by simp), if_neg (by simp)]
  have hd : Dec.dheads m ⟨#[]⟩ = (⟨#[]⟩, ⟨#[]⟩) := by
    unfold Dec.dheads
    rw [show (decodeGo (⟨#[]⟩ : ByteArray)).1 = 65533 from rfl, (dleft_form m 65533).1, so_bad, l_none, if_neg (by decide)]
    simp
  obtain ⟨t1, t2⟩ := dtails_tk m ⟨#[]⟩
  unfold Dec.decodeT
  rw [hd]
  simp only
  rw [body_D, t1, t2]
  rfl
end Go.Proofs.YtlgoghonnnobfaaDoor.Sdl

import Derived.Test.YtlgoghonnnobfaaDoorRtp
import Derived.Test.YtlgoghonnnobfaaDoorPth
namespace Go.Proofs.YtlgoghonnnobfaaDoor.Way
open Go Go.Lib Go.Proofs.YtlgoghonnnobfaaDoor.Fr Go.Proofs.YtlgoghonnnobfaaDoor.Tok Go.Proofs.YtlgoghonnnobfaaDoor.Out Go.Proofs.YtlgoghonnnobfaaDoor.Sdp Go.Proofs.YtlgoghonnnobfaaDoor.Kin Go.Proofs.YtlgoghonnnobfaaDoor.Rtp
open Go.Proofs.YtlgoghonnnobfaaDoor.Enc (heads tails tailsIf encodeT hexc)
open Go.Proofs.YtlgoghonnnobfaaDoor.Spl (idxB splitB pieces)
open Go.Proofs.YtlgoghonnnobfaaDoor.Pth (mapped join_pieces mapped_id)
open Go.Proofs.YtlgoghonnnobfaaDoor.Nto (toName fromName)
set_option linter.unusedVariables false
set_option linter.unusedSimpArgs false
/-! ### the whole way of a path to a store and back (plain Lean, no program in sight) -/
/-! #### slashes in what is written -/
theorem enc_high {r : Nat} (h : ok r) (h128 : 128 ≤ r) : ∀ b ∈ enc r, 128 ≤ b.toNat := by
  intro b hb
  rcases enc_shape r with ⟨a, e, ha⟩ | ⟨a, c, e, h1, h2⟩ | ⟨a, c, d, e, h1, h2, h3⟩ | ⟨a, c, d, f, e, h1, h2, h3, h4⟩
  · obtain ⟨a', t', e2, g⟩ := enc_first r h h128
    rw [e] at e2
    injection e2 with e2 _
    subst e2
    omega
  · obtain ⟨a', t', e2, g⟩ := enc_first r h h128
    rw [e] at hb e2
    injection e2 with e2 _
    subst e2
    simp only [List.mem_cons, List.not_mem_nil, or_false] at hb
    rcases hb with rfl | rfl
    · exact g
    · exact h1
  · obtain ⟨a', t', e2, g⟩ := enc_first r h h128
    rw [e] at hb e2
    injection e2 with e2 _
    subst e2
    simp only [List.mem_cons, List.not_mem_nil, or_false] at hb
    unfold cont at h2
    rcases hb with rfl | rfl | rfl
    · exact g
    · omega
    · exact h1
  · obtain ⟨a', t', e2, g⟩ := enc_first r h h128
    rw [e] at hb e2
    injection e2 with e2 _
    subst e2
    simp only [List.mem_cons, List.not_mem_nil, or_false] at hb
    unfold cont at h2 h3
    rcases hb with rfl | rfl | rfl | rfl
    · exact g
    · omega
    · omega
    · exact h1
theorem mem_tok (l : List UInt8) (c : UInt8) (hc : c.toNat < 128) (h : c ∈ l) : ch c.toNat ∈ tk l := by
  have hb := bytes_tk' l
  rw [← hb] at h
  unfold Tok.bytes at h
  obtain ⟨t, ht, hm⟩ := List.mem_flatMap.1 h
  rcases tk_form l t ht with ⟨r, hr, rfl⟩ | ⟨b, rfl⟩
  · have hm' : c ∈ enc r := hm
    rcases Nat.lt_or_ge r 128 with h' | h'
    · rw [enc_low r h'] at hm'
      have e : c = UInt8.ofNat r := by simpa using hm'
      have : c.toNat = r := by rw [e]; simp only [UInt8.toNat_ofNat']; omega
      rw [this]; exact ht
    · have := enc_high hr h' c hm'; omega
  · have e : c = b := by simpa [badT] using hm
    subst e
    have := bad_mem _ _ (Nat.le_refl _) c ht
    omega
theorem tok_mem (l : List UInt8) (c : UInt8) (hc : c.toNat < 128) (h : ch c.toNat ∈ tk l) : c ∈ l := by
  have hb := bytes_tk' l
  rw [← hb]
  unfold Tok.bytes
  refine List.mem_flatMap.2 ⟨_, h, ?_⟩
  show c ∈ enc c.toNat
  rw [enc_low _ hc]
  simp
theorem wd_47 (A : Nat → Bool) (hA : Asc7 A) (inv : Bool) (t : T) (ht : Out.Form t) (h : ch 47 ∈ Wd A inv t) : t = ch 47 ∧ A 47 = false := by
  rcases ht with ⟨r, hr, rfl⟩ | ⟨b, rfl⟩
  · rw [wd_ch] at h
    by_cases c1 : A r = true
    · rw [if_pos c1] at h
      have e : 47 = Sg r := ch_inj (by simpa using h)
      have := (sg_all ⟨r, hA.low r c1⟩).1
      simp only at this
      omega
    · rw [if_neg c1] at h
      have e : ch 47 = ch r := by
        split at h
        · rcases List.mem_cons.1 h with h | h
          · exact absurd (ch_inj h) (by decide)
          · simpa using h
        · simpa using h
      have : 47 = r := ch_inj e
      subst this
      exact ⟨rfl, by simpa using c1⟩
  · rw [wd_bad] at h
    split at h
    · exfalso
      have x1 := (hex_lt ⟨b.toNat / 16, by have := b.toNat_lt; omega⟩)
      have x2 := (hex_lt ⟨b.toNat % 16, by omega⟩)
      simp only at x1 x2
      unfold quotedT at h
      simp only [List.mem_cons, List.not_mem_nil, or_false] at h
      have no : ∀ k, Pu.hexd (hexc k).toNat = some k → ch 47 ≠ ch (hexc k).toNat := fun k hk e => by
        have : 47 = (hexc k).toNat := ch_inj e
        rw [← this, show Pu.hexd 47 = none by decide] at hk
        cases hk
      rcases h with h | h | h
      · exact absurd (ch_inj h) (by decide)
      · exact no _ x1.2 h
      · exact no _ x2.2 h
    · rw [List.mem_singleton] at h
      exact (ch_ne_bad (by decide) h).elim
theorem am_le {m : Int} {x : Nat} : (AM m x = true → A1 m x = true) ∧ (AM m x = true → AN m x = true) ∧ (AM m x = true → AO m x = true) := by
  unfold AO AN A1
  refine ⟨fun h => ?_, fun h => ?_, fun h => ?_⟩ <;> rw [h] <;> simp
theorem code_47 (m : Int) (L : List T) (hf : ∀ t ∈ L, Out.Form t) (h : ch 47 ∈ code1 (A1 m) (AM m) (AN m) (AO m) (hb m 16777216) L) : ch 47 ∈ L ∧ AM m 47 = false := by
  have fl : ∀ {A : Nat → Bool}, (AM m 47 = true → A 47 = true) → A 47 = false → AM m 47 = false := fun h1 h2 => by
    cases e : AM m 47 with
    | false => rfl
    | true => rw [h1 e] at h2; cases h2
  have hR : ∀ L : List T, (∀ t ∈ L, Out.Form t) → ch 47 ∈ codeR (AM m) (AN m) (hb m 16777216) L → ch 47 ∈ L ∧ AM m 47 = false := by
    intro L
    induction L with
    | nil => intro _ h; cases h
    | cons t L ih =>
      intro hf h
      cases L with
      | nil =>
        obtain ⟨e, g⟩ := wd_47 (AN m) (AN_asc m) _ t (hf t (by simp)) h
        exact ⟨by rw [e]; simp, fl am_le.2.1 g⟩
      | cons t' r =>
        rw [codeR] at h
        rcases List.mem_append.1 h with h | h
        · obtain ⟨e, g⟩ := wd_47 (AM m) (AM_asc m) _ t (hf t (by simp)) h
          exact ⟨by rw [e]; simp, g⟩
        · obtain ⟨g1, g2⟩ := ih (fun x hx => hf x (by simp [hx])) h
          exact ⟨List.mem_cons_of_mem _ g1, g2⟩
  match L, hf, h with
  | [t], hf, h =>
    obtain ⟨e, g⟩ := wd_47 (AO m) (AO_asc m) _ t (hf t (by simp)) h
    exact ⟨by rw [e]; simp, fl am_le.2.2 g⟩
  | t :: t' :: r, hf, h =>
    rw [code1] at h
    rcases List.mem_append.1 h with h | h
    · obtain ⟨e, g⟩ := wd_47 (A1 m) (A1_asc m) _ t (hf t (by simp)) h
      exact ⟨by rw [e]; simp, fl am_le.1 g⟩
    · obtain ⟨g1, g2⟩ := hR _ (fun x hx => hf x (List.mem_cons_of_mem _ hx)) h
      exact ⟨List.mem_cons_of_mem _ g1, g2⟩
theorem am_47 (m : Int) : AM m 47 = hb m 2 := by
  unfold AM anyC Enc.bits
  simp only [List.any_cons, List.any_nil, Enc.full, Enc.ctls]
  simp
  intro _ x hx h
  omega
/-- A slash is written where one stands, and no bit takes it, alone. -/
theorem enc_47 (m : Int) (p : ByteArray) (h : (47 : UInt8) ∈ (Enc.encode m p).data.toList) : (47 : UInt8) ∈ p.data.toList ∧ hb m 2 = false := by
  by_cases h1 : m = 1
  · subst h1
    unfold Enc.encode at h
    rw [if_pos rfl] at h
    exact ⟨h, by decide⟩
  have ht := mem_tok _ 47 (by decide) h
  rcases enc_kinds m p h1 with ⟨a0, a1⟩ | ⟨a0, aD, ak⟩ | ⟨a0, a1, _⟩
  · rw [a1] at h; cases h
  · exfalso
    have no : ch 47 ∉ ([ch 65294] ++ [ch 65294] : List T) ∧ ch 47 ∉ ([ch 8219, ch 65294] ++ [ch 8219, ch 65294] : List T) := by
      constructor <;> (simp only [List.cons_append, List.nil_append, List.mem_cons, List.not_mem_nil, or_false]; intro hh; rcases hh with hh | hh <;> first | exact absurd (ch_inj hh) (by decide) | (rcases hh with hh | hh | hh <;> exact absurd (ch_inj hh) (by decide)))
    rcases ak with ⟨_, hk⟩ | ⟨_, hk⟩ | ⟨_, hk⟩ | ⟨_, hk⟩
    · rw [hk] at ht; exact no.1 (by simp at ht ⊢; exact ht)
    · rw [hk] at ht; exact no.1 ht
    · rw [hk] at ht; exact no.2 (by simp at ht ⊢; rcases ht with ht | ht <;> simp [ht])
    · rw [hk] at ht; exact no.2 ht
  · rw [a1, encodeT_code m p a0] at ht
    obtain ⟨g1, g2⟩ := code_47 m _ (tk_form _) ht
    exact ⟨tok_mem _ 47 (by decide) g1, by rw [← am_47]; exact g2⟩
/-! #### how long what is written is -/
theorem enc_three' (r : Nat) : (enc r).length ≤ 4 := Enc.rune_len (r : Int)
theorem sg_len {c : Nat} (h : c < 128) : (enc (Sg c)).length ≤ 3 := by
  have : ∀ c : Fin 128, (enc (Sg c.val)).length ≤ 3 := by decide
  exact this ⟨c, h⟩
theorem unit_len' (m : Int) (t : T) (ht : Out.Form t) : (Tok.bytes (unitT m t)).length ≤ 6 * t.2.length := by
  rcases ht with ⟨r, hr, rfl⟩ | ⟨b, rfl⟩
  · have hp := enc_pos r
    have e2 : (ch r).2 = enc r := rfl
    rw [unitT_wd m _ (.inl ⟨r, hr, rfl⟩), wd_ch, e2]
    have e8 : (enc 8219).length = 3 := by decide
    split
    · rename_i h
      have := sg_len ((AM_asc m).low r h)
      simp only [bytes_cons, bytes_nil, ch, List.append_nil]; omega
    · split
      · simp only [bytes_cons, bytes_nil, ch, List.append_nil, List.length_append]; omega
      · simp only [bytes_cons, bytes_nil, ch, List.append_nil]; omega
  · rw [unitT_bad]
    have e2 : (badT b).2.length = 1 := rfl
    rw [e2]
    split
    · rw [quoted_T]; exact (by decide : 5 ≤ 6)
    · simp [bytes_cons, bytes_nil, badT]
theorem flat_len (m : Int) : ∀ L : List T, (∀ t ∈ L, Out.Form t) → (Tok.bytes (L.flatMap (unitT m))).length ≤ 6 * (Tok.bytes L).length
  | [], _ => Nat.zero_le _
  | t :: L, hf => by
    have h1 := unit_len' m t (hf t (by simp))
    have h2 := flat_len m L fun x hx => hf x (by simp [hx])
    rw [List.flatMap_cons, bytes_append, bytes_cons, List.length_append, List.length_append]
    omega
theorem ehead_len (m : Int) (L : List T) (hf : ∀ t ∈ L, Out.Form t) : (ehead m L).1.length + 6 * (Tok.bytes (ehead m L).2).length ≤ 6 * (Tok.bytes L).length ∧ ∀ t ∈ (ehead m L).2, Out.Form t := by
  cases L with
  | nil => exact ⟨Nat.le_refl _, fun t h => by cases h⟩
  | cons t L =>
    have hp : 1 ≤ t.2.length := by
      rcases hf t (by simp) with ⟨r, _, rfl⟩ | ⟨b, rfl⟩
      · exact enc_pos r
      · exact Nat.le_refl _
    have e8 : (enc 8219).length = 3 := by decide
    rw [ehead]
    split
    · rename_i h
      have := sg_len (L_low h)
      exact ⟨by simp only [bytes_cons, List.length_append]; omega, fun x hx => hf x (by simp [hx])⟩
    · split
      · exact ⟨by simp only [bytes_cons, List.length_append]; omega, fun x hx => hf x (by simp [hx])⟩
      · exact ⟨by simp, hf⟩
theorem etail_len (m : Int) (L : List T) (hf : ∀ t ∈ L, Out.Form t) : (etailR m L).1.length + 6 * (Tok.bytes (etailR m L).2).length ≤ 6 * (Tok.bytes L).length ∧ ∀ t ∈ (etailR m L).2, Out.Form t := by
  cases L with
  | nil => exact ⟨Nat.le_refl _, fun t h => by cases h⟩
  | cons t L =>
    have hp : 1 ≤ t.2.length := by
      rcases hf t (by simp) with ⟨r, _, rfl⟩ | ⟨b, rfl⟩
      · exact enc_pos r
      · exact Nat.le_refl _
    have e8 : (enc 8219).length = 3 := by decide
    rw [etailR]
    split
    · rename_i h
      have := sg_len (R_low h)
      exact ⟨by simp only [bytes_cons, List.length_append]; omega, fun x hx => hf x (by simp [hx])⟩
    · split
      · exact ⟨by simp only [bytes_cons, List.length_append]; omega, fun x hx => hf x (by simp [hx])⟩
      · exact ⟨by simp, hf⟩
theorem enc_size (m : Int) (p : ByteArray) : (Enc.encode m p).size ≤ 6 * p.size := by
  have e1 : (Enc.encode m p).size = (Enc.encode m p).data.toList.length := rfl
  have e2 : p.size = p.data.toList.length := rfl
  rw [e1, e2]
  unfold Enc.encode
  split
  · omega
  split
  · exact Nat.zero_le _
  split
  · rename_i h; rw [h.2]; decide
  split
  · rename_i h; rw [h.2]; decide
  split
  · rename_i h; rw [h.2]; decide
  split
  · rename_i h; rw [h.2]; decide
  · rename_i h0 _ _ _ _
    rw [encodeT_tk m p h0]
    obtain ⟨a1, a2⟩ := ehead_len m (tk p.data.toList) (tk_form _)
    obtain ⟨b1, b2⟩ := etail_len m (ehead m (tk p.data.toList)).2.reverse (fun t ht => a2 t (List.mem_reverse.1 ht))
    have c1 := flat_len m (etailR m (ehead m (tk p.data.toList)).2.reverse).2.reverse (fun t ht => b2 t (List.mem_reverse.1 ht))
    rw [Nto.bytes_rev] at b1 c1
    rw [bytes_tk'] at a1
    unfold nameE
    rw [List.length_append, List.length_append]
    omega
/-! #### pieces -/
def J (xs : List ByteArray) : ByteArray := ⟨(Lib.join (xs.map (·.data.toList)) [47]).toArray⟩
theorem idx_app (a b : List UInt8) (h : (47 : UInt8) ∉ a) : idxB 47 (a ++ 47 :: b) = a.length := by
  unfold idxB
  induction a with
  | nil => simp
  | cons x a ih =>
    have hx : x ≠ 47 := fun e => h (by simp [e])
    rw [List.cons_append, List.takeWhile_cons, if_pos (by simpa using hx), List.length_cons, List.length_cons, ih (fun hm => h (by simp [hm]))]
theorem idx_no (a : List UInt8) (h : (47 : UInt8) ∉ a) : idxB 47 a = a.length := by
  unfold idxB
  induction a with
  | nil => rfl
  | cons x a ih =>
    have hx : x ≠ 47 := fun e => h (by simp [e])
    rw [List.takeWhile_cons, if_pos (by simpa using hx), List.length_cons, List.length_cons, ih (fun hm => h (by simp [hm]))]
theorem split_join : ∀ (xs : List ByteArray), xs ≠ [] → (∀ x ∈ xs, (47 : UInt8) ∉ x.data.toList) → ∀ f, (J xs).size ≤ f → splitB 47 f (J xs) = xs
  | [x], _, hn, f, hf => by
    have e : J [x] = x := Sdl.ba (by show (Lib.join [x.data.toList] [47]).toArray.toList = _; rw [Lib.join_one])
    rw [e]
    refine Spl.split_end 47 f x ?_
    rw [idx_no _ (hn x (by simp))]
    exact Nat.lt_irrefl _
  | x :: y :: xs, _, hn, f, hf => by
    have hx := hn x (by simp)
    have hd : (J (x :: y :: xs)).data.toList = x.data.toList ++ 47 :: (J (y :: xs)).data.toList := by
      show Lib.join (x.data.toList :: y.data.toList :: xs.map _) [47] = _ ++ 47 :: Lib.join (y.data.toList :: xs.map _) [47]
      rw [Lib.join_cons, Lib.join_cons]
      simp [Lib.joinTail]
    have hsz : (J (x :: y :: xs)).size = x.size + (1 + (J (y :: xs)).size) := by
      have := congrArg List.length hd
      rw [List.length_append, List.length_cons] at this
      have e1 : (J (x :: y :: xs)).data.toList.length = (J (x :: y :: xs)).size := rfl
      have e2 : (J (y :: xs)).data.toList.length = (J (y :: xs)).size := rfl
      have e3 : x.data.toList.length = x.size := rfl
      omega
    have hi : idxB 47 (J (x :: y :: xs)).data.toList = x.size := by rw [hd]; exact idx_app _ _ hx
    obtain ⟨f, rfl⟩ : ∃ f', f = f' + 1 := ⟨f - 1, by omega⟩
    rw [splitB, hi, if_pos (by omega)]
    have e1 : (J (x :: y :: xs)).extract 0 x.size = x := by
      apply Sdl.ba
      rw [take_data, hd]
      exact List.take_left
    have e2 : (J (x :: y :: xs)).extract (x.size + 1) (J (x :: y :: xs)).size = J (y :: xs) := by
      apply Sdl.ba
      rw [drop_data, hd]
      have : x.data.toList.length = x.size := rfl
      rw [← this, List.drop_append]
      simp
    rw [e1, e2, split_join (y :: xs) (by simp) (fun z hz => hn z (by simp [hz])) f (by omega)]
theorem pieces_join (xs : List ByteArray) (h : xs ≠ []) (hn : ∀ x ∈ xs, (47 : UInt8) ∉ x.data.toList) : pieces 47 (J xs) = xs := split_join xs h hn _ (Nat.le_refl _)
theorem mapped_join (f : ByteArray → ByteArray) (xs : List ByteArray) (h : xs ≠ []) (hn : ∀ x ∈ xs, (47 : UInt8) ∉ x.data.toList) : mapped f (J xs) = J (xs.map f) := by
  unfold mapped
  rw [pieces_join xs h hn]
  rfl
theorem J_snoc (xs : List ByteArray) (x : ByteArray) (h : xs ≠ []) : J (xs ++ [x]) = J xs ++ (⟨#[47]⟩ : ByteArray) ++ x := by
  apply Sdl.ba
  cases xs with
  | nil => exact absurd rfl h
  | cons y ys =>
    rw [ByteArray.data_append, Array.toList_append, ByteArray.data_append, Array.toList_append]
    show Lib.join ((y :: ys ++ [x]).map (·.data.toList)) [47] = Lib.join ((y :: ys).map (·.data.toList)) [47] ++ [47] ++ x.data.toList
    rw [List.cons_append, List.map_cons, List.map_cons, Lib.join_cons, Lib.join_cons]
    simp [Lib.joinTail]
theorem J_one (x : ByteArray) : J [x] = x := Sdl.ba (by show (Lib.join [x.data.toList] [47]).toArray.toList = _; rw [Lib.join_one])
theorem J_count : ∀ (xs : List ByteArray), xs ≠ [] → (∀ x ∈ xs, (47 : UInt8) ∉ x.data.toList) → (J xs).data.toList.count 47 = xs.length - 1
  | [x], _, hn => by rw [J_one, List.count_eq_zero.2 (hn x (by simp))]; rfl
  | x :: y :: xs, _, hn => by
    have hd : (J (x :: y :: xs)).data.toList = x.data.toList ++ 47 :: (J (y :: xs)).data.toList := by
      show Lib.join (x.data.toList :: y.data.toList :: xs.map _) [47] = _ ++ 47 :: Lib.join (y.data.toList :: xs.map _) [47]
      rw [Lib.join_cons, Lib.join_cons]
      simp [Lib.joinTail]
    rw [hd, List.count_append, List.count_eq_zero.2 (hn x (by simp)), List.count_cons_self, J_count (y :: xs) (by simp) (fun z hz => hn z (by simp [hz]))]
    simp
def sumz (l : List ByteArray) : Nat := (l.map (·.size)).sum
theorem J_size : ∀ (xs : List ByteArray), (J xs).size ≤ sumz xs + xs.length
  | [] => Nat.zero_le _
  | [x] => by rw [J_one]; simp [sumz]
  | x :: y :: xs => by
    have hd : (J (x :: y :: xs)).data.toList = x.data.toList ++ 47 :: (J (y :: xs)).data.toList := by
      show Lib.join (x.data.toList :: y.data.toList :: xs.map _) [47] = _ ++ 47 :: Lib.join (y.data.toList :: xs.map _) [47]
      rw [Lib.join_cons, Lib.join_cons]
      simp [Lib.joinTail]
    have := congrArg List.length hd
    rw [List.length_append, List.length_cons] at this
    have e1 : (J (x :: y :: xs)).data.toList.length = (J (x :: y :: xs)).size := rfl
    have e2 : (J (y :: xs)).data.toList.length = (J (y :: xs)).size := rfl
    have e3 : x.data.toList.length = x.size := rfl
    have ih := J_size (y :: xs)
    unfold sumz at ih ⊢
    rw [List.map_cons, List.sum_cons, List.length_cons]
    omega
theorem sum_enc (m : Int) : ∀ xs : List ByteArray, sumz (xs.map (Enc.encode m)) ≤ 6 * sumz xs
  | [] => Nat.zero_le _
  | x :: xs => by
    have h1 := enc_size m x
    have h2 := sum_enc m xs
    unfold sumz at h2 ⊢
    rw [List.map_cons, List.map_cons, List.sum_cons, List.map_cons, List.sum_cons]
    omega
/-! #### there and back -/
theorem std_bits : hb 33652738 262144 = false ∧ hb 33652738 4194304 = false ∧ hb 33652738 2097152 = false ∧ hb 33652738 8388608 = false ∧ hb 33652738 2 = true := by decide
theorem std_back (p : ByteArray) : Dec.decode 33652738 (Enc.encode 33652738 p) = p := by
  refine decode_encode 33652738 p ?_ ?_
  · rintro ⟨_, h, _⟩
    exact h (by rw [std_bits.1, std_bits.2.1])
  · rintro ⟨M, q, t, _, _, h⟩
    unfold takenR at h
    rw [std_bits.2.1, std_bits.2.2.1, std_bits.2.2.2.1] at h
    simp at h
/-- What the law asks. -/
theorem way (m : Int) (xs : List ByteArray) (hne : xs ≠ []) (hopen : ∀ p ∈ xs, ¬ dotOpen m p.data.toList ∧ ¬ quoteOpen m (tk p.data.toList)) (hs : hb m 2 = true ∨ ∀ p ∈ xs, (47 : UInt8) ∉ p.data.toList) (hsum : sumz xs ≤ 65536) (hlen : xs.length ≤ 1000)
    (path : ByteArray) (hp : path = J (xs.map (Enc.encode 33652738))) :
    path.size ≤ 400000 ∧ ∃ there, (mapped (fromName m) path).size ≤ 400000 ∧ (if m = 33652738 then path else mapped (fromName m) path) = there ∧ there.size ≤ 400000 ∧ (mapped (toName m) there).size ≤ 400000 ∧ (if m = 33652738 then there else mapped (toName m) there) = path ∧ path.data.toList.count 47 = there.data.toList.count 47 := by
  have n1 : ∀ x ∈ xs.map (Enc.encode 33652738), (47 : UInt8) ∉ x.data.toList := by
    intro x hx hm
    obtain ⟨p, hp, rfl⟩ := List.mem_map.1 hx
    have := (enc_47 _ p hm).2
    rw [std_bits.2.2.2.2] at this
    cases this
  have n2 : ∀ x ∈ xs.map (Enc.encode m), (47 : UInt8) ∉ x.data.toList := by
    intro x hx hm
    obtain ⟨p, hp, rfl⟩ := List.mem_map.1 hx
    obtain ⟨g1, g2⟩ := enc_47 _ p hm
    rcases hs with h | h
    · rw [h] at g2; cases g2
    · exact h p hp g1
  have hne1 : xs.map (Enc.encode 33652738) ≠ [] := by simpa using hne
  have hne2 : xs.map (Enc.encode m) ≠ [] := by simpa using hne
  have sz : ∀ k : Int, (J (xs.map (Enc.encode k))).size ≤ 400000 := fun k => by
    have h1 := J_size (xs.map (Enc.encode k))
    have h2 := sum_enc k xs
    rw [List.length_map] at h1
    omega
  have hpsz : path.size ≤ 400000 := by rw [hp]; exact sz _
  have pid : ∀ (f : ByteArray → ByteArray), (∀ q, f q = q) → mapped f path = path := fun f hf => mapped_id f path fun q _ => hf q
  refine ⟨hpsz, ?_⟩
  by_cases hm : m = 33652738
  · have f1 := pid (fromName m) fun q => by unfold Nto.fromName; rw [if_pos hm]
    have f2 := pid (toName m) fun q => by unfold Nto.toName; rw [if_pos hm]
    exact ⟨path, by rw [f1]; exact hpsz, by rw [if_pos hm], hpsz, by rw [f2]; exact hpsz, by rw [if_pos hm], rfl⟩
  · have f1 : mapped (fromName m) path = J (xs.map (Enc.encode m)) := by
      rw [hp, mapped_join _ _ hne1 n1, List.map_map]
      congr 1
      refine List.map_congr_left fun p _ => ?_
      simp only [Function.comp]
      unfold Nto.fromName
      rw [if_neg hm, std_back]
    have f2 : mapped (toName m) (J (xs.map (Enc.encode m))) = path := by
      rw [hp, mapped_join _ _ hne2 n2, List.map_map]
      congr 1
      refine List.map_congr_left fun p hp => ?_
      simp only [Function.comp]
      unfold Nto.toName
      rw [if_neg hm, decode_encode m p (hopen p hp).1 (hopen p hp).2]
    refine ⟨J (xs.map (Enc.encode m)), by rw [f1]; exact sz m, by rw [if_neg hm, f1], sz m, by rw [f2]; exact hpsz, by rw [if_neg hm, f2], ?_⟩
    rw [hp, J_count _ hne1 n1, J_count _ hne2 n2, List.length_map, List.length_map]
end Go.Proofs.YtlgoghonnnobfaaDoor.Way

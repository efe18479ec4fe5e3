import Derived.Test.YtlgoghonnnobfaaDoorOut
import Derived.Test.YtlgoghonnnobfaaDoorUts
namespace Go.Proofs.YtlgoghonnnobfaaDoor.Out
open Go Go.Lib Go.Proofs.YtlgoghonnnobfaaDoor.Fr Go.Proofs.YtlgoghonnnobfaaDoor.Tok
open Go.Proofs.YtlgoghonnnobfaaDoor.Enc (Bit by' unit encFrom encAll idxE bodyL stopE heads tailsIf tails encodeT encode hexc isCtl sgn lstep lstep4 rstep rstep4 both)
set_option linter.unusedVariables false
set_option linter.unusedSimpArgs false
theorem tk_forms : ∀ (n : Nat) (l : List UInt8), l.length ≤ n → ∀ t ∈ tk l, (∃ r, ok r ∧ t = ch r) ∨ ∃ b, t = badT b
  | 0, l, h, t, ht => by
    have : l = [] := List.length_eq_zero_iff.1 (by omega)
    subst this
    rw [tk_nil] at ht
    cases ht
  | n + 1, l, h, t, ht => by
    by_cases h0 : l = []
    · subst h0; rw [tk_nil] at ht; cases ht
    · rcases tk_head l h0 with ⟨b, l', rfl, _, e⟩ | ⟨r, l', hr, rfl, _, e⟩
      · rw [e] at ht
        rcases List.mem_cons.1 ht with rfl | ht
        · exact .inr ⟨b, rfl⟩
        · exact tk_forms n l' (by simp at h; omega) t ht
      · have := enc_pos r
        rw [List.length_append] at h
        rw [e] at ht
        rcases List.mem_cons.1 ht with rfl | ht
        · exact .inl ⟨r, hr, rfl⟩
        · exact tk_forms n l' (by omega) t ht
theorem tk_form (l : List UInt8) : ∀ t ∈ tk l, (∃ r, ok r ∧ t = ch r) ∨ ∃ b, t = badT b := tk_forms l.length l (Nat.le_refl _)
theorem sub_flat (m : Int) (hi : hb m 16777216 = false) : ∀ L : List T, (∀ t ∈ L, (∃ r, ok r ∧ t = ch r) ∨ ∃ b, t = badT b) → Sub L (L.flatMap (unitT m))
  | [], _ => .nil
  | t :: L, h => by
    have ih := sub_flat m hi L fun x hx => h x (by simp [hx])
    rw [List.flatMap_cons]
    rcases h t (by simp) with ⟨r, hr, rfl⟩ | ⟨b, rfl⟩
    · rw [unitT_ch]
      obtain ⟨h1, h2⟩ := unitR_prop m r hr
      exact .ok r (unitR m r) h1 (fun x hx => (h2 x hx).1) ih
    · rw [unitT_bad, hi]
      exact .bad b ih
theorem hexes (b : UInt8) : b.toNat / 16 < 16 ∧ b.toNat % 16 < 16 := by have := b.toNat_lt; omega
theorem chs_flat (m : Int) (hi : hb m 16777216 = true) : ∀ L : List T, (∀ t ∈ L, (∃ r, ok r ∧ t = ch r) ∨ ∃ b, t = badT b) → ∃ rs : List Nat, (∀ x ∈ rs, ok x) ∧ L.flatMap (unitT m) = rs.map ch
  | [], _ => ⟨[], fun _ h => (by cases h), rfl⟩
  | t :: L, h => by
    obtain ⟨rs, h1, h2⟩ := chs_flat m hi L fun x hx => h x (by simp [hx])
    rw [List.flatMap_cons, h2]
    rcases h t (by simp) with ⟨r, hr, rfl⟩ | ⟨b, rfl⟩
    · rw [unitT_ch]
      obtain ⟨g1, g2⟩ := unitR_prop m r hr
      exact ⟨unitR m r ++ rs, fun x hx => by
        rcases List.mem_append.1 hx with hx | hx
        · exact (g2 x hx).1
        · exact h1 x hx, by rw [List.map_append]⟩
    · rw [unitT_bad, hi, if_pos rfl]
      have q1 := (hex_all ⟨b.toNat / 16, (hexes b).1⟩).2.1
      have q2 := (hex_all ⟨b.toNat % 16, (hexes b).2⟩).2.1
      refine ⟨[8219, (hexc (b.toNat / 16)).toNat, (hexc (b.toNat % 16)).toNat] ++ rs, fun x hx => ?_, by rw [List.map_append]; rfl⟩
      rcases List.mem_append.1 hx with hx | hx
      · simp only [List.mem_cons, List.not_mem_nil, or_false] at hx
        rcases hx with rfl | rfl | rfl
        · decide
        · exact q1
        · exact q2
      · exact h1 x hx
theorem tk_F (m : Int) (l : List UInt8) : tk (F m l) = (tk l).flatMap (unitT m) := by
  unfold F
  cases hi : hb m 16777216 with
  | false => exact tk_sub l _ (sub_flat m hi _ (tk_form l))
  | true =>
    obtain ⟨rs, h1, h2⟩ := chs_flat m hi _ (tk_form l)
    rw [h2]
    exact tk_chs' rs h1
/-- Is a character of ASCII one that the bits take. -/
def taken (m : Int) (x : Nat) : Prop := x = 0 ∨ ∃ b ∈ Enc.bits, hb m b.f = true ∧ (x : Int) ∈ b.cs
/-- What may stand in what is written. -/
def Fine (m : Int) (t : T) : Prop := (∃ x, ok x ∧ t = ch x ∧ (128 ≤ x ∨ ¬ taken m x)) ∨ (∃ b, t = badT b ∧ hb m 16777216 = false)
theorem fine_unit (m : Int) (t : T) (ht : (∃ r, ok r ∧ t = ch r) ∨ ∃ b, t = badT b) : unitT m t ≠ [] ∧ ∀ u ∈ unitT m t, Fine m u ∧ (takenL m u.1 = true → u.1 = t.1) ∧ (takenR m u.1 = true → u.1 = t.1) := by
  have low : ∀ x : Nat, 128 ≤ x → takenL m x = false ∧ takenR m x = false := fun x hx => by
    have e1 : (x == 32) = false := by simp; omega
    have e2 : (x == 46) = false := by simp; omega
    have e3 : (x == 126) = false := by simp; omega
    have e4 : isCtl x = false := by simp [isCtl]; omega
    simp [takenL, takenR, e1, e2, e3, e4]
  rcases ht with ⟨r, hr, rfl⟩ | ⟨b, rfl⟩
  · rw [unitT_ch]
    obtain ⟨h1, h2⟩ := unitR_prop m r hr
    refine ⟨by simpa using h1, fun u hu => ?_⟩
    obtain ⟨x, hx, rfl⟩ := List.mem_map.1 hu
    obtain ⟨g1, g2⟩ := h2 x hx
    refine ⟨.inl ⟨x, g1, rfl, g2.imp id (fun g => ?_)⟩, fun hL => ?_, fun hR => ?_⟩
    · obtain ⟨e, e0, e1⟩ := g
      subst e
      rintro (h | ⟨b, hb1, hb2, hb3⟩)
      · exact e0 h
      · exact e1 b hb1 hb2 hb3
    · rcases g2 with g2 | g2
      · rw [show (ch x).1 = x from rfl, (low x g2).1] at hL; cases hL
      · exact g2.1
    · rcases g2 with g2 | g2
      · rw [show (ch x).1 = x from rfl, (low x g2).2] at hR; cases hR
      · exact g2.1
  · rw [unitT_bad]
    cases hi : hb m 16777216 with
    | false =>
      rw [if_neg (by decide)]
      refine ⟨by simp, fun u hu => ?_⟩
      rw [List.mem_singleton.1 hu]
      exact ⟨.inr ⟨b, rfl, hi⟩, fun _ => rfl, fun _ => rfl⟩
    | true =>
      rw [if_pos rfl]
      refine ⟨by simp [quotedT], fun u hu => ?_⟩
      have key : ∀ n : Fin 16, Fine m (ch (hexc n.val).toNat) ∧ takenL m (hexc n.val).toNat = false ∧ takenR m (hexc n.val).toNat = false := fun n => by
        obtain ⟨_, k1, k2, k3, k4, k5, k6, k7⟩ := hex_all n
        have e1 : ((hexc n.val).toNat == 32) = false := by simpa using k3
        have e2 : ((hexc n.val).toNat == 46) = false := by simpa using k4
        have e3 : ((hexc n.val).toNat == 126) = false := by simpa using k5
        refine ⟨.inl ⟨_, k1, rfl, .inr ?_⟩, by simp [takenL, e1, e2, e3, k6], by simp [takenR, e1, e2, k6]⟩
        rintro (h | ⟨b, hb1, _, hb3⟩)
        · exact k2 h
        · exact k7 b hb1 hb3
      have q1 := key ⟨b.toNat / 16, (hexes b).1⟩
      have q2 := key ⟨b.toNat % 16, (hexes b).2⟩
      simp only [quotedT, List.mem_cons, List.not_mem_nil, or_false] at hu
      rcases hu with rfl | rfl | rfl
      · exact ⟨.inl ⟨8219, by decide, rfl, .inl (by decide)⟩, fun h => by rw [show (ch 8219).1 = 8219 from rfl, (low 8219 (by decide)).1] at h; (cases h), fun h => by rw [show (ch 8219).1 = 8219 from rfl, (low 8219 (by decide)).2] at h; (cases h)⟩
      · exact ⟨q1.1, fun h => by rw [show (ch (hexc (b.toNat / 16)).toNat).1 = (hexc (b.toNat / 16)).toNat from rfl, q1.2.1] at h; (cases h), fun h => by rw [show (ch (hexc (b.toNat / 16)).toNat).1 = (hexc (b.toNat / 16)).toNat from rfl, q1.2.2] at h; (cases h)⟩
      · exact ⟨q2.1, fun h => by rw [show (ch (hexc (b.toNat % 16)).toNat).1 = (hexc (b.toNat % 16)).toNat from rfl, q2.2.1] at h; (cases h), fun h => by rw [show (ch (hexc (b.toNat % 16)).toNat).1 = (hexc (b.toNat % 16)).toNat from rfl, q2.2.2] at h; (cases h)⟩
theorem low_not (m : Int) (x : Nat) (hx : 128 ≤ x) : takenL m x = false ∧ takenR m x = false := by
  have e1 : (x == 32) = false := by simp; omega
  have e2 : (x == 46) = false := by simp; omega
  have e3 : (x == 126) = false := by simp; omega
  have e4 : isCtl x = false := by simp [isCtl]; omega
  simp [takenL, takenR, e1, e2, e3, e4]
theorem tails_prefix (m : Int) (s : ByteArray) : ∃ n, (tailsIf m s).2.data.toList = s.data.toList.take n := by
  have self : ∀ q : ByteArray, ∃ n, q.data.toList = q.data.toList.take n := fun q => ⟨q.data.toList.length, (List.take_length).symm⟩
  have r1 : ∀ (f : Int) (c R : Nat) (S : List UInt8) (p : ByteArray × ByteArray), (∃ n, p.2.data.toList = s.data.toList.take n) → ∃ n, (rstep m f c R S p).2.data.toList = s.data.toList.take n := by
    rintro f c R S p ⟨n, hn⟩
    unfold rstep
    split
    · split
      · exact ⟨min (p.2.size - 1) n, by rw [take_data, hn, List.take_take]⟩
      · split
        · exact ⟨min (p.2.size - (decodeLastL p.2.data.toList).2) n, by rw [take_data, hn, List.take_take]⟩
        · exact ⟨n, hn⟩
    · exact ⟨n, hn⟩
  unfold tailsIf
  split
  · exact self s
  unfold tails
  obtain ⟨n, hn⟩ := r1 4194304 46 65294 [239, 188, 142] _ (r1 2097152 32 9248 [226, 144, 160] (⟨#[]⟩, s) (self s))
  generalize rstep m 4194304 46 65294 [239, 188, 142] (rstep m 2097152 32 9248 [226, 144, 160] (⟨#[]⟩, s)) = p at hn
  unfold rstep4
  split
  · split
    · exact ⟨min (p.2.size - 1) n, by rw [take_data, hn, List.take_take]⟩
    · split
      · exact ⟨min (p.2.size - (decodeLastL p.2.data.toList).2) n, by rw [take_data, hn, List.take_take]⟩
      · exact ⟨n, hn⟩
  · exact ⟨n, hn⟩
theorem enc_low (r : Nat) (h : r < 128) : enc r = [UInt8.ofNat r] := by
  unfold enc encodeRune
  rw [encodeRuneZ_one (by omega) (by omega)]
  simp
theorem No.list {l : List UInt8} (h : No l) : ∃ rs : List Nat, (∀ x ∈ rs, 128 ≤ x ∧ ok x) ∧ l = Tok.bytes (rs.map ch) := by
  rcases h with rfl | ⟨rs, _, h2, h3⟩
  · exact ⟨[], fun _ h => (by cases h), rfl⟩
  · exact ⟨rs, h2, h3⟩
/-- WHAT THE ENCODER WRITES, in characters. -/
theorem out_tokens (m : Int) (s : ByteArray) : ∃ U : List T, tk (encodeT m s).data.toList = U ∧ (∀ t ∈ U, Fine m t) ∧ (∀ t, U.head? = some t → takenL m t.1 = false) ∧ (∀ t, U.getLast? = some t → takenR m t.1 = false) := by
  have hE : (encodeT m s).data.toList = (heads m s).1.data.toList ++ F m (tailsIf m (heads m s).2).2.data.toList ++ (tailsIf m (heads m s).2).1.data.toList := by
    unfold encodeT
    rw [body_F]
  obtain ⟨P, hP, eP⟩ := (heads_no m s).list
  obtain ⟨Q, hQ, eQ⟩ := (tails_no m (heads m s).2).list
  have hPre := @heads_none m s
  have hSuf := @tails_none m (heads m s).2
  obtain ⟨n, hn⟩ := tails_prefix m (heads m s).2
  rw [eP] at hE hPre
  rw [eQ] at hE hSuf
  have hcl : clean (Tok.bytes (Q.map ch)) := by
    cases Q with
    | nil => exact clean_nil
    | cons q Q => rw [List.map_cons, bytes_cons]; exact enc_clean q _
  have htk : tk (encodeT m s).data.toList = P.map ch ++ ((tk (tailsIf m (heads m s).2).2.data.toList).flatMap (unitT m) ++ Q.map ch) := by
    rw [hE, List.append_assoc, tk_chs P (fun x hx => (hP x hx).2), tk_app _ _ hcl, tk_F, tk_chs' Q (fun x hx => (hQ x hx).2)]
  refine ⟨_, htk, ?_, ?_, ?_⟩
  · intro t ht
    rcases List.mem_append.1 ht with ht | ht
    · obtain ⟨x, hx, rfl⟩ := List.mem_map.1 ht
      exact .inl ⟨x, (hP x hx).2, rfl, .inl (hP x hx).1⟩
    · rcases List.mem_append.1 ht with ht | ht
      · obtain ⟨u, hu, hu2⟩ := List.mem_flatMap.1 ht
        exact ((fine_unit m u (tk_form _ u hu)).2 t hu2).1
      · obtain ⟨x, hx, rfl⟩ := List.mem_map.1 ht
        exact .inl ⟨x, (hQ x hx).2, rfl, .inl (hQ x hx).1⟩
  · intro t ht
    cases P with
    | cons p P =>
      rw [List.map_cons, List.cons_append, List.head?_cons] at ht
      injection ht with ht
      subst ht
      exact (low_not m p (hP p (by simp)).1).1
    | nil =>
      obtain ⟨g1, g2⟩ := hPre rfl
      rw [List.map_nil, List.nil_append] at ht
      cases hl : tk (tailsIf m (heads m s).2).2.data.toList with
      | nil =>
        rw [hl, List.flatMap_nil, List.nil_append] at ht
        obtain ⟨x, hx, rfl⟩ := List.mem_map.1 (List.mem_of_head? ht)
        exact (low_not m x (hQ x hx).1).1
      | cons t1 L =>
        have hf := tk_form (tailsIf m (heads m s).2).2.data.toList t1 (by rw [hl]; simp)
        obtain ⟨u1, u2⟩ := fine_unit m t1 hf
        rw [hl, List.flatMap_cons, List.append_assoc] at ht
        have hmem : t ∈ unitT m t1 := by
          obtain ⟨y, Y, e⟩ := List.exists_cons_of_ne_nil u1
          rw [e] at ht ⊢
          rw [List.cons_append, List.head?_cons] at ht
          injection ht with ht
          rw [ht]; simp
        cases hb0 : takenL m t.1 with
        | false => rfl
        | true =>
          have e1 := (u2 t hmem).2.1 hb0
          rw [e1] at hb0
          rcases hf with ⟨r, hr, rfl⟩ | ⟨b, rfl⟩
          · have hr128 : r < 128 := by
              rcases Nat.lt_or_ge r 128 with h | h
              · exact h
              · rw [show (ch r).1 = r from rfl, (low_not m r h).1] at hb0; cases hb0
            have hbt := bytes_tk' (tailsIf m (heads m s).2).2.data.toList
            rw [hl, bytes_cons, show (ch r).2 = enc r from rfl, enc_low r hr128, hn, g1] at hbt
            have hg : s.get! 0 = UInt8.ofNat r := by
              rw [Asc.get_head]
              cases hs : s.data.toList with
              | nil => rw [hs] at hbt; simp at hbt
              | cons a t =>
                rw [hs] at hbt
                cases n with
                | zero => simp at hbt
                | succ n =>
                  rw [List.take_succ_cons] at hbt
                  injection hbt with h1 h2
                  rw [← h1]; rfl
            rw [hg] at g2
            have : (UInt8.ofNat r).toNat = r := by simp only [UInt8.toNat_ofNat']; omega
            rw [this] at g2
            rw [show (ch r).1 = r from rfl, g2] at hb0
            cases hb0
          · rw [show (badT b).1 = 65533 from rfl, (low_not m 65533 (by decide)).1] at hb0
            cases hb0
  · intro t ht
    cases hQl : Q.reverse with
    | cons q Q' =>
      have hne : Q ≠ [] := by rintro rfl; cases hQl
      rw [← List.append_assoc, List.getLast?_append, List.getLast?_eq_some_getLast (by simpa using hne)] at ht
      have hm : t ∈ Q.map ch := by
        simp only [Option.some_or, Option.some.injEq] at ht
        rw [← ht]; exact List.getLast_mem _
      obtain ⟨x, hx, rfl⟩ := List.mem_map.1 hm
      exact (low_not m x (hQ x hx).1).2
    | nil =>
      obtain rfl : Q = [] := List.reverse_eq_nil_iff.1 hQl
      obtain ⟨g1, g2⟩ := hSuf rfl
      rw [List.map_nil, List.append_nil, g1] at ht
      rcases List.eq_nil_or_concat (tk (heads m s).2.data.toList) with hl | ⟨L, t1, hl⟩
      · rw [hl, List.flatMap_nil, List.append_nil] at ht
        obtain ⟨x, hx, rfl⟩ := List.mem_map.1 (List.mem_of_getLast? ht)
        exact (low_not m x (hP x hx).1).2
      · rw [List.concat_eq_append] at hl
        have hf := tk_form (heads m s).2.data.toList t1 (by rw [hl]; simp)
        obtain ⟨u1, u2⟩ := fine_unit m t1 hf
        rw [hl, List.flatMap_append, List.flatMap_singleton, ← List.append_assoc, List.getLast?_append, List.getLast?_eq_some_getLast u1] at ht
        have hmem : t ∈ unitT m t1 := by
          simp only [Option.some_or, Option.some.injEq] at ht
          rw [← ht]; exact List.getLast_mem _
        cases hb0 : takenR m t.1 with
        | false => rfl
        | true =>
          have e1 := (u2 t hmem).2.2 hb0
          rw [e1] at hb0
          rcases hf with ⟨r, hr, rfl⟩ | ⟨b, rfl⟩
          · have hr128 : r < 128 := by
              rcases Nat.lt_or_ge r 128 with h | h
              · exact h
              · rw [show (ch r).1 = r from rfl, (low_not m r h).2] at hb0; cases hb0
            have hbt := bytes_tk' (heads m s).2.data.toList
            rw [hl, bytes_append, bytes_cons, bytes_nil, show (ch r).2 = enc r from rfl, enc_low r hr128, List.append_nil] at hbt
            have hne : (heads m s).2.data.toList ≠ [] := by rw [← hbt]; simp
            have hg : (heads m s).2.get! ((heads m s).2.size - 1) = UInt8.ofNat r := by
              have e : (heads m s).2.data.toList.length = (heads m s).2.size := rfl
              rw [← getD_get!', List.getD_eq_getElem?_getD, ← e, ← List.getLast?_eq_getElem?, ← hbt]
              simp
            have g2 := g2 hne
            rw [hg] at g2
            have : (UInt8.ofNat r).toNat = r := by simp only [UInt8.toNat_ofNat']; omega
            rw [this] at g2
            rw [show (ch r).1 = r from rfl, g2] at hb0
            cases hb0
          · rw [show (badT b).1 = 65533 from rfl, (low_not m 65533 (by decide)).2] at hb0
            cases hb0
/-! ### ASCII that is written is what stood there -/
theorem unitR_same (m : Int) (r : Nat) (hr : ok r) : unitR m r = [r] ∨ ∃ x ∈ unitR m r, 128 ≤ x := by
  have hby : ∀ l : List Bit, (∀ b ∈ l, b ∈ Enc.bits) → byR m r l = [r] ∨ ∃ x ∈ byR m r l, 128 ≤ x := by
    intro l
    induction l with
    | nil => intro _; exact .inl rfl
    | cons b t ih =>
      intro h
      rw [byR]
      split
      · rename_i hc
        exact .inr ⟨_, by simp, ((off_all b (h b (by simp))).2.1 _ hc.2).2⟩
      · split
        · exact .inr ⟨8219, by simp, by decide⟩
        · exact ih fun c hc => h c (by simp [hc])
  unfold unitR
  split
  · exact .inr ⟨9216, by simp, by decide⟩
  · split
    · exact .inr ⟨8219, by simp, by decide⟩
    · exact hby Enc.bits fun _ h => h
theorem enc_high (x : Nat) (h : 128 ≤ x) (ho : ok x) : ∃ b ∈ enc x, 128 ≤ b.toNat := by
  rcases enc_shape x with ⟨a, e, ha⟩ | ⟨a, b, e, hb, _⟩ | ⟨a, b, c, e, hc, _, _⟩ | ⟨a, b, c, d, e, hd, _, _, _⟩
  · have h1 := decode_enc x ho []
    rw [e, List.append_nil, decodeL_N, decodeN_ascii _ _ _ _ _ (by exact ha)] at h1
    have h2 : a.toNat = x := congrArg Prod.fst h1
    omega
  · exact ⟨b, by rw [e]; simp, hb⟩
  · exact ⟨c, by rw [e]; simp, hc⟩
  · exact ⟨d, by rw [e]; simp, hd⟩
theorem chs_high (rs : List Nat) (x : Nat) (hx : x ∈ rs) (h : 128 ≤ x) (ho : ok x) : ∃ b ∈ Tok.bytes (rs.map ch), 128 ≤ b.toNat := by
  obtain ⟨b, hb, h1⟩ := enc_high x h ho
  exact ⟨b, List.mem_flatMap.2 ⟨ch x, List.mem_map_of_mem hx, hb⟩, h1⟩
theorem flat_same (m : Int) : ∀ L : List T, (∀ t ∈ L, (∃ r, ok r ∧ t = ch r) ∨ ∃ b, t = badT b) → (∀ b ∈ Tok.bytes (L.flatMap (unitT m)), b.toNat < 128) → Tok.bytes (L.flatMap (unitT m)) = Tok.bytes L
  | [], _, _ => rfl
  | t :: L, hf, h => by
    rw [List.flatMap_cons, bytes_append] at h ⊢
    have ih := flat_same m L (fun x hx => hf x (by simp [hx])) fun b hb => h b (List.mem_append_right _ hb)
    rw [ih, bytes_cons]
    congr 1
    have h1 : ∀ b ∈ Tok.bytes (unitT m t), b.toNat < 128 := fun b hb => h b (List.mem_append_left _ hb)
    rcases hf t (by simp) with ⟨r, hr, rfl⟩ | ⟨b, rfl⟩
    · rw [unitT_ch] at h1 ⊢
      rcases unitR_same m r hr with e | ⟨x, hx, h128⟩
      · rw [e]; simp [bytes_cons, bytes_nil]
      · obtain ⟨b, hb, h2⟩ := chs_high _ x hx h128 ((unitR_prop m r hr).2 x hx).1
        have := h1 b hb
        omega
    · rw [unitT_bad] at h1 ⊢
      cases hi : hb m 16777216 with
      | false => simp [bytes_cons, bytes_nil]
      | true =>
        rw [hi, if_pos rfl] at h1
        rw [quoted_T] at h1
        have := h1 226 (by simp [Enc.quoted])
        exact absurd this (by decide)
theorem Hi.high {l : List UInt8} (h : Hi l) : ∃ b ∈ l, 128 ≤ b.toNat := by
  obtain ⟨rs, h1, h2, rfl⟩ := h
  obtain ⟨x, t, rfl⟩ := List.exists_cons_of_ne_nil h1
  exact chs_high _ x (by simp) (h2 x (by simp)).1 (h2 x (by simp)).2
theorem ascii_same (m : Int) (s : ByteArray) (h : ∀ b ∈ (encodeT m s).data.toList, b.toNat < 128) : (encodeT m s).data.toList = s.data.toList := by
  have hE : (encodeT m s).data.toList = (heads m s).1.data.toList ++ F m (tailsIf m (heads m s).2).2.data.toList ++ (tailsIf m (heads m s).2).1.data.toList := by
    unfold encodeT
    rw [body_F]
  rw [hE] at h
  have h1 : (heads m s).1.data.toList = [] := by
    rcases heads_no m s with e | e
    · exact e
    · obtain ⟨b, hb, h2⟩ := e.high
      have := h b (by simp [hb])
      omega
  have h2 : (tailsIf m (heads m s).2).1.data.toList = [] := by
    rcases tails_no m (heads m s).2 with e | e
    · exact e
    · obtain ⟨b, hb, h2⟩ := e.high
      have := h b (by simp [hb])
      omega
  rw [h1, h2, List.nil_append, List.append_nil] at h
  rw [hE, h1, h2, List.nil_append, List.append_nil]
  rw [(tails_none h2).1, (heads_none h1).1] at h ⊢
  unfold F at h ⊢
  rw [flat_same m _ (tk_form _) h, bytes_tk']
/-! ### how long it is -/
theorem encFrom_len (m : Int) (s : ByteArray) : ∀ f pos, pos ≤ s.size → (encFrom m s f pos).length ≤ 8 * (s.size - pos)
  | 0, pos, _ => by simp [encFrom]
  | f + 1, pos, h => by
    rw [encFrom]
    split
    · rename_i hp
      have h1 := Enc.unit_len m s pos
      have h2 := Enc.dec_pos s pos hp
      have h3 := Enc.dec_fit s pos hp
      have h4 := encFrom_len m s f (pos + (Utf8.decode s pos).2) h3
      rw [List.length_append]
      omega
    · simp
theorem encodeT_len (m : Int) (s : ByteArray) (h0 : 0 < s.size) : (encodeT m s).size ≤ 8 * s.size + 200 := by
  have ok0 : Enc.Ok s.size ((⟨#[]⟩ : ByteArray), s) := ⟨fun _ => h0, Nat.le_refl _, (by decide : 0 ≤ 100)⟩
  have ok1 := ok0.lstep m 131072 32 9248 [226, 144, 160] (by simp) (by decide)
  have ok2 := ok1.lstep m 262144 46 65294 [239, 188, 142] (by simp) (by decide)
  have ok3 := ok2.lstep m 524288 126 65374 [239, 189, 158] (by simp) (by decide)
  have ok4 : Enc.Ok s.size (heads m s) := ok3.lstep4 m
  have e : (encodeT m s).size = (encodeT m s).data.toList.length := rfl
  have hE : (encodeT m s).data.toList = (heads m s).1.data.toList ++ F m (tailsIf m (heads m s).2).2.data.toList ++ (tailsIf m (heads m s).2).1.data.toList := by
    unfold encodeT
    rw [body_F]
  have ht : (tailsIf m (heads m s).2).1.size ≤ 100 ∧ (tailsIf m (heads m s).2).2.size ≤ s.size := by
    by_cases hr : (heads m s).2.data.toList = []
    · unfold tailsIf
      rw [if_pos hr]
      exact ⟨(by decide : 0 ≤ 100), ok4.le⟩
    · have hr0 : 0 < (heads m s).2.size := by
        have := List.length_pos_iff.2 hr
        exact this
      have q0 : Enc.Ok s.size ((⟨#[]⟩ : ByteArray), (heads m s).2) := ⟨fun _ => hr0, ok4.le, (by decide : 0 ≤ 100)⟩
      have q1 := q0.rstep m 2097152 32 9248 [226, 144, 160] (by simp) (by decide)
      have q2 := q1.rstep m 4194304 46 65294 [239, 188, 142] (by simp) (by decide)
      have q3 := q2.rstep4 m
      unfold tailsIf
      rw [if_neg hr]
      exact ⟨q3.short, q3.le⟩
  have l1 : (heads m s).1.data.toList.length ≤ 100 := ok4.short
  have l2 : (tailsIf m (heads m s).2).1.data.toList.length ≤ 100 := ht.1
  have l3 := encFrom_len m (tailsIf m (heads m s).2).2 (tailsIf m (heads m s).2).2.size 0 (Nat.zero_le _)
  have l4 : (F m (tailsIf m (heads m s).2).2.data.toList).length ≤ 8 * (tailsIf m (heads m s).2).2.size := by
    rw [← encAll_F]; exact l3
  have l5 := ht.2
  rw [e, hE, List.length_append, List.length_append]
  omega
/-- What is written, of whatever name: nothing, or characters that are fine. -/
structure Kept (m : Int) (t : ByteArray) : Prop where
  fine : ∀ u ∈ tk t.data.toList, Fine m u
  first : ∀ u, (tk t.data.toList).head? = some u → takenL m u.1 = false
  last : ∀ u, (tk t.data.toList).getLast? = some u → takenR m u.1 = false
  dot : hb m 33554432 = true → t.data.toList ≠ [46] ∧ t.data.toList ≠ [46, 46]
theorem kept_hi (m : Int) (t : ByteArray) (rs : List Nat) (h : t.data.toList = Tok.bytes (rs.map ch)) (hr : ∀ x ∈ rs, 128 ≤ x ∧ ok x) (hne : t.data.toList ≠ [46] ∧ t.data.toList ≠ [46, 46]) : Kept m t := by
  have e : tk t.data.toList = rs.map ch := by rw [h]; exact tk_chs' rs fun x hx => (hr x hx).2
  refine ⟨fun u hu => ?_, fun u hu => ?_, fun u hu => ?_, fun _ => hne⟩
  · rw [e] at hu
    obtain ⟨x, hx, rfl⟩ := List.mem_map.1 hu
    exact .inl ⟨x, (hr x hx).2, rfl, .inl (hr x hx).1⟩
  · rw [e] at hu
    obtain ⟨x, hx, rfl⟩ := List.mem_map.1 (List.mem_of_head? hu)
    exact (low_not m x (hr x hx).1).1
  · rw [e] at hu
    obtain ⟨x, hx, rfl⟩ := List.mem_map.1 (List.mem_of_getLast? hu)
    exact (low_not m x (hr x hx).1).2
theorem kept (m : Int) (s : ByteArray) (h1 : m ≠ 1) (hs : s.size ≤ 65536) : (encode m s).size ≤ 1000000 ∧ ((encode m s).data.toList = [] ∨ Kept m (encode m s)) := by
  unfold encode
  rw [if_neg h1]
  split
  · exact ⟨by decide, .inl rfl⟩
  rename_i hne
  split
  · exact ⟨by decide, .inr (kept_hi m _ [65294] (by decide) (by decide) (by decide))⟩
  rename_i d1
  split
  · exact ⟨by decide, .inr (kept_hi m _ [65294, 65294] (by decide) (by decide) (by decide))⟩
  rename_i d2
  split
  · exact ⟨by decide, .inr (kept_hi m _ [8219, 65294] (by decide) (by decide) (by decide))⟩
  split
  · exact ⟨by decide, .inr (kept_hi m _ [8219, 65294, 8219, 65294] (by decide) (by decide) (by decide))⟩
  have h0 : 0 < s.size := List.length_pos_iff.2 hne
  refine ⟨Nat.le_trans (encodeT_len m s h0) (by omega), .inr ?_⟩
  obtain ⟨U, hU, u1, u2, u3⟩ := out_tokens m s
  refine ⟨by rw [hU]; exact u1, by rw [hU]; exact u2, by rw [hU]; exact u3, fun hd => ⟨fun e => ?_, fun e => ?_⟩⟩
  · have := ascii_same m s (by rw [e]; decide)
    rw [e] at this
    exact d1 ⟨hd, this.symm⟩
  · have := ascii_same m s (by rw [e]; decide)
    rw [e] at this
    exact d2 ⟨hd, this.symm⟩
end Go.Proofs.YtlgoghonnnobfaaDoor.Out

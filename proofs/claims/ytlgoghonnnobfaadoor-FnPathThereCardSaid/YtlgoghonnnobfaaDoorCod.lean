import Derived.Test.YtlgoghonnnobfaaDoorInj
namespace Go.Proofs.YtlgoghonnnobfaaDoor.Out
open Go Go.Lib Go.Proofs.YtlgoghonnnobfaaDoor.Fr Go.Proofs.YtlgoghonnnobfaaDoor.Tok
open Go.Proofs.YtlgoghonnnobfaaDoor.Enc (Bit by' unit encFrom encAll idxE bodyL stopE heads tailsIf tails encodeT encode hexc isCtl sgn lstep lstep4 rstep rstep4 both)
set_option linter.unusedVariables false
set_option linter.unusedSimpArgs false
/-! ### the encoder writes words -/
def anyC (m : Int) (r : Nat) (l : List Bit) : Bool := l.any fun b => hb m b.f && b.cs.contains (r : Int)
def anyD (m : Int) (r : Nat) (l : List Bit) : Bool := l.any fun b => hb m b.f && b.ds.contains (r : Int)
def AM (m : Int) (x : Nat) : Bool := x == 0 || anyC m x Enc.bits
def A1 (m : Int) (x : Nat) : Bool := takenL m x || AM m x
def AN (m : Int) (x : Nat) : Bool := takenR m x || AM m x
def AO (m : Int) (x : Nat) : Bool := takenL m x || AN m x
theorem cs_all : ∀ b ∈ Enc.bits, (∀ c ∈ b.cs, 0 < c ∧ c < 128 ∧ (c + b.off).toNat = Sg c.toNat) ∧ b.ds = b.cs.map (· + b.off) := by decide +kernel
theorem anyC_low {m : Int} {x : Nat} (h : anyC m x Enc.bits = true) : x < 128 := by
  obtain ⟨b, hb1, h⟩ := List.any_eq_true.1 h
  rw [Bool.and_eq_true] at h
  have := (cs_all b hb1).1 _ (List.contains_iff_mem.1 h.2)
  omega
theorem AM_asc (m : Int) : Asc7 (AM m) := ⟨fun x h => by
  unfold AM at h
  rw [Bool.or_eq_true] at h
  rcases h with h | h
  · have : x = 0 := by simpa using h
    omega
  · exact anyC_low h⟩
theorem L_low {m : Int} {x : Nat} (h : takenL m x = true) : x < 128 := by
  rcases Nat.lt_or_ge x 128 with h' | h'
  · exact h'
  · rw [(low_not m x h').1] at h; cases h
theorem R_low {m : Int} {x : Nat} (h : takenR m x = true) : x < 128 := by
  rcases Nat.lt_or_ge x 128 with h' | h'
  · exact h'
  · rw [(low_not m x h').2] at h; cases h
theorem A1_asc (m : Int) : Asc7 (A1 m) := ⟨fun x h => by
  unfold A1 at h; rw [Bool.or_eq_true] at h
  exact h.elim L_low ((AM_asc m).low x)⟩
theorem AN_asc (m : Int) : Asc7 (AN m) := ⟨fun x h => by
  unfold AN at h; rw [Bool.or_eq_true] at h
  exact h.elim R_low ((AM_asc m).low x)⟩
theorem AO_asc (m : Int) : Asc7 (AO m) := ⟨fun x h => by
  unfold AO at h; rw [Bool.or_eq_true] at h
  exact h.elim L_low ((AN_asc m).low x)⟩
theorem byR_form (m : Int) (r : Nat) : ∀ l : List Bit, (∀ b ∈ l, b ∈ Enc.bits) → byR m r l = if anyC m r l = true then [Sg r] else if anyD m r l = true then [8219, r] else [r]
  | [], _ => rfl
  | b :: t, h => by
    have hb0 := h b (by simp)
    obtain ⟨c1, c2⟩ := cs_all b hb0
    have ih := byR_form m r t fun c hc => h c (by simp [hc])
    rw [byR]
    by_cases g1 : hb m b.f = true ∧ (r : Int) ∈ b.cs
    · rw [if_pos g1, if_pos (by unfold anyC; rw [List.any_cons, g1.1, List.contains_iff_mem.2 g1.2]; rfl), (c1 _ g1.2).2.2, Int.toNat_natCast]
    · rw [if_neg g1]
      have e1 : anyC m r (b :: t) = anyC m r t := by
        unfold anyC
        rw [List.any_cons]
        have : (hb m b.f && b.cs.contains (r : Int)) = false := by
          rw [Bool.and_eq_false_iff]
          by_cases h1 : hb m b.f = true
          · right
            cases h2 : b.cs.contains (r : Int) with
            | false => rfl
            | true => exact absurd ⟨h1, List.contains_iff_mem.1 h2⟩ g1
          · left; simpa using h1
        rw [this, Bool.false_or]
      by_cases g2 : hb m b.f = true ∧ (r : Int) ∈ b.ds
      · have h128 := (off_all b hb0).2.2 _ g2.2
        have e2 : anyC m r t = false := by
          cases h3 : anyC m r t with
          | false => rfl
          | true =>
            obtain ⟨b', hb1, h4⟩ := List.any_eq_true.1 h3
            rw [Bool.and_eq_true] at h4
            have := (cs_all b' (h b' (by simp [hb1]))).1 _ (List.contains_iff_mem.1 h4.2)
            omega
        rw [if_pos g2, e1, e2, if_neg (by decide), if_pos (by unfold anyD; rw [List.any_cons, g2.1, List.contains_iff_mem.2 g2.2]; rfl)]
      · have e3 : anyD m r (b :: t) = anyD m r t := by
          unfold anyD
          rw [List.any_cons]
          have : (hb m b.f && b.ds.contains (r : Int)) = false := by
            rw [Bool.and_eq_false_iff]
            by_cases h1 : hb m b.f = true
            · right
              cases h2 : b.ds.contains (r : Int) with
              | false => rfl
              | true => exact absurd ⟨h1, List.contains_iff_mem.1 h2⟩ g2
            · left; simpa using h1
          rw [this, Bool.false_or]
        rw [if_neg g2, e1, e3, ih]
theorem anyD_iff (m : Int) (r : Nat) : anyD m r Enc.bits = true ↔ ∃ c, c < 128 ∧ anyC m c Enc.bits = true ∧ r = Sg c := by
  unfold anyD anyC
  rw [List.any_eq_true]
  constructor
  · rintro ⟨b, hb1, h⟩
    rw [Bool.and_eq_true] at h
    obtain ⟨c1, c2⟩ := cs_all b hb1
    have hm := List.contains_iff_mem.1 h.2
    rw [c2] at hm
    obtain ⟨c, hc, e⟩ := List.mem_map.1 hm
    obtain ⟨k1, k2, k3⟩ := c1 c hc
    refine ⟨c.toNat, by omega, List.any_eq_true.2 ⟨b, hb1, ?_⟩, by rw [← k3]; omega⟩
    rw [h.1, Bool.true_and, show ((c.toNat : Nat) : Int) = c by omega]
    exact List.contains_iff_mem.2 hc
  · rintro ⟨c, hc, h, rfl⟩
    obtain ⟨b, hb1, h⟩ := List.any_eq_true.1 h
    rw [Bool.and_eq_true] at h
    obtain ⟨c1, c2⟩ := cs_all b hb1
    have hm := List.contains_iff_mem.1 h.2
    obtain ⟨k1, k2, k3⟩ := c1 _ hm
    refine ⟨b, hb1, ?_⟩
    rw [h.1, Bool.true_and]
    refine List.contains_iff_mem.2 ?_
    rw [c2]
    refine List.mem_map.2 ⟨_, hm, ?_⟩
    rw [Int.toNat_natCast] at k3
    have := (off_all b hb1).1
    omega
theorem unitR_form (m : Int) (r : Nat) : unitR m r = if AM m r = true then [Sg r] else if r = 8219 ∨ SgIn (AM m) r = true then [8219, r] else [r] := by
  unfold unitR
  by_cases h0 : r = 0
  · subst h0
    rw [if_pos rfl, if_pos (by simp [AM])]
    rfl
  rw [if_neg h0]
  have eA : AM m r = anyC m r Enc.bits := by
    unfold AM
    rw [show (r == 0) = false by simpa using h0, Bool.false_or]
  by_cases h1 : r = 9216 ∨ r = 8219
  · have hn : AM m r = false := by
      cases h : AM m r with
      | false => rfl
      | true => have := (AM_asc m).low r h; omega
    rw [if_pos h1, hn, if_neg (by decide), if_pos]
    rcases h1 with rfl | rfl
    · exact .inr ((sgIn_iff _ _).2 ⟨0, by decide, by simp [AM], rfl⟩)
    · exact .inl rfl
  · rw [if_neg h1, byR_form m r Enc.bits fun _ h => h, eA]
    by_cases h2 : anyC m r Enc.bits = true
    · rw [if_pos h2, if_pos h2]
    rw [if_neg h2, if_neg h2]
    by_cases h3 : anyD m r Enc.bits = true
    · obtain ⟨c, hc, g1, g2⟩ := (anyD_iff m r).1 h3
      rw [if_pos h3, if_pos (.inr ((sgIn_iff _ _).2 ⟨c, hc, by unfold AM; rw [g1, Bool.or_true], g2⟩))]
    · rw [if_neg h3, if_neg]
      rintro (h | h)
      · exact h1 (.inr h)
      · obtain ⟨c, hc, g1, g2⟩ := (sgIn_iff _ _).1 h
        unfold AM at g1
        rw [Bool.or_eq_true] at g1
        rcases g1 with g1 | g1
        · have : c = 0 := by simpa using g1
          subst this
          exact h1 (.inl g2)
        · exact h3 ((anyD_iff m r).2 ⟨c, hc, g1, g2⟩)
theorem unitT_wd (m : Int) (t : T) (ht : Form t) : unitT m t = Wd (AM m) (hb m 16777216) t := by
  rcases ht with ⟨r, hr, rfl⟩ | ⟨b, rfl⟩
  · rw [unitT_ch, wd_ch, unitR_form]
    split
    · rfl
    · split <;> rfl
  · rw [unitT_bad, wd_bad]
/-! ### the first character -/
theorem enc_first (r : Nat) (hr : ok r) (h : 128 ≤ r) : ∃ a t, enc r = a :: t ∧ 128 ≤ a.toNat := by
  cases e : enc r with
  | nil => exact absurd e (enc_ne r)
  | cons a t =>
    refine ⟨a, t, rfl, ?_⟩
    rcases Nat.lt_or_ge a.toNat 128 with h' | h'
    · have h1 := decode_enc r hr []
      rw [e, List.append_nil, decodeL_N, decodeN_ascii _ _ _ _ _ (by exact h')] at h1
      have h2 : a.toNat = r := congrArg Prod.fst h1
      omega
    · exact h'
theorem go_list (s : ByteArray) (h : s.data.toList ≠ []) : decodeGo s = decodeL s.data.toList := by
  have h0 : 0 < s.size := List.length_pos_iff.2 h
  unfold decodeGo
  rw [if_neg (by omega), ← decodeL_drop, List.drop_zero]
theorem bad_high {l : List UInt8} (h : l ≠ []) (hd : decodeL l = (65533, 1)) : ∃ b t, l = b :: t ∧ 128 ≤ b.toNat := by
  cases l with
  | nil => exact absurd rfl h
  | cons b t =>
    refine ⟨b, t, rfl, ?_⟩
    rcases Nat.lt_or_ge b.toNat 128 with h' | h'
    · rw [decodeL_N, decodeN_ascii _ _ _ _ _ (by exact h')] at hd
      have h2 : b.toNat = 65533 := congrArg Prod.fst hd
      omega
    · exact h'
/-- What the head of a text tells: the first character's number, its bytes, and what follows. -/
structure Fst (s : ByteArray) (r : Nat) (L : List T) : Prop where
  go : (decodeGo s).1 = r
  byte : ∀ c, c < 128 → ((s.get! 0).toNat = c ↔ r = c)
  one : r < 128 → tk (s.extract 1 s.size).data.toList = L
  all : r ≠ 65533 → tk (s.extract (decodeGo s).2 s.size).data.toList = L
theorem fst_of (s : ByteArray) (t : T) (L : List T) (h : tk s.data.toList = t :: L) : Fst s t.1 L := by
  have hne : s.data.toList ≠ [] := by
    intro e; rw [e, tk_nil] at h; cases h
  have hg := go_list s hne
  have hget := Asc.get_head s
  rcases tk_head _ hne with ⟨b, l', e, hd, htk⟩ | ⟨r, l', hr, e, hd, htk⟩
  · rw [htk] at h
    injection h with h1 h2
    subst h1
    obtain ⟨b', t', e', hb⟩ := bad_high hne hd
    rw [e] at e'
    injection e' with e1 e2
    subst e1
    refine ⟨by rw [hg, hd]; rfl, fun c hc => ?_, fun h => absurd h (show ¬ (65533 < 128) by decide), fun h => absurd rfl h⟩
    rw [hget, e]
    show b.toNat = c ↔ (65533 : Nat) = c
    omega
  · rw [htk] at h
    injection h with h1 h2
    subst h1
    subst h2
    have hgo : decodeGo s = (r, (enc r).length) := by rw [hg, hd]
    refine ⟨by rw [hgo]; rfl, fun c hc => ?_, fun h => ?_, fun _ => by rw [hgo, drop_data, e, List.drop_left]⟩
    · rw [hget, e]
      rcases Nat.lt_or_ge r 128 with h' | h'
      · rw [enc_low r h']
        have : (UInt8.ofNat r).toNat = r := by simp only [UInt8.toNat_ofNat']; omega
        show (UInt8.ofNat r).toNat = c ↔ r = c
        rw [this]
      · obtain ⟨a, t, e2, ha⟩ := enc_first r hr h'
        rw [e2]
        show a.toNat = c ↔ r = c
        omega
    · rw [drop_data, e, enc_low r h]
      rfl
theorem lstep_pass {m f : Int} {c R r : Nat} {S : List UInt8} {s : ByteArray} {L : List T} (F : Fst s r L) (hc : c < 128) (h1 : r ≠ c) (h2 : r ≠ R) : lstep m f c R S (⟨#[]⟩, s) = (⟨#[]⟩, s) := by
  unfold lstep
  split
  · rw [if_neg (fun e => h1 ((F.byte c hc).1 e)), if_neg (fun e => h2 (F.go.symm.trans e))]
  · rfl
theorem lstep_off {m f : Int} {c R : Nat} {S : List UInt8} {p : ByteArray × ByteArray} (h : hb m f = false ∨ p.1.data.toList ≠ []) : lstep m f c R S p = p := by
  unfold lstep
  rw [if_neg]
  rintro ⟨h1, h2⟩
  rcases h with h | h
  · rw [h] at h1; cases h1
  · exact h h2
theorem lstep4_off {m : Int} {p : ByteArray × ByteArray} (h : hb m 1048576 = false ∨ p.1.data.toList ≠ []) : lstep4 m p = p := by
  unfold lstep4
  rw [if_neg]
  rintro ⟨h1, h2⟩
  rcases h with h | h
  · rw [h] at h1; cases h1
  · exact h h2
theorem lstep4_pass {m : Int} {r : Nat} {s : ByteArray} {L : List T} (F : Fst s r L) (h1 : isCtl r = false) (h2 : ¬ (9216 ≤ r ∧ isCtl (r - 9216) = true)) : lstep4 m (⟨#[]⟩, s) = (⟨#[]⟩, s) := by
  unfold lstep4
  split
  · rw [if_neg, if_neg (by simp only; rw [F.go]; exact h2)]
    intro e
    rcases Enc.ctl_cases e with e | e | e | e
    all_goals
      have := (F.byte _ (by decide)).1 e
      subst this
      exact absurd h1 (by decide)
  · rfl
theorem lstep_one {m f : Int} {c R r : Nat} {S : List UInt8} {s : ByteArray} {L : List T} (F : Fst s r L) (hf : hb m f = true) (hc : c < 128) (h1 : r = c) : lstep m f c R S (⟨#[]⟩, s) = (⟨S.toArray⟩, s.extract 1 s.size) := by
  unfold lstep
  rw [if_pos ⟨hf, rfl⟩, if_pos ((F.byte c hc).2 h1)]
theorem lstep_two {m f : Int} {c R r : Nat} {S : List UInt8} {s : ByteArray} {L : List T} (F : Fst s r L) (hf : hb m f = true) (hc : c < 128) (h0 : r ≠ c) (h1 : r = R) : lstep m f c R S (⟨#[]⟩, s) = (⟨(226 :: 128 :: 155 :: S).toArray⟩, s.extract (decodeGo s).2 s.size) := by
  unfold lstep
  rw [if_pos ⟨hf, rfl⟩, if_neg (fun e => h0 ((F.byte c hc).1 e)), if_pos (F.go.trans h1)]
theorem sg_ctl {c : Nat} (h : isCtl c = true) : (sgn c).data.toList = enc (Sg c) ∧ (⟨#[226, 128, 155]⟩ ++ sgn c : ByteArray).data.toList = enc 8219 ++ enc (Sg c) ∧ Sg c = 9216 + c := by
  rcases Enc.ctl_cases h with rfl | rfl | rfl | rfl
  all_goals exact ⟨by decide, by decide, rfl⟩
/-- What the head of a text is, of a text that begins with a character. -/
theorem heads_word (m : Int) (s : ByteArray) (r : Nat) (L : List T) (F : Fst s r L) :
    (takenL m r = true ∧ (heads m s).1.data.toList = enc (Sg r) ∧ tk (heads m s).2.data.toList = L) ∨
    (takenL m r = false ∧ SgIn (takenL m) r = true ∧ (heads m s).1.data.toList = enc 8219 ++ enc r ∧ tk (heads m s).2.data.toList = L) ∨
    (takenL m r = false ∧ SgIn (takenL m) r = false ∧ heads m s = (⟨#[]⟩, s)) := by
  have e1 : enc 9248 = [226, 144, 160] := by decide
  have e2 : enc 65294 = [239, 188, 142] := by decide
  have e3 : enc 65374 = [239, 189, 158] := by decide
  have eq8 : enc 8219 = [226, 128, 155] := by decide
  -- which flag a character has
  have tl : ∀ c, takenL m c = if c = 32 then hb m 131072 else if c = 46 then hb m 262144 else if c = 126 then hb m 524288 else if isCtl c = true then hb m 1048576 else false := by
    intro c
    unfold takenL
    by_cases k1 : c = 32
    · subst k1; simp [isCtl]
    by_cases k2 : c = 46
    · subst k2; simp [isCtl]
    by_cases k3 : c = 126
    · subst k3; simp [isCtl]
    rw [if_neg k1, if_neg k2, if_neg k3]
    cases k4 : isCtl c <;> simp [k1, k2, k3]
  have sgi : ∀ c, c < 128 → SgIn (takenL m) (Sg c) = takenL m c := by
    intro c hc
    rw [Bool.eq_iff_iff, sgIn_iff]
    exact ⟨fun ⟨d, hd, h1, h2⟩ => by rw [sg_inj hc hd h2]; exact h1, fun h => ⟨c, hc, h, rfl⟩⟩
  have sgl : ∀ c, c < 128 → takenL m (Sg c) = false := fun c hc => (low_not m _ (sg_all ⟨c, hc⟩).1).1
  by_cases k1 : r = 32
  · subst k1
    rw [tl 32, if_pos rfl]
    cases hf : hb m 131072 with
    | true =>
      refine .inl ⟨rfl, ?_⟩
      unfold heads
      rw [lstep_one F hf (by decide) rfl, lstep_off (f := 262144) (.inr (by simp)), lstep_off (f := 524288) (.inr (by simp)), lstep4_off (.inr (by simp))]
      exact ⟨by rw [show Sg 32 = 9248 from rfl, e1], F.one (by decide)⟩
    | false =>
      refine .inr (.inr ⟨rfl, ?_, ?_⟩)
      · cases h : SgIn (takenL m) 32 with
        | false => rfl
        | true => obtain ⟨c, hc, _, h2⟩ := (sgIn_iff _ _).1 h; have := (sg_all ⟨c, hc⟩).1; simp only at this; omega
      · unfold heads
        rw [lstep_off (.inl hf), lstep_pass F (by decide) (by decide) (by decide), lstep_pass F (by decide) (by decide) (by decide), lstep4_pass F (by decide) (by decide)]
  by_cases k2 : r = 46
  · subst k2
    rw [tl 46, if_neg (by decide), if_pos rfl]
    have b1 : lstep m 131072 32 9248 [226, 144, 160] (⟨#[]⟩, s) = (⟨#[]⟩, s) := lstep_pass F (by decide) (by decide) (by decide)
    cases hf : hb m 262144 with
    | true =>
      refine .inl ⟨rfl, ?_⟩
      unfold heads
      rw [b1, lstep_one F hf (by decide) rfl, lstep_off (.inr (by simp)), lstep4_off (.inr (by simp))]
      exact ⟨by rw [show Sg 46 = 65294 from rfl, e2], F.one (by decide)⟩
    | false =>
      refine .inr (.inr ⟨rfl, ?_, ?_⟩)
      · cases h : SgIn (takenL m) 46 with
        | false => rfl
        | true => obtain ⟨c, hc, _, h2⟩ := (sgIn_iff _ _).1 h; have := (sg_all ⟨c, hc⟩).1; simp only at this; omega
      · unfold heads
        rw [b1, lstep_off (.inl hf), lstep_pass F (by decide) (by decide) (by decide), lstep4_pass F (by decide) (by decide)]
  by_cases k3 : r = 126
  · subst k3
    rw [tl 126, if_neg (by decide), if_neg (by decide), if_pos rfl]
    have b1 : lstep m 131072 32 9248 [226, 144, 160] (⟨#[]⟩, s) = (⟨#[]⟩, s) := lstep_pass F (by decide) (by decide) (by decide)
    have b2 : lstep m 262144 46 65294 [239, 188, 142] (⟨#[]⟩, s) = (⟨#[]⟩, s) := lstep_pass F (by decide) (by decide) (by decide)
    cases hf : hb m 524288 with
    | true =>
      refine .inl ⟨rfl, ?_⟩
      unfold heads
      rw [b1, b2, lstep_one F hf (by decide) rfl, lstep4_off (.inr (by simp))]
      exact ⟨by rw [show Sg 126 = 65374 from rfl, e3], F.one (by decide)⟩
    | false =>
      refine .inr (.inr ⟨rfl, ?_, ?_⟩)
      · cases h : SgIn (takenL m) 126 with
        | false => rfl
        | true => obtain ⟨c, hc, _, h2⟩ := (sgIn_iff _ _).1 h; have := (sg_all ⟨c, hc⟩).1; simp only at this; omega
      · unfold heads
        rw [b1, b2, lstep_off (.inl hf), lstep4_pass F (by decide) (by decide)]
  by_cases k4 : isCtl r = true
  · have hr : r < 128 := by rcases Enc.ctl_cases k4 with h | h | h | h <;> omega
    have hn : ¬ (r = 9248) ∧ ¬ (r = 65294) ∧ ¬ (r = 65374) := by omega
    have b1 : lstep m 131072 32 9248 [226, 144, 160] (⟨#[]⟩, s) = (⟨#[]⟩, s) := lstep_pass F (by decide) k1 hn.1
    have b2 : lstep m 262144 46 65294 [239, 188, 142] (⟨#[]⟩, s) = (⟨#[]⟩, s) := lstep_pass F (by decide) k2 hn.2.1
    have b3 : lstep m 524288 126 65374 [239, 189, 158] (⟨#[]⟩, s) = (⟨#[]⟩, s) := lstep_pass F (by decide) k3 hn.2.2
    rw [tl r, if_neg k1, if_neg k2, if_neg k3, if_pos k4]
    cases hf : hb m 1048576 with
    | true =>
      refine .inl ⟨rfl, ?_⟩
      unfold heads
      rw [b1, b2, b3]
      unfold lstep4
      have hg : (s.get! 0).toNat = r := (F.byte r hr).2 rfl
      rw [if_pos ⟨hf, rfl⟩, if_pos (by simp only; rw [hg]; exact k4)]
      simp only
      rw [hg]
      exact ⟨(sg_ctl k4).1, F.one hr⟩
    | false =>
      refine .inr (.inr ⟨rfl, ?_, ?_⟩)
      · cases h : SgIn (takenL m) r with
        | false => rfl
        | true => obtain ⟨c, hc, _, h2⟩ := (sgIn_iff _ _).1 h; have := (sg_all ⟨c, hc⟩).1; simp only at this; omega
      · unfold heads
        rw [b1, b2, b3, lstep4_off (.inl hf)]
  have hT : takenL m r = false := by rw [tl r, if_neg k1, if_neg k2, if_neg k3, if_neg k4]
  by_cases q1 : r = 9248
  · subst q1
    have hs : SgIn (takenL m) 9248 = hb m 131072 := (sgi 32 (by decide)).trans (by rw [tl 32, if_pos rfl])
    cases hf : hb m 131072 with
    | true =>
      refine .inr (.inl ⟨hT, by rw [hs, hf], ?_⟩)
      unfold heads
      rw [lstep_two F hf (by decide) (by decide) rfl, lstep_off (f := 262144) (.inr (by simp)), lstep_off (f := 524288) (.inr (by simp)), lstep4_off (.inr (by simp))]
      exact ⟨by rw [e1, eq8]; rfl, F.all (by decide)⟩
    | false =>
      refine .inr (.inr ⟨hT, by rw [hs, hf], ?_⟩)
      unfold heads
      rw [lstep_off (.inl hf), lstep_pass F (by decide) (by decide) (by decide), lstep_pass F (by decide) (by decide) (by decide), lstep4_pass F (by decide) (by decide)]
  have b1 : lstep m 131072 32 9248 [226, 144, 160] (⟨#[]⟩, s) = (⟨#[]⟩, s) := lstep_pass F (by decide) k1 q1
  by_cases q2 : r = 65294
  · subst q2
    have hs : SgIn (takenL m) 65294 = hb m 262144 := (sgi 46 (by decide)).trans (by rw [tl 46, if_neg (by decide), if_pos rfl])
    cases hf : hb m 262144 with
    | true =>
      refine .inr (.inl ⟨hT, by rw [hs, hf], ?_⟩)
      unfold heads
      rw [b1, lstep_two F hf (by decide) (by decide) rfl, lstep_off (.inr (by simp)), lstep4_off (.inr (by simp))]
      exact ⟨by rw [e2, eq8]; rfl, F.all (by decide)⟩
    | false =>
      refine .inr (.inr ⟨hT, by rw [hs, hf], ?_⟩)
      unfold heads
      rw [b1, lstep_off (.inl hf), lstep_pass F (by decide) (by decide) (by decide), lstep4_pass F (by decide) (by decide)]
  have b2 : lstep m 262144 46 65294 [239, 188, 142] (⟨#[]⟩, s) = (⟨#[]⟩, s) := lstep_pass F (by decide) k2 q2
  by_cases q3 : r = 65374
  · subst q3
    have hs : SgIn (takenL m) 65374 = hb m 524288 := (sgi 126 (by decide)).trans (by rw [tl 126, if_neg (by decide), if_neg (by decide), if_pos rfl])
    cases hf : hb m 524288 with
    | true =>
      refine .inr (.inl ⟨hT, by rw [hs, hf], ?_⟩)
      unfold heads
      rw [b1, b2, lstep_two F hf (by decide) (by decide) rfl, lstep4_off (.inr (by simp))]
      exact ⟨by rw [e3, eq8]; rfl, F.all (by decide)⟩
    | false =>
      refine .inr (.inr ⟨hT, by rw [hs, hf], ?_⟩)
      unfold heads
      rw [b1, b2, lstep_off (.inl hf), lstep4_pass F (by decide) (by decide)]
  have b3 : lstep m 524288 126 65374 [239, 189, 158] (⟨#[]⟩, s) = (⟨#[]⟩, s) := lstep_pass F (by decide) k3 q3
  by_cases q4 : 9216 ≤ r ∧ isCtl (r - 9216) = true
  · obtain ⟨c, rfl⟩ : ∃ c, r = 9216 + c := ⟨r - 9216, by omega⟩
    rw [Nat.add_sub_cancel_left] at q4
    have hc : c < 128 := by rcases Enc.ctl_cases q4.2 with h | h | h | h <;> omega
    have hs : SgIn (takenL m) (9216 + c) = hb m 1048576 := by
      rw [← (sg_ctl q4.2).2.2, sgi c hc, tl c]
      rcases Enc.ctl_cases q4.2 with rfl | rfl | rfl | rfl <;> simp [isCtl]
    cases hf : hb m 1048576 with
    | true =>
      refine .inr (.inl ⟨hT, by rw [hs, hf], ?_⟩)
      unfold heads
      rw [b1, b2, b3]
      unfold lstep4
      rw [if_pos ⟨hf, rfl⟩, if_neg, if_pos (by simp only; rw [F.go, Nat.add_sub_cancel_left]; exact q4)]
      · simp only
        rw [F.go, Nat.add_sub_cancel_left, (sg_ctl q4.2).2.1, (sg_ctl q4.2).2.2]
        exact ⟨rfl, F.all (by omega)⟩
      · intro e
        rcases Enc.ctl_cases e with e | e | e | e
        all_goals
          have := (F.byte _ (by decide)).1 e
          omega
    | false =>
      refine .inr (.inr ⟨hT, by rw [hs, hf], ?_⟩)
      unfold heads
      rw [b1, b2, b3, lstep4_off (.inl hf)]
  · refine .inr (.inr ⟨hT, ?_, ?_⟩)
    · cases h : SgIn (takenL m) r with
      | false => rfl
      | true =>
        obtain ⟨c, hc, h1, rfl⟩ := (sgIn_iff _ _).1 h
        rw [tl c] at h1
        by_cases z1 : c = 32
        · subst z1; exact absurd rfl q1
        by_cases z2 : c = 46
        · subst z2; exact absurd rfl q2
        by_cases z3 : c = 126
        · subst z3; exact absurd rfl q3
        rw [if_neg z1, if_neg z2, if_neg z3] at h1
        by_cases z4 : isCtl c = true
        · rw [(sg_ctl z4).2.2] at q4
          exact absurd ⟨by omega, by rw [Nat.add_sub_cancel_left]; exact z4⟩ q4
        · rw [if_neg z4] at h1; cases h1
    · unfold heads
      rw [b1, b2, b3, lstep4_pass F (by simpa using k4) q4]
/-! ### the last character -/
theorem bad_mem : ∀ (n : Nat) (l : List UInt8), l.length ≤ n → ∀ b, badT b ∈ tk l → 128 ≤ b.toNat
  | 0, l, h, b, hb => by
    have : l = [] := List.length_eq_zero_iff.1 (by omega)
    subst this
    rw [tk_nil] at hb
    cases hb
  | n + 1, l, h, b, hb => by
    by_cases h0 : l = []
    · subst h0; rw [tk_nil] at hb; cases hb
    · rcases tk_head l h0 with ⟨b', l', rfl, hd, e⟩ | ⟨r, l', hr, rfl, _, e⟩
      · rw [e] at hb
        rcases List.mem_cons.1 hb with h1 | hb
        · obtain ⟨b2, t2, e2, h128⟩ := bad_high h0 hd
          injection e2 with e2 _
          have : b = b' := by have h3 : [b] = [b'] := congrArg Prod.snd h1; injection h3
          rw [this, e2]; exact h128
        · exact bad_mem n l' (by simp at h; omega) b hb
      · have := enc_pos r
        rw [List.length_append] at h
        rw [e] at hb
        rcases List.mem_cons.1 hb with h1 | hb
        · exact absurd h1.symm (fun g => ch_ne_bad hr g)
        · exact bad_mem n l' (by omega) b hb
structure Lst (s : ByteArray) (r : Nat) (L : List T) : Prop where
  go : (decodeLastL s.data.toList).1 = r
  byte : ∀ c, c < 128 → ((s.get! (s.size - 1)).toNat = c ↔ r = c)
  one : r < 128 → tk (s.extract 0 (s.size - 1)).data.toList = L
  all : r ≠ 65533 → tk (s.extract 0 (s.size - (decodeLastL s.data.toList).2)).data.toList = L
theorem get_last (s : ByteArray) (p : List UInt8) (b : UInt8) (h : s.data.toList = p ++ [b]) : s.get! (s.size - 1) = b := by
  have e : s.data.toList.length = s.size := rfl
  rw [← getD_get!', List.getD_eq_getElem?_getD, ← e, ← List.getLast?_eq_getElem?, h]
  simp
theorem lst_of (s : ByteArray) (t : T) (L : List T) (ht : Form t) (h : tk s.data.toList = L ++ [t]) : Lst s t.1 L := by
  have hsz : s.size = s.data.toList.length := rfl
  have hb := bytes_tk' s.data.toList
  rw [h, bytes_append, bytes_cons, bytes_nil, List.append_nil] at hb
  rcases ht with ⟨r, hr, rfl⟩ | ⟨b, rfl⟩
  · have hb : s.data.toList = Tok.bytes L ++ enc r := hb.symm
    have hL : tk (Tok.bytes L) = L := by
      have h2 := tk_app (Tok.bytes L) (enc r) (by have := enc_clean r []; rwa [List.append_nil] at this)
      rw [← hb, h, show tk (enc r) = [ch r] by have := tk_enc r hr []; rwa [List.append_nil, tk_nil] at this] at h2
      exact (List.append_cancel_right h2).symm
    have hd := last_ok (Tok.bytes L) r hr
    rw [← hb] at hd
    have htake : ∀ k, k = (enc r).length → (s.extract 0 (s.size - k)).data.toList = Tok.bytes L := by
      rintro k rfl
      rw [take_data, hsz, hb, List.length_append, Nat.add_sub_cancel, List.take_left]
    refine ⟨by rw [hd]; rfl, fun c hc => ?_, fun h1 => ?_, fun _ => by rw [hd, htake _ rfl, hL]⟩
    · rcases Nat.lt_or_ge r 128 with h' | h'
      · rw [get_last s (Tok.bytes L) (UInt8.ofNat r) (by rw [hb, enc_low r h'])]
        have : (UInt8.ofNat r).toNat = r := by simp only [UInt8.toNat_ofNat']; omega
        rw [this]
        exact Iff.rfl
      · have hlast : ∃ q b, enc r = q ++ [b] ∧ 128 ≤ b.toNat := by
          rcases enc_shape r with ⟨a, e, ha⟩ | ⟨a, b, e, hb2, _⟩ | ⟨a, b, c, e, hc2, _, _⟩ | ⟨a, b, c, d, e, hd2, _, _, _⟩
          · obtain ⟨a', t', e2, h2⟩ := enc_first r hr h'
            rw [e] at e2
            injection e2 with e2 _
            subst e2
            exact ⟨[], a, e, h2⟩
          · exact ⟨[a], b, e, hb2⟩
          · exact ⟨[a, b], c, e, hc2⟩
          · exact ⟨[a, b, c], d, e, hd2⟩
        obtain ⟨q, b, e, h128⟩ := hlast
        rw [get_last s (Tok.bytes L ++ q) b (by rw [hb, e, List.append_assoc])]
        show b.toNat = c ↔ r = c
        omega
    · rw [htake 1 (by rw [enc_low r h1]; rfl), hL]
  · have hb : s.data.toList = Tok.bytes L ++ [b] := hb.symm
    have h128 := bad_mem _ _ (Nat.le_refl _) b (by rw [h]; simp)
    have hne : s.data.toList ≠ [] := by rw [hb]; simp
    have hd : (decodeLastL s.data.toList).1 = 65533 := by
      by_cases hx : (decodeLastL s.data.toList).1 = 65533
      · exact hx
      · obtain ⟨p, e, _, hok⟩ := last_inv s.data.toList hne hx
        have h2 := tk_app p (enc (decodeLastL s.data.toList).1) (by have := enc_clean (decodeLastL s.data.toList).1 []; rwa [List.append_nil] at this)
        rw [← e, h, show tk (enc (decodeLastL s.data.toList).1) = [ch (decodeLastL s.data.toList).1] by have := tk_enc _ hok []; rwa [List.append_nil, tk_nil] at this] at h2
        have h3 := (List.append_inj' h2 rfl).2
        injection h3 with h3
        exact (ch_ne_bad hok h3.symm).elim
    refine ⟨hd, fun c hc => ?_, fun h => absurd h (show ¬ (65533 < 128) by decide), fun h => absurd rfl h⟩
    rw [get_last s (Tok.bytes L) b hb]
    show b.toNat = c ↔ (65533 : Nat) = c
    omega
theorem rstep_pass {m f : Int} {c R r : Nat} {S : List UInt8} {s : ByteArray} {L : List T} (F : Lst s r L) (hc : c < 128) (h1 : r ≠ c) (h2 : r ≠ R) : rstep m f c R S (⟨#[]⟩, s) = (⟨#[]⟩, s) := by
  unfold rstep
  split
  · rw [if_neg (fun e => h1 ((F.byte c hc).1 e)), if_neg (fun e => h2 (F.go.symm.trans e))]
  · rfl
theorem rstep_off {m f : Int} {c R : Nat} {S : List UInt8} {p : ByteArray × ByteArray} (h : hb m f = false ∨ p.1.data.toList ≠ []) : rstep m f c R S p = p := by
  unfold rstep
  rw [if_neg]
  rintro ⟨h1, h2⟩
  rcases h with h | h
  · rw [h] at h1; cases h1
  · exact h h2
theorem rstep4_off {m : Int} {p : ByteArray × ByteArray} (h : hb m 8388608 = false ∨ p.1.data.toList ≠ []) : rstep4 m p = p := by
  unfold rstep4
  rw [if_neg]
  rintro ⟨h1, h2⟩
  rcases h with h | h
  · rw [h] at h1; cases h1
  · exact h h2
theorem rstep4_pass {m : Int} {r : Nat} {s : ByteArray} {L : List T} (F : Lst s r L) (h1 : isCtl r = false) (h2 : ¬ (9216 ≤ r ∧ isCtl (r - 9216) = true)) : rstep4 m (⟨#[]⟩, s) = (⟨#[]⟩, s) := by
  unfold rstep4
  split
  · rw [if_neg, if_neg (by simp only; rw [F.go]; exact h2)]
    intro e
    rcases Enc.ctl_cases e with e | e | e | e
    all_goals
      have := (F.byte _ (by decide)).1 e
      subst this
      exact absurd h1 (by decide)
  · rfl
theorem rstep_one {m f : Int} {c R r : Nat} {S : List UInt8} {s : ByteArray} {L : List T} (F : Lst s r L) (hf : hb m f = true) (hc : c < 128) (h1 : r = c) : rstep m f c R S (⟨#[]⟩, s) = (⟨S.toArray⟩, s.extract 0 (s.size - 1)) := by
  unfold rstep
  rw [if_pos ⟨hf, rfl⟩, if_pos ((F.byte c hc).2 h1)]
theorem rstep_two {m f : Int} {c R r : Nat} {S : List UInt8} {s : ByteArray} {L : List T} (F : Lst s r L) (hf : hb m f = true) (hc : c < 128) (h0 : r ≠ c) (h1 : r = R) : rstep m f c R S (⟨#[]⟩, s) = (⟨(226 :: 128 :: 155 :: S).toArray⟩, s.extract 0 (s.size - (decodeLastL s.data.toList).2)) := by
  unfold rstep
  rw [if_pos ⟨hf, rfl⟩, if_neg (fun e => h0 ((F.byte c hc).1 e)), if_pos (F.go.trans h1)]
/-- What the tail of a text is, of a text that ends with a character. -/
theorem tails_word (m : Int) (s : ByteArray) (r : Nat) (L : List T) (F : Lst s r L) :
    (takenR m r = true ∧ (tails m s).1.data.toList = enc (Sg r) ∧ tk (tails m s).2.data.toList = L) ∨
    (takenR m r = false ∧ SgIn (takenR m) r = true ∧ (tails m s).1.data.toList = enc 8219 ++ enc r ∧ tk (tails m s).2.data.toList = L) ∨
    (takenR m r = false ∧ SgIn (takenR m) r = false ∧ tails m s = (⟨#[]⟩, s)) := by
  have e1 : enc 9248 = [226, 144, 160] := by decide
  have e2 : enc 65294 = [239, 188, 142] := by decide
  have eq8 : enc 8219 = [226, 128, 155] := by decide
  -- which flag a character has
  have tl : ∀ c, takenR m c = if c = 32 then hb m 2097152 else if c = 46 then hb m 4194304 else if isCtl c = true then hb m 8388608 else false := by
    intro c
    unfold takenR
    by_cases k1 : c = 32
    · subst k1; simp [isCtl]
    by_cases k2 : c = 46
    · subst k2; simp [isCtl]
    rw [if_neg k1, if_neg k2]
    cases k4 : isCtl c <;> simp [k1, k2]
  have sgi : ∀ c, c < 128 → SgIn (takenR m) (Sg c) = takenR m c := by
    intro c hc
    rw [Bool.eq_iff_iff, sgIn_iff]
    exact ⟨fun ⟨d, hd, h1, h2⟩ => by rw [sg_inj hc hd h2]; exact h1, fun h => ⟨c, hc, h, rfl⟩⟩
  have sgl : ∀ c, c < 128 → takenR m (Sg c) = false := fun c hc => (low_not m _ (sg_all ⟨c, hc⟩).1).2
  by_cases k1 : r = 32
  · subst k1
    rw [tl 32, if_pos rfl]
    cases hf : hb m 2097152 with
    | true =>
      refine .inl ⟨rfl, ?_⟩
      unfold tails
      rw [rstep_one F hf (by decide) rfl, rstep_off (f := 4194304) (.inr (by simp)), rstep4_off (.inr (by simp))]
      exact ⟨by rw [show Sg 32 = 9248 from rfl, e1], F.one (by decide)⟩
    | false =>
      refine .inr (.inr ⟨rfl, ?_, ?_⟩)
      · cases h : SgIn (takenR m) 32 with
        | false => rfl
        | true => obtain ⟨c, hc, _, h2⟩ := (sgIn_iff _ _).1 h; have := (sg_all ⟨c, hc⟩).1; simp only at this; omega
      · unfold tails
        rw [rstep_off (.inl hf), rstep_pass F (by decide) (by decide) (by decide), rstep4_pass F (by decide) (by decide)]
  by_cases k2 : r = 46
  · subst k2
    rw [tl 46, if_neg (by decide), if_pos rfl]
    have b1 : rstep m 2097152 32 9248 [226, 144, 160] (⟨#[]⟩, s) = (⟨#[]⟩, s) := rstep_pass F (by decide) (by decide) (by decide)
    cases hf : hb m 4194304 with
    | true =>
      refine .inl ⟨rfl, ?_⟩
      unfold tails
      rw [b1, rstep_one F hf (by decide) rfl, rstep4_off (.inr (by simp))]
      exact ⟨by rw [show Sg 46 = 65294 from rfl, e2], F.one (by decide)⟩
    | false =>
      refine .inr (.inr ⟨rfl, ?_, ?_⟩)
      · cases h : SgIn (takenR m) 46 with
        | false => rfl
        | true => obtain ⟨c, hc, _, h2⟩ := (sgIn_iff _ _).1 h; have := (sg_all ⟨c, hc⟩).1; simp only at this; omega
      · unfold tails
        rw [b1, rstep_off (.inl hf), rstep4_pass F (by decide) (by decide)]
  by_cases k4 : isCtl r = true
  · have hr : r < 128 := by rcases Enc.ctl_cases k4 with h | h | h | h <;> omega
    have hn : ¬ (r = 9248) ∧ ¬ (r = 65294) ∧ ¬ (r = 65374) := by omega
    have b1 : rstep m 2097152 32 9248 [226, 144, 160] (⟨#[]⟩, s) = (⟨#[]⟩, s) := rstep_pass F (by decide) k1 hn.1
    have b2 : rstep m 4194304 46 65294 [239, 188, 142] (⟨#[]⟩, s) = (⟨#[]⟩, s) := rstep_pass F (by decide) k2 hn.2.1
    rw [tl r, if_neg k1, if_neg k2, if_pos k4]
    cases hf : hb m 8388608 with
    | true =>
      refine .inl ⟨rfl, ?_⟩
      unfold tails
      rw [b1, b2]
      unfold rstep4
      have hg : (s.get! (s.size - 1)).toNat = r := (F.byte r hr).2 rfl
      rw [if_pos ⟨hf, rfl⟩, if_pos (by simp only; rw [hg]; exact k4)]
      simp only
      rw [hg]
      exact ⟨(sg_ctl k4).1, F.one hr⟩
    | false =>
      refine .inr (.inr ⟨rfl, ?_, ?_⟩)
      · cases h : SgIn (takenR m) r with
        | false => rfl
        | true => obtain ⟨c, hc, _, h2⟩ := (sgIn_iff _ _).1 h; have := (sg_all ⟨c, hc⟩).1; simp only at this; omega
      · unfold tails
        rw [b1, b2, rstep4_off (.inl hf)]
  have hT : takenR m r = false := by rw [tl r, if_neg k1, if_neg k2, if_neg k4]
  by_cases q1 : r = 9248
  · subst q1
    have hs : SgIn (takenR m) 9248 = hb m 2097152 := (sgi 32 (by decide)).trans (by rw [tl 32, if_pos rfl])
    cases hf : hb m 2097152 with
    | true =>
      refine .inr (.inl ⟨hT, by rw [hs, hf], ?_⟩)
      unfold tails
      rw [rstep_two F hf (by decide) (by decide) rfl, rstep_off (f := 4194304) (.inr (by simp)), rstep4_off (.inr (by simp))]
      exact ⟨by rw [e1, eq8]; rfl, F.all (by decide)⟩
    | false =>
      refine .inr (.inr ⟨hT, by rw [hs, hf], ?_⟩)
      unfold tails
      rw [rstep_off (.inl hf), rstep_pass F (by decide) (by decide) (by decide), rstep4_pass F (by decide) (by decide)]
  have b1 : rstep m 2097152 32 9248 [226, 144, 160] (⟨#[]⟩, s) = (⟨#[]⟩, s) := rstep_pass F (by decide) k1 q1
  by_cases q2 : r = 65294
  · subst q2
    have hs : SgIn (takenR m) 65294 = hb m 4194304 := (sgi 46 (by decide)).trans (by rw [tl 46, if_neg (by decide), if_pos rfl])
    cases hf : hb m 4194304 with
    | true =>
      refine .inr (.inl ⟨hT, by rw [hs, hf], ?_⟩)
      unfold tails
      rw [b1, rstep_two F hf (by decide) (by decide) rfl, rstep4_off (.inr (by simp))]
      exact ⟨by rw [e2, eq8]; rfl, F.all (by decide)⟩
    | false =>
      refine .inr (.inr ⟨hT, by rw [hs, hf], ?_⟩)
      unfold tails
      rw [b1, rstep_off (.inl hf), rstep4_pass F (by decide) (by decide)]
  have b2 : rstep m 4194304 46 65294 [239, 188, 142] (⟨#[]⟩, s) = (⟨#[]⟩, s) := rstep_pass F (by decide) k2 q2
  by_cases q4 : 9216 ≤ r ∧ isCtl (r - 9216) = true
  · obtain ⟨c, rfl⟩ : ∃ c, r = 9216 + c := ⟨r - 9216, by omega⟩
    rw [Nat.add_sub_cancel_left] at q4
    have hc : c < 128 := by rcases Enc.ctl_cases q4.2 with h | h | h | h <;> omega
    have hs : SgIn (takenR m) (9216 + c) = hb m 8388608 := by
      rw [← (sg_ctl q4.2).2.2, sgi c hc, tl c]
      rcases Enc.ctl_cases q4.2 with rfl | rfl | rfl | rfl <;> simp [isCtl]
    cases hf : hb m 8388608 with
    | true =>
      refine .inr (.inl ⟨hT, by rw [hs, hf], ?_⟩)
      unfold tails
      rw [b1, b2]
      unfold rstep4
      rw [if_pos ⟨hf, rfl⟩, if_neg, if_pos (by simp only; rw [F.go, Nat.add_sub_cancel_left]; exact q4)]
      · simp only
        rw [F.go, Nat.add_sub_cancel_left, (sg_ctl q4.2).2.1, (sg_ctl q4.2).2.2]
        exact ⟨rfl, F.all (by omega)⟩
      · intro e
        rcases Enc.ctl_cases e with e | e | e | e
        all_goals
          have := (F.byte _ (by decide)).1 e
          omega
    | false =>
      refine .inr (.inr ⟨hT, by rw [hs, hf], ?_⟩)
      unfold tails
      rw [b1, b2, rstep4_off (.inl hf)]
  · refine .inr (.inr ⟨hT, ?_, ?_⟩)
    · cases h : SgIn (takenR m) r with
      | false => rfl
      | true =>
        obtain ⟨c, hc, h1, rfl⟩ := (sgIn_iff _ _).1 h
        rw [tl c] at h1
        by_cases z1 : c = 32
        · subst z1; exact absurd rfl q1
        by_cases z2 : c = 46
        · subst z2; exact absurd rfl q2
        rw [if_neg z1, if_neg z2] at h1
        by_cases z4 : isCtl c = true
        · rw [(sg_ctl z4).2.2] at q4
          exact absurd ⟨by omega, by rw [Nat.add_sub_cancel_left]; exact z4⟩ q4
        · rw [if_neg z4] at h1; cases h1
    · unfold tails
      rw [b1, b2, rstep4_pass F (by simpa using k4) q4]
end Go.Proofs.YtlgoghonnnobfaaDoor.Out

/- Characters of a text, bits of a mask, and what the listed package variables give. -/
import Derived.Lib.MapLaws
import Derived.Lib.QuoteLoop
import Derived.Test.YtlgoghonnnobfaaDoorMb
import Derived.Test.YtlgoghonnnobfaaDoorShelf
import Derived.Test.YtlgoghonnnobfaaDoorRows
import Derived.Lib.LaidU8
namespace Go.Proofs.YtlgoghonnnobfaaDoor.Tok
open Go Go.Lib
set_option linter.unusedVariables false
set_option linter.unusedSimpArgs false
/-! ### a text's characters: what is read at each, and its bytes (plain Lean, no program in sight) -/
/-- Is a byte one that goes on with a character. -/
def cont (b : UInt8) : Prop := b.toNat / 64 = 2
instance (b : UInt8) : Decidable (cont b) := inferInstanceAs (Decidable (_ = _))
/-- A text that begins no character in its middle. -/
def clean (l : List UInt8) : Prop := ∀ b t, l = b :: t → ¬ cont b
def tkF : Nat → List UInt8 → List (Nat × List UInt8)
  | 0, _ => []
  | f + 1, l => if l = [] then [] else ((decodeL l).1, l.take (decodeL l).2) :: tkF f (l.drop (decodeL l).2)
def tk (l : List UInt8) : List (Nat × List UInt8) := tkF l.length l
theorem tkF_nil (f : Nat) : tkF f [] = [] := by cases f <;> simp [tkF]
theorem tkF_fuel : ∀ (f g : Nat) (l : List UInt8), l.length ≤ f → l.length ≤ g → tkF f l = tkF g l
  | 0, g, l, h, _ => by
    have : l = [] := List.length_eq_zero_iff.1 (by omega)
    rw [this, tkF_nil, tkF_nil]
  | f + 1, 0, l, _, h => by
    have : l = [] := List.length_eq_zero_iff.1 (by omega)
    rw [this, tkF_nil, tkF_nil]
  | f + 1, g + 1, l, h1, h2 => by
    by_cases h : l = []
    · rw [h, tkF_nil, tkF_nil]
    · have hw := decodeL_width l
      have hl : 0 < l.length := List.length_pos_iff.2 h
      rw [tkF, tkF, if_neg h, if_neg h, tkF_fuel f g (l.drop (decodeL l).2) (by rw [List.length_drop]; omega) (by rw [List.length_drop]; omega)]
theorem tk_nil : tk [] = [] := rfl
theorem tk_step (l : List UInt8) (h : l ≠ []) : tk l = ((decodeL l).1, l.take (decodeL l).2) :: tk (l.drop (decodeL l).2) := by
  have hw := decodeL_width l
  have hl : 0 < l.length := List.length_pos_iff.2 h
  unfold tk
  obtain ⟨n, hn⟩ : ∃ n, l.length = n + 1 := ⟨l.length - 1, by omega⟩
  conv => lhs; rw [hn, tkF]
  rw [if_neg h, tkF_fuel n (l.drop (decodeL l).2).length (l.drop (decodeL l).2) (by rw [List.length_drop]; omega) (Nat.le_refl _)]
/-- The bytes of characters. -/
def bytes (T : List (Nat × List UInt8)) : List UInt8 := T.flatMap Prod.snd
theorem bytes_nil : bytes [] = [] := rfl
theorem bytes_cons (t : Nat × List UInt8) (T : List (Nat × List UInt8)) : bytes (t :: T) = t.2 ++ bytes T := by simp [bytes]
theorem bytes_append (T U : List (Nat × List UInt8)) : bytes (T ++ U) = bytes T ++ bytes U := by simp [bytes]
theorem bytes_tk : ∀ (n : Nat) (l : List UInt8), l.length ≤ n → bytes (tk l) = l
  | 0, l, h => by
    have : l = [] := List.length_eq_zero_iff.1 (by omega)
    rw [this]; rfl
  | n + 1, l, h => by
    by_cases h0 : l = []
    · rw [h0]; rfl
    · have hw := decodeL_width l
      have hl : 0 < l.length := List.length_pos_iff.2 h0
      rw [tk_step l h0, bytes_cons, bytes_tk n _ (by rw [List.length_drop]; omega)]
      exact List.take_append_drop _ _
theorem bytes_tk' (l : List UInt8) : bytes (tk l) = l := bytes_tk l.length l (Nat.le_refl _)
theorem getD_app (a b : List UInt8) (k : Nat) : (a ++ b).getD k 0 = if k < a.length then a.getD k 0 else b.getD (k - a.length) 0 := by
  simp only [List.getD_eq_getElem?_getD, List.getElem?_append]
  split <;> rfl
theorem clean_head {b : List UInt8} (h : clean b) (h0 : 0 < b.length) : (b.getD 0 0).toNat / 64 ≠ 2 := by
  cases b with
  | nil => simp at h0
  | cons x t => exact h x t rfl
set_option maxRecDepth 100000 in
set_option maxHeartbeats 4000000 in
theorem decN_cut (n m b0 b1 b2 b3 c1 c2 c3 : Nat) (hn : 1 ≤ n) (hm : n ≤ m) (e1 : 1 < n → c1 = b1) (e2 : 2 < n → c2 = b2) (e3 : 3 < n → c3 = b3)
    (k1 : n = 1 → (m = 1 ∨ c1 / 64 ≠ 2)) (k2 : n = 2 → (m = 2 ∨ c2 / 64 ≠ 2)) (k3 : n = 3 → (m = 3 ∨ c3 / 64 ≠ 2)) : decodeN m b0 c1 c2 c3 = decodeN n b0 b1 b2 b3 := by
  by_cases h1 : n = 1
  · by_cases hb : b0 < 128
    · rw [decodeN_ascii _ _ _ _ _ hb, decodeN_ascii _ _ _ _ _ hb]
    · rw [decodeN_alone n _ _ _ _ (by omega) (by omega), decodeN_alone m _ _ _ _ (by omega) (by have := k1 h1; omega)]
  have E1 := e1 (by omega)
  subst E1
  by_cases h2 : n = 2
  · have k := k2 h2
    subst h2
    rcases k with rfl | k
    · unfold decodeN
      simp
    · unfold decodeN
      have q1 : (1 < m) = True := by simp; omega
      simp only [q1, k, and_false, false_and, true_and, if_false, Nat.lt_irrefl, (by decide : (1 < 2) = True), (by decide : (3 < 2) = False)]
  have E2 := e2 (by omega)
  subst E2
  by_cases h3 : n = 3
  · have k := k3 h3
    subst h3
    rcases k with rfl | k
    · unfold decodeN
      simp
    · unfold decodeN
      have q1 : (1 < m) = True := by simp; omega
      have q2 : (2 < m) = True := by simp; omega
      simp only [q1, q2, k, and_false, false_and, true_and, if_false, Nat.lt_irrefl, (by decide : (1 < 3) = True), (by decide : (2 < 3) = True)]
  have E3 := e3 (by omega)
  subst E3
  unfold decodeN
  have q1 : (1 < m) = True := by simp; omega
  have q2 : (2 < m) = True := by simp; omega
  have q3 : (3 < m) = True := by simp; omega
  have p1 : (1 < n) = True := by simp; omega
  have p2 : (2 < n) = True := by simp; omega
  have p3 : (3 < n) = True := by simp; omega
  simp only [q1, q2, q3, p1, p2, p3]
/-- What is read at the head of a text does not ask what stands behind a place where no character goes on. -/
theorem decodeL_cut (a b : List UInt8) (ha : a ≠ []) (hb : clean b) : decodeL (a ++ b) = decodeL a := by
  have hl : 0 < a.length := List.length_pos_iff.2 ha
  rw [decodeL_N, decodeL_N, List.length_append]
  have c : ∀ k, a.length = k → (a.length + b.length = k ∨ ((a ++ b).getD k 0).toNat / 64 ≠ 2) := by
    intro k hk
    by_cases h0 : b.length = 0
    · left; omega
    · right
      rw [getD_app, if_neg (by omega), hk, Nat.sub_self]
      exact clean_head hb (by omega)
  have e0 : (a ++ b).getD 0 0 = a.getD 0 0 := by rw [getD_app, if_pos hl]
  rw [e0]
  refine decN_cut _ _ _ _ _ _ _ _ _ (by omega) (by omega) ?_ ?_ ?_ (c 1) (c 2) (c 3)
  all_goals (intro hk; rw [getD_app, if_pos hk])
theorem tk_append : ∀ (n : Nat) (a b : List UInt8), a.length ≤ n → clean b → tk (a ++ b) = tk a ++ tk b
  | 0, a, b, h, _ => by
    have : a = [] := List.length_eq_zero_iff.1 (by omega)
    rw [this]; rfl
  | n + 1, a, b, h, hb => by
    by_cases h0 : a = []
    · rw [h0]; rfl
    · have hw := decodeL_width a
      have hle := decodeL_le a h0
      have hl : 0 < a.length := List.length_pos_iff.2 h0
      rw [tk_step (a ++ b) (by simp [h0]), tk_step a h0, decodeL_cut a b h0 hb, List.take_append_of_le_length hle, List.drop_append_of_le_length hle, tk_append n _ b (by rw [List.length_drop]; omega) hb]
      rfl
theorem tk_app (a b : List UInt8) (hb : clean b) : tk (a ++ b) = tk a ++ tk b := tk_append a.length a b (Nat.le_refl _) hb
/-! ### characters that are UTF-8 -/
def ok (r : Nat) : Prop := r < 55296 ∨ (57343 < r ∧ r ≤ 1114111)
instance (r : Nat) : Decidable (ok r) := inferInstanceAs (Decidable (_ ∨ _))
/-- The bytes of a character. -/
def enc (r : Nat) : List UInt8 := encodeRune (r : Int)
def ch (r : Nat) : Nat × List UInt8 := (r, enc r)
theorem u8 (z : Int) (h0 : 0 ≤ z) (h1 : z < 256) : (z.toNat.toUInt8).toNat = z.toNat := by
  simp only [Nat.toUInt8, UInt8.toNat_ofNat']
  omega
set_option maxRecDepth 100000 in
theorem decode_enc (r : Nat) (h : ok r) (x : List UInt8) : decodeL (enc r ++ x) = (r, (enc r).length) := by
  unfold enc encodeRune
  rw [decodeL_N]
  unfold ok at h
  by_cases h1 : r ≤ 127
  · rw [encodeRuneZ_one (by omega) (by omega)]
    simp only [List.map_cons, List.map_nil, List.cons_append, List.nil_append, List.getD_cons_zero, List.length_cons, List.length_nil]
    rw [u8 _ (by omega) (by omega), decodeN_ascii _ _ _ _ _ (by omega)]
    simp
  by_cases h2 : r ≤ 2047
  · rw [encodeRuneZ_two (by omega) (by omega)]
    simp only [List.map_cons, List.map_nil, List.cons_append, List.nil_append, List.getD_cons_zero, List.getD_cons_succ, List.length_cons, List.length_nil]
    rw [u8 _ (by omega) (by omega), u8 _ (by omega) (by omega)]
    unfold decodeN
    rw [if_neg (by omega), if_pos (by omega), if_pos (by omega)]
    refine Prod.ext ?_ rfl; dsimp only; omega
  by_cases h3 : r ≤ 65535
  · rw [encodeRuneZ_three (by omega)]
    simp only [List.map_cons, List.map_nil, List.cons_append, List.nil_append, List.getD_cons_zero, List.getD_cons_succ, List.length_cons, List.length_nil]
    rw [u8 _ (by omega) (by omega), u8 _ (by omega) (by omega), u8 _ (by omega) (by omega)]
    unfold decodeN
    rw [if_neg (by omega), if_neg (by omega), if_pos (by omega), if_pos (by omega)]
    refine Prod.ext ?_ rfl; dsimp only; omega
  · rw [encodeRuneZ_four (by omega) (by omega)]
    simp only [List.map_cons, List.map_nil, List.cons_append, List.nil_append, List.getD_cons_zero, List.getD_cons_succ, List.length_cons, List.length_nil]
    rw [u8 _ (by omega) (by omega), u8 _ (by omega) (by omega), u8 _ (by omega) (by omega), u8 _ (by omega) (by omega)]
    unfold decodeN
    rw [if_neg (by omega), if_neg (by omega), if_neg (by omega), if_pos (by omega), if_pos (by omega)]
    refine Prod.ext ?_ rfl; dsimp only; omega
theorem enc_pos (r : Nat) : 1 ≤ (enc r).length := by
  unfold enc encodeRune; rw [List.length_map]; exact (encodeRuneZ_length _).1
theorem enc_ne (r : Nat) : enc r ≠ [] := by
  have := enc_pos r
  intro h; rw [h] at this; simp at this
theorem tk_enc (r : Nat) (h : ok r) (x : List UInt8) : tk (enc r ++ x) = ch r :: tk x := by
  rw [tk_step _ (by simp [enc_ne]), decode_enc r h x]
  simp [ch]
/-- A character begins with a byte that goes on with none. -/
theorem enc_clean (r : Nat) (x : List UInt8) : clean (enc r ++ x) := by
  intro b t e hc
  unfold enc encodeRune encodeRuneZ at e
  unfold cont at hc
  repeat' (split at e)
  all_goals
    simp only [List.map_cons, List.map_nil, List.cons_append, List.nil_append, List.cons.injEq] at e
    have e1 := e.1
    subst e1
    first
      | (rw [u8 _ (by omega) (by omega)] at hc; omega)
      | (revert hc; decide)
theorem clean_nil : clean [] := fun b t h => by cases h
/-- What is read at the head: a character of UTF-8, or a byte that is none. -/
theorem head_cases (l : List UInt8) (h : l ≠ []) : (decodeL l = (65533, 1) ∧ ∃ b, l.take 1 = [b]) ∨ (ok (decodeL l).1 ∧ l.take (decodeL l).2 = enc (decodeL l).1) := by
  by_cases hv : (decodeL l).1 = 65533 ∧ (decodeL l).2 = 1
  · left
    refine ⟨Prod.ext hv.1 hv.2, ?_⟩
    cases l with
    | nil => exact absurd rfl h
    | cons b t => exact ⟨b, by simp⟩
  · right
    refine ⟨?_, (encode_decode l h hv).symm⟩
    have := decodeN_valid l.length (l.getD 0 0).toNat (l.getD 1 0).toNat (l.getD 2 0).toNat (l.getD 3 0).toNat (UInt8.toNat_lt _)
    rw [← decodeL_N] at this
    exact this
/-- A byte that is no part of a character. -/
def badT (b : UInt8) : Nat × List UInt8 := (65533, [b])
theorem tk_head (l : List UInt8) (h : l ≠ []) : (∃ b t, l = b :: t ∧ decodeL l = (65533, 1) ∧ tk l = badT b :: tk t) ∨ (∃ r t, ok r ∧ l = enc r ++ t ∧ decodeL l = (r, (enc r).length) ∧ tk l = ch r :: tk t) := by
  rcases head_cases l h with ⟨h1, b, hb⟩ | ⟨h1, h2⟩
  · left
    cases l with
    | nil => exact absurd rfl h
    | cons c t =>
      refine ⟨c, t, rfl, h1, ?_⟩
      rw [tk_step _ h, h1]
      rfl
  · right
    have e : l = enc (decodeL l).1 ++ l.drop (decodeL l).2 := by rw [← h2]; exact (List.take_append_drop _ _).symm
    refine ⟨(decodeL l).1, l.drop (decodeL l).2, h1, e, ?_, ?_⟩
    · conv => lhs; rw [e, decode_enc _ h1]
    · conv => lhs; rw [e, tk_enc _ h1]
def conts (l : List UInt8) : List UInt8 := l.takeWhile (fun b => decide (cont b))
theorem clean_drop (l : List UInt8) : clean (l.dropWhile (fun b => decide (cont b))) := by
  intro b t e hc
  have := List.head?_dropWhile_not (fun b => decide (cont b)) l
  rw [e] at this
  simp [hc] at this
theorem conts_clean (l : List UInt8) (h : clean l) : conts l = [] := by
  cases l with
  | nil => rfl
  | cons b t => simp [conts, h b t rfl]
theorem bad_conts (b : UInt8) (x y : List UInt8) (h : decodeL (b :: x) = (65533, 1)) (e : conts x = conts y) : decodeL (b :: y) = (65533, 1) := by
  have hx : b :: x = (b :: conts x) ++ x.dropWhile (fun b => decide (cont b)) := by
    simp only [conts, List.cons_append, List.takeWhile_append_dropWhile]
  have hy : b :: y = (b :: conts y) ++ y.dropWhile (fun b => decide (cont b)) := by
    simp only [conts, List.cons_append, List.takeWhile_append_dropWhile]
  rw [hx, decodeL_cut _ _ (by simp) (clean_drop _)] at h
  rw [hy, decodeL_cut _ _ (by simp) (clean_drop _), ← e]
  exact h
/-- Characters in place of characters; what is none stays. -/
inductive Sub : List (Nat × List UInt8) → List (Nat × List UInt8) → Prop
  | nil : Sub [] []
  | ok {T U : List (Nat × List UInt8)} (r : Nat) (rs : List Nat) (h : rs ≠ []) (ho : ∀ x ∈ rs, Tok.ok x) (hs : Sub T U) : Sub (ch r :: T) (rs.map ch ++ U)
  | bad {T U : List (Nat × List UInt8)} (b : UInt8) (hs : Sub T U) : Sub (badT b :: T) (badT b :: U)
theorem Sub.conts {T U : List (Nat × List UInt8)} (h : Sub T U) : conts (bytes T) = conts (bytes U) := by
  induction h with
  | nil => rfl
  | ok r rs h ho hs ih =>
    cases rs with
    | nil => exact absurd rfl h
    | cons x xs =>
      simp only [List.map_cons, List.cons_append, bytes_cons]
      exact (conts_clean _ (enc_clean r _)).trans (conts_clean _ (enc_clean x _)).symm
  | bad b hs ih =>
    simp only [bytes_cons, badT, List.cons_append, List.nil_append]
    unfold Tok.conts at ih ⊢
    by_cases hb : cont b
    · simp [hb, ih]
    · simp [hb]
theorem tk_chs (rs : List Nat) (ho : ∀ x ∈ rs, ok x) (y : List UInt8) : tk (bytes (rs.map ch) ++ y) = rs.map ch ++ tk y := by
  induction rs with
  | nil => rfl
  | cons r rs ih =>
    rw [List.map_cons, bytes_cons, List.append_assoc, List.cons_append, ← ih (fun x hx => ho x (by simp [hx]))]
    exact tk_enc r (ho r (by simp)) _
theorem tk_chs' (rs : List Nat) (ho : ∀ x ∈ rs, ok x) : tk (bytes (rs.map ch)) = rs.map ch := by
  have := tk_chs rs ho []
  simpa [tk_nil] using this
theorem ch_ne_bad {r : Nat} {b : UInt8} (hr : ok r) (h : ch r = badT b) : False := by
  have h1 : r = 65533 := congrArg Prod.fst h
  have h2 : enc r = [b] := congrArg Prod.snd h
  subst h1
  exact absurd (congrArg List.length h2) (show ¬ (3 = 1) by decide)
theorem sub_tk : ∀ (n : Nat) (l : List UInt8), l.length ≤ n → ∀ U, Sub (tk l) U → tk (bytes U) = U
  | 0, l, h, U, hs => by
    have : l = [] := List.length_eq_zero_iff.1 (by omega)
    subst this
    rw [tk_nil] at hs
    cases hs
    rfl
  | n + 1, l, h, U, hs => by
    by_cases h0 : l = []
    · subst h0
      rw [tk_nil] at hs
      cases hs
      rfl
    · rcases tk_head l h0 with ⟨b, t, rfl, hd, e⟩ | ⟨r, t, hr, rfl, hd, e⟩
      · rw [e] at hs
        generalize hT : badT b :: tk t = T at hs
        cases hs with
        | nil => cases hT
        | @ok T' U' r rs g ho hs =>
          injection hT with h1 h2
          have h3 : r = 65533 := (congrArg Prod.fst h1).symm
          have h4 : enc r = [b] := (congrArg Prod.snd h1).symm
          subst h3
          exact absurd (congrArg List.length h4) (show ¬ (3 = 1) by decide)
        | @bad T' U' c hs =>
          injection hT with h1 h2
          have h3 : b = c := by simpa [badT] using h1
          subst h3
          subst h2
          have hc := hs.conts
          rw [bytes_tk'] at hc
          have hd' := bad_conts b t (bytes U') hd hc
          have e2 : bytes (badT b :: U') = b :: bytes U' := by simp [bytes_cons, badT]
          rw [e2, tk_step _ (by simp), hd']
          simp only [List.take_succ_cons, List.take_zero, List.drop_succ_cons, List.drop_zero]
          rw [sub_tk n t (by simp at h; omega) U' hs]
          rfl
      · have hlen := enc_pos r
        rw [List.length_append] at h
        rw [e] at hs
        generalize hT : ch r :: tk t = T at hs
        cases hs with
        | nil => cases hT
        | @ok T' U' r' rs g ho hs =>
          injection hT with h1 h2
          subst h2
          rw [bytes_append, tk_chs rs ho, sub_tk n t (by omega) U' hs]
        | @bad T' U' c hs =>
          injection hT with h1 h2
          exact (ch_ne_bad hr h1).elim
theorem tk_sub (l : List UInt8) (U : List (Nat × List UInt8)) (h : Sub (tk l) U) : tk (bytes U) = U := sub_tk l.length l (Nat.le_refl _) U h
/-! ### the last character -/
theorem enc_shape (r : Nat) : (∃ a, enc r = [a] ∧ a.toNat < 128) ∨ (∃ a b, enc r = [a, b] ∧ 128 ≤ b.toNat ∧ ¬ cont a) ∨ (∃ a b c, enc r = [a, b, c] ∧ 128 ≤ c.toNat ∧ cont b ∧ ¬ cont a) ∨ (∃ a b c d, enc r = [a, b, c, d] ∧ 128 ≤ d.toNat ∧ cont c ∧ cont b ∧ ¬ cont a) := by
  unfold enc encodeRune encodeRuneZ cont
  split
  · left; exact ⟨_, rfl, by rw [u8 _ (by omega) (by omega)]; omega⟩
  split
  · right; left; exact ⟨_, _, rfl, by rw [u8 _ (by omega) (by omega)]; omega, by rw [u8 _ (by omega) (by omega)]; omega⟩
  split
  · right; right; left; exact ⟨_, _, _, rfl, by rw [u8 _ (by omega) (by omega)]; omega, by rw [u8 _ (by omega) (by omega)]; omega, by rw [u8 _ (by omega) (by omega)]; omega⟩
  split
  · right; right; right; exact ⟨_, _, _, _, rfl, by rw [u8 _ (by omega) (by omega)]; omega, by rw [u8 _ (by omega) (by omega)]; omega, by rw [u8 _ (by omega) (by omega)]; omega, by rw [u8 _ (by omega) (by omega)]; omega⟩
  · right; right; left; exact ⟨_, _, _, rfl, by decide, by decide, by decide⟩
theorem start_iff (b : UInt8) : runeStartB b = true ↔ ¬ cont b := by simp [runeStartB, cont]
theorem last_ok (p : List UInt8) (r : Nat) (h : ok r) : decodeLastL (p ++ enc r) = (r, (enc r).length) := by
  have hd := decode_enc r h []
  rw [List.append_nil] at hd
  have hne : p ++ enc r ≠ [] := by simp [enc_ne]
  have g : ∀ k, 1 ≤ k → k ≤ (enc r).length → (p ++ enc r).getD ((p ++ enc r).length - k) 0 = (enc r).getD ((enc r).length - k) 0 := by
    intro k h1 h2
    rw [getD_app, if_neg (by rw [List.length_append]; omega), List.length_append]
    congr 1
    omega
  have key : ∀ n, n = (enc r).length → lastStart (p ++ enc r) = (p ++ enc r).length - n → (128 ≤ ((p ++ enc r).getD ((p ++ enc r).length - 1) 0).toNat) → decodeLastL (p ++ enc r) = (r, (enc r).length) := by
    intro n hn h1 h2
    subst hn
    unfold decodeLastL
    rw [if_neg hne, if_neg (by omega), h1]
    have e : (p ++ enc r).length - (enc r).length = p.length := by rw [List.length_append]; omega
    simp only [e, List.drop_left, hd]
    rw [if_pos (by rw [List.length_append])]
  rcases enc_shape r with ⟨a, e, ha⟩ | ⟨a, b, e, hb, ha⟩ | ⟨a, b, c, e, hc, hb, ha⟩ | ⟨a, b, c, d, e, hd', hc, hb, ha⟩
  · have g1 := g 1 (by decide) (by rw [e]; simp)
    rw [e] at g1 hd ⊢
    simp only [List.length_cons, List.length_nil, List.getD_cons_zero] at g1
    unfold decodeLastL
    rw [if_neg (by simp), g1, if_pos (by exact ha)]
    rw [decodeL_N] at hd
    rw [decodeN_ascii _ _ _ _ _ (by exact ha)] at hd
    exact hd
  · have g1 := g 1 (by decide) (by rw [e]; simp)
    have g2 := g 2 (by decide) (by rw [e]; simp)
    rw [e] at g1 g2
    simp only [List.length_cons, List.length_nil, List.getD_cons_zero, List.getD_cons_succ, Nat.reduceAdd, Nat.reduceSub] at g1 g2
    refine key 2 (by rw [e]; rfl) ?_ (by rw [e, g1]; exact hb)
    unfold lastStart
    simp only
    rw [if_neg (by rw [List.length_append, e]; simp), e, g2, if_pos ((start_iff _).2 ha)]
  · have g1 := g 1 (by decide) (by rw [e]; simp)
    have g2 := g 2 (by decide) (by rw [e]; simp)
    have g3 := g 3 (by decide) (by rw [e]; simp)
    rw [e] at g1 g2 g3
    simp only [List.length_cons, List.length_nil, List.getD_cons_zero, List.getD_cons_succ, Nat.reduceAdd, Nat.reduceSub] at g1 g2 g3
    refine key 3 (by rw [e]; rfl) ?_ (by rw [e, g1]; exact hc)
    unfold lastStart
    simp only
    rw [if_neg (by rw [List.length_append, e]; simp), e, g2, if_neg (by rw [start_iff]; exact fun h => h hb), if_neg (by simp), g3, if_pos ((start_iff _).2 ha)]
  · have g1 := g 1 (by decide) (by rw [e]; simp)
    have g2 := g 2 (by decide) (by rw [e]; simp)
    have g3 := g 3 (by decide) (by rw [e]; simp)
    have g4 := g 4 (by decide) (by rw [e]; simp)
    rw [e] at g1 g2 g3 g4
    simp only [List.length_cons, List.length_nil, List.getD_cons_zero, List.getD_cons_succ, Nat.reduceAdd, Nat.reduceSub] at g1 g2 g3 g4
    refine key 4 (by rw [e]; rfl) ?_ (by rw [e, g1]; exact hd')
    unfold lastStart
    simp only
    rw [if_neg (by rw [List.length_append, e]; simp), e, g2, if_neg (by rw [start_iff]; exact fun h => h hc), if_neg (by simp), g3, if_neg (by rw [start_iff]; exact fun h => h hb), if_neg (by simp), if_pos (by rw [g4]; exact (start_iff _).2 ha)]
theorem last_inv (l : List UInt8) (h : l ≠ []) (hr : (decodeLastL l).1 ≠ 65533) : ∃ p, l = p ++ enc (decodeLastL l).1 ∧ (decodeLastL l).2 = (enc (decodeLastL l).1).length ∧ ok (decodeLastL l).1 := by
  have hl : 0 < l.length := List.length_pos_iff.2 h
  generalize hd : decodeLastL l = d at hr ⊢
  unfold decodeLastL at hd
  rw [if_neg h] at hd
  split at hd
  · rename_i h1
    subst hd
    have e : enc (l.getD (l.length - 1) 0).toNat = [l.getD (l.length - 1) 0] := by
      unfold enc encodeRune
      rw [encodeRuneZ_one (by omega) (by omega)]
      simp
    dsimp only
    refine ⟨l.take (l.length - 1), ?_, by rw [e]; rfl, by unfold ok; omega⟩
    rw [e]
    have : l.drop (l.length - 1) = [l.getD (l.length - 1) 0] := by
      rw [List.drop_eq_getElem_cons (by omega), List.drop_eq_nil_of_le (by omega)]
      simp only [List.getD_eq_getElem?_getD, List.getElem?_eq_getElem (show l.length - 1 < l.length by omega), Option.getD_some]
    rw [← this]
    exact (List.take_append_drop _ _).symm
  · simp only at hd
    have hlt := lastStart_lt' l h
    have hne : l.drop (lastStart l) ≠ [] := by
      intro h0
      have := congrArg List.length h0
      rw [List.length_drop] at this
      simp at this
      omega
    split at hd
    · rename_i h2
      subst hd
      rcases head_cases _ hne with ⟨g1, _⟩ | ⟨g1, g2⟩
      · rw [g1] at hr; exact absurd rfl hr
      · have g3 : (decodeL (l.drop (lastStart l))).2 = (l.drop (lastStart l)).length := by rw [List.length_drop]; omega
        rw [g3, List.take_length] at g2
        exact ⟨l.take (lastStart l), by rw [← g2]; exact (List.take_append_drop _ _).symm, by rw [← g2]; exact g3, g1⟩
    · subst hd
      exact absurd rfl hr
end Go.Proofs.YtlgoghonnnobfaaDoor.Tok
namespace Go.Proofs.YtlgoghonnnobfaaDoor.Asc
open Go Go.Lib
theorem get_head (s : ByteArray) : s.get! 0 = s.data.toList.getD 0 0 := (getD_get!' s 0).symm
end Go.Proofs.YtlgoghonnnobfaaDoor.Asc
namespace Go.Proofs.YtlgoghonnnobfaaDoor.Cong
open Go Go.Proofs.YtlgoghonnnobfaaDoor.Fr
set_option linter.unusedVariables false
set_option linter.unusedSimpArgs false
/-! ### bits of masks -/
theorem bits_nat (m f : Nat) (hm : m < 18446744073709551616) (hf : f < 18446744073709551616) : Go.bits .and .u64 (m : Int) (f : Int) = ((m &&& f : Nat) : Int) := by
  unfold Go.bits
  simp
  have e1 : m % 18446744073709551616 = m := Nat.mod_eq_of_lt hm
  have e2 : f % 18446744073709551616 = f := Nat.mod_eq_of_lt hf
  have hle : m &&& f ≤ m := Nat.and_le_left
  show IntKind.u64.wrap (((m % 18446744073709551616 &&& f % 18446744073709551616 : Nat)) : Int) = _
  rw [e1, e2, IntKind.wrap_u64]
  omega
theorem hb_nat (m f : Nat) (hm : m < 18446744073709551616) (hf : f < 18446744073709551616) : hb (m : Int) (f : Int) = (m &&& f != 0) := by
  unfold hb
  rw [bits_nat m f hm hf, Bool.eq_iff_iff]
  simp only [bne_iff_ne]
  omega
/-- A bit of those that a mask keeps. -/
theorem hb_kept (m M f : Nat) (hm : m < 18446744073709551616) (hM : M < 18446744073709551616) (hf : f < 18446744073709551616) (h : M &&& f = f) : hb (Go.bits .and .u64 (m : Int) (M : Int)) (f : Int) = hb (m : Int) (f : Int) := by
  have hle : m &&& M ≤ m := Nat.and_le_left
  rw [bits_nat m M hm hM, hb_nat _ f (by omega) hf, hb_nat m f hm hf, Nat.and_assoc, h]
end Go.Proofs.YtlgoghonnnobfaaDoor.Cong
namespace Go.Proofs.YtlgoghonnnobfaaDoor.Glo
open Go Go.RowKit Go.Proofs.YtlgoghonnnobfaaDoor
set_option linter.unusedVariables false
/-! ### what the listed package variables give -/
/-- utf8's two tables. -/
def Glob (W : World) : Prop := Lib.Utf8Tabs 0 1 W
theorem first_eq : Rows.laid_unicode_utf8_first = Lib.firstData := by kernel_rfl
theorem accept_eq : (Rows.laid_unicode_utf8_acceptRanges : DataW Unit) = Lib.acceptData := by kernel_rfl
theorem extra : Go.Proofs.U8Extra Tryd.prog Shelf.Tryd.lays260_ren := ⟨by kernel_rfl, by kernel_rfl, by kernel_rfl, by kernel_rfl, by kernel_rfl, by kernel_rfl, by kernel_rfl⟩
theorem tabs_of {l : List (String × DataW Unit)} {W : World} (h : laidMet Tryd.prog l W) (h1 : ("unicode/utf8.first", Rows.laid_unicode_utf8_first) ∈ l) (h2 : ("unicode/utf8.acceptRanges", (Rows.laid_unicode_utf8_acceptRanges : DataW Unit)) ∈ l) : Glob W := by
  rw [first_eq] at h1
  rw [accept_eq] at h2
  exact Go.Proofs.utf8Tabs_of_reads Shelf.Tryd.lays260 extra (Lib.laidMet.reads h h1) (Lib.laidMet.reads h h2)
end Go.Proofs.YtlgoghonnnobfaaDoor.Glo

import Derived.Test.YtlgoghonnnobfaaDoorOuf
namespace Go.Proofs.YtlgoghonnnobfaaDoor.Out
open Go Go.Lib Go.Proofs.YtlgoghonnnobfaaDoor.Fr Go.Proofs.YtlgoghonnnobfaaDoor.Tok
open Go.Proofs.YtlgoghonnnobfaaDoor.Enc (Bit by' unit encFrom encAll idxE bodyL stopE heads tailsIf tails encodeT encode hexc isCtl sgn lstep lstep4 rstep rstep4 both)
set_option linter.unusedVariables false
set_option linter.unusedSimpArgs false
/-! ### words: how a character is written at its place -/
/-- What stands for a character of ASCII. -/
def Sg (c : Nat) : Nat := if c = 127 then 9249 else if c < 33 then 9216 + c else c + 65248
theorem sg_all : ∀ c : Fin 128, 128 ≤ Sg c.val ∧ Sg c.val ≠ 8219 ∧ ok (Sg c.val) ∧ Sg c.val ≠ 65533 := by decide
theorem sg_inj {a b : Nat} (ha : a < 128) (hb : b < 128) (h : Sg a = Sg b) : a = b := by
  unfold Sg at h
  repeat' (split at h)
  all_goals omega
/-- Is it the sign of a character that is taken. -/
def SgIn (A : Nat → Bool) (r : Nat) : Bool := (List.range 128).any fun c => A c && decide (r = Sg c)
theorem sgIn_iff (A : Nat → Bool) (r : Nat) : SgIn A r = true ↔ ∃ c, c < 128 ∧ A c = true ∧ r = Sg c := by
  unfold SgIn
  rw [List.any_eq_true]
  constructor
  · rintro ⟨c, hc, h⟩
    rw [Bool.and_eq_true, decide_eq_true_eq] at h
    exact ⟨c, List.mem_range.1 hc, h.1, h.2⟩
  · rintro ⟨c, hc, h1, h2⟩
    exact ⟨c, List.mem_range.2 hc, by rw [Bool.and_eq_true, decide_eq_true_eq]; exact ⟨h1, h2⟩⟩
/-- How a character is written where the bits take A. -/
def Wd (A : Nat → Bool) (inv : Bool) (t : T) : List T :=
  if t.1 = 65533 ∧ t.2.length = 1 then (if inv = true then quotedT (t.2.headD 0) else [t])
  else if A t.1 = true then [ch (Sg t.1)] else if t.1 = 8219 ∨ SgIn A t.1 = true then [ch 8219, ch t.1] else [ch t.1]
structure Asc7 (A : Nat → Bool) : Prop where
  low : ∀ x, A x = true → x < 128
def Form (t : T) : Prop := (∃ r, ok r ∧ t = ch r) ∨ ∃ b, t = badT b
/-- A word, as it can be told from what follows. -/
def IsW (w : List T) : Prop := (∃ t, w = [t] ∧ t ≠ ch 8219) ∨ (∃ x, 128 ≤ x ∧ w = [ch 8219, ch x]) ∨ (∃ x y, x < 128 ∧ w = [ch 8219, ch x, ch y])
theorem ch_inj {a b : Nat} (h : ch a = ch b) : a = b := congrArg Prod.fst h
theorem seg {w w' X X' : List T} (h : IsW w) (h' : IsW w') (e : w ++ X = w' ++ X') : w = w' ∧ X = X' := by
  rcases h with ⟨t, rfl, ht⟩ | ⟨x, hx, rfl⟩ | ⟨x, y, hx, rfl⟩
  · rcases h' with ⟨t', rfl, ht'⟩ | ⟨x', hx', rfl⟩ | ⟨x', y', hx', rfl⟩
    · injection e with e1 e2; exact ⟨by rw [e1], e2⟩
    · injection e with e1 e2; exact absurd e1 ht
    · injection e with e1 e2; exact absurd e1 ht
  · rcases h' with ⟨t', rfl, ht'⟩ | ⟨x', hx', rfl⟩ | ⟨x', y', hx', rfl⟩
    · injection e with e1 e2; exact absurd e1.symm ht'
    · injection e with e1 e2
      injection e2 with e2 e3
      exact ⟨by rw [e2], e3⟩
    · injection e with e1 e2
      injection e2 with e2 e3
      have := ch_inj e2
      omega
  · rcases h' with ⟨t', rfl, ht'⟩ | ⟨x', hx', rfl⟩ | ⟨x', y', hx', rfl⟩
    · injection e with e1 e2; exact absurd e1.symm ht'
    · injection e with e1 e2
      injection e2 with e2 e3
      have := ch_inj e2
      omega
    · injection e with e1 e2
      injection e2 with e2 e3
      injection e3 with e3 e4
      exact ⟨by rw [e2, e3], e4⟩
theorem wd_ch (A : Nat → Bool) (inv : Bool) (r : Nat) : Wd A inv (ch r) = if A r = true then [ch (Sg r)] else if r = 8219 ∨ SgIn A r = true then [ch 8219, ch r] else [ch r] := by
  rw [Wd, if_neg (ch_not_bad r)]; rfl
theorem wd_bad (A : Nat → Bool) (inv : Bool) (b : UInt8) : Wd A inv (badT b) = if inv = true then quotedT b else [badT b] := by
  rw [Wd, if_pos ⟨rfl, rfl⟩]; rfl
theorem hex_low : ∀ n : Fin 16, (hexc n.val).toNat < 128 := by decide
theorem hex_inj : ∀ a b : Fin 16, (hexc a.val).toNat = (hexc b.val).toNat → a = b := by decide
theorem wd_isW (A : Nat → Bool) (hA : Asc7 A) (inv : Bool) (t : T) (ht : Form t) : IsW (Wd A inv t) := by
  rcases ht with ⟨r, hr, rfl⟩ | ⟨b, rfl⟩
  · rw [wd_ch]
    split
    · rename_i h
      exact .inl ⟨_, rfl, fun e => (sg_all ⟨r, hA.low r h⟩).2.1 (ch_inj e)⟩
    · split
      · rename_i h
        refine .inr (.inl ⟨r, ?_, rfl⟩)
        rcases h with rfl | h
        · decide
        · obtain ⟨c, hc, _, rfl⟩ := (sgIn_iff A r).1 h
          exact (sg_all ⟨c, hc⟩).1
      · rename_i h
        exact .inl ⟨_, rfl, fun e => h (.inl (ch_inj e))⟩
  · rw [wd_bad]
    split
    · exact .inr (.inr ⟨_, _, hex_low ⟨b.toNat / 16, (hexes b).1⟩, rfl⟩)
    · exact .inl ⟨_, rfl, fun e => by have : (65533 : Nat) = 8219 := congrArg Prod.fst e; cases this⟩
theorem wd_inj (A : Nat → Bool) (hA : Asc7 A) (inv : Bool) (t t' : T) (ht : Form t) (ht' : Form t') (e : Wd A inv t = Wd A inv t') : t = t' := by
  have one : ∀ (r : Nat) (b : UInt8), ok r → Wd A inv (ch r) ≠ Wd A inv (badT b) := by
    intro r b hr h
    rw [wd_ch, wd_bad] at h
    have hb : ∀ x, ch x ≠ badT b ∨ True := fun _ => .inr trivial
    have nb : ∀ x, ok x → ch x ≠ badT b := fun x hx g => ch_ne_bad hx g
    split at h
    · rename_i h1
      split at h
      · simp [quotedT] at h
      · injection h with h; exact nb _ (sg_all ⟨r, hA.low r h1⟩).2.2.1 h
    · split at h
      · rename_i h2
        split at h
        · simp [quotedT] at h
        · simp at h
      · split at h
        · simp [quotedT] at h
        · injection h with h; exact nb r hr h
  rcases ht with ⟨r, hr, rfl⟩ | ⟨b, rfl⟩
  · rcases ht' with ⟨r', hr', rfl⟩ | ⟨b', rfl⟩
    · rw [wd_ch, wd_ch] at e
      by_cases h1 : A r = true
      · rw [if_pos h1] at e
        by_cases h2 : A r' = true
        · rw [if_pos h2] at e
          injection e with e
          rw [sg_inj (hA.low r h1) (hA.low r' h2) (ch_inj e)]
        · rw [if_neg h2] at e
          split at e
          · simp at e
          · rename_i h3
            injection e with e
            exact absurd (.inr ((sgIn_iff A r').2 ⟨r, hA.low r h1, h1, (ch_inj e).symm⟩)) h3
      · rw [if_neg h1] at e
        by_cases h2 : A r' = true
        · rw [if_pos h2] at e
          split at e
          · simp at e
          · rename_i h3
            injection e with e
            exact absurd (.inr ((sgIn_iff A r).2 ⟨r', hA.low r' h2, h2, ch_inj e⟩)) h3
        · rw [if_neg h2] at e
          split at e
          · split at e
            · injection e with _ e
              injection e with e
            · simp at e
          · split at e
            · simp at e
            · injection e with e
    · exact absurd e (one r b' hr)
  · rcases ht' with ⟨r', hr', rfl⟩ | ⟨b', rfl⟩
    · exact absurd e.symm (one r' b hr')
    · rw [wd_bad, wd_bad] at e
      split at e
      · unfold quotedT at e
        injection e with _ e
        injection e with e1 e
        injection e with e2 _
        have q1 := hex_inj ⟨b.toNat / 16, (hexes b).1⟩ ⟨b'.toNat / 16, (hexes b').1⟩ (ch_inj e1)
        have q2 := hex_inj ⟨b.toNat % 16, (hexes b).2⟩ ⟨b'.toNat % 16, (hexes b').2⟩ (ch_inj e2)
        have q1 : b.toNat / 16 = b'.toNat / 16 := congrArg Fin.val q1
        have q2 : b.toNat % 16 = b'.toNat % 16 := congrArg Fin.val q2
        have : b = b' := UInt8.toNat_inj.1 (by omega)
        rw [this]
      · injection e with e
theorem isW_ne {w : List T} (h : IsW w) : w ≠ [] := by
  rcases h with ⟨t, rfl, _⟩ | ⟨x, _, rfl⟩ | ⟨x, y, _, rfl⟩ <;> simp
/-- All but the first character. -/
def codeR (AM AN : Nat → Bool) (inv : Bool) : List T → List T
  | [] => []
  | [t] => Wd AN inv t
  | t :: t' :: r => Wd AM inv t ++ codeR AM AN inv (t' :: r)
def code1 (A1 AM AN AO : Nat → Bool) (inv : Bool) : List T → List T
  | [] => []
  | [t] => Wd AO inv t
  | t :: t' :: r => Wd A1 inv t ++ codeR AM AN inv (t' :: r)
theorem codeR_ne {AM AN : Nat → Bool} (hM : Asc7 AM) (hN : Asc7 AN) (inv : Bool) (t : T) (r : List T) (ht : Form t) : codeR AM AN inv (t :: r) ≠ [] := by
  cases r with
  | nil => exact isW_ne (wd_isW AN hN inv t ht)
  | cons t' r => rw [codeR]; simp [isW_ne (wd_isW AM hM inv t ht)]
theorem codeR_inj {AM AN : Nat → Bool} (hM : Asc7 AM) (hN : Asc7 AN) (inv : Bool) : ∀ (L L' : List T), (∀ t ∈ L, Form t) → (∀ t ∈ L', Form t) → codeR AM AN inv L = codeR AM AN inv L' → L = L'
  | [], [], _, _, _ => rfl
  | [], t :: r, _, h', e => absurd e.symm (codeR_ne hM hN inv t r (h' t (by simp)))
  | t :: r, [], h, _, e => absurd e (codeR_ne hM hN inv t r (h t (by simp)))
  | [t], [t'], h, h', e => by rw [wd_inj AN hN inv t t' (h t (by simp)) (h' t' (by simp)) e]
  | [t], t' :: t'' :: r, h, h', e => by
    have e : Wd AN inv t ++ [] = Wd AM inv t' ++ codeR AM AN inv (t'' :: r) := by rw [List.append_nil]; exact e
    exact absurd (seg (wd_isW AN hN inv t (h t (by simp))) (wd_isW AM hM inv t' (h' t' (by simp))) e).2.symm (codeR_ne hM hN inv t'' r (h' t'' (by simp)))
  | t :: t'' :: r, [t'], h, h', e => by
    have e : Wd AM inv t ++ codeR AM AN inv (t'' :: r) = Wd AN inv t' ++ [] := by rw [List.append_nil]; exact e
    exact absurd (seg (wd_isW AM hM inv t (h t (by simp))) (wd_isW AN hN inv t' (h' t' (by simp))) e).2 (codeR_ne hM hN inv t'' r (h t'' (by simp)))
  | t :: a :: r, t' :: a' :: r', h, h', e => by
    obtain ⟨e1, e2⟩ := seg (wd_isW AM hM inv t (h t (by simp))) (wd_isW AM hM inv t' (h' t' (by simp))) e
    rw [wd_inj AM hM inv t t' (h t (by simp)) (h' t' (by simp)) e1, codeR_inj hM hN inv (a :: r) (a' :: r') (fun x hx => h x (by simp at hx; simp [hx])) (fun x hx => h' x (by simp at hx; simp [hx])) e2]
theorem code1_inj {A1 AM AN AO : Nat → Bool} (h1 : Asc7 A1) (hM : Asc7 AM) (hN : Asc7 AN) (hO : Asc7 AO) (inv : Bool) : ∀ (L L' : List T), (∀ t ∈ L, Form t) → (∀ t ∈ L', Form t) → code1 A1 AM AN AO inv L = code1 A1 AM AN AO inv L' → L = L'
  | [], [], _, _, _ => rfl
  | [], [t], _, h', e => absurd e.symm (isW_ne (wd_isW AO hO inv t (h' t (by simp))))
  | [], t :: t' :: r, _, h', e => by
    have := isW_ne (wd_isW A1 h1 inv t (h' t (by simp)))
    rw [code1, code1] at e
    exact absurd (List.append_eq_nil_iff.1 e.symm).1 this
  | [t], [], h, _, e => absurd e (isW_ne (wd_isW AO hO inv t (h t (by simp))))
  | t :: t' :: r, [], h, _, e => by
    have := isW_ne (wd_isW A1 h1 inv t (h t (by simp)))
    rw [code1, code1] at e
    exact absurd (List.append_eq_nil_iff.1 e).1 this
  | [t], [t'], h, h', e => by rw [wd_inj AO hO inv t t' (h t (by simp)) (h' t' (by simp)) e]
  | [t], t' :: t'' :: r, h, h', e => by
    have e : Wd AO inv t ++ [] = Wd A1 inv t' ++ codeR AM AN inv (t'' :: r) := by rw [List.append_nil]; exact e
    exact absurd (seg (wd_isW AO hO inv t (h t (by simp))) (wd_isW A1 h1 inv t' (h' t' (by simp))) e).2.symm (codeR_ne hM hN inv t'' r (h' t'' (by simp)))
  | t :: t'' :: r, [t'], h, h', e => by
    have e : Wd A1 inv t ++ codeR AM AN inv (t'' :: r) = Wd AO inv t' ++ [] := by rw [List.append_nil]; exact e
    exact absurd (seg (wd_isW A1 h1 inv t (h t (by simp))) (wd_isW AO hO inv t' (h' t' (by simp))) e).2 (codeR_ne hM hN inv t'' r (h t'' (by simp)))
  | t :: a :: r, t' :: a' :: r', h, h', e => by
    obtain ⟨e1, e2⟩ := seg (wd_isW A1 h1 inv t (h t (by simp))) (wd_isW A1 h1 inv t' (h' t' (by simp))) e
    rw [wd_inj A1 h1 inv t t' (h t (by simp)) (h' t' (by simp)) e1, codeR_inj hM hN inv (a :: r) (a' :: r') (fun x hx => h x (by simp at hx; simp [hx])) (fun x hx => h' x (by simp at hx; simp [hx])) e2]
end Go.Proofs.YtlgoghonnnobfaaDoor.Out

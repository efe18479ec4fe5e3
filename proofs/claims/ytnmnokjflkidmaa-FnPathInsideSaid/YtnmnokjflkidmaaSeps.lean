import Derived.Lib.FieldsP
import Derived.Laws.RangeAny
import Derived.Lib.SlicesS
namespace Go.Proofs.Ytnmnokjflkidmaa.Sane
open Go.Lib
set_option linter.unusedVariables false
/-! ### pieces between slashes and backslashes: of no program -/
/-- A slash or a backslash. -/
def isSep (r : Nat) : Bool := decide (r = 47) || decide (r = 92)
def sepB (c : UInt8) : Bool := isSep c.toNat
def fgo : List UInt8 → List UInt8 → List (List UInt8)
  | cur, [] => if cur = [] then [] else [cur]
  | cur, c :: t => if sepB c = true then (if cur = [] then fgo [] t else cur :: fgo [] t) else fgo (cur ++ [c]) t
theorem fgo_len : ∀ (l cur : List UInt8), (fgo cur l).length ≤ l.length + 1
  | [], cur => by unfold fgo; split <;> simp
  | c :: t, cur => by
    unfold fgo
    have h1 := fgo_len t []
    have h2 := fgo_len t (cur ++ [c])
    split
    · split
      · simp; omega
      · simp; omega
    · simp; omega
theorem fgo_skip : ∀ (n : Nat) (l cur : List UInt8), (∀ x ∈ l.take n, sepB x = false) → fgo cur l = fgo (cur ++ l.take n) (l.drop n)
  | 0, l, cur, _ => by simp
  | n + 1, [], cur, _ => by simp
  | n + 1, c :: t, cur, h => by
    have hc : sepB c = false := h c (by simp)
    rw [fgo, hc]
    simp only [Bool.false_eq_true, if_false, List.take_succ_cons, List.drop_succ_cons]
    rw [fgo_skip n t (cur ++ [c]) (fun x hx => h x (by simp [hx]))]
    simp
set_option maxRecDepth 100000 in
set_option maxHeartbeats 4000000 in
theorem decodeN_tail (n b0 b1 b2 b3 : Nat) (h : 128 ≤ b0) : 1 ≤ (decodeN n b0 b1 b2 b3).2 ∧ (decodeN n b0 b1 b2 b3).2 ≤ 4 ∧ 128 ≤ (decodeN n b0 b1 b2 b3).1 ∧
    (1 < (decodeN n b0 b1 b2 b3).2 → 128 ≤ b1) ∧ (2 < (decodeN n b0 b1 b2 b3).2 → 128 ≤ b2) ∧ (3 < (decodeN n b0 b1 b2 b3).2 → 128 ≤ b3) := by
  unfold decodeN
  repeat' split
  all_goals (simp only; omega)
theorem get!_lt (s : ByteArray) (i : Nat) (h : i < s.size) : s.get! i = s[i]'h := by
  simp [ByteArray.get!, h]
  rfl
theorem list_at (s : ByteArray) (i : Nat) (h : i < s.size) : s.data.toList[i]'(by simpa using h) = s[i]'h := rfl
/-- The bytes over which a decode goes, from a byte beyond ASCII on, are beyond ASCII. -/
theorem decode_tail (s : ByteArray) (pos : Nat) (hp : pos < s.size) (h : 128 ≤ (s[pos]'hp).toNat) :
    1 ≤ (Utf8.decode s pos).2 ∧ pos + (Utf8.decode s pos).2 ≤ s.size ∧ 128 ≤ (Utf8.decode s pos).1 ∧ ∀ x ∈ (s.data.toList.drop pos).take (Utf8.decode s pos).2, 128 ≤ x.toNat := by
  have h0 : 128 ≤ (s.get! pos).toNat := by rw [get!_lt s pos hp]; exact h
  obtain ⟨d1, d2, d3, d4, d5, d6⟩ := decodeN_tail (s.size - pos) (s.get! pos).toNat (s.get! (pos + 1)).toNat (s.get! (pos + 2)).toNat (s.get! (pos + 3)).toNat h0
  have d7 := decodeN_le_n' (s.size - pos) (s.get! pos).toNat (s.get! (pos + 1)).toNat (s.get! (pos + 2)).toNat (s.get! (pos + 3)).toNat (by omega)
  rw [← decode_at] at d1 d2 d3 d4 d5 d6 d7
  refine ⟨d1, by omega, d3, fun x hx => ?_⟩
  obtain ⟨j, hj, rfl⟩ := List.getElem_of_mem hx
  have hj2 : j < (Utf8.decode s pos).2 ∧ pos + j < s.size := by simp at hj; omega
  rw [List.getElem_take, List.getElem_drop, list_at s (pos + j) hj2.2, ← get!_lt]
  obtain ⟨q1, q2⟩ := hj2
  rcases (by omega : j = 0 ∨ j = 1 ∨ j = 2 ∨ j = 3) with rfl | rfl | rfl | rfl
  · exact h0
  · exact d4 (by omega)
  · exact d5 (by omega)
  · exact d6 (by omega)
theorem spans_sep (s : ByteArray) : ∀ (f pos : Nat) (st : Option Nat) (acc : List (Nat × Nat)), s.size ≤ pos + f → pos ≤ s.size → (∀ a, st = some a → a < pos) →
    acc.map (fun p => pieceU s.data.toList p.1 p.2) ++ fgo (openPiece s.data.toList st pos) (s.data.toList.drop pos) = (closeSpans s (spansFromP isSep s f pos st acc)).map (fun p => pieceU s.data.toList p.1 p.2)
  | 0, pos, st, acc, h, hp, hst => by
    obtain rfl : pos = s.size := by omega
    have hd : s.data.toList.drop s.size = [] := List.drop_eq_nil_of_le (by rw [← size_eq]; exact Nat.le_refl _)
    rw [hd, fgo]
    cases st with
    | none => simp [spansFromP, closeSpans, openPiece]
    | some a =>
      have := pieceU_ne s.data.toList a s.size (hst a rfl) (by rw [← size_eq]; exact Nat.le_refl _)
      simp [spansFromP, closeSpans, openPiece, this]
  | f + 1, pos, st, acc, h, hp, hst => by
    by_cases hlt : pos < s.size
    · have hdr : s.data.toList.drop pos = s[pos]'hlt :: s.data.toList.drop (pos + 1) := by
        rw [← list_at s pos hlt]
        exact List.drop_eq_getElem_cons (by simpa using hlt)
      simp only [spansFromP, if_pos hlt]
      by_cases hb : (s[pos]'hlt).toNat < 128
      · have hdec := decode_ascii s pos hlt hb
        rw [hdec]
        rw [hdr]
        cases hsp : isSep (s[pos]'hlt).toNat with
        | true =>
          have hs2 : sepB (s[pos]'hlt) = true := hsp
          simp only [fgo, hs2, if_true]
          cases st with
          | none =>
            have ih := spans_sep s f (pos + 1) none acc (by omega) (by omega) (fun a h => by cases h)
            simpa [openPiece] using ih
          | some a =>
            have hpn := pieceU_ne s.data.toList a pos (hst a rfl) (by rw [← size_eq]; omega)
            have ih := spans_sep s f (pos + 1) none (acc ++ [(a, pos)]) (by omega) (by omega) (fun a h => by cases h)
            simpa [openPiece, hpn] using ih
        | false =>
          have hs2 : sepB (s[pos]'hlt) = false := hsp
          simp only [fgo, hs2, Bool.false_eq_true, if_false]
          have e1 : [s[pos]'hlt] = (s.data.toList.drop pos).take 1 := by rw [hdr]; rfl
          cases st with
          | none =>
            have ih := spans_sep s f (pos + 1) (some pos) acc (by omega) (by omega) (fun a h => by cases h; omega)
            have e : ([] : List UInt8) ++ [s[pos]'hlt] = pieceU s.data.toList pos (pos + 1) := by
              unfold pieceU
              rw [List.nil_append, e1, Nat.add_sub_cancel_left]
            simp only [openPiece] at ih ⊢
            rw [e]
            exact ih
          | some a =>
            have ih := spans_sep s f (pos + 1) (some a) acc (by omega) (by omega) (fun b h => by cases h; have := hst a rfl; omega)
            simp only [openPiece] at ih ⊢
            rw [e1, pieceU_grow _ _ _ _ (Nat.le_of_lt (hst a rfl))]
            exact ih
      · obtain ⟨d1, d2, d3, d4⟩ := decode_tail s pos hlt (by omega)
        have hsp : isSep (Utf8.decode s pos).1 = false := by simp [isSep]; omega
        rw [hsp]
        simp only [Bool.false_eq_true, if_false]
        rw [fgo_skip (Utf8.decode s pos).2 (s.data.toList.drop pos) _ (fun x hx => by have := d4 x hx; simp [sepB, isSep]; omega), List.drop_drop]
        cases st with
        | none =>
          have ih := spans_sep s f (pos + (Utf8.decode s pos).2) (some pos) acc (by omega) d2 (fun a h => by cases h; omega)
          have e : ([] : List UInt8) ++ (s.data.toList.drop pos).take (Utf8.decode s pos).2 = pieceU s.data.toList pos (pos + (Utf8.decode s pos).2) := by
            unfold pieceU
            rw [List.nil_append, Nat.add_sub_cancel_left]
          simp only [openPiece] at ih ⊢
          rw [e]
          exact ih
        | some a =>
          have ih := spans_sep s f (pos + (Utf8.decode s pos).2) (some a) acc (by omega) d2 (fun b h => by cases h; have := hst a rfl; omega)
          simp only [openPiece] at ih ⊢
          rw [pieceU_grow _ _ _ _ (Nat.le_of_lt (hst a rfl))]
          exact ih
    · obtain rfl : pos = s.size := by omega
      have hd : s.data.toList.drop s.size = [] := List.drop_eq_nil_of_le (by rw [← size_eq]; exact Nat.le_refl _)
      rw [hd, fgo, spansFromP_end isSep s _ _ _ _ hlt]
      cases st with
      | none => simp [closeSpans, openPiece]
      | some a =>
        have := pieceU_ne s.data.toList a s.size (hst a rfl) (by rw [← size_eq]; exact Nat.le_refl _)
        simp [closeSpans, openPiece, this]
theorem fields_sep (s : ByteArray) : (goFieldsP isSep s).map (·.data.toList) = fgo [] s.data.toList := by
  have h := spans_sep s s.size 0 none [] (by omega) (by omega) (fun a h => by cases h)
  simp only [List.map_nil, List.nil_append, List.drop_zero] at h
  rw [show openPiece s.data.toList none 0 = [] from rfl] at h
  rw [h]
  unfold goFieldsP spansOfP
  rw [List.map_map]
  refine List.map_congr_left fun p _ => ?_
  simp [pieceU]
theorem fields_len (s : ByteArray) : (goFieldsP isSep s).length ≤ s.size + 1 := by
  have h := congrArg List.length (fields_sep s)
  rw [List.length_map] at h
  rw [h, size_eq]
  exact fgo_len _ _
/-- Is a piece between slashes and backslashes two points? -/
def dotDot (s : ByteArray) : Bool := Lib.containsS (Lib.goFieldsP isSep s) (⟨#[46, 46]⟩ : ByteArray)
theorem dotDot_iff (s : ByteArray) : dotDot s = true ↔ [46, 46] ∈ fgo [] s.data.toList := by
  unfold dotDot
  rw [containsS_iff, ← fields_sep, List.mem_map]
  constructor
  · intro h; exact ⟨_, h, rfl⟩
  · rintro ⟨x, hx, e⟩
    have : x = ⟨#[46, 46]⟩ := by
      cases x with | mk d => cases d with | mk l => simp at e; subst e; rfl
    rw [← this]; exact hx
end Go.Proofs.Ytnmnokjflkidmaa.Sane

import Derived.Test.YtiaokohnibkmbaaDoorNam
import Derived.Test.YtiaokohnibkmbaaDoorFmt
import Derived.Lib.Join
import Derived.Lib.Case
namespace Go.Proofs.YtiaokohnibkmbaaDoor.Texts
open Go.RowKit Go.Proofs.YtiaokohnibkmbaaDoor.PFnMaskOne Go.Proofs.YtiaokohnibkmbaaDoor.Fmt

/-! ### the text of a mask -/
/-- The bit of a round: it comes to 0 behind the 64th. -/
def bitv (k : Nat) : Int := if k < 64 then ((2 ^ k : Nat) : Int) else 0
theorem ite_some {α : Type} {c : Prop} [Decidable c] {x y : Option α} (hx : x.isSome = true) (hy : y.isSome = true) : (if c then x else y).isSome = true := by split <;> assumption
theorem step {m C : Int} {n x : ByteArray × Bool} {y : Option (ByteArray × Bool)} (h : (if m = C then some n else y) = some x) : m = C ∨ y = some x := by
  by_cases c : m = C
  · exact .inl c
  · rw [if_neg c] at h; exact .inr h
def nm (a : Int) : ByteArray × Bool := (encoder_encodingToName.f a).getD (⟨#[]⟩, false)
theorem nm_is (a : Int) : encoder_encodingToName.f a = some (nm a) := by
  have h : (encoder_encodingToName.f a).isSome = true := by
    unfold encoder_encodingToName.f
    repeat' (first | rfl | refine ite_some ?_ ?_)
  obtain ⟨x, hx⟩ := Option.isSome_iff_exists.1 h
  simp [nm, hx]
def hexL (k : Nat) : List UInt8 := tailDigs (2 ^ k) (k / 4 + 1)
def piece (k : Nat) : ByteArray := if (nm (bitv k)).2 = true then (nm (bitv k)).1 else ⟨(48 :: 120 :: Lib.toUpperA (hexL k)).toArray⟩
def has (m : Int) (k : Nat) : Bool := Go.bits .and .u64 m (bitv k) != 0
def pieces (m : Int) : Nat → List ByteArray
  | 0 => []
  | k + 1 => pieces m k ++ (if has m k = true then [piece k] else [])
def joined (m : Int) : ByteArray := ⟨(Lib.join ((pieces m 64).map (·.data.toList)) [44]).toArray⟩
def text (m : Int) : ByteArray := if (nm m).2 = true then (nm m).1 else joined m

theorem hex_is (k : Nat) (s : ByteArray) (h : Hex (2 ^ k) s) : s = ⟨(hexL k).toArray⟩ := by
  obtain ⟨j, hj, h1, h2, rfl⟩ := h
  have hp : (16 : Nat) = 2 ^ 4 := rfl
  have e : j = k / 4 := by
    rcases Nat.lt_trichotomy j (k / 4) with hlt | he | hgt
    · exfalso
      have h3 : 2 ^ k / 16 ^ j = 2 ^ (k - 4 * j) := by rw [hp, ← Nat.pow_mul, Nat.pow_div (by omega) (by decide)]
      rw [h3] at h1
      have h4 : 2 ^ 4 ≤ 2 ^ (k - 4 * j) := Nat.pow_le_pow_right (by decide) (by omega)
      omega
    · exact he
    · exfalso
      have h3 := h2 (k / 4) hgt
      have h4 : 2 ^ k / 16 ^ (k / 4) = 2 ^ (k - 4 * (k / 4)) := by rw [hp, ← Nat.pow_mul, Nat.pow_div (by omega) (by decide)]
      rw [h4] at h3
      have h5 : 2 ^ (k - 4 * (k / 4)) ≤ 2 ^ 3 := Nat.pow_le_pow_right (by decide) (by omega)
      omega
  rw [e]; rfl

/-! ### two texts are alike just if the masks are -/
theorem piece_data : ∀ k : Fin 64, ((piece k.val).data.toList ≠ [] ∧ (44 : UInt8) ∉ (piece k.val).data.toList ∧ (piece k.val).data.toList ≠ [78, 111, 110, 101]) := by decide +kernel
theorem piece_inj : ∀ i j : Fin 64, (piece i.val).data.toList = (piece j.val).data.toList → i = j := by decide +kernel
theorem bit_test : ∀ i j : Fin 64, has (bitv i.val) j.val = decide (i = j) := by decide +kernel
theorem alone : ∀ k : Fin 64, (nm (bitv k.val)).2 = true → (joined (bitv k.val)).data.toList = (nm (bitv k.val)).1.data.toList := by decide +kernel
theorem none_is : (text 0).data.toList = [78, 111, 110, 101] := by decide +kernel
theorem dot_is : text 33554432 = ⟨#[68, 111, 116]⟩ := by decide +kernel
set_option maxRecDepth 100000 in
theorem named (m : Int) (h : (nm m).2 = true) : m = 0 ∨ ∃ k : Fin 64, m = bitv k.val := by
  have h2 := nm_is m
  generalize nm m = x at h h2
  unfold encoder_encodingToName.f at h2
  repeat (rcases step h2 with hh | h2; (rw [hh]; decide +kernel))
  obtain rfl := Option.some.inj h2
  cases h
theorem and_pow (n k : Nat) : n &&& 2 ^ k = (n.testBit k).toNat * 2 ^ k := by
  apply Nat.eq_of_testBit_eq
  intro i
  rw [Nat.testBit_and, Nat.testBit_two_pow]
  cases hb : n.testBit k
  · by_cases e : k = i
    · subst e; simp [hb]
    · simp [e]
  · by_cases e : k = i
    · subst e; simp [hb]
    · simp [e]
theorem has_test (n k : Nat) (hn : n < 18446744073709551616) (hk : k < 64) : has (n : Int) k = n.testBit k := by
  unfold has bitv
  rw [if_pos hk]
  unfold Go.bits
  simp only []
  have e1 : (BitVec.ofInt IntKind.u64.bits (n : Int) &&& BitVec.ofInt IntKind.u64.bits ((2 ^ k : Nat) : Int)).toNat = n &&& 2 ^ k := by
    show (BitVec.ofInt 64 (n : Int) &&& BitVec.ofInt 64 ((2 ^ k : Nat) : Int)).toNat = n &&& 2 ^ k
    have h2 : 2 ^ k < 2 ^ 64 := Nat.pow_lt_pow_right (by decide) hk
    rw [BitVec.ofInt_natCast, BitVec.ofInt_natCast, BitVec.toNat_and, BitVec.toNat_ofNat, BitVec.toNat_ofNat, Nat.mod_eq_of_lt h2, Nat.mod_eq_of_lt (by omega)]
  rw [e1, and_pow]
  have h2 : 2 ^ k < 2 ^ 64 := Nat.pow_lt_pow_right (by decide) hk
  have h3 : 0 < 2 ^ k := Nat.two_pow_pos k
  cases hb : n.testBit k
  · simp [IntKind.wrap_u64]
  · simp only [Bool.toNat_true, Nat.one_mul, IntKind.wrap_u64, bne_iff_ne, ne_eq]
    omega
theorem mem_pieces (m : Int) (x : ByteArray) : ∀ K, x ∈ pieces m K ↔ ∃ k, k < K ∧ has m k = true ∧ x = piece k := by
  intro K
  induction K with
  | zero => simp [pieces]
  | succ K ih =>
    simp only [pieces, List.mem_append, ih]
    constructor
    · rintro (⟨k, h1, h2, h3⟩ | h)
      · exact ⟨k, by omega, h2, h3⟩
      · by_cases c : has m K = true
        · rw [if_pos c] at h; exact ⟨K, by omega, c, by simpa using h⟩
        · rw [if_neg c] at h; cases h
    · rintro ⟨k, h1, h2, h3⟩
      by_cases e : k = K
      · subst e; right; rw [if_pos h2]; simp [h3]
      · left; exact ⟨k, by omega, h2, h3⟩
theorem lead_inj {x y t t' : List UInt8} (hx : (44 : UInt8) ∉ x) (hy : (44 : UInt8) ∉ y) (ht : t = [] ∨ ∃ r, t = 44 :: r) (ht' : t' = [] ∨ ∃ r, t' = 44 :: r) (h : x ++ t = y ++ t') : x = y ∧ t = t' := by
  induction x generalizing y with
  | nil =>
    cases y with
    | nil => exact ⟨rfl, by simpa using h⟩
    | cons b y =>
      exfalso
      rcases ht with rfl | ⟨r, rfl⟩
      · simp at h
      · simp only [List.nil_append, List.cons_append, List.cons.injEq] at h
        exact hy (by rw [← h.1]; simp)
  | cons a x ih =>
    cases y with
    | nil =>
      exfalso
      rcases ht' with rfl | ⟨r, rfl⟩
      · simp at h
      · simp only [List.nil_append, List.cons_append, List.cons.injEq] at h
        exact hx (by rw [h.1]; simp)
    | cons b y =>
      simp only [List.cons_append, List.cons.injEq] at h
      obtain ⟨rfl, h⟩ := h
      obtain ⟨rfl, h2⟩ := ih (fun hm => hx (List.mem_cons_of_mem _ hm)) (fun hm => hy (List.mem_cons_of_mem _ hm)) h
      exact ⟨rfl, h2⟩
theorem tail_lead (r : List (List UInt8)) : Lib.joinTail [44] r = [] ∨ ∃ s, Lib.joinTail [44] r = 44 :: s := by
  cases r with
  | nil => left; rfl
  | cons a r => right; exact ⟨a ++ Lib.joinTail [44] r, by simp [Lib.joinTail]⟩
theorem tail_inj : ∀ (xs ys : List (List UInt8)), (∀ x ∈ xs, (44 : UInt8) ∉ x) → (∀ x ∈ ys, (44 : UInt8) ∉ x) → Lib.joinTail [44] xs = Lib.joinTail [44] ys → xs = ys := by
  intro xs
  induction xs with
  | nil =>
    intro ys _ _ h
    cases ys with
    | nil => rfl
    | cons y ys => simp [Lib.joinTail] at h
  | cons x xs ih =>
    intro ys hx hy h
    cases ys with
    | nil => simp [Lib.joinTail] at h
    | cons y ys =>
      have h' : x ++ Lib.joinTail [44] xs = y ++ Lib.joinTail [44] ys := by simpa [Lib.joinTail] using h
      obtain ⟨rfl, h2⟩ := lead_inj (hx _ (by simp)) (hy _ (by simp)) (tail_lead _) (tail_lead _) h'
      rw [ih ys (fun z hz => hx z (by simp [hz])) (fun z hz => hy z (by simp [hz])) h2]
theorem join_inj (xs ys : List (List UInt8)) (hx : ∀ x ∈ xs, x ≠ [] ∧ (44 : UInt8) ∉ x) (hy : ∀ x ∈ ys, x ≠ [] ∧ (44 : UInt8) ∉ x) (h : Lib.join xs [44] = Lib.join ys [44]) : xs = ys := by
  cases xs with
  | nil =>
    cases ys with
    | nil => rfl
    | cons y ys =>
      rw [Lib.join_nil, Lib.join_cons] at h
      exact absurd (List.append_eq_nil_iff.1 h.symm).1 (hy y (by simp)).1
  | cons x xs =>
    cases ys with
    | nil =>
      rw [Lib.join_nil, Lib.join_cons] at h
      exact absurd (List.append_eq_nil_iff.1 h).1 (hx x (by simp)).1
    | cons y ys =>
      rw [Lib.join_cons, Lib.join_cons] at h
      obtain ⟨rfl, h2⟩ := lead_inj (hx _ (by simp)).2 (hy _ (by simp)).2 (tail_lead _) (tail_lead _) h
      rw [tail_inj xs ys (fun z hz => (hx z (by simp [hz])).2) (fun z hz => (hy z (by simp [hz])).2) h2]
theorem pieces_clean (m : Int) : ∀ x ∈ (pieces m 64).map (·.data.toList), x ≠ [] ∧ (44 : UInt8) ∉ x := by
  intro x hx
  obtain ⟨y, hy, rfl⟩ := List.mem_map.1 hx
  obtain ⟨k, hk, _, rfl⟩ := (mem_pieces m y 64).1 hy
  exact ⟨(piece_data ⟨k, hk⟩).1, (piece_data ⟨k, hk⟩).2.1⟩
theorem has_of_pieces (a b : Int) (h : (pieces a 64).map (·.data.toList) = (pieces b 64).map (·.data.toList)) (k : Nat) (hk : k < 64) (ha : has a k = true) : has b k = true := by
  have h1 : (piece k).data.toList ∈ (pieces a 64).map (·.data.toList) := List.mem_map.2 ⟨_, (mem_pieces a _ 64).2 ⟨k, hk, ha, rfl⟩, rfl⟩
  rw [h] at h1
  obtain ⟨y, hy, e⟩ := List.mem_map.1 h1
  obtain ⟨j, hj, hb, rfl⟩ := (mem_pieces b y 64).1 hy
  have := piece_inj ⟨j, hj⟩ ⟨k, hk⟩ e
  obtain rfl : j = k := by simpa using this
  exact hb
theorem text_joined (m : Int) (h0 : m ≠ 0) : (text m).data.toList = (joined m).data.toList := by
  unfold text
  by_cases c : (nm m).2 = true
  · rw [if_pos c]
    rcases named m c with h | ⟨k, rfl⟩
    · exact absurd h h0
    · exact (alone k c).symm
  · rw [if_neg c]
theorem joined_not_none (m : Int) : (joined m).data.toList ≠ [78, 111, 110, 101] := by
  intro h
  have hj : Lib.join ((pieces m 64).map (·.data.toList)) [44] = Lib.join [[78, 111, 110, 101]] [44] := by rw [Lib.join_one]; simpa [joined] using h
  have := join_inj _ [[78, 111, 110, 101]] (pieces_clean m) (by intro x hx; rw [List.mem_singleton.1 hx]; decide) hj
  have hm : [78, 111, 110, 101] ∈ (pieces m 64).map (·.data.toList) := by rw [this]; simp
  obtain ⟨y, hy, e⟩ := List.mem_map.1 hm
  obtain ⟨k, hk, _, rfl⟩ := (mem_pieces m y 64).1 hy
  exact (piece_data ⟨k, hk⟩).2.2 e
theorem joined_inj (a b : Nat) (ha : a < 18446744073709551616) (hb : b < 18446744073709551616) (h : (joined (a : Int)).data.toList = (joined (b : Int)).data.toList) : a = b := by
  have hj := join_inj _ _ (pieces_clean a) (pieces_clean b) (by simpa [joined] using h)
  apply Nat.eq_of_testBit_eq
  intro k
  by_cases hk : k < 64
  · rw [← has_test a k ha hk, ← has_test b k hb hk, Bool.eq_iff_iff]
    exact ⟨has_of_pieces _ _ hj k hk, has_of_pieces _ _ hj.symm k hk⟩
  · have e : ∀ n : Nat, n < 18446744073709551616 → n.testBit k = false := fun n hn => Nat.testBit_lt_two_pow (Nat.lt_of_lt_of_le hn (by rw [show (18446744073709551616 : Nat) = 2 ^ 64 by decide]; exact Nat.pow_le_pow_right (by decide) (by omega)))
    rw [e a ha, e b hb]
theorem text_inj (a b : Nat) (ha : a < 18446744073709551616) (hb : b < 18446744073709551616) (h : text (a : Int) = text (b : Int)) : a = b := by
  have h' : (text (a : Int)).data.toList = (text (b : Int)).data.toList := by rw [h]
  by_cases a0 : a = 0
  · subst a0
    by_cases b0 : b = 0
    · rw [b0]
    · rw [text_joined b (by omega)] at h'
      exact absurd (h'.symm.trans none_is) (joined_not_none b)
  · rw [text_joined a (by omega)] at h'
    by_cases b0 : b = 0
    · subst b0
      exact absurd (h'.trans none_is) (joined_not_none a)
    · rw [text_joined b (by omega)] at h'
      exact joined_inj a b ha hb h'
theorem piece_len : ∀ k : Fin 64, (piece k.val).size ≤ 64 := by decide +kernel
theorem tail_len (xs : List ByteArray) (h : ∀ x ∈ xs, x.size ≤ 64) : (Lib.joinTail [44] (xs.map (·.data.toList))).length ≤ 65 * xs.length := by
  induction xs with
  | nil => simp [Lib.joinTail]
  | cons x xs ih =>
    have h1 := ih fun y hy => h y (by simp [hy])
    have h2 : x.data.toList.length ≤ 64 := h x (by simp)
    simp only [Lib.joinTail, List.map_cons, List.flatten_cons, List.length_append, List.length_cons, List.length_nil] at h1 ⊢
    omega
theorem pieces_le (m : Int) : ∀ K, (pieces m K).length ≤ K := by
  intro K
  induction K with
  | zero => simp [pieces]
  | succ K ih => simp only [pieces, List.length_append]; split <;> simp <;> omega
theorem join_len (m : Int) : (Lib.join ((pieces m 64).map (·.data.toList)) [44]).length ≤ 140737488355328 := by
  have h1 := pieces_le m 64
  have h2 : ∀ x ∈ pieces m 64, x.size ≤ 64 := fun x hx => by
    obtain ⟨k, hk, _, rfl⟩ := (mem_pieces m x 64).1 hx
    exact piece_len ⟨k, hk⟩
  generalize pieces m 64 = xs at h1 h2
  cases xs with
  | nil => simp [Lib.join_nil]
  | cons x xs =>
    have h3 := tail_len xs fun y hy => h2 y (by simp [hy])
    have h4 : x.data.toList.length ≤ 64 := h2 x (by simp)
    simp only [List.map_cons, Lib.join_cons, List.length_append, List.length_cons] at h1 ⊢
    omega
end Go.Proofs.YtiaokohnibkmbaaDoor.Texts

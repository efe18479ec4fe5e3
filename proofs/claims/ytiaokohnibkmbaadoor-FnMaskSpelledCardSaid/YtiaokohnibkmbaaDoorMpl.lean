import Derived.Test.YtiaokohnibkmbaaDoorMop
namespace Go.Proofs.YtiaokohnibkmbaaDoor.Mset
open Go Go.RowKit Go.Proofs.YtiaokohnibkmbaaDoor.PFnMaskSpelled Go.Proofs.YtiaokohnibkmbaaDoorW.PrintWords
open Go.Proofs.YtiaokohnibkmbaaDoor.Spl (idxB splitB pieces)
set_option linter.unusedVariables false
set_option linter.unusedSimpArgs false
/-! ### the text that is spelled, and its pieces (plain Lean, no program in sight) -/
theorem ba {a b : ByteArray} (h : a.data.toList = b.data.toList) : a = b := by apply ByteArray.ext; exact Array.ext' h
def J (xs : List ByteArray) : ByteArray := ⟨(Lib.join (xs.map (·.data.toList)) [44]).toArray⟩
theorem take_data (s : ByteArray) (i : Nat) : (s.extract 0 i).data.toList = s.data.toList.take i := by rw [← Lib.toList_data, Lib.extract_toList]; simp
theorem drop_data (s : ByteArray) (i : Nat) : (s.extract i s.size).data.toList = s.data.toList.drop i := by
  rw [← Lib.toList_data, Lib.extract_toList, List.take_of_length_le (by rw [List.length_drop]; exact Nat.le_refl _)]
theorem idx_app (a b : List UInt8) (h : (44 : UInt8) ∉ a) : idxB 44 (a ++ 44 :: b) = a.length := by
  unfold idxB
  induction a with
  | nil => simp
  | cons x a ih =>
    have hx : x ≠ 44 := fun e => h (by simp [e])
    rw [List.cons_append, List.takeWhile_cons, if_pos (by simpa using hx), List.length_cons, List.length_cons, ih (fun hm => h (by simp [hm]))]
theorem idx_no (a : List UInt8) (h : (44 : UInt8) ∉ a) : idxB 44 a = a.length := by
  unfold idxB
  induction a with
  | nil => rfl
  | cons x a ih =>
    have hx : x ≠ 44 := fun e => h (by simp [e])
    rw [List.takeWhile_cons, if_pos (by simpa using hx), List.length_cons, List.length_cons, ih (fun hm => h (by simp [hm]))]
theorem J_one (x : ByteArray) : J [x] = x := ba (by show (Lib.join [x.data.toList] [44]).toArray.toList = _; rw [Lib.join_one])
theorem J_cons (x y : ByteArray) (xs : List ByteArray) : (J (x :: y :: xs)).data.toList = x.data.toList ++ 44 :: (J (y :: xs)).data.toList := by
  show Lib.join (x.data.toList :: y.data.toList :: xs.map _) [44] = _ ++ 44 :: Lib.join (y.data.toList :: xs.map _) [44]
  rw [Lib.join_cons, Lib.join_cons]
  simp [Lib.joinTail]
theorem J_snoc (xs : List ByteArray) (x : ByteArray) (h : xs ≠ []) : J (xs ++ [x]) = J xs ++ (⟨#[44]⟩ : ByteArray) ++ x := by
  apply ba
  cases xs with
  | nil => exact absurd rfl h
  | cons y ys =>
    rw [ByteArray.data_append, Array.toList_append, ByteArray.data_append, Array.toList_append]
    show Lib.join ((y :: ys ++ [x]).map (·.data.toList)) [44] = Lib.join ((y :: ys).map (·.data.toList)) [44] ++ [44] ++ x.data.toList
    rw [List.cons_append, List.map_cons, List.map_cons, Lib.join_cons, Lib.join_cons]
    simp [Lib.joinTail]
theorem split_join : ∀ (xs : List ByteArray), xs ≠ [] → (∀ x ∈ xs, (44 : UInt8) ∉ x.data.toList) → ∀ f, (J xs).size ≤ f → splitB 44 f (J xs) = xs
  | [x], _, hn, f, hf => by
    rw [J_one]
    refine Spl.split_end 44 f x ?_
    rw [idx_no _ (hn x (by simp))]
    exact Nat.lt_irrefl _
  | x :: y :: xs, _, hn, f, hf => by
    have hx := hn x (by simp)
    have hd := J_cons x y xs
    have hsz : (J (x :: y :: xs)).size = x.size + (1 + (J (y :: xs)).size) := by
      have := congrArg List.length hd
      rw [List.length_append, List.length_cons] at this
      have e1 : (J (x :: y :: xs)).data.toList.length = (J (x :: y :: xs)).size := rfl
      have e2 : (J (y :: xs)).data.toList.length = (J (y :: xs)).size := rfl
      have e3 : x.data.toList.length = x.size := rfl
      omega
    have hi : idxB 44 (J (x :: y :: xs)).data.toList = x.size := by rw [hd]; exact idx_app _ _ hx
    obtain ⟨f, rfl⟩ : ∃ f', f = f' + 1 := ⟨f - 1, by omega⟩
    rw [splitB, hi, if_pos (by omega)]
    have e1 : (J (x :: y :: xs)).extract 0 x.size = x := by
      apply ba
      rw [take_data, hd]
      exact List.take_left
    have e2 : (J (x :: y :: xs)).extract (x.size + 1) (J (x :: y :: xs)).size = J (y :: xs) := by
      apply ba
      rw [drop_data, hd]
      have : x.data.toList.length = x.size := rfl
      rw [← this, List.drop_append]
      simp
    rw [e1, e2, split_join (y :: xs) (by simp) (fun z hz => hn z (by simp [hz])) f (by omega)]
theorem pieces_join (xs : List ByteArray) (h : xs ≠ []) (hn : ∀ x ∈ xs, (44 : UInt8) ∉ x.data.toList) : pieces 44 (J xs) = xs := split_join xs h hn _ (Nat.le_refl _)
theorem orAll_snoc (p : ByteArray) (b : Int) (hp : nameBits (trimB p) = some b) : ∀ (xs : List ByteArray) (m r : Int), orAll xs m = some r → orAll (xs ++ [p]) m = some (Go.bits .or .u64 r b)
  | [], m, r, h => by
    obtain rfl : m = r := Option.some.inj h
    show (nameBits (trimB p)).bind _ = _
    rw [hp]
    rfl
  | x :: xs, m, r, h => by
    rw [orAll] at h
    obtain ⟨c, hc, h⟩ := Option.bind_eq_some_iff.1 h
    rw [List.cons_append, orAll, hc]
    exact orAll_snoc p b hp xs _ _ h
theorem J_facts (xs : List ByteArray) (hs : ∀ x ∈ xs, x.size ≤ 20 ∧ ∀ b ∈ x.data.toList, b.toNat < 128) : (J xs).size ≤ 21 * xs.length ∧ ∀ b ∈ (J xs).data.toList, b.toNat < 128 := by
  induction xs with
  | nil => exact ⟨Nat.zero_le _, fun b hb => by cases hb⟩
  | cons x xs ih =>
    obtain ⟨h1, h2⟩ := hs x (by simp)
    obtain ⟨i1, i2⟩ := ih fun y hy => hs y (by simp [hy])
    cases xs with
    | nil => rw [J_one]; exact ⟨by simp; omega, h2⟩
    | cons y ys =>
      have hd := J_cons x y ys
      have := congrArg List.length hd
      rw [List.length_append, List.length_cons] at this
      have e1 : (J (x :: y :: ys)).data.toList.length = (J (x :: y :: ys)).size := rfl
      have e2 : (J (y :: ys)).data.toList.length = (J (y :: ys)).size := rfl
      have e3 : x.data.toList.length = x.size := rfl
      refine ⟨by rw [List.length_cons]; omega, fun b hb => ?_⟩
      rw [hd, List.mem_append, List.mem_cons] at hb
      rcases hb with hb | rfl | hb
      · exact h2 b hb
      · decide
      · exact i2 b hb
/-! #### names with blanks about them -/
def L29 : List S35 := spec_MaskNames.f.getD []
def B1 : List ByteArray := [⟨#[]⟩, ⟨#[32]⟩, ⟨#[9]⟩, ⟨#[32, 32]⟩]
def B2 : List ByteArray := [⟨#[]⟩, ⟨#[32]⟩, ⟨#[10]⟩, ⟨#[32, 9]⟩]
def nameL (l : List UInt8) : Option Int :=
  if (l == ([82, 97, 119] : List UInt8)) = true then some 1 else
  if (l == ([78, 111, 110, 101] : List UInt8)) = true then some 0 else
  if (l == ([83, 108, 97, 115, 104] : List UInt8)) = true then some 2 else
  if (l == ([76, 116, 71, 116] : List UInt8)) = true then some 4 else
  if (l == ([83, 113, 117, 97, 114, 101, 66, 114, 97, 99, 107, 101, 116] : List UInt8)) = true then some 67108864 else
  if (l == ([83, 101, 109, 105, 99, 111, 108, 111, 110] : List UInt8)) = true then some 134217728 else
  if (l == ([69, 120, 99, 108, 97, 109, 97, 116, 105, 111, 110] : List UInt8)) = true then some 268435456 else
  if (l == ([68, 111, 117, 98, 108, 101, 81, 117, 111, 116, 101] : List UInt8)) = true then some 8 else
  if (l == ([83, 105, 110, 103, 108, 101, 81, 117, 111, 116, 101] : List UInt8)) = true then some 16 else
  if (l == ([66, 97, 99, 107, 81, 117, 111, 116, 101] : List UInt8)) = true then some 32 else
  if (l == ([68, 111, 108, 108, 97, 114] : List UInt8)) = true then some 64 else
  if (l == ([67, 111, 108, 111, 110] : List UInt8)) = true then some 128 else
  if (l == ([81, 117, 101, 115, 116, 105, 111, 110] : List UInt8)) = true then some 256 else
  if (l == ([65, 115, 116, 101, 114, 105, 115, 107] : List UInt8)) = true then some 512 else
  if (l == ([80, 105, 112, 101] : List UInt8)) = true then some 1024 else
  if (l == ([72, 97, 115, 104] : List UInt8)) = true then some 2048 else
  if (l == ([80, 101, 114, 99, 101, 110, 116] : List UInt8)) = true then some 4096 else
  if (l == ([66, 97, 99, 107, 83, 108, 97, 115, 104] : List UInt8)) = true then some 8192 else
  if (l == ([67, 114, 76, 102] : List UInt8)) = true then some 16384 else
  if (l == ([68, 101, 108] : List UInt8)) = true then some 32768 else
  if (l == ([67, 116, 108] : List UInt8)) = true then some 65536 else
  if (l == ([76, 101, 102, 116, 83, 112, 97, 99, 101] : List UInt8)) = true then some 131072 else
  if (l == ([76, 101, 102, 116, 80, 101, 114, 105, 111, 100] : List UInt8)) = true then some 262144 else
  if (l == ([76, 101, 102, 116, 84, 105, 108, 100, 101] : List UInt8)) = true then some 524288 else
  if (l == ([76, 101, 102, 116, 67, 114, 76, 102, 72, 116, 86, 116] : List UInt8)) = true then some 1048576 else
  if (l == ([82, 105, 103, 104, 116, 83, 112, 97, 99, 101] : List UInt8)) = true then some 2097152 else
  if (l == ([82, 105, 103, 104, 116, 80, 101, 114, 105, 111, 100] : List UInt8)) = true then some 4194304 else
  if (l == ([82, 105, 103, 104, 116, 67, 114, 76, 102, 72, 116, 86, 116] : List UInt8)) = true then some 8388608 else
  if (l == ([73, 110, 118, 97, 108, 105, 100, 85, 116, 102, 56] : List UInt8)) = true then some 16777216 else
  if (l == ([68, 111, 116] : List UInt8)) = true then some 33554432 else
  none
theorem nameBits_L (s : ByteArray) : nameBits s = nameL s.data.toList := by
  unfold nameBits nameL
  simp only [Lib.toList_data]
theorem spell_all : ∀ q : Fin 29, ∀ j k : Fin 4, nameL (Lib.trimSpace ((B1.getD j.val ⟨#[]⟩).data.toList ++ ((L29.getD q.val z35).f1).data.toList ++ (B2.getD k.val ⟨#[]⟩).data.toList)) = some (L29.getD q.val z35).f0 ∧ ((B1.getD j.val ⟨#[]⟩).data.toList ++ ((L29.getD q.val z35).f1).data.toList ++ (B2.getD k.val ⟨#[]⟩).data.toList).all (fun b => b != 44 && decide (b.toNat < 128)) = true ∧ ((B1.getD j.val ⟨#[]⟩).data.toList ++ ((L29.getD q.val z35).f1).data.toList ++ (B2.getD k.val ⟨#[]⟩).data.toList).length ≤ 20 := by decide +kernel
theorem L29_len : L29.length = 29 := by decide +kernel
/-- A name with blanks about it. -/
def spelled (q j k : Nat) : ByteArray := ((B1.getD j ⟨#[]⟩) ++ (L29.getD q z35).f1) ++ (B2.getD k ⟨#[]⟩)
theorem spelled_facts {q j k : Nat} (hq : q < 29) (hj : j < 4) (hk : k < 4) : nameBits (trimB (spelled q j k)) = some (L29.getD q z35).f0 ∧ (44 : UInt8) ∉ (spelled q j k).data.toList ∧ (spelled q j k).size ≤ 20 ∧ ∀ b ∈ (spelled q j k).data.toList, b.toNat < 128 := by
  obtain ⟨h1, h2, h3⟩ := spell_all ⟨q, hq⟩ ⟨j, hj⟩ ⟨k, hk⟩
  have e : (spelled q j k).data.toList = (B1.getD j ⟨#[]⟩).data.toList ++ ((L29.getD q z35).f1).data.toList ++ (B2.getD k ⟨#[]⟩).data.toList := by
    unfold spelled
    rw [ByteArray.data_append, Array.toList_append, ByteArray.data_append, Array.toList_append]
  simp only at h1 h2 h3
  rw [← e] at h1 h2 h3
  have h2' := List.all_eq_true.1 h2
  refine ⟨?_, fun hm => ?_, h3, fun b hb => ?_⟩
  · rw [nameBits_L]
    exact h1
  · have := h2' _ hm
    simp at this
  · have := h2' _ hb
    rw [Bool.and_eq_true] at this
    exact of_decide_eq_true this.2
/-- What the whole text is read as. -/
theorem text_read (ps : List ByteArray) (acc : Int) (hne : ps ≠ []) (hlen : ps.length ≤ 1000) (hg : ∀ p ∈ ps, (44 : UInt8) ∉ p.data.toList ∧ p.size ≤ 20 ∧ ∀ b ∈ p.data.toList, b.toNat < 128) (ho : orAll ps 0 = some acc) :
    (J ps).size ≤ 100000 ∧ (∀ x ∈ (J ps).data.toList, x.toNat < 128) ∧ orAll (pieces 44 (J ps)) 0 = some acc := by
  obtain ⟨h1, h2⟩ := J_facts ps fun x hx => ⟨(hg x hx).2.1, (hg x hx).2.2⟩
  exact ⟨by omega, h2, by rw [pieces_join ps hne fun x hx => (hg x hx).1]; exact ho⟩
end Go.Proofs.YtiaokohnibkmbaaDoor.Mset

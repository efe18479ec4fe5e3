import Derived.Test.YtlgoghonnnobfaaDoorSfn
namespace Go.Proofs.YtlgoghonnnobfaaDoor.Spc
open Go Go.RowKit Go.Proofs.YtlgoghonnnobfaaDoor.Sfn Go.Proofs.YtlgoghonnnobfaaDoorW.PrintWords Go.Proofs.YtlgoghonnnobfaaDoorW.PrintLast Go.Proofs.YtlgoghonnnobfaaDoorW.PrintMore
set_option linter.unusedVariables false
set_option linter.unusedSimpArgs false
/-! ### what the small functions of spec answer, and that they do -/
def signOf (c : Int) : Int := if 9216 ≤ c ∧ c ≤ 9248 then c - 9216 else if c = 9249 then 127 else if 65281 ≤ c ∧ c ≤ 65374 then c - 65248 else -1
def sign (c : Int) : Int := if c ≤ 32 then wrap32 (9216 + c) else if c = 127 then 9249 else wrap32 (c + 65248)
theorem ite_total {p : Prop} [Decidable p] {x y : Option Int} (hx : ∃ r, x = some r) (hy : ∃ r, y = some r) : ∃ r, (if p then x else y) = some r := by
  split
  · exact hx
  · exact hy
theorem j2_total (k : Nat) (x : Int) (b : Bool) : ∃ r, spec_bit.j2 (k + 1) x b = some r := by
  rw [spec_bit.j2]
  repeat' first | exact ⟨_, rfl⟩ | refine ite_total ?_ ?_
theorem j1_total (k : Nat) (x y : Int) (b : Bool) : ∃ r, spec_bit.j1 (k + 2) x y b = some r := by
  rw [spec_bit.j1]
  repeat' first | exact ⟨_, rfl⟩ | exact j2_total _ _ _ | refine ite_total ?_ ?_
theorem j0_total (k : Nat) (x y : Int) (b : Bool) : ∃ r, spec_bit.j0 (k + 3) x y b = some r := by
  rw [spec_bit.j0]
  repeat' first | exact ⟨_, rfl⟩ | exact j1_total _ _ _ _ | refine ite_total ?_ ?_
theorem bit_total (k : Nat) (c : Int) : ∃ b, spec_bit.f (k + 4) c = some b := by
  unfold spec_bit.f
  repeat' first | exact ⟨_, rfl⟩ | exact j0_total _ _ _ _ | refine ite_total ?_ ?_
def bitOf (c : Int) : Int := (spec_bit.f 4 c).getD 0
theorem bit_f (c : Int) : spec_bit.f 4 c = some (bitOf c) := by
  obtain ⟨b, hb⟩ := bit_total 0 c
  unfold bitOf
  rw [show (0 + 4 : Nat) = 4 from rfl] at hb
  rw [hb]
  rfl
def takes (m c : Int) : Bool := c == 0 || (decide (0 < c) && (Go.bits .and .u64 m (bitOf c) != 0))
theorem takes_f (m c : Int) : spec_Takes.f 4 m c = some (takes m c) := by
  unfold spec_Takes.f takes
  by_cases h0 : c = 0
  · rw [if_pos h0]; simp [h0]
  rw [if_neg h0]
  by_cases h1 : c > 0
  · rw [if_pos h1, bit_f, Option.bind_some]; simp [h0, h1]
  · rw [if_neg h1]; simp [h0, h1]
def takesL (m c : Int) : Bool := (spec_TakesLeft.f m c).getD false
theorem takesL_f (m c : Int) : spec_TakesLeft.f m c = some (takesL m c) := by
  unfold takesL spec_TakesLeft.f
  repeat' split
  all_goals rfl
def takesR (m c : Int) : Bool := (spec_TakesRight.f m c).getD false
theorem takesR_f (m c : Int) : spec_TakesRight.f m c = some (takesR m c) := by
  unfold takesR spec_TakesRight.f
  repeat' split
  all_goals rfl
theorem signOf_f (c : Int) (k : Nat) : spec_SignOf.f (k + 1) c = some (signOf c) := by
  unfold spec_SignOf.f signOf
  have key : ∀ b, spec_SignOf.j0 (k + 1) c b = if b = true then some (wrap32 (c - 9216)) else if c = 9249 then some 127 else if 65281 ≤ c then (if c ≤ 65374 then some (wrap32 (c - 65248)) else some (-1)) else some (-1) := fun b => by rw [spec_SignOf.j0]
  rw [key, key]
  unfold wrap32
  by_cases h1 : 9216 ≤ c
  · by_cases h2 : c ≤ 9248
    · simp only [h1, h2, decide_true, if_true, and_self]; congr 1; omega
    · simp only [h1, h2, decide_false, if_true, and_false, if_false, Bool.false_eq_true]
      by_cases h3 : c = 9249
      · simp only [h3, if_true]
      · simp only [h3, if_false]
        by_cases h4 : 65281 ≤ c
        · by_cases h5 : c ≤ 65374
          · simp only [h4, h5, if_true, and_self]; congr 1; omega
          · simp only [h4, h5, if_true, if_false, and_false]
        · simp only [h4, if_false, false_and]
  · have h3 : ¬ c = 9249 := by omega
    have h4 : ¬ 65281 ≤ c := by omega
    simp only [h1, h3, h4, if_false, false_and, Bool.false_eq_true]
theorem sign_f (c : Int) : spec_Sign.f c = some (sign c) := by
  unfold spec_Sign.f sign
  repeat' split
  all_goals rfl
/-- The value of a hexadecimal digit, -1 of all else. -/
def hexv (u : S37) : Int := if u.f2 = true then -1 else if 48 ≤ u.f1 ∧ u.f1 ≤ 57 then u.f1 - 48 else if 97 ≤ u.f1 ∧ u.f1 ≤ 102 then u.f1 - 97 + 10 else if 65 ≤ u.f1 ∧ u.f1 ≤ 70 then u.f1 - 65 + 10 else -1
theorem hexv_f (u : S37) (k : Nat) : spec_hexValue.f (k + 2) u.f0 u.f1 u.f2 = some (hexv u) := by
  obtain ⟨s, c, b⟩ := u
  unfold spec_hexValue.f hexv
  simp only
  have w1 : 48 ≤ c → c ≤ 57 → wrap64 (wrap32 (c - 48)) = c - 48 := fun h1 h2 => by unfold wrap64 wrap32; omega
  have w2 : 97 ≤ c → c ≤ 102 → wrap64 (wrap64 (wrap32 (c - 97)) + 10) = c - 97 + 10 := fun h1 h2 => by unfold wrap64 wrap32; omega
  have w3 : 65 ≤ c → c ≤ 70 → wrap64 (wrap64 (wrap32 (c - 65)) + 10) = c - 65 + 10 := fun h1 h2 => by unfold wrap64 wrap32; omega
  by_cases h0 : b = true
  · rw [if_pos h0, if_pos h0]
  rw [if_neg h0, if_neg h0]
  have hj1 : ∀ x, spec_hexValue.j1 (k + 1) x s c b = if x = true then some (wrap64 (wrap64 (wrap32 (c - 97)) + 10)) else if 65 ≤ c then (if c ≤ 70 then some (wrap64 (wrap64 (wrap32 (c - 65)) + 10)) else some (-1)) else some (-1) := fun x => by rw [spec_hexValue.j1]
  by_cases h1 : 48 ≤ c ∧ c ≤ 57
  · rw [if_pos h1.1, spec_hexValue.j0, if_pos (by simpa using h1.2), if_pos h1, w1 h1.1 h1.2]
  rw [if_neg h1]
  have e : (if 48 ≤ c then spec_hexValue.j0 (k + 2) (decide (c ≤ 57)) s c b else spec_hexValue.j0 (k + 2) false s c b) = spec_hexValue.j0 (k + 2) false s c b := by
    split
    · rename_i h
      rw [show decide (c ≤ 57) = false by simp; omega]
    · rfl
  rw [e, spec_hexValue.j0, if_neg (by decide)]
  by_cases h2 : 97 ≤ c ∧ c ≤ 102
  · rw [if_pos h2.1, hj1, if_pos (by simpa using h2.2), if_pos h2, w2 h2.1 h2.2]
  rw [if_neg h2]
  have e2 : (if 97 ≤ c then spec_hexValue.j1 (k + 1) (decide (c ≤ 102)) s c b else spec_hexValue.j1 (k + 1) false s c b) = spec_hexValue.j1 (k + 1) false s c b := by
    split
    · rename_i h
      rw [show decide (c ≤ 102) = false by simp; omega]
    · rfl
  rw [e2, hj1, if_neg (by decide)]
  by_cases h3 : 65 ≤ c ∧ c ≤ 70
  · rw [if_pos h3.1, if_pos h3.2, if_pos h3, w3 h3.1 h3.2]
  rw [if_neg h3]
  by_cases h4 : 65 ≤ c
  · rw [if_pos h4, if_neg (by omega)]
  · rw [if_neg h4]
/-- What stands behind a quote, and how many units. -/
def unq (m : Int) (l : List S37) : ByteArray × Int :=
  if 1 < l.length ∧ ((rd_T37 l 1).f1 = 8219 ∨ (0 ≤ signOf (rd_T37 l 1).f1 ∧ takes m (signOf (rd_T37 l 1).f1) = true)) then ((rd_T37 l 1).f0, 2)
  else if Go.bits .and .u64 m 16777216 ≠ 0 ∧ 2 < l.length ∧ 0 ≤ hexv (rd_T37 l 1) ∧ 0 ≤ hexv (rd_T37 l 2) then (⟨#[UInt8.ofNat (16 * hexv (rd_T37 l 1) + hexv (rd_T37 l 2)).toNat]⟩, 3)
  else ((rd_T37 l 0).f0, 1)
theorem hexv_lt (u : S37) : hexv u < 16 := by
  unfold hexv
  repeat' split
  all_goals omega
theorem unq_f (m : Int) (l : List S37) (h : 0 < l.length) : spec_unquoted.f 6 m l = some (unq m l) := by
  have j1f : ∀ k, spec_unquoted.j1 (k + 1) l false = some ((rd_T37 l 0).f0, 1) := fun k => by
    rw [spec_unquoted.j1, if_neg (by decide), if_pos (by omega)]
  have jt : 1 < l.length → ∀ k, spec_unquoted.j0 (k + 1) m l true = some ((rd_T37 l 1).f0, 2) := fun h1 k => by
    rw [spec_unquoted.j0, if_pos rfl, if_pos (by omega)]
  have jf : ∀ k, spec_unquoted.j0 (k + 4) m l false = some (if Go.bits .and .u64 m 16777216 ≠ 0 ∧ 2 < l.length ∧ 0 ≤ hexv (rd_T37 l 1) ∧ 0 ≤ hexv (rd_T37 l 2) then ((⟨#[UInt8.ofNat (16 * hexv (rd_T37 l 1) + hexv (rd_T37 l 2)).toNat]⟩ : ByteArray), (3 : Int)) else ((rd_T37 l 0).f0, 1)) := fun k => by
    rw [spec_unquoted.j0, if_neg (by decide)]
    by_cases h1 : Go.bits .and .u64 m 16777216 = 0
    · rw [if_pos h1, j1f, if_neg (fun hh => hh.1 h1)]
    rw [if_neg h1]
    by_cases h2 : 2 < l.length
    · rw [if_pos (by omega), if_pos (by omega), hexv_f _ (k + 1), Option.bind_some]
      by_cases h3 : 0 ≤ hexv (rd_T37 l 1)
      · rw [if_pos h3, if_pos (by omega), hexv_f _ (k + 1), Option.bind_some]
        by_cases h4 : 0 ≤ hexv (rd_T37 l 2)
        · rw [show decide (hexv (rd_T37 l 2) ≥ 0) = true from decide_eq_true h4, spec_unquoted.j1, if_pos rfl, if_pos (by omega), hexv_f _ k, Option.bind_some, if_pos (by omega), hexv_f _ k, Option.bind_some, if_pos ⟨h1, h2, h3, h4⟩]
          have l1 := hexv_lt (rd_T37 l 1)
          have l2 := hexv_lt (rd_T37 l 2)
          have w1 : wrap64 (16 * hexv (rd_T37 l 1)) = 16 * hexv (rd_T37 l 1) := by unfold wrap64; omega
          have w2 : wrap64 (16 * hexv (rd_T37 l 1) + hexv (rd_T37 l 2)) = 16 * hexv (rd_T37 l 1) + hexv (rd_T37 l 2) := by unfold wrap64; omega
          rw [w1, w2, Int.emod_eq_of_lt (by omega) (by omega)]
          rfl
        · rw [show decide (hexv (rd_T37 l 2) ≥ 0) = false from decide_eq_false h4, j1f, if_neg (fun hh => h4 hh.2.2.2)]
      · rw [if_neg h3, j1f, if_neg (fun hh => h3 hh.2.2.1)]
    · rw [if_neg (by omega), j1f, if_neg (fun hh => h2 hh.2.1)]
  unfold spec_unquoted.f unq
  by_cases h1 : 1 < l.length
  · rw [if_pos (by omega), if_pos (by omega)]
    by_cases h2 : (rd_T37 l 1).f1 = 8219
    · rw [if_pos h2, jt h1 5, if_pos ⟨h1, .inl h2⟩]
    rw [if_neg h2, signOf_f _ 5, Option.bind_some]
    by_cases h3 : 0 ≤ signOf (rd_T37 l 1).f1
    · rw [if_pos h3, Option.bind_some, spec_Takes.mono _ _ 5 _ (spec_Takes.mono _ _ 4 _ (takes_f m _)), Option.bind_some]
      by_cases h4 : takes m (signOf (rd_T37 l 1).f1) = true
      · rw [h4, jt h1 5, if_pos ⟨h1, .inr ⟨h3, rfl⟩⟩]
      · rw [Bool.eq_false_iff.2 h4, jf 2]
        refine congrArg some (if_neg ?_).symm
        rintro ⟨_, hh | hh⟩
        · exact h2 hh
        · exact absurd hh.2 (by decide)
    · rw [if_neg h3, jf 2]
      refine congrArg some (if_neg ?_).symm
      rintro ⟨_, hh | hh⟩
      · exact h2 hh
      · exact h3 hh.1
  · rw [if_neg (by omega), jf 2]
    exact congrArg some (if_neg (fun hh => h1 hh.1)).symm
/-! #### as calls -/
theorem signOf_any (c : Int) (w : World) : Calls Tryd.prog 33 #[.int .i32 c] w fun e w' => e = .returned (.int .i32 (signOf c)) ∧ ∃ n, w' = w.drewN n := (spec_SignOf.calls 1 c _ w (signOf_f c 0)).mono fun e w' h => ⟨h.1, h.2.1⟩
theorem sign_any (c : Int) (w : World) : Calls Tryd.prog 68 #[.int .i32 c] w fun e w' => e = .returned (.int .i32 (sign c)) ∧ ∃ n, w' = w.drewN n := (spec_Sign.calls c _ w (sign_f c)).mono fun e w' h => ⟨h.1, h.2.1⟩
theorem takes_any (m c : Int) (w : World) : Calls Tryd.prog 26 #[.int .u64 m, .int .i32 c] w fun e w' => e = .returned (.bool (takes m c)) ∧ ∃ n, w' = w.drewN n := (spec_Takes.calls 4 m c _ w (takes_f m c)).mono fun e w' h => ⟨h.1, h.2.1⟩
theorem takesL_any (m c : Int) (w : World) : Calls Tryd.prog 27 #[.int .u64 m, .int .i32 c] w fun e w' => e = .returned (.bool (takesL m c)) ∧ ∃ n, w' = w.drewN n := (spec_TakesLeft.calls m c _ w (takesL_f m c)).mono fun e w' h => ⟨h.1, h.2.1⟩
theorem takesR_any (m c : Int) (w : World) : Calls Tryd.prog 28 #[.int .u64 m, .int .i32 c] w fun e w' => e = .returned (.bool (takesR m c)) ∧ ∃ n, w' = w.drewN n := (spec_TakesRight.calls m c _ w (takesR_f m c)).mono fun e w' h => ⟨h.1, h.2.1⟩
theorem unq_any (m : Int) (A : Option Addr) (c : Nat) (l : List S37) (w : World) (hr : Kd.C k37 w A l.length l) (hc : l.length ≤ c) (h : 0 < l.length) :
    Calls Tryd.prog 34 #[.int .u64 m, .slice A l.length c] w fun e w' => e = .returned (.tuple #[.string (unq m l).1, .int .i64 (unq m l).2]) ∧ Below w.heap.size w w' := spec_unquoted.calls 6 m A c l _ _ w hr hc (unq_f m l h)
end Go.Proofs.YtlgoghonnnobfaaDoor.Spc

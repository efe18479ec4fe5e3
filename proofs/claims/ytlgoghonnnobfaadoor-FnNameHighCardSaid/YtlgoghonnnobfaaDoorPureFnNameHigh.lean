import Derived.Test.YtlgoghonnnobfaaDoorPFnNameHighx1
import Derived.Test.YtlgoghonnnobfaaDoorMd
namespace Go.Proofs.YtlgoghonnnobfaaDoor.Pure
open Go Go.RowKit Go.Proofs.YtlgoghonnnobfaaDoor.PFnNameHigh Go.Proofs.YtlgoghonnnobfaaDoorW.PrintWords Go.Proofs.YtlgoghonnnobfaaDoorW.PrintLast
open Go.Proofs.YtlgoghonnnobfaaDoor.Fr Go.Proofs.YtlgoghonnnobfaaDoor.Cong
set_option linter.unusedVariables false
set_option linter.unusedSimpArgs false
theorem short_one (k : Nat) (a : ByteArray) (h : a.size ≤ 2147483647) : laws_encShort.f (k + 2) [a] = some (decide ((a.size : Int) ≤ 65536)) := by
  have w1 : wrap64 (0 + (a.size : Int)) = (a.size : Int) := by rw [Int.zero_add]; exact IntWalk.wrap64_in _ (by omega)
  have r1 : rdOf ByteArray.empty [a] 0 = a := rfl
  have w2 : wrap64 (0 + 1) = 1 := IntWalk.wrap64_in _ (by omega)
  simp only [laws_encShort.f, laws_encShort.l0, r1, w1, w2, List.length_singleton, Int.natCast_one, Int.reduceLT, if_true, Int.le_refl, if_false]
/-- The bits below 2^29 alone. -/
theorem low_mid (m : Nat) (hm : m < 18446744073709551616) : Mid (Go.bits .and .u64 (m : Int) 536870911) (m : Int) := by
  refine ⟨fun b hb => ?_, hb_kept m 536870911 16777216 hm (by decide) (by decide) (by decide)⟩
  have h : b.f ∈ Enc.bits.map (·.f) := List.mem_map_of_mem hb
  have e : Enc.bits.map (·.f) = [512, 4, 67108864, 134217728, 268435456, 256, 128, 1024, 8, 16, 32, 64, 2, 8192, 16384, 2048, 4096, 32768, 65536] := by decide
  rw [e] at h
  simp only [List.mem_cons, List.not_mem_nil, or_false] at h
  rcases h with h | h | h | h | h | h | h | h | h | h | h | h | h | h | h | h | h | h | h
  all_goals
    rw [h]
    exact hb_kept m 536870911 _ hm (by decide) (by decide) (by decide)
theorem low_left (m : Nat) (hm : m < 18446744073709551616) : Cong.Left (Go.bits .and .u64 (m : Int) 536870911) (m : Int) :=
  ⟨hb_kept m 536870911 131072 hm (by decide) (by decide) (by decide), hb_kept m 536870911 262144 hm (by decide) (by decide) (by decide), hb_kept m 536870911 524288 hm (by decide) (by decide) (by decide), hb_kept m 536870911 1048576 hm (by decide) (by decide) (by decide)⟩
theorem low_right (m : Nat) (hm : m < 18446744073709551616) : Cong.Right (Go.bits .and .u64 (m : Int) 536870911) (m : Int) :=
  ⟨hb_kept m 536870911 2097152 hm (by decide) (by decide) (by decide), hb_kept m 536870911 4194304 hm (by decide) (by decide) (by decide), hb_kept m 536870911 8388608 hm (by decide) (by decide) (by decide)⟩
theorem FnNameHigh (a0 : Int) (a1 : ByteArray) (h0 : (Lit.int .u64 a0).wf = true) : ∃ k, laws_FnNameHigh.f k a0 a1 = some true := by
  have hb0 := bounds_u64 h0
  obtain ⟨m, rfl⟩ := Int.eq_ofNat_of_zero_le (show 0 ≤ a0 by omega)
  have hm : m < 18446744073709551616 := by omega
  refine ⟨1 + 2, ?_⟩
  unfold laws_FnNameHigh.f
  split
  · rfl
  rename_i hs
  rw [short_one 1 a1 (by omega), Option.bind_some]
  by_cases hl : (a1.size : Int) ≤ 65536
  · rw [if_pos (by simpa using hl)]
    rw [show (1 + 2 : Nat) = 2 + 1 from rfl, laws_FnNameHigh.j0]
    by_cases h29 : Go.bits .and .u64 (m : Int) 536870911 = 1
    · rw [if_pos (by simpa using h29)]
    rw [if_neg (by simpa using h29)]
    have hne : (m : Int) ≠ 1 := by
      intro e
      have e' : m = 1 := by omega
      subst e'
      exact h29 (by decide)
    have hdot := hb_kept m 536870911 33554432 hm (by decide) (by decide) (by decide)
    have e1 := encode_congr h29 hne (low_mid m hm) hdot a1 (heads_congr (low_left m hm) a1) (tails_congr (low_right m hm) _)
    have e2 := decode_congr h29 hne (low_mid m hm) hdot a1 (dheads_congr (low_left m hm) a1) (dtails_congr (low_right m hm) _)
    have c1 : a1.size ≤ 400000 := by omega
    have c2 : (⟨#[120]⟩ : ByteArray).size ≤ 400000 := by decide
    simp only [impl_NameEncode.f, impl_NameDecode.f, if_pos c1, if_pos c2, Option.bind_some, e1, e2, if_true, Asc.encode_stays _ _ Asc.stays_x]
    rw [Lib.toList_data]
    rfl
  · rw [if_neg (by simpa using hl)]
    rw [show (1 + 2 : Nat) = 2 + 1 from rfl, laws_FnNameHigh.j0]
    rw [if_pos rfl]
theorem FnNameHigh_walk (a0 : Int) (a1 : ByteArray) (w : World) (hglob : Glob w) (h0 : (Lit.int .u64 a0).wf = true) : Calls Tryd.prog 7 #[.int .u64 a0, .string a1] w fun e w' => e = .returned (.bool true) ∧ Below w.heap.size w w' := by
  obtain ⟨k, h⟩ := FnNameHigh a0 a1 h0
  exact laws_FnNameHigh.calls k a0 a1 true w hglob h
end Go.Proofs.YtlgoghonnnobfaaDoor.Pure

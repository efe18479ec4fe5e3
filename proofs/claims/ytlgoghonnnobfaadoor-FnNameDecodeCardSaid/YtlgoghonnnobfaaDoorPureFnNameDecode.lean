import Derived.Test.YtlgoghonnnobfaaDoorPFnNameDecodex1
import Derived.Test.YtlgoghonnnobfaaDoorSdl
namespace Go.Proofs.YtlgoghonnnobfaaDoor.Pure
open Go Go.RowKit Go.Proofs.YtlgoghonnnobfaaDoor.PFnNameDecode Go.Proofs.YtlgoghonnnobfaaDoorW.PrintWords Go.Proofs.YtlgoghonnnobfaaDoorW.PrintLast
set_option linter.unusedVariables false
set_option linter.unusedSimpArgs false
theorem short_one (k : Nat) (a : ByteArray) (h : a.size ≤ 2147483647) : laws_encShort.f (k + 2) [a] = some (decide ((a.size : Int) ≤ 65536)) := by
  have w1 : wrap64 (0 + (a.size : Int)) = (a.size : Int) := by rw [Int.zero_add]; exact IntWalk.wrap64_in _ (by omega)
  have r1 : rdOf ByteArray.empty [a] 0 = a := rfl
  have w2 : wrap64 (0 + 1) = 1 := IntWalk.wrap64_in _ (by omega)
  simp only [laws_encShort.f, laws_encShort.l0, r1, w1, w2, List.length_singleton, Int.natCast_one, Int.reduceLT, if_true, Int.le_refl, if_false]
theorem FnNameDecode (a0 : Int) (a1 : ByteArray) (h0 : (Lit.int .u64 a0).wf = true) : ∃ k, laws_FnNameDecode.f k a0 a1 = some true := by
  have hb0 := bounds_u64 h0
  obtain ⟨m, rfl⟩ := Int.eq_ofNat_of_zero_le (show 0 ≤ a0 by omega)
  have hm : m < 18446744073709551616 := by omega
  refine ⟨0 + 2, ?_⟩
  unfold laws_FnNameDecode.f
  by_cases hs : (a1.size : Int) > 2147483647
  · rw [if_pos hs]
  rw [if_neg hs, short_one 0 a1 (by omega), Option.bind_some]
  by_cases h1 : (a1.size : Int) ≤ 65536
  · have c1 : a1.size ≤ 400000 := by omega
    have c2 : a1.size ≤ 1000000 := by omega
    have c3 : (⟨#[239, 188, 143]⟩ : ByteArray).size ≤ 400000 := by decide
    have sp : Dec.decode 2 (⟨#[239, 188, 143]⟩ : ByteArray) = ⟨#[47]⟩ := by kernel_rfl
    rw [if_pos (by simpa using h1)]
    simp only [impl_NameDecode.f, spec_NameDecode.f, if_pos c1, if_pos c2, if_pos c3, Option.bind_some, Sdl.specD_decode m hm a1, if_true, sp]
    rw [Lib.toList_data]
    rfl
  · rw [if_neg (by simpa using h1)]
theorem FnNameDecode_walk (a0 : Int) (a1 : ByteArray) (w : World) (hglob : Glob w) (h0 : (Lit.int .u64 a0).wf = true) : Calls Tryd.prog 5 #[.int .u64 a0, .string a1] w fun e w' => e = .returned (.bool true) ∧ Below w.heap.size w w' := by
  obtain ⟨k, h⟩ := FnNameDecode a0 a1 h0
  exact laws_FnNameDecode.calls k a0 a1 true w hglob h
end Go.Proofs.YtlgoghonnnobfaaDoor.Pure

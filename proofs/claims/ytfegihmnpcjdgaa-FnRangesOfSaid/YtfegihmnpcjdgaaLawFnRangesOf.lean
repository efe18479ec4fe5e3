-- Written by a program of this session's: a row whose law takes structs.
import Derived.Test.YtfegihmnpcjdgaaRows
import Derived.Test.YtfegihmnpcjdgaaPFnRangesOfx5
import Derived.Test.YtfegihmnpcjdgaaPureFnRangesOf
import Derived.WalkKit
import Derived.ProofKit
import Derived.OpenShut
import Derived.ShutString
import Derived.ChangeOld
import Derived.Below
import Derived.SizedLaws
import Derived.Carry
import Derived.Lib.SmallJoins
import Derived.ChangeArms
import Derived.WalkSmall
import Derived.Test.YtfegihmnpcjdgaaRowing
namespace Go.Proofs.Ytfegihmnpcjdgaa.fnRangesOf
open Go.ChangeShapes Go.WideShapes Go.ChangeAt Go.RowKit Go.Joins
open Go.ChangeMaps (open_string shut_string)
open Go.Proofs.YtfegihmnpcjdgaaW.PrintWords Go.Proofs.Ytfegihmnpcjdgaa.PFnRangesOf
set_option linter.unusedVariables false
theorem own : ownKnob Try.prog.godebug = none := by kernel_rfl
theorem laid : laidOutB Try.prog = true := by kernel_rfl
set_option maxRecDepth 100000 in
theorem lifted (os : Os) (started : os.Started) (H : Type) (enc : TypeId × Value → H) :
    ReturnsInHanded {} Try.checked os 5 .any (Rows.fnRangesOfSpec.pre6 enc Try.prog Try.f5 Rows.fnRangesOfRow.domain false) (Rows.fnRangesOfSpec.post enc Try.prog Try.f5 false true false false) := by
  refine returnsInHanded_of_change_sized (C := Try.checked) own started (by kernel_rfl) Try.func5
    (ChangeSpec.witness6 (enc := enc) (C := Try.checked) false ⟨#[], #[.slice none 0 0], []⟩ 8 (by kernel_rfl) (by kernel_rfl) (by kernel_rfl) (by kernel_rfl)) ?_
  intro W base args ds gs before hval0 hW hcnd hsz0 _
  have hsz : (DataW.weightsEach Try.prog (Try.f5.params.toList ++ Rows.fnRangesOfSpec.plain.varTypes Try.prog) (ds ++ gs)).all (· ≤ reachBytes) = true := hsz0
  have hval : ∀ (j : Nat) t v, Try.f5.params[j]? = some t → args[j]? = some v → Value.okWide Try.prog W .any base t v := hval0
  have hW' := hW
  obtain ⟨p, q, hA0, hV, rfl, hfz, hnd⟩ := hW
  have hA : DataW.TrodAll enc Try.prog W 0 (fun _ => true) true Try.f5.params.toList args.toList ds p := hA0
  rw [Try.params5] at hA hval hsz
  obtain ⟨v0, vs0, d0, ds0, p0, q0, hargs, rfl, rfl, h0, r0⟩ := trodAll_cons hA
  obtain ⟨rfl, rfl, rfl⟩ := trodAll_nil r0
  obtain rfl : args = #[v0] := by cases args; simp_all
  obtain ⟨rfl, rfl⟩ := trodVars_none hV
  have hlt0 : ∀ x ∈ p0, x.block < W.heap.size := fun x hx => by simpa using hW'.lt x (by simp [hx])
  obtain ⟨A0, len0, cap0, rfl⟩ := okWide_slice Try.underlying22 (hval 0 22 v0 rfl rfl)
  obtain ⟨l0, rfl, hc0, hC0⟩ := Rowing.open_row k28 Try.underlying22 (by kernel_rfl) (Rowing.el_two k28 rfl (fun a b => ⟨⟨a, b⟩, k28_mk W ⟨a, b⟩⟩) Try.underlying28 rfl rfl (by kernel_rfl) (by kernel_rfl) Try.underlying3 Try.underlying3) h0
  clear hA0 hval0 hsz0 hsz
  obtain ⟨k, hP⟩ := Pure.FnRangesOf l0 
  refine (PFnRangesOf.laws_FnRangesOf.calls k A0 cap0 l0 true W hC0 hc0 hP).mono fun e W' ⟨he, hb⟩ => ?_
  have bel : Below W.heap.size W W' := hb
  subst he
  exact ⟨_, rfl, _, _, _, [], _, [], hW', trodAll_mk1 (shut_bool Try.underlying4 _), (trodAll_cons_mk (Below.trod laid (by kernel_rfl) (of_decide_eq_true (by kernel_rfl)) h0 bel hlt0) trodAll_mk0), rfl, bel.frame _, fun h => by cases h⟩
theorem over : Rows.fnRangesOfRow.holds Try.pinned (OpenSpec.ofChange Rows.fnRangesOfSpec) :=
  OpenClaim.holds_of_wide 5 Try.f5 rfl rfl rfl rfl rfl rfl rfl ⟨rfl, rfl, rfl, rfl, rfl⟩ rfl rfl rfl rfl rfl (by kernel_rfl) Try.func5 (by kernel_rfl)
    (of_decide_eq_true (by kernel_rfl)) (by unfold Func.isWrapper; first | (rw [if_pos (by decide +kernel)]; kernel_rfl) | (rw [if_neg (by decide +kernel)]; exact ⟨rfl, rfl⟩))
    (fun os started H enc _ => lifted os started H enc)
theorem proved : Rows.FnRangesOfSaid := over
#print axioms proved
end Go.Proofs.Ytfegihmnpcjdgaa.fnRangesOf
namespace Go.Proofs.Ytfegihmnpcjdgaa
/-- The row, under a short name, for the claim. -/
theorem fnRangesOf_holds : Rows.FnRangesOfSaid := fnRangesOf.proved
end Go.Proofs.Ytfegihmnpcjdgaa

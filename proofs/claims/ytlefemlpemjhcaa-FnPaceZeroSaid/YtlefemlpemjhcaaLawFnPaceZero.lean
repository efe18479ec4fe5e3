-- Written by a program of this session's: a row whose law takes structs.
import Derived.Test.YtlefemlpemjhcaaRows
import Derived.Test.YtlefemlpemjhcaaPFnPaceZerox1
import Derived.Test.YtlefemlpemjhcaaPureFnPaceZero
import Derived.WalkKit
import Derived.ProofKit
import Derived.OpenShut
import Derived.ShutString
import Derived.ChangeOld
import Derived.Below
import Derived.SizedLaws
import Derived.Carry
import Derived.Lib.SmallJoins
import Derived.ChangeArms
import Derived.WalkSmall
namespace Go.Proofs.Ytlefemlpemjhcaa.fnPaceZero
open Go.ChangeShapes Go.WideShapes Go.ChangeAt Go.RowKit Go.Joins
open Go.ChangeMaps (open_string shut_string)
set_option linter.unusedVariables false
theorem own : ownKnob Try.prog.godebug = none := by kernel_rfl
theorem laid : laidOutB Try.prog = true := by kernel_rfl
set_option maxRecDepth 100000 in
theorem lifted (os : Os) (started : os.Started) (H : Type) (enc : TypeId × Value → H) :
    ReturnsInHanded {} Try.checked os 5 .any (Rows.fnPaceZeroSpec.pre6 enc Try.prog Try.f5 Rows.fnPaceZeroRow.domain false) (Rows.fnPaceZeroSpec.post enc Try.prog Try.f5 false true false false) := by
  refine returnsInHanded_of_change_sized (C := Try.checked) own started (by kernel_rfl) Try.func5
    (ChangeSpec.witness6 (enc := enc) (C := Try.checked) false ⟨#[], #[.agg #[.int .i64 0, .int .i64 0, .int .i64 0, .int .i64 0]], []⟩ 8 (by kernel_rfl) (by kernel_rfl) (by kernel_rfl) (by kernel_rfl)) ?_
  intro W base args ds gs before hval0 hW hcnd hsz0 _
  have hsz : (DataW.weightsEach Try.prog (Try.f5.params.toList ++ Rows.fnPaceZeroSpec.plain.varTypes Try.prog) (ds ++ gs)).all (· ≤ reachBytes) = true := hsz0
  have hval : ∀ (j : Nat) t v, Try.f5.params[j]? = some t → args[j]? = some v → Value.okWide Try.prog W .any base t v := hval0
  have hW' := hW
  obtain ⟨p, q, hA0, hV, rfl, hfz, hnd⟩ := hW
  have hA : DataW.TrodAll enc Try.prog W 0 (fun _ => true) true Try.f5.params.toList args.toList ds p := hA0
  rw [Try.params5] at hA hval hsz
  obtain ⟨v0, vs0, d0, ds0, p0, q0, hargs, rfl, rfl, h0, r0⟩ := trodAll_cons hA
  obtain ⟨rfl, rfl, rfl⟩ := trodAll_nil r0
  obtain rfl : args = #[v0] := by cases args; simp_all
  obtain ⟨rfl, rfl⟩ := trodVars_none hV
  have hlt0 : ∀ x ∈ p0, x.block < W.heap.size := fun x hx => by simpa using hW'.lt x (by simp [hx])
  obtain ⟨x0_0, x0_1, x0_2, x0_3, y0_0, y0_1, y0_2, y0_3, n0, rfl, hd0, hp0, t0_0, t0_1, t0_2, t0_3⟩ := open_agg4 Try.underlying28 (by kernel_rfl) (by kernel_rfl) (hval 0 28 v0 rfl rfl) h0
  obtain ⟨a0_0, e0_0, z0_0, w0_0⟩ := DataW.trod_int Try.underlying3 t0_0
  obtain rfl := (List.cons.inj e0_0).1
  obtain ⟨a0_1, e0_1, z0_1, w0_1⟩ := DataW.trod_int Try.underlying3 t0_1
  obtain rfl := (List.cons.inj e0_1).1
  obtain ⟨a0_2, e0_2, z0_2, w0_2⟩ := DataW.trod_int Try.underlying3 t0_2
  obtain rfl := (List.cons.inj e0_2).1
  obtain ⟨a0_3, e0_3, z0_3, w0_3⟩ := DataW.trod_int Try.underlying3 t0_3
  obtain rfl := (List.cons.inj e0_3).1
  clear hA0 hval0 hsz0 hsz
  refine (PFnPaceZero.laws_FnPaceZero.calls a0_0 a0_1 a0_2 a0_3 true W (Pure.FnPaceZero a0_0 a0_1 a0_2 a0_3 w0_0 w0_1 w0_2 w0_3)).mono fun e W' ⟨he, hb⟩ => ?_
  have bel : Below W.heap.size W W' := hb
  subst he
  exact ⟨_, rfl, _, _, _, [], _, [], hW', trodAll_mk1 (shut_bool Try.underlying4 _), (trodAll_cons_mk (Below.trod laid (by kernel_rfl) (of_decide_eq_true (by kernel_rfl)) h0 bel hlt0) trodAll_mk0), rfl, bel.frame _, fun h => by cases h⟩
theorem over : Rows.fnPaceZeroRow.holds Try.pinned (OpenSpec.ofChange Rows.fnPaceZeroSpec) :=
  OpenClaim.holds_of_wide 5 Try.f5 rfl rfl rfl rfl rfl rfl rfl ⟨rfl, rfl, rfl, rfl, rfl⟩ rfl rfl rfl rfl rfl (by kernel_rfl) Try.func5 (by kernel_rfl)
    (of_decide_eq_true (by kernel_rfl)) (by unfold Func.isWrapper; first | (rw [if_pos (by decide +kernel)]; kernel_rfl) | (rw [if_neg (by decide +kernel)]; exact ⟨rfl, rfl⟩))
    (fun os started H enc _ => lifted os started H enc)
theorem proved : Rows.FnPaceZeroSaid := over
#print axioms proved
end Go.Proofs.Ytlefemlpemjhcaa.fnPaceZero
namespace Go.Proofs.Ytlefemlpemjhcaa
/-- The row, under a short name, for the claim. -/
theorem fnPaceZero_holds : Rows.FnPaceZeroSaid := fnPaceZero.proved
end Go.Proofs.Ytlefemlpemjhcaa

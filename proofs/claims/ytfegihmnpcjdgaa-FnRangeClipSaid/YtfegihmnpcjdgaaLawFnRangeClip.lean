-- Written by a program of this session's: a row whose law takes structs.
import Derived.Test.YtfegihmnpcjdgaaRows
import Derived.Test.YtfegihmnpcjdgaaPFnRangeClipx4
import Derived.Test.YtfegihmnpcjdgaaPureFnRangeClip
import Derived.WalkKit
import Derived.ProofKit
import Derived.OpenShut
import Derived.ShutString
import Derived.ChangeOld
import Derived.Below
import Derived.SizedLaws
import Derived.Carry
import Derived.Lib.SmallJoins
import Derived.ChangeArms
import Derived.WalkSmall
namespace Go.Proofs.Ytfegihmnpcjdgaa.fnRangeClip
open Go.ChangeShapes Go.WideShapes Go.ChangeAt Go.RowKit Go.Joins
open Go.ChangeMaps (open_string shut_string)
open Go.Proofs.YtfegihmnpcjdgaaW.PrintWords Go.Proofs.Ytfegihmnpcjdgaa.PFnRangeClip
set_option linter.unusedVariables false
theorem own : ownKnob Try.prog.godebug = none := by kernel_rfl
theorem laid : laidOutB Try.prog = true := by kernel_rfl
set_option maxRecDepth 100000 in
theorem lifted (os : Os) (started : os.Started) (H : Type) (enc : TypeId × Value → H) :
    ReturnsInHanded {} Try.checked os 8 .any (Rows.fnRangeClipSpec.pre6 enc Try.prog Try.f8 Rows.fnRangeClipRow.domain false) (Rows.fnRangeClipSpec.post enc Try.prog Try.f8 false true false false) := by
  refine returnsInHanded_of_change_sized (C := Try.checked) own started (by kernel_rfl) Try.func8
    (ChangeSpec.witness6 (enc := enc) (C := Try.checked) false ⟨#[], #[.agg #[.int .i64 0, .int .i64 0], .int .i64 0], []⟩ 8 (by kernel_rfl) (by kernel_rfl) (by kernel_rfl) (by kernel_rfl)) ?_
  intro W base args ds gs before hval0 hW hcnd hsz0 _
  have hsz : (DataW.weightsEach Try.prog (Try.f8.params.toList ++ Rows.fnRangeClipSpec.plain.varTypes Try.prog) (ds ++ gs)).all (· ≤ reachBytes) = true := hsz0
  have hval : ∀ (j : Nat) t v, Try.f8.params[j]? = some t → args[j]? = some v → Value.okWide Try.prog W .any base t v := hval0
  have hW' := hW
  obtain ⟨p, q, hA0, hV, rfl, hfz, hnd⟩ := hW
  have hA : DataW.TrodAll enc Try.prog W 0 (fun _ => true) true Try.f8.params.toList args.toList ds p := hA0
  rw [Try.params8] at hA hval hsz
  obtain ⟨v0, vs0, d0, ds0, p0, q0, hargs, rfl, rfl, h0, r0⟩ := trodAll_cons hA
  obtain ⟨v1, vs1, d1, ds1, p1, q1, rfl, rfl, rfl, h1, r1⟩ := trodAll_cons r0
  obtain ⟨rfl, rfl, rfl⟩ := trodAll_nil r1
  obtain rfl : args = #[v0, v1] := by cases args; simp_all
  obtain ⟨rfl, rfl⟩ := trodVars_none hV
  have hlt0 : ∀ x ∈ p0, x.block < W.heap.size := fun x hx => by simpa using hW'.lt x (by simp [hx])
  have hlt1 : ∀ x ∈ p1, x.block < W.heap.size := fun x hx => by simpa using hW'.lt x (by simp [hx])
  obtain ⟨x0_0, x0_1, y0_0, y0_1, n0, rfl, hd0, hp0, t0_0, t0_1⟩ := open_agg2 Try.underlying28 (by kernel_rfl) (by kernel_rfl) (hval 0 28 v0 rfl rfl) h0
  obtain ⟨a0_0, e0_0, z0_0, w0_0⟩ := DataW.trod_int Try.underlying3 t0_0
  obtain rfl := (List.cons.inj e0_0).1
  obtain ⟨a0_1, e0_1, z0_1, w0_1⟩ := DataW.trod_int Try.underlying3 t0_1
  obtain rfl := (List.cons.inj e0_1).1
  obtain ⟨a1, rfl, hd1, hp1, w1⟩ := open_int Try.underlying3 (hval 1 3 v1 rfl rfl) h1
  clear hA0 hval0 hsz0 hsz
  obtain ⟨k, hP⟩ := Pure.FnRangeClip a0_0 a0_1 a1 
  refine (PFnRangeClip.laws_FnRangeClip.calls k a0_0 a0_1 a1 true W  hP).mono fun e W' ⟨he, hb⟩ => ?_
  have bel : Below W.heap.size W W' := hb
  subst he
  exact ⟨_, rfl, _, _, _, [], _, [], hW', trodAll_mk1 (shut_bool Try.underlying4 _), (trodAll_cons_mk (Below.trod laid (by kernel_rfl) (of_decide_eq_true (by kernel_rfl)) h0 bel hlt0) (trodAll_cons_mk (Below.trod laid (by kernel_rfl) (of_decide_eq_true (by kernel_rfl)) h1 bel hlt1) trodAll_mk0)), rfl, bel.frame _, fun h => by cases h⟩
theorem over : Rows.fnRangeClipRow.holds Try.pinned (OpenSpec.ofChange Rows.fnRangeClipSpec) :=
  OpenClaim.holds_of_wide 8 Try.f8 rfl rfl rfl rfl rfl rfl rfl ⟨rfl, rfl, rfl, rfl, rfl⟩ rfl rfl rfl rfl rfl (by kernel_rfl) Try.func8 (by kernel_rfl)
    (of_decide_eq_true (by kernel_rfl)) (by unfold Func.isWrapper; first | (rw [if_pos (by decide +kernel)]; kernel_rfl) | (rw [if_neg (by decide +kernel)]; exact ⟨rfl, rfl⟩))
    (fun os started H enc _ => lifted os started H enc)
theorem proved : Rows.FnRangeClipSaid := over
#print axioms proved
end Go.Proofs.Ytfegihmnpcjdgaa.fnRangeClip
namespace Go.Proofs.Ytfegihmnpcjdgaa
/-- The row, under a short name, for the claim. -/
theorem fnRangeClip_holds : Rows.FnRangeClipSaid := fnRangeClip.proved
end Go.Proofs.Ytfegihmnpcjdgaa

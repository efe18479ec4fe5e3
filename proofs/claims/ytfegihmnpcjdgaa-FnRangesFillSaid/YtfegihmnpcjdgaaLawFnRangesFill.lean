-- Written by a program of this session's: a row whose law takes structs.
import Derived.Test.YtfegihmnpcjdgaaRows
import Derived.Test.YtfegihmnpcjdgaaPFnRangesFillx7
import Derived.Test.YtfegihmnpcjdgaaPureFnRangesFill
import Derived.WalkKit
import Derived.ProofKit
import Derived.OpenShut
import Derived.ShutString
import Derived.ChangeOld
import Derived.Below
import Derived.SizedLaws
import Derived.Carry
import Derived.Lib.SmallJoins
import Derived.ChangeArms
import Derived.WalkSmall
import Derived.Test.YtfegihmnpcjdgaaRowing
namespace Go.Proofs.Ytfegihmnpcjdgaa.fnRangesFill
open Go.ChangeShapes Go.WideShapes Go.ChangeAt Go.RowKit Go.Joins
open Go.ChangeMaps (open_string shut_string)
open Go.Proofs.YtfegihmnpcjdgaaW.PrintWords Go.Proofs.Ytfegihmnpcjdgaa.PFnRangesFill
set_option linter.unusedVariables false
theorem own : ownKnob Try.prog.godebug = none := by kernel_rfl
theorem laid : laidOutB Try.prog = true := by kernel_rfl
set_option maxRecDepth 100000 in
theorem lifted (os : Os) (started : os.Started) (H : Type) (enc : TypeId × Value → H) :
    ReturnsInHanded {} Try.checked os 10 .any (Rows.fnRangesFillSpec.pre6 enc Try.prog Try.f10 Rows.fnRangesFillRow.domain false) (Rows.fnRangesFillSpec.post enc Try.prog Try.f10 false true false false) := by
  refine returnsInHanded_of_change_sized (C := Try.checked) own started (by kernel_rfl) Try.func10
    (ChangeSpec.witness6 (enc := enc) (C := Try.checked) false ⟨#[], #[.slice none 0 0, .agg #[.int .i64 0, .int .i64 0], .int .i64 0], []⟩ 8 (by kernel_rfl) (by kernel_rfl) (by kernel_rfl) (by kernel_rfl)) ?_
  intro W base args ds gs before hval0 hW hcnd hsz0 _
  have hsz : (DataW.weightsEach Try.prog (Try.f10.params.toList ++ Rows.fnRangesFillSpec.plain.varTypes Try.prog) (ds ++ gs)).all (· ≤ reachBytes) = true := hsz0
  have hval : ∀ (j : Nat) t v, Try.f10.params[j]? = some t → args[j]? = some v → Value.okWide Try.prog W .any base t v := hval0
  have hW' := hW
  obtain ⟨p, q, hA0, hV, rfl, hfz, hnd⟩ := hW
  have hA : DataW.TrodAll enc Try.prog W 0 (fun _ => true) true Try.f10.params.toList args.toList ds p := hA0
  rw [Try.params10] at hA hval hsz
  obtain ⟨v0, vs0, d0, ds0, p0, q0, hargs, rfl, rfl, h0, r0⟩ := trodAll_cons hA
  obtain ⟨v1, vs1, d1, ds1, p1, q1, rfl, rfl, rfl, h1, r1⟩ := trodAll_cons r0
  obtain ⟨v2, vs2, d2, ds2, p2, q2, rfl, rfl, rfl, h2, r2⟩ := trodAll_cons r1
  obtain ⟨rfl, rfl, rfl⟩ := trodAll_nil r2
  obtain rfl : args = #[v0, v1, v2] := by cases args; simp_all
  obtain ⟨rfl, rfl⟩ := trodVars_none hV
  have hlt0 : ∀ x ∈ p0, x.block < W.heap.size := fun x hx => by simpa using hW'.lt x (by simp [hx])
  have hlt1 : ∀ x ∈ p1, x.block < W.heap.size := fun x hx => by simpa using hW'.lt x (by simp [hx])
  have hlt2 : ∀ x ∈ p2, x.block < W.heap.size := fun x hx => by simpa using hW'.lt x (by simp [hx])
  obtain ⟨A0, len0, cap0, rfl⟩ := okWide_slice Try.underlying22 (hval 0 22 v0 rfl rfl)
  obtain ⟨l0, rfl, hc0, hC0⟩ := Rowing.open_row k28 Try.underlying22 (by kernel_rfl) (Rowing.el_two k28 rfl (fun a b => ⟨⟨a, b⟩, k28_mk W ⟨a, b⟩⟩) Try.underlying28 rfl rfl (by kernel_rfl) (by kernel_rfl) Try.underlying3 Try.underlying3) h0
  obtain ⟨x1_0, x1_1, y1_0, y1_1, n1, rfl, hd1, hp1, t1_0, t1_1⟩ := open_agg2 Try.underlying28 (by kernel_rfl) (by kernel_rfl) (hval 1 28 v1 rfl rfl) h1
  obtain ⟨a1_0, e1_0, z1_0, w1_0⟩ := DataW.trod_int Try.underlying3 t1_0
  obtain rfl := (List.cons.inj e1_0).1
  obtain ⟨a1_1, e1_1, z1_1, w1_1⟩ := DataW.trod_int Try.underlying3 t1_1
  obtain rfl := (List.cons.inj e1_1).1
  obtain ⟨a2, rfl, hd2, hp2, w2⟩ := open_int Try.underlying3 (hval 2 3 v2 rfl rfl) h2
  clear hA0 hval0 hsz0 hsz
  obtain ⟨k, hP⟩ := Pure.FnRangesFill l0 a1_0 a1_1 a2 
  refine (PFnRangesFill.laws_FnRangesFill.calls k A0 cap0 l0 a1_0 a1_1 a2 true W hC0 hc0 hP).mono fun e W' ⟨he, hb⟩ => ?_
  have bel : Below W.heap.size W W' := hb
  subst he
  exact ⟨_, rfl, _, _, _, [], _, [], hW', trodAll_mk1 (shut_bool Try.underlying4 _), (trodAll_cons_mk (Below.trod laid (by kernel_rfl) (of_decide_eq_true (by kernel_rfl)) h0 bel hlt0) (trodAll_cons_mk (Below.trod laid (by kernel_rfl) (of_decide_eq_true (by kernel_rfl)) h1 bel hlt1) (trodAll_cons_mk (Below.trod laid (by kernel_rfl) (of_decide_eq_true (by kernel_rfl)) h2 bel hlt2) trodAll_mk0))), rfl, bel.frame _, fun h => by cases h⟩
theorem over : Rows.fnRangesFillRow.holds Try.pinned (OpenSpec.ofChange Rows.fnRangesFillSpec) :=
  OpenClaim.holds_of_wide 10 Try.f10 rfl rfl rfl rfl rfl rfl rfl ⟨rfl, rfl, rfl, rfl, rfl⟩ rfl rfl rfl rfl rfl (by kernel_rfl) Try.func10 (by kernel_rfl)
    (of_decide_eq_true (by kernel_rfl)) (by unfold Func.isWrapper; first | (rw [if_pos (by decide +kernel)]; kernel_rfl) | (rw [if_neg (by decide +kernel)]; exact ⟨rfl, rfl⟩))
    (fun os started H enc _ => lifted os started H enc)
theorem proved : Rows.FnRangesFillSaid := over
#print axioms proved
end Go.Proofs.Ytfegihmnpcjdgaa.fnRangesFill
namespace Go.Proofs.Ytfegihmnpcjdgaa
/-- The row, under a short name, for the claim. -/
theorem fnRangesFill_holds : Rows.FnRangesFillSaid := fnRangesFill.proved
end Go.Proofs.Ytfegihmnpcjdgaa

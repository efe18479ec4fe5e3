/- Two masks are written alike just if they are the same: for all masks, where the package variables of the library hold what their text lays. -/
import Derived.Test.YtiaokohnibkmbaaDoorRows
import Derived.Test.YtiaokohnibkmbaaDoorCards
import Derived.Test.YtiaokohnibkmbaaDoorTie
import Derived.Test.YtiaokohnibkmbaaDoorOne
import Derived.WalkKit
import Derived.ProofKit
import Derived.OpenShut
import Derived.ShutString
import Derived.ChangeOld
import Derived.Below
import Derived.SizedLaws
import Derived.Carry
import Derived.Lib.SmallJoins
import Derived.ChangeArms
import Derived.WalkSmall
import Derived.LaidMore
import Derived.LaidHandle
import Derived.Stop.LaidErr
import Derived.Lib.LaidTab
import Derived.Stop.Joined
import Derived.SevenTiedAt
import Derived.Lay
namespace Go.Proofs.YtiaokohnibkmbaaDoor.fnMaskOne
open Go.ChangeShapes Go.WideShapes Go.ChangeAt Go.RowKit Go.Joins
open Go.ChangeMaps (open_string shut_string)
open Go.Proofs.YtiaokohnibkmbaaDoorW.PrintWords Go.Proofs.YtiaokohnibkmbaaDoor
set_option linter.unusedVariables false
theorem own : ownKnob Tryd.prog.godebug = none := by kernel_rfl
theorem laid : laidOutB Tryd.prog = true := by kernel_rfl
/-- What the list of variables gives. -/
theorem glob_of {W : World} (h : laidMetH Tryd.prog Rows.fnMaskOneRow.laid W) : W.cell? ⟨10, 15, none⟩ = some (.int .u8 4) := by
  rw [MakeChecks.laidMetH_plain _ _ _ (by kernel_rfl)] at h
  have h1 : laidMet Tryd.prog (("math/bits.deBruijn64tab", Lib.tabData .u8 [0, 1, 56, 2, 57, 49, 28, 3, 61, 58, 42, 50, 38, 29, 17, 4, 62, 47, 59, 36, 45, 43, 51, 22, 53, 39, 33, 30, 24, 18, 12, 5, 63, 55, 48, 27, 60, 41, 37, 16, 46, 35, 44, 21, 52, 32, 23, 11, 54, 26, 40, 15, 34, 20, 31, 10, 25, 14, 19, 9, 13, 8, 7, 6]) :: (Rows.fnMaskOneRow.laid.drop 2)) W := laidMet.tail h
  have h2 := Lib.tabIs_of_head (g := 10) (t := 139) (e := 5) (n := 64) (by kernel_rfl) (by kernel_rfl) Tryd.underlying139 Tryd.underlying5 (by kernel_rfl) (by kernel_rfl) h1
  exact h2.cell (by kernel_rfl) 15 (by decide)
set_option maxRecDepth 100000 in
theorem lifted (os : Os) (started : os.Started) (H : Type) (enc : TypeId × Value → H) :
    ReturnsInHanded {} Tryd.checked os 3 .any (fun w args => (Rows.fnMaskOneSpec.pre enc Tryd.prog Tryd.f3 [] false w args ∧ laidMetH Tryd.prog Rows.fnMaskOneRow.laid w) ∧ sizedMet enc Tryd.prog Tryd.f3 (OpenSpec.ofChange Rows.fnMaskOneSpec) false w args)
      (Rows.fnMaskOneSpec.post enc Tryd.prog Tryd.f3 false true false false) := by
  refine returnsInHanded_of_change_and (C := Tryd.checked) (X := fun w _ => laidMetH Tryd.prog Rows.fnMaskOneRow.laid w) (fun _ _ _ hh h => h.of_heap hh) own started (by kernel_rfl) Tryd.func3
    (ChangeSpec.witness_shaped (enc := enc) (C := Tryd.checked) (os := os) (X := fun w _ => laidMetH Tryd.prog Rows.fnMaskOneRow.laid w) false (World.laidAll Tryd.prog os Rows.fnMaskOneRow.laid) #[.int .u64 0, .int .u64 0] 8 (World.laidAll_os _ _ _)
      (World.shaped_of_ZipB (by kernel_rfl) (by kernel_rfl)) (by kernel_rfl) (by kernel_rfl) (by kernel_rfl)
      (by rw [MakeChecks.laidMetH_plain _ _ _ (by kernel_rfl)]; exact laidMet_laidAll _ (by kernel_rfl) (by kernel_rfl))) ?_
  intro W base args ds gs before hval0 hW _ _ hL _
  have hval : ∀ (j : Nat) t v, Tryd.f3.params[j]? = some t → args[j]? = some v → Value.okWide Tryd.prog W .any base t v := hval0
  have hW' := hW
  obtain ⟨p, q, hA0, hV, rfl, hfz, hnd⟩ := hW
  have hA : DataW.TrodAll enc Tryd.prog W 0 (fun _ => true) true Tryd.f3.params.toList args.toList ds p := hA0
  rw [Tryd.params3] at hA hval
  obtain ⟨v0, vs0, d0, ds0, p0, q0, hargs, rfl, rfl, h0, r0⟩ := trodAll_cons hA
  obtain ⟨v1, vs1, d1, ds1, p1, q1, rfl, rfl, rfl, h1, r1⟩ := trodAll_cons r0
  obtain ⟨rfl, rfl, rfl⟩ := trodAll_nil r1
  obtain rfl : args = #[v0, v1] := by cases args; simp_all
  obtain ⟨rfl, rfl⟩ := trodVars_none hV
  have hlt0 : ∀ x ∈ p0, x.block < W.heap.size := fun x hx => by simpa using hW'.lt x (by simp [hx])
  have hlt1 : ∀ x ∈ p1, x.block < W.heap.size := fun x hx => by simpa using hW'.lt x (by simp [hx])
  obtain ⟨a0, rfl, hd0, hp0, w0⟩ := open_int Tryd.underlying22 (hval 0 22 v0 rfl rfl) h0
  obtain ⟨a1, rfl, hd1, hp1, w1⟩ := open_int Tryd.underlying22 (hval 1 22 v1 rfl rfl) h1
  have hg := glob_of hL
  clear hA0 hval0
  refine (Texts.law_walk a0 a1 W (by have h := bounds_u64 w0; omega) (by have h := bounds_u64 w1; omega) hg).mono fun e W' ⟨he, hb⟩ => ?_
  have bel : Below W.heap.size W W' := hb
  subst he
  exact ⟨_, rfl, _, _, _, [], _, [], hW', trodAll_mk1 (shut_bool Tryd.underlying4 _), (trodAll_cons_mk (Below.trod laid (by kernel_rfl) (of_decide_eq_true (by kernel_rfl)) h0 bel hlt0) (trodAll_cons_mk (Below.trod laid (by kernel_rfl) (of_decide_eq_true (by kernel_rfl)) h1 bel hlt1) trodAll_mk0)), rfl, bel.frame _, fun h => by cases h⟩
theorem said : Rows.FnMaskOneSaid :=
  OpenClaim.holds_of_wide 3 Tryd.f3 rfl rfl rfl rfl rfl rfl rfl ⟨rfl, rfl, rfl, rfl, rfl⟩ rfl rfl rfl rfl rfl (by kernel_rfl) Tryd.func3 (by kernel_rfl)
    (of_decide_eq_true (by kernel_rfl)) (by unfold Func.isWrapper; first | (rw [if_pos (by decide +kernel)]; kernel_rfl) | (rw [if_neg (by decide +kernel)]; exact ⟨rfl, rfl⟩))
    (fun os started H enc _ => lifted os started H enc)
theorem plain (f : FuncId) (fn : Func) (hf : Tryd.pinned.checked.prog.funcNamed "pub-longboat/laws.FnMaskOne" = some f) (hfn : Tryd.pinned.checked.prog.funcs[f]? = some fn) :
    true = Tryd.pinned.checked.prog.looks [] ∧ ∀ (j : Nat) t, fn.params[j]? = some t → Tryd.pinned.checked.prog.wantsStandIn t = false := by
  obtain rfl : f = 3 := Option.some.inj ((show Tryd.prog.funcNamed "pub-longboat/laws.FnMaskOne" = some 3 by kernel_rfl).symm.trans hf) |>.symm
  obtain rfl : fn = Tryd.f3 := (Option.some.inj (Tryd.func3.symm.trans hfn)).symm
  exact ⟨by kernel_rfl, fun j t ht => by
    rw [Tryd.params3] at ht
    have hm : t ∈ [22, 22] := by simpa using Array.mem_of_getElem? ht
    have hall : ([22, 22].all fun u => !Tryd.prog.wantsStandIn u) = true := by kernel_rfl
    exact (show Tryd.prog.wantsStandIn t = false by simpa using List.all_eq_true.1 hall t hm)⟩
theorem proved : Rows.FnMaskOneCardSaid :=
  Claim7.holds_tied_plain_at .later [] _ _ _ _ said (fun _ h => by cases h) (by kernel_rfl) (fun _ h => by cases h) fnMaskOne_row_tie rfl ⟨rfl, rfl⟩ (by kernel_rfl) rfl plain (by kernel_rfl)
#print axioms proved
end Go.Proofs.YtiaokohnibkmbaaDoor.fnMaskOne
namespace Go.Proofs.YtiaokohnibkmbaaDoor
/-- The card, under a short name, for the claim. -/
theorem fnMaskOne_holds : Rows.FnMaskOneCardSaid := fnMaskOne.proved
end Go.Proofs.YtiaokohnibkmbaaDoor

-- Written by a program of this session's (over the kit's print), with contracts proved by hand among what it calls.
import Derived.Test.YtlgoghonnnobfaaDoorProg
import Derived.Below
import Derived.Deep.Draws
import Derived.Deep.AppendLies
import Derived.Maps.AppendAt
import Derived.OwnWalk
import Derived.Laws.BytesArg
import Derived.Laws.MakeOwn
import Derived.Laws.OwnMore
import Derived.Deep.OwnRows
import Derived.Tactics
import Derived.Lib.ConvBytes
import Derived.Laws.Slices
import Derived.WalkKit
import Derived.KernelRfl
import Derived.RowKit3
import Derived.Deep.LoopGhost
import Derived.Deep.QuietTactic
import Derived.BigQuiet
import Derived.WideLaws
import Derived.Deep.DeepCutAuto
import Derived.Deep.CutBlock
import Derived.Deep.RegionHeld3
import Derived.Laws.Rows
import Derived.Lib.AppendStr
import Derived.ArgAppend
import Derived.Laws.IdiomCopy
import Derived.OrdersHeld
import Derived.Laws.BitsLemmas
import Derived.RowKit
import Derived.Lib.Hide
import Derived.Test.YtlgoghonnnobfaaDoorMb
import Derived.Test.YtlgoghonnnobfaaDoorMd
import Derived.Lib.Hide
import Derived.Test.YtlgoghonnnobfaaDoorUts
import Derived.Lib.Hide
import Derived.Test.YtlgoghonnnobfaaDoorPth
import Derived.Test.YtlgoghonnnobfaaDoorMd
import Derived.Lib.Hide
import Derived.Test.YtlgoghonnnobfaaDoorPth
import Derived.Test.YtlgoghonnnobfaaDoorMd
import Derived.Test.YtlgoghonnnobfaaDoorWWords
import Derived.Test.YtlgoghonnnobfaaDoorWLast
import Derived.Test.YtlgoghonnnobfaaDoorWTab
import Derived.Test.YtlgoghonnnobfaaDoorWFour
import Derived.Test.YtlgoghonnnobfaaDoorWQPut
import Derived.Test.YtlgoghonnnobfaaDoorWApart
import Derived.Test.YtlgoghonnnobfaaDoorWArr
import Derived.Test.YtlgoghonnnobfaaDoorWZeros
import Derived.Test.YtlgoghonnnobfaaDoorWFoot
import Derived.Test.YtlgoghonnnobfaaDoorWKept
import Derived.Test.YtlgoghonnnobfaaDoorWShare
import Derived.Test.YtlgoghonnnobfaaDoorWN
import Derived.Test.YtlgoghonnnobfaaDoorWFootNe
import Derived.Test.YtlgoghonnnobfaaDoorWAt
import Derived.Test.YtlgoghonnnobfaaDoorWEqStruct
import Derived.Test.YtlgoghonnnobfaaDoorWRepsOne
import Derived.Test.YtlgoghonnnobfaaDoorWInv
import Derived.Test.YtlgoghonnnobfaaDoorWInvWords
import Derived.Test.YtlgoghonnnobfaaDoorWGuard
import Derived.Test.YtlgoghonnnobfaaDoorWNEv
import Derived.Test.YtlgoghonnnobfaaDoorWMore
namespace Go.Proofs.YtlgoghonnnobfaaDoor.PFnPathThere
open Go.RowKit Go.Proofs.YtlgoghonnnobfaaDoorW.PrintWords Go.Proofs.YtlgoghonnnobfaaDoorW.PrintLast Go.Proofs.YtlgoghonnnobfaaDoorW.PrintMore
attribute [local go_sem] max2_int min2_int max_two min_two max_three min_three max_four min_four   -- for this text's walks alone
set_option linter.unusedVariables false
set_option linter.unusedSimpArgs false



def errW : Option Int → Value
  | none => .nilIface
  | some c => .iface 0 (.int .i64 c)
theorem errW_none : errW none = .nilIface := rfl
theorem errW_some (c : Int) : errW (some c) = .iface 0 (.int .i64 c) := rfl

theorem xt_ne_nil (l : List UInt8) : (l != ([] : List UInt8)) = !l.isEmpty := by cases l <;> rfl
-- the values' own types
/-! #### struct type 37 -/
structure S37 where
  f0 : ByteArray
  f1 : Int
  f2 : Bool
def z37 : S37 := ⟨(⟨#[]⟩ : ByteArray), (0 : Int), false⟩
def k37 : Kd S37 := Kd.iso (Kd.pair Kd.string (Kd.pair (Kd.int .i32) Kd.bool)) (fun x : S37 => (x.f0, x.f1, x.f2))
theorem k37_open {w : World} {x : S37} {cs : List Value} (h : k37.K w x cs) : cs = [.string x.f0, .int .i32 x.f1, .bool x.f2] := by
  obtain ⟨_, _, rfl, rfl, ⟨_, _, rfl, rfl, rfl⟩⟩ := h
  exact rfl
theorem k37_openM {w : World} {base : Nat} {ok : Nat → Prop} {x : S37} {cs : List Value} (h : k37.M w base ok x cs) : cs = [.string x.f0, .int .i32 x.f1, .bool x.f2] := by
  obtain ⟨_, _, rfl, rfl, ⟨_, _, rfl, rfl, rfl⟩⟩ := h
  exact rfl
theorem k37_mk (w : World) (x : S37)  : k37.K w x [.string x.f0, .int .i32 x.f1, .bool x.f2] := ⟨[.string x.f0], [.int .i32 x.f1, .bool x.f2], rfl, rfl, ⟨[.int .i32 x.f1], [.bool x.f2], rfl, rfl, rfl⟩⟩
theorem k37_mkM (w : World) (base : Nat) (ok : Nat → Prop) (x : S37)  : k37.M w base ok x [.string x.f0, .int .i32 x.f1, .bool x.f2] := ⟨[.string x.f0], [.int .i32 x.f1, .bool x.f2], rfl, rfl, ⟨[.int .i32 x.f1], [.bool x.f2], rfl, rfl, rfl⟩⟩
def rd_T37 (xs : List S37) (i : Int) : S37 := xs.getD i.toNat z37
theorem at_T37 {w : World} {A : Option Addr} {n : Nat} {xs : List S37} (h : Kd.C k37 w A n xs) (i : Int) (h0 : 0 ≤ i) (h1 : i < n) : ∃ ad , A = some ad ∧ w.cell? (ad.add (i.toNat * 3)) = some (.string (rd_T37 xs i).f0) ∧ w.cell? ⟨(ad.add (i.toNat * 3)).block, (ad.add (i.toNat * 3)).off + 1, none⟩ = some (.int .i32 (rd_T37 xs i).f1) ∧ w.cell? ⟨(ad.add (i.toNat * 3)).block, (ad.add (i.toNat * 3)).off + 2, none⟩ = some (.bool (rd_T37 xs i).f2) := by
  obtain ⟨ad, c, e, _, hK, hc0⟩ := Kd.C_get h z37 i h0 h1
  have hc : ∀ j u, c[j]? = some u → w.cell? (ad.add (i.toNat * 3 + j)) = some u := hc0
  obtain rfl := k37_open hK
  exact ⟨ad, e, hc 0 _ rfl, by rw [← add_field _ _ 1 (by omega)]; exact hc 1 _ rfl, by rw [← add_field _ _ 2 (by omega)]; exact hc 2 _ rfl⟩

end Go.Proofs.YtlgoghonnnobfaaDoor.PFnPathThere

-- Written by a program of this session's (over the kit's print), with contracts proved by hand among what it calls.
import Derived.Test.YtfegihmnpcjdgaaProg
import Derived.Below
import Derived.Deep.Draws
import Derived.Deep.AppendLies
import Derived.Maps.AppendAt
import Derived.OwnWalk
import Derived.Laws.BytesArg
import Derived.Laws.MakeOwn
import Derived.Laws.OwnMore
import Derived.Deep.OwnRows
import Derived.Tactics
import Derived.Lib.ConvBytes
import Derived.Laws.Slices
import Derived.WalkKit
import Derived.KernelRfl
import Derived.RowKit3
import Derived.Deep.LoopGhost
import Derived.Deep.QuietTactic
import Derived.BigQuiet
import Derived.WideLaws
import Derived.Deep.DeepCutAuto
import Derived.Deep.CutBlock
import Derived.Deep.RegionHeld3
import Derived.Laws.Rows
import Derived.Lib.AppendStr
import Derived.ArgAppend
import Derived.Laws.IdiomCopy
import Derived.OrdersHeld
import Derived.Laws.BitsLemmas
import Derived.RowKit
import Derived.Lib.Hide
import Derived.Test.YtfegihmnpcjdgaaRang9
import Derived.Lib.Hide
import Derived.Test.YtfegihmnpcjdgaaRang10
import Derived.Lib.Hide
import Derived.Test.YtfegihmnpcjdgaaRang14
import Derived.Test.YtfegihmnpcjdgaaWWords
import Derived.Test.YtfegihmnpcjdgaaWLast
import Derived.Test.YtfegihmnpcjdgaaWTab
import Derived.Test.YtfegihmnpcjdgaaWFour
import Derived.Test.YtfegihmnpcjdgaaWQPut
import Derived.Test.YtfegihmnpcjdgaaWApart
import Derived.Test.YtfegihmnpcjdgaaWArr
import Derived.Test.YtfegihmnpcjdgaaWZeros
import Derived.Test.YtfegihmnpcjdgaaWFoot
import Derived.Test.YtfegihmnpcjdgaaWKept
import Derived.Test.YtfegihmnpcjdgaaWShare
import Derived.Test.YtfegihmnpcjdgaaWN
import Derived.Test.YtfegihmnpcjdgaaWFootNe
import Derived.Test.YtfegihmnpcjdgaaWAt
import Derived.Test.YtfegihmnpcjdgaaWEqStruct
import Derived.Test.YtfegihmnpcjdgaaWRepsOne
import Derived.Test.YtfegihmnpcjdgaaWInv
import Derived.Test.YtfegihmnpcjdgaaWInvWords
import Derived.Test.YtfegihmnpcjdgaaWGuard
import Derived.Test.YtfegihmnpcjdgaaWNEv
import Derived.Test.YtfegihmnpcjdgaaWMore
namespace Go.Proofs.Ytfegihmnpcjdgaa.PFnRangesFill
open Go.RowKit Go.Proofs.YtfegihmnpcjdgaaW.PrintWords Go.Proofs.YtfegihmnpcjdgaaW.PrintLast Go.Proofs.YtfegihmnpcjdgaaW.PrintMore
attribute [local go_sem] max2_int min2_int max_two min_two max_three min_three max_four min_four   -- for this text's walks alone
set_option linter.unusedVariables false
set_option linter.unusedSimpArgs false



def errW : Option Int → Value
  | none => .nilIface
  | some c => .iface 0 (.int .i64 c)
theorem errW_none : errW none = .nilIface := rfl
theorem errW_some (c : Int) : errW (some c) = .iface 0 (.int .i64 c) := rfl

theorem xt_ne_nil (l : List UInt8) : (l != ([] : List UInt8)) = !l.isEmpty := by cases l <;> rfl
theorem info28 : (Try.prog.info? 28).map (fun i => (i.zero, i.size, i.bytes)) = some (some (.agg #[(.int .i64 0), (.int .i64 0)]), 2, 16) := by kernel_rfl
theorem info37 : (Try.prog.info? 37).map (fun i => (i.zero, i.size, i.bytes)) = some (some (.agg #[(.int .i64 0), (.int .i64 0), (.bool false)]), 3, 24) := by kernel_rfl
theorem info77 : (Try.prog.info? 77).map (fun i => (i.zero, i.size, i.bytes)) = some (some (.agg #[(.int .i64 0), (.int .i64 0), (.bool false)]), 3, 24) := by kernel_rfl
-- the values' own types
/-! #### struct type 28 -/
structure S28 where
  f0 : Int
  f1 : Int
def z28 : S28 := ⟨(0 : Int), (0 : Int)⟩
def k28 : Kd S28 := Kd.iso (Kd.pair (Kd.int .i64) (Kd.int .i64)) (fun x : S28 => (x.f0, x.f1))
theorem k28_open {w : World} {x : S28} {cs : List Value} (h : k28.K w x cs) : cs = [.int .i64 x.f0, .int .i64 x.f1] := by
  obtain ⟨_, _, rfl, rfl, rfl⟩ := h
  exact rfl
theorem k28_openM {w : World} {base : Nat} {ok : Nat → Prop} {x : S28} {cs : List Value} (h : k28.M w base ok x cs) : cs = [.int .i64 x.f0, .int .i64 x.f1] := by
  obtain ⟨_, _, rfl, rfl, rfl⟩ := h
  exact rfl
theorem k28_mk (w : World) (x : S28)  : k28.K w x [.int .i64 x.f0, .int .i64 x.f1] := ⟨[.int .i64 x.f0], [.int .i64 x.f1], rfl, rfl, rfl⟩
theorem k28_mkM (w : World) (base : Nat) (ok : Nat → Prop) (x : S28)  : k28.M w base ok x [.int .i64 x.f0, .int .i64 x.f1] := ⟨[.int .i64 x.f0], [.int .i64 x.f1], rfl, rfl, rfl⟩
def rd_T28 (xs : List S28) (i : Int) : S28 := xs.getD i.toNat z28
theorem at_T28 {w : World} {A : Option Addr} {n : Nat} {xs : List S28} (h : Kd.C k28 w A n xs) (i : Int) (h0 : 0 ≤ i) (h1 : i < n) : ∃ ad , A = some ad ∧ w.cell? (ad.add (i.toNat * 2)) = some (.int .i64 (rd_T28 xs i).f0) ∧ w.cell? ⟨(ad.add (i.toNat * 2)).block, (ad.add (i.toNat * 2)).off + 1, none⟩ = some (.int .i64 (rd_T28 xs i).f1) := by
  obtain ⟨ad, c, e, _, hK, hc0⟩ := Kd.C_get h z28 i h0 h1
  have hc : ∀ j u, c[j]? = some u → w.cell? (ad.add (i.toNat * 2 + j)) = some u := hc0
  obtain rfl := k28_open hK
  exact ⟨ad, e, hc 0 _ rfl, by rw [← add_field _ _ 1 (by omega)]; exact hc 1 _ rfl⟩

/-! #### struct type 61 -/
structure S61 where
  f0 : Int
  f1 : Int
def z61 : S61 := ⟨(0 : Int), (0 : Int)⟩
def k61 : Kd S61 := Kd.iso (Kd.pair (Kd.int .i64) (Kd.int .i64)) (fun x : S61 => (x.f0, x.f1))
theorem k61_open {w : World} {x : S61} {cs : List Value} (h : k61.K w x cs) : cs = [.int .i64 x.f0, .int .i64 x.f1] := by
  obtain ⟨_, _, rfl, rfl, rfl⟩ := h
  exact rfl
theorem k61_openM {w : World} {base : Nat} {ok : Nat → Prop} {x : S61} {cs : List Value} (h : k61.M w base ok x cs) : cs = [.int .i64 x.f0, .int .i64 x.f1] := by
  obtain ⟨_, _, rfl, rfl, rfl⟩ := h
  exact rfl
theorem k61_mk (w : World) (x : S61)  : k61.K w x [.int .i64 x.f0, .int .i64 x.f1] := ⟨[.int .i64 x.f0], [.int .i64 x.f1], rfl, rfl, rfl⟩
theorem k61_mkM (w : World) (base : Nat) (ok : Nat → Prop) (x : S61)  : k61.M w base ok x [.int .i64 x.f0, .int .i64 x.f1] := ⟨[.int .i64 x.f0], [.int .i64 x.f1], rfl, rfl, rfl⟩
def rd_T61 (xs : List S61) (i : Int) : S61 := xs.getD i.toNat z61
theorem at_T61 {w : World} {A : Option Addr} {n : Nat} {xs : List S61} (h : Kd.C k61 w A n xs) (i : Int) (h0 : 0 ≤ i) (h1 : i < n) : ∃ ad , A = some ad ∧ w.cell? (ad.add (i.toNat * 2)) = some (.int .i64 (rd_T61 xs i).f0) ∧ w.cell? ⟨(ad.add (i.toNat * 2)).block, (ad.add (i.toNat * 2)).off + 1, none⟩ = some (.int .i64 (rd_T61 xs i).f1) := by
  obtain ⟨ad, c, e, _, hK, hc0⟩ := Kd.C_get h z61 i h0 h1
  have hc : ∀ j u, c[j]? = some u → w.cell? (ad.add (i.toNat * 2 + j)) = some u := hc0
  obtain rfl := k61_open hK
  exact ⟨ad, e, hc 0 _ rfl, by rw [← add_field _ _ 1 (by omega)]; exact hc 1 _ rfl⟩

/-! #### struct type 77 -/
structure S77 where
  f0 : S61
  f1 : Bool
def z77 : S77 := ⟨z61, false⟩
def k77 : Kd S77 := Kd.iso (Kd.pair k61 Kd.bool) (fun x : S77 => (x.f0, x.f1))
theorem k77_open {w : World} {x : S77} {cs : List Value} (h : k77.K w x cs) : cs = [.int .i64 x.f0.f0, .int .i64 x.f0.f1, .bool x.f1] := by
  obtain ⟨_, _, rfl, s0, rfl⟩ := h
  obtain rfl := k61_open s0
  exact rfl
theorem k77_openM {w : World} {base : Nat} {ok : Nat → Prop} {x : S77} {cs : List Value} (h : k77.M w base ok x cs) : cs = [.int .i64 x.f0.f0, .int .i64 x.f0.f1, .bool x.f1] := by
  obtain ⟨_, _, rfl, s0, rfl⟩ := h
  obtain rfl := k61_openM s0
  exact rfl
theorem k77_mk (w : World) (x : S77)  : k77.K w x [.int .i64 x.f0.f0, .int .i64 x.f0.f1, .bool x.f1] := ⟨[.int .i64 x.f0.f0, .int .i64 x.f0.f1], [.bool x.f1], rfl, (k61_mk w x.f0 ), rfl⟩
theorem k77_mkM (w : World) (base : Nat) (ok : Nat → Prop) (x : S77)  : k77.M w base ok x [.int .i64 x.f0.f0, .int .i64 x.f0.f1, .bool x.f1] := ⟨[.int .i64 x.f0.f0, .int .i64 x.f0.f1], [.bool x.f1], rfl, (k61_mkM w base ok x.f0 ), rfl⟩
def rd_T77 (xs : List S77) (i : Int) : S77 := xs.getD i.toNat z77
theorem at_T77 {w : World} {A : Option Addr} {n : Nat} {xs : List S77} (h : Kd.C k77 w A n xs) (i : Int) (h0 : 0 ≤ i) (h1 : i < n) : ∃ ad , A = some ad ∧ w.cell? (ad.add (i.toNat * 3)) = some (.int .i64 (rd_T77 xs i).f0.f0) ∧ w.cell? ⟨(ad.add (i.toNat * 3)).block, (ad.add (i.toNat * 3)).off + 1, none⟩ = some (.int .i64 (rd_T77 xs i).f0.f1) ∧ w.cell? ⟨(ad.add (i.toNat * 3)).block, (ad.add (i.toNat * 3)).off + 2, none⟩ = some (.bool (rd_T77 xs i).f1) := by
  obtain ⟨ad, c, e, _, hK, hc0⟩ := Kd.C_get h z77 i h0 h1
  have hc : ∀ j u, c[j]? = some u → w.cell? (ad.add (i.toNat * 3 + j)) = some u := hc0
  obtain rfl := k77_open hK
  exact ⟨ad, e, hc 0 _ rfl, by rw [← add_field _ _ 1 (by omega)]; exact hc 1 _ rfl, by rw [← add_field _ _ 2 (by omega)]; exact hc 2 _ rfl⟩

/-! #### struct type 37 -/
structure S37 where
  f0 : S28
  f1 : Bool
def z37 : S37 := ⟨z28, false⟩
def k37 : Kd S37 := Kd.iso (Kd.pair k28 Kd.bool) (fun x : S37 => (x.f0, x.f1))
theorem k37_open {w : World} {x : S37} {cs : List Value} (h : k37.K w x cs) : cs = [.int .i64 x.f0.f0, .int .i64 x.f0.f1, .bool x.f1] := by
  obtain ⟨_, _, rfl, s0, rfl⟩ := h
  obtain rfl := k28_open s0
  exact rfl
theorem k37_openM {w : World} {base : Nat} {ok : Nat → Prop} {x : S37} {cs : List Value} (h : k37.M w base ok x cs) : cs = [.int .i64 x.f0.f0, .int .i64 x.f0.f1, .bool x.f1] := by
  obtain ⟨_, _, rfl, s0, rfl⟩ := h
  obtain rfl := k28_openM s0
  exact rfl
theorem k37_mk (w : World) (x : S37)  : k37.K w x [.int .i64 x.f0.f0, .int .i64 x.f0.f1, .bool x.f1] := ⟨[.int .i64 x.f0.f0, .int .i64 x.f0.f1], [.bool x.f1], rfl, (k28_mk w x.f0 ), rfl⟩
theorem k37_mkM (w : World) (base : Nat) (ok : Nat → Prop) (x : S37)  : k37.M w base ok x [.int .i64 x.f0.f0, .int .i64 x.f0.f1, .bool x.f1] := ⟨[.int .i64 x.f0.f0, .int .i64 x.f0.f1], [.bool x.f1], rfl, (k28_mkM w base ok x.f0 ), rfl⟩
def rd_T37 (xs : List S37) (i : Int) : S37 := xs.getD i.toNat z37
theorem at_T37 {w : World} {A : Option Addr} {n : Nat} {xs : List S37} (h : Kd.C k37 w A n xs) (i : Int) (h0 : 0 ≤ i) (h1 : i < n) : ∃ ad , A = some ad ∧ w.cell? (ad.add (i.toNat * 3)) = some (.int .i64 (rd_T37 xs i).f0.f0) ∧ w.cell? ⟨(ad.add (i.toNat * 3)).block, (ad.add (i.toNat * 3)).off + 1, none⟩ = some (.int .i64 (rd_T37 xs i).f0.f1) ∧ w.cell? ⟨(ad.add (i.toNat * 3)).block, (ad.add (i.toNat * 3)).off + 2, none⟩ = some (.bool (rd_T37 xs i).f1) := by
  obtain ⟨ad, c, e, _, hK, hc0⟩ := Kd.C_get h z37 i h0 h1
  have hc : ∀ j u, c[j]? = some u → w.cell? (ad.add (i.toNat * 3 + j)) = some u := hc0
  obtain rfl := k37_open hK
  exact ⟨ad, e, hc 0 _ rfl, by rw [← add_field _ _ 1 (by omega)]; exact hc 1 _ rfl, by rw [← add_field _ _ 2 (by omega)]; exact hc 2 _ rfl⟩

end Go.Proofs.Ytfegihmnpcjdgaa.PFnRangesFill

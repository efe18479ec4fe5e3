/- The shelf's contracts at this translation, in plain words (lay-shelf.mjs, lay-plain.mjs). -/
import Derived.Shelf.Strings.OnBuilder
import Derived.Shelf.LaysM
import Derived.Shelf.LaysC
import Derived.Test.YtlgoghonnnobfaaDoorProg
namespace Go.Proofs.YtlgoghonnnobfaaDoor.Shelg
open Go.Shelf
def Tryd.lays156_ren : Go.Shelf.Ren := ⟨fun | 156 => 71 | 165 => 80 | 166 => 81 | 169 => 82 | 240 => 90 | 241 => 91 | 276 => 95 | 277 => 96 | n => n, fun | 31 => 27 | 9 => 9 | 3 => 3 | 4 => 4 | 0 => 0 | 20 => 20 | 72 => 100 | 76 => 60 | 70 => 98 | 37 => 28 | 75 => 59 | 127 => 107 | 164 => 112 | 5 => 5 | 80 => 65 | n => n, fun | n => n⟩
theorem Tryd.lays156 : Go.Proofs.Lays.n156 Tryd.prog Tryd.lays156_ren := {
  mixed := by kernel_rfl
  f156 := Tryd.func71.trans (congrArg some (by kernel_rfl))
  f165 := Tryd.func80.trans (congrArg some (by kernel_rfl))
  f166 := Tryd.func81.trans (congrArg some (by kernel_rfl))
  f169 := Tryd.func82.trans (congrArg some (by kernel_rfl))
  f240 := Tryd.func90.trans (congrArg some (by kernel_rfl))
  f241 := Tryd.func91.trans (congrArg some (by kernel_rfl))
  f276 := Tryd.func95.trans (congrArg some (by kernel_rfl))
  f277 := Tryd.func96.trans (congrArg some (by kernel_rfl))
  t0 := Tryd.underlying0
  a0 := Tryd.isAgg0
  z0 := Tryd.sizeOf0
  v0 := Tryd.zeroValue0
  t3 := Tryd.underlying3
  a3 := Tryd.isAgg3
  z3 := Tryd.sizeOf3
  v3 := Tryd.zeroValue3
  t4 := Tryd.underlying4
  a4 := Tryd.isAgg4
  z4 := Tryd.sizeOf4
  v4 := Tryd.zeroValue4
  t9 := Tryd.underlying9
  a9 := Tryd.isAgg9
  z9 := Tryd.sizeOf9
  v9 := Tryd.zeroValue9
  t20 := Tryd.underlying20
  a20 := Tryd.isAgg20
  z20 := Tryd.sizeOf20
  v20 := Tryd.zeroValue20
  t31 := Tryd.underlying27
  a31 := Tryd.isAgg27
  z31 := Tryd.sizeOf27
  v31 := Tryd.zeroValue27
  t37 := Tryd.underlying28
  a37 := Tryd.isAgg28
  z37 := Tryd.sizeOf28
  v37 := Tryd.zeroValue28
  t70 := Tryd.underlying98
  a70 := Tryd.isAgg98
  z70 := Tryd.sizeOf98
  v70 := Tryd.zeroValue98
  t72 := Tryd.underlying100
  a72 := Tryd.isAgg100
  z72 := Tryd.sizeOf100
  v72 := Tryd.zeroValue100
  t75 := Tryd.underlying59
  a75 := Tryd.isAgg59
  z75 := Tryd.sizeOf59
  v75 := Tryd.zeroValue59
  t76 := Tryd.underlying60
  a76 := Tryd.isAgg60
  z76 := Tryd.sizeOf60
  v76 := Tryd.zeroValue60
  t127 := Tryd.underlying107
  a127 := Tryd.isAgg107
  z127 := Tryd.sizeOf107
  v127 := Tryd.zeroValue107
  t164 := Tryd.underlying112
  a164 := Tryd.isAgg112
  z164 := Tryd.sizeOf112
  v164 := Tryd.zeroValue112 }
theorem Tryd.Builder_Extra_156 : Builder.Extra Tryd.prog Tryd.lays156_ren := {
  sizeBuilder := by kernel_rfl
  liesBuilder := by kernel_rfl
  t5 := Tryd.underlying5
  a5 := Tryd.isAgg5
  z5 := Tryd.sizeOf5
  v5 := Tryd.zeroValue5
  infoByte := by kernel_rfl
  cellsByte := by kernel_rfl
  sizeByte := by kernel_rfl
  neB5 := by decide }
open Go.RowKit in
theorem Tryd.strings_Join (bk o c : Nat) (xs : List ByteArray) (sep : ByteArray) (w : World) (hcells : ∀ (j : Nat) x, xs[j]? = some x → w.cell? ⟨bk, o + j, none⟩ = some (.string x)) (hbk : bk < w.heap.size) (hN : xs.length ≤ 140737488355328) (hcap : xs.length ≤ c) (hlen : (Lib.join (xs.map (·.data.toList)) sep.data.toList).length ≤ 140737488355328) :
    Calls Tryd.prog 71 #[.slice (some ⟨bk, o, none⟩) xs.length c, .string sep] w fun e w' => e = .returned (.string ⟨(Lib.join (xs.map (·.data.toList)) sep.data.toList).toArray⟩) ∧ Below w.heap.size w w' := Any.strings_Join Tryd.lays156 Tryd.Builder_Extra_156 bk o c xs sep w hcells hbk hN hcap hlen
end Go.Proofs.YtlgoghonnnobfaaDoor.Shelg

/- The shelf's contracts at this translation, in plain words (lay-shelf.mjs, lay-plain.mjs). -/
import Derived.Shelf.Strings.Builder1
import Derived.Shelf.Small.Utf8
import Derived.Shelf.Strings.BuilderF
import Derived.Shelf.Strings.BuilderK
import Derived.Shelf.Utf8.AppendRunePlain
import Derived.Shelf.Strconv.Itoa0
import Derived.Shelf.LaysM
import Derived.Shelf.Bytes.Len
import Derived.Shelf.Bytes.TryGrow
import Derived.Shelf.Bytes.GrowSliceCatch
import Derived.Shelf.Bytes.GrowSlice
import Derived.Shelf.Bytes.GrowRow0
import Derived.Shelf.Bytes.GrowRow
import Derived.Shelf.Bytes.GrowNil
import Derived.Shelf.Bytes.Grow
import Derived.Shelf.Bytes.WriteByte
import Derived.Shelf.Bytes.WriteString
import Derived.Shelf.Bytes.String
import Derived.Shelf.Bytes.Reset
import Derived.Shelf.Bytes.Write
import Derived.Shelf.Strconv.Clone
import Derived.Shelf.Strconv.SyntaxError
import Derived.Shelf.LaysC
import Derived.Shelf.Strconv.ToError
import Derived.Shelf.Strconv.Lower
import Derived.Shelf.Strconv.ParseUint10
import Derived.Shelf.Strconv.ParseUint10Empty
import Derived.Shelf.Strconv.ParseUint10Any
import Derived.Shelf.Strconv.RangeError
import Derived.Shelf.Strconv.ToErrorRange
import Derived.Shelf.Strconv.ParseUintEmpty
import Derived.Shelf.Strconv.ParseUint10b64
import Derived.Shelf.Strconv.ParseUint10b32
import Derived.Shelf.Strconv.ParseUint10b16
import Derived.Shelf.Strconv.ParseUint10b8
import Derived.Shelf.Strconv.ParseUint10At
import Derived.Ground.MpProg
import Derived.Shelf.Pu.ParseUintPublic10
import Derived.Shelf.Pu.ErrVarParseUint
import Derived.Shelf.Bytes.GrowRow0Kept
import Derived.Shelf.Bytes.GrowRowKept
import Derived.Shelf.Bytes.GrowNilKept
import Derived.Shelf.Bytes.GrowKept
import Derived.Shelf.Bytes.WriteByteKept
import Derived.Shelf.Bytes.WriteStringKept
import Derived.Shelf.Bytes.ResetKept
import Derived.Shelf.Bytes.WriteKept
import Derived.Shelf.Bytes.BufferK
import Derived.Shelf.Bytes.GrowRow0Own
import Derived.Shelf.Bytes.GrowRowOwn
import Derived.Shelf.Bytes.GrowNilOwn
import Derived.Shelf.Bytes.GrowOwn
import Derived.Shelf.Bytes.WriteAny
import Derived.Ground.MzProg
import Derived.Shelf.Wr.WriteRuneAscii
import Derived.Shelf.Wr.WriteRune
import Derived.Shelf.Bytes.LenAt
import Derived.Shelf.Bytes.StringAt
import Derived.Shelf.Bytes.TryGrowAt
import Derived.Shelf.Bytes.GrowRow0At
import Derived.Shelf.GgClosure.StringsIndexFunc
import Derived.Ground.GgwProg
import Derived.Shelf.GgClosure.StringsIndexFuncTop
import Derived.Shelf.Unicode.DecodeSlow
import Derived.Shelf.Unicode.DecodeAny
import Derived.Shelf.Unicode.DecodeLast
import Derived.Shelf.Strings.FuncGrows
import Derived.Test.YtlgoghonnnobfaaDoorProg
namespace Go.Proofs.YtlgoghonnnobfaaDoor.Shelf
open Go.Shelf
def Tryd.laysM181_ren : Go.Shelf.Ren := ⟨fun | 181 => 73 | n => n, fun | 130 => 64 | 3 => 3 | 0 => 0 | 93 => 56 | 37 => 28 | 91 => 54 | 5 => 5 | n => n, fun | n => n⟩
theorem Tryd.laysM181 : Go.Proofs.LaysM.n181 Tryd.prog Tryd.laysM181_ren := {
  mixed := by kernel_rfl
  f181 := Tryd.func73.trans (congrArg some (by kernel_rfl))
  t0 := Tryd.underlying0
  a0 := Tryd.isAgg0
  z0 := Tryd.sizeOf0
  v0 := Tryd.zeroValue0
  t3 := Tryd.underlying3
  a3 := Tryd.isAgg3
  z3 := Tryd.sizeOf3
  v3 := Tryd.zeroValue3
  t37 := Tryd.underlying28
  a37 := Tryd.isAgg28
  z37 := Tryd.sizeOf28
  v37 := Tryd.zeroValue28
  t93 := Tryd.underlying56
  a93 := Tryd.isAgg56
  z93 := Tryd.sizeOf56
  v93 := Tryd.zeroValue56
  t130 := Tryd.underlying64
  a130 := Tryd.isAgg64
  z130 := Tryd.sizeOf64
  v130 := Tryd.zeroValue64
  t5 := Tryd.underlying5
  a5 := Tryd.isAgg5
  z5 := Tryd.sizeOf5
  v5 := Tryd.zeroValue5
  t91 := Tryd.underlying54
  a91 := Tryd.isAgg54
  z91 := Tryd.sizeOf54
  v91 := Tryd.zeroValue54
  i0 := by kernel_rfl
  i3 := by kernel_rfl
  i5 := by kernel_rfl
  i37 := by kernel_rfl
  i91 := by kernel_rfl
  i93 := by kernel_rfl
  i130 := by kernel_rfl }
open Go.RowKit in
theorem Tryd.Buffer_Len (B b : Nat) (bs : List Value) (w : World) (h : Lib.IsBuffer 56 5 B b bs w) :
    Calls Tryd.prog 73 #[.pointer (some ⟨b, 0, none⟩)] w fun e w' => e = .returned (.int .i64 bs.length) ∧ ∃ n, w' = w.drewN n := Any.Buffer_Len Tryd.laysM181 B b bs w h
def Tryd.laysM251_ren : Go.Shelf.Ren := ⟨fun | 251 => 64 | n => n, fun | 130 => 64 | 3 => 3 | 4 => 4 | 0 => 0 | 93 => 56 | 37 => 28 | 91 => 54 | 5 => 5 | n => n, fun | n => n⟩
theorem Tryd.laysM251 : Go.Proofs.LaysM.n251 Tryd.prog Tryd.laysM251_ren := {
  mixed := by kernel_rfl
  f251 := Tryd.func64.trans (congrArg some (by kernel_rfl))
  t0 := Tryd.underlying0
  a0 := Tryd.isAgg0
  z0 := Tryd.sizeOf0
  v0 := Tryd.zeroValue0
  t3 := Tryd.underlying3
  a3 := Tryd.isAgg3
  z3 := Tryd.sizeOf3
  v3 := Tryd.zeroValue3
  t4 := Tryd.underlying4
  a4 := Tryd.isAgg4
  z4 := Tryd.sizeOf4
  v4 := Tryd.zeroValue4
  t37 := Tryd.underlying28
  a37 := Tryd.isAgg28
  z37 := Tryd.sizeOf28
  v37 := Tryd.zeroValue28
  t93 := Tryd.underlying56
  a93 := Tryd.isAgg56
  z93 := Tryd.sizeOf56
  v93 := Tryd.zeroValue56
  t130 := Tryd.underlying64
  a130 := Tryd.isAgg64
  z130 := Tryd.sizeOf64
  v130 := Tryd.zeroValue64
  t5 := Tryd.underlying5
  a5 := Tryd.isAgg5
  z5 := Tryd.sizeOf5
  v5 := Tryd.zeroValue5
  t91 := Tryd.underlying54
  a91 := Tryd.isAgg54
  z91 := Tryd.sizeOf54
  v91 := Tryd.zeroValue54
  i0 := by kernel_rfl
  i3 := by kernel_rfl
  i4 := by kernel_rfl
  i5 := by kernel_rfl
  i37 := by kernel_rfl
  i91 := by kernel_rfl
  i93 := by kernel_rfl
  i130 := by kernel_rfl }
open Go.RowKit in
theorem Tryd.Buffer_tryGrow_room (b : Nat) (ao : Option Addr) (l cap n : Nat) (w : World) (c0 : w.cell? ⟨b, 0, none⟩ = some (.slice ao l cap)) (f0 : w.frozen? ⟨b, 0, none⟩ = false) (hlc : l ≤ cap) (hcap : cap ≤ maxLen) (hn : n ≤ cap - l) :
    Calls Tryd.prog 64 #[.pointer (some ⟨b, 0, none⟩), .int .i64 n] w fun e w' => e = .returned (.tuple #[.int .i64 l, .bool true]) ∧ w' = w.setCell ⟨b, 0, none⟩ (.slice ao (l + n) cap) := Any.Buffer_tryGrow_room Tryd.laysM251 b ao l cap n w c0 f0 hlc hcap hn
def Tryd.laysM252_ren : Go.Shelf.Ren := ⟨fun | 252 => 63 | 181 => 73 | 184 => 74 | 251 => 64 | 290 => 75 | 324 => 83 | n => n, fun | 130 => 64 | 3 => 3 | 4 => 4 | 0 => 0 | 93 => 56 | 131 => 75 | 37 => 28 | 75 => 59 | 91 => 54 | 20 => 20 | 5 => 5 | 80 => 65 | 9 => 9 | n => n, fun | 14 => 2 | n => n⟩
theorem Tryd.laysM252 : Go.Proofs.LaysM.n252 Tryd.prog Tryd.laysM252_ren := {
  mixed := by kernel_rfl
  f181 := Tryd.func73.trans (congrArg some (by kernel_rfl))
  f184 := Tryd.func74.trans (congrArg some (by kernel_rfl))
  f251 := Tryd.func64.trans (congrArg some (by kernel_rfl))
  f252 := Tryd.func63.trans (congrArg some (by kernel_rfl))
  f290 := Tryd.func75.trans (congrArg some (by kernel_rfl))
  f324 := Tryd.func83.trans (congrArg some (by kernel_rfl))
  t0 := Tryd.underlying0
  a0 := Tryd.isAgg0
  z0 := Tryd.sizeOf0
  v0 := Tryd.zeroValue0
  t3 := Tryd.underlying3
  a3 := Tryd.isAgg3
  z3 := Tryd.sizeOf3
  v3 := Tryd.zeroValue3
  t4 := Tryd.underlying4
  a4 := Tryd.isAgg4
  z4 := Tryd.sizeOf4
  v4 := Tryd.zeroValue4
  t20 := Tryd.underlying20
  a20 := Tryd.isAgg20
  z20 := Tryd.sizeOf20
  v20 := Tryd.zeroValue20
  t37 := Tryd.underlying28
  a37 := Tryd.isAgg28
  z37 := Tryd.sizeOf28
  v37 := Tryd.zeroValue28
  t75 := Tryd.underlying59
  a75 := Tryd.isAgg59
  z75 := Tryd.sizeOf59
  v75 := Tryd.zeroValue59
  t91 := Tryd.underlying54
  a91 := Tryd.isAgg54
  z91 := Tryd.sizeOf54
  v91 := Tryd.zeroValue54
  t93 := Tryd.underlying56
  a93 := Tryd.isAgg56
  z93 := Tryd.sizeOf56
  v93 := Tryd.zeroValue56
  t130 := Tryd.underlying64
  a130 := Tryd.isAgg64
  z130 := Tryd.sizeOf64
  v130 := Tryd.zeroValue64
  t131 := Tryd.underlying75
  a131 := Tryd.isAgg75
  z131 := Tryd.sizeOf75
  v131 := Tryd.zeroValue75
  g14 := by kernel_rfl
  t5 := Tryd.underlying5
  a5 := Tryd.isAgg5
  z5 := Tryd.sizeOf5
  v5 := Tryd.zeroValue5
  t9 := Tryd.underlying9
  a9 := Tryd.isAgg9
  z9 := Tryd.sizeOf9
  v9 := Tryd.zeroValue9
  t80 := Tryd.underlying65
  a80 := Tryd.isAgg65
  z80 := Tryd.sizeOf65
  v80 := Tryd.zeroValue65
  i0 := by kernel_rfl
  i3 := by kernel_rfl
  i4 := by kernel_rfl
  i5 := by kernel_rfl
  i9 := by kernel_rfl
  i20 := by kernel_rfl
  i37 := by kernel_rfl
  i75 := by kernel_rfl
  i80 := by kernel_rfl
  i91 := by kernel_rfl
  i93 := by kernel_rfl
  i130 := by kernel_rfl
  i131 := by kernel_rfl
  m14 := by kernel_rfl }
def Tryd.laysM178_ren : Go.Shelf.Ren := ⟨fun | 178 => 46 | 251 => 64 | 252 => 63 | 181 => 73 | 184 => 74 | 290 => 75 | 324 => 83 | n => n, fun | 130 => 64 | 9 => 9 | 3 => 3 | 75 => 59 | 0 => 0 | 93 => 56 | 91 => 54 | 131 => 75 | 4 => 4 | 37 => 28 | 20 => 20 | 80 => 65 | 5 => 5 | n => n, fun | 14 => 2 | n => n⟩
theorem Tryd.laysM178 : Go.Proofs.LaysM.n178 Tryd.prog Tryd.laysM178_ren := {
  mixed := by kernel_rfl
  f178 := Tryd.func46.trans (congrArg some (by kernel_rfl))
  f181 := Tryd.func73.trans (congrArg some (by kernel_rfl))
  f184 := Tryd.func74.trans (congrArg some (by kernel_rfl))
  f251 := Tryd.func64.trans (congrArg some (by kernel_rfl))
  f252 := Tryd.func63.trans (congrArg some (by kernel_rfl))
  f290 := Tryd.func75.trans (congrArg some (by kernel_rfl))
  f324 := Tryd.func83.trans (congrArg some (by kernel_rfl))
  t0 := Tryd.underlying0
  a0 := Tryd.isAgg0
  z0 := Tryd.sizeOf0
  v0 := Tryd.zeroValue0
  t3 := Tryd.underlying3
  a3 := Tryd.isAgg3
  z3 := Tryd.sizeOf3
  v3 := Tryd.zeroValue3
  t4 := Tryd.underlying4
  a4 := Tryd.isAgg4
  z4 := Tryd.sizeOf4
  v4 := Tryd.zeroValue4
  t9 := Tryd.underlying9
  a9 := Tryd.isAgg9
  z9 := Tryd.sizeOf9
  v9 := Tryd.zeroValue9
  t20 := Tryd.underlying20
  a20 := Tryd.isAgg20
  z20 := Tryd.sizeOf20
  v20 := Tryd.zeroValue20
  t37 := Tryd.underlying28
  a37 := Tryd.isAgg28
  z37 := Tryd.sizeOf28
  v37 := Tryd.zeroValue28
  t75 := Tryd.underlying59
  a75 := Tryd.isAgg59
  z75 := Tryd.sizeOf59
  v75 := Tryd.zeroValue59
  t91 := Tryd.underlying54
  a91 := Tryd.isAgg54
  z91 := Tryd.sizeOf54
  v91 := Tryd.zeroValue54
  t93 := Tryd.underlying56
  a93 := Tryd.isAgg56
  z93 := Tryd.sizeOf56
  v93 := Tryd.zeroValue56
  t130 := Tryd.underlying64
  a130 := Tryd.isAgg64
  z130 := Tryd.sizeOf64
  v130 := Tryd.zeroValue64
  t131 := Tryd.underlying75
  a131 := Tryd.isAgg75
  z131 := Tryd.sizeOf75
  v131 := Tryd.zeroValue75
  g14 := by kernel_rfl
  t5 := Tryd.underlying5
  a5 := Tryd.isAgg5
  z5 := Tryd.sizeOf5
  v5 := Tryd.zeroValue5
  t80 := Tryd.underlying65
  a80 := Tryd.isAgg65
  z80 := Tryd.sizeOf65
  v80 := Tryd.zeroValue65
  i0 := by kernel_rfl
  i3 := by kernel_rfl
  i4 := by kernel_rfl
  i5 := by kernel_rfl
  i9 := by kernel_rfl
  i20 := by kernel_rfl
  i37 := by kernel_rfl
  i75 := by kernel_rfl
  i80 := by kernel_rfl
  i91 := by kernel_rfl
  i93 := by kernel_rfl
  i130 := by kernel_rfl
  i131 := by kernel_rfl
  m14 := by kernel_rfl }
def Tryd.laysM182_ren : Go.Shelf.Ren := ⟨fun | 182 => 49 | n => n, fun | 130 => 64 | 9 => 9 | 4 => 4 | 0 => 0 | 93 => 56 | 37 => 28 | 3 => 3 | 91 => 54 | 5 => 5 | n => n, fun | n => n⟩
theorem Tryd.laysM182 : Go.Proofs.LaysM.n182 Tryd.prog Tryd.laysM182_ren := {
  mixed := by kernel_rfl
  f182 := Tryd.func49.trans (congrArg some (by kernel_rfl))
  t0 := Tryd.underlying0
  a0 := Tryd.isAgg0
  z0 := Tryd.sizeOf0
  v0 := Tryd.zeroValue0
  t3 := Tryd.underlying3
  a3 := Tryd.isAgg3
  z3 := Tryd.sizeOf3
  v3 := Tryd.zeroValue3
  t4 := Tryd.underlying4
  a4 := Tryd.isAgg4
  z4 := Tryd.sizeOf4
  v4 := Tryd.zeroValue4
  t9 := Tryd.underlying9
  a9 := Tryd.isAgg9
  z9 := Tryd.sizeOf9
  v9 := Tryd.zeroValue9
  t37 := Tryd.underlying28
  a37 := Tryd.isAgg28
  z37 := Tryd.sizeOf28
  v37 := Tryd.zeroValue28
  t93 := Tryd.underlying56
  a93 := Tryd.isAgg56
  z93 := Tryd.sizeOf56
  v93 := Tryd.zeroValue56
  t130 := Tryd.underlying64
  a130 := Tryd.isAgg64
  z130 := Tryd.sizeOf64
  v130 := Tryd.zeroValue64
  t5 := Tryd.underlying5
  a5 := Tryd.isAgg5
  z5 := Tryd.sizeOf5
  v5 := Tryd.zeroValue5
  t91 := Tryd.underlying54
  a91 := Tryd.isAgg54
  z91 := Tryd.sizeOf54
  v91 := Tryd.zeroValue54
  i0 := by kernel_rfl
  i3 := by kernel_rfl
  i4 := by kernel_rfl
  i5 := by kernel_rfl
  i9 := by kernel_rfl
  i37 := by kernel_rfl
  i91 := by kernel_rfl
  i93 := by kernel_rfl
  i130 := by kernel_rfl }
open Go.RowKit in
theorem Tryd.Buffer_String (B b : Nat) (l : List UInt8) (w : World) (h : Lib.IsBuffer 56 5 B b (Lib.byteCells l) w) :
    Calls Tryd.prog 49 #[.pointer (some ⟨b, 0, none⟩)] w fun e w' => e = .returned (.string ⟨l.toArray⟩) ∧ ∃ n, w' = w.drewN n := Any.Buffer_String Tryd.laysM182 B b l w h
def Tryd.laysM180_ren : Go.Shelf.Ren := ⟨fun | 180 => 126 | 251 => 64 | 252 => 63 | 181 => 73 | 184 => 74 | 290 => 75 | 324 => 83 | n => n, fun | 130 => 64 | 37 => 28 | 3 => 3 | 75 => 59 | 0 => 0 | 93 => 56 | 91 => 54 | 131 => 75 | 4 => 4 | 20 => 20 | 5 => 5 | 80 => 65 | 9 => 9 | n => n, fun | 14 => 2 | n => n⟩
theorem Tryd.laysM180 : Go.Proofs.LaysM.n180 Tryd.prog Tryd.laysM180_ren := {
  mixed := by kernel_rfl
  f180 := Tryd.func126.trans (congrArg some (by kernel_rfl))
  f181 := Tryd.func73.trans (congrArg some (by kernel_rfl))
  f184 := Tryd.func74.trans (congrArg some (by kernel_rfl))
  f251 := Tryd.func64.trans (congrArg some (by kernel_rfl))
  f252 := Tryd.func63.trans (congrArg some (by kernel_rfl))
  f290 := Tryd.func75.trans (congrArg some (by kernel_rfl))
  f324 := Tryd.func83.trans (congrArg some (by kernel_rfl))
  t0 := Tryd.underlying0
  a0 := Tryd.isAgg0
  z0 := Tryd.sizeOf0
  v0 := Tryd.zeroValue0
  t3 := Tryd.underlying3
  a3 := Tryd.isAgg3
  z3 := Tryd.sizeOf3
  v3 := Tryd.zeroValue3
  t4 := Tryd.underlying4
  a4 := Tryd.isAgg4
  z4 := Tryd.sizeOf4
  v4 := Tryd.zeroValue4
  t20 := Tryd.underlying20
  a20 := Tryd.isAgg20
  z20 := Tryd.sizeOf20
  v20 := Tryd.zeroValue20
  t37 := Tryd.underlying28
  a37 := Tryd.isAgg28
  z37 := Tryd.sizeOf28
  v37 := Tryd.zeroValue28
  t75 := Tryd.underlying59
  a75 := Tryd.isAgg59
  z75 := Tryd.sizeOf59
  v75 := Tryd.zeroValue59
  t91 := Tryd.underlying54
  a91 := Tryd.isAgg54
  z91 := Tryd.sizeOf54
  v91 := Tryd.zeroValue54
  t93 := Tryd.underlying56
  a93 := Tryd.isAgg56
  z93 := Tryd.sizeOf56
  v93 := Tryd.zeroValue56
  t130 := Tryd.underlying64
  a130 := Tryd.isAgg64
  z130 := Tryd.sizeOf64
  v130 := Tryd.zeroValue64
  t131 := Tryd.underlying75
  a131 := Tryd.isAgg75
  z131 := Tryd.sizeOf75
  v131 := Tryd.zeroValue75
  g14 := by kernel_rfl
  t5 := Tryd.underlying5
  a5 := Tryd.isAgg5
  z5 := Tryd.sizeOf5
  v5 := Tryd.zeroValue5
  t9 := Tryd.underlying9
  a9 := Tryd.isAgg9
  z9 := Tryd.sizeOf9
  v9 := Tryd.zeroValue9
  t80 := Tryd.underlying65
  a80 := Tryd.isAgg65
  z80 := Tryd.sizeOf65
  v80 := Tryd.zeroValue65
  i0 := by kernel_rfl
  i3 := by kernel_rfl
  i4 := by kernel_rfl
  i5 := by kernel_rfl
  i9 := by kernel_rfl
  i20 := by kernel_rfl
  i37 := by kernel_rfl
  i75 := by kernel_rfl
  i80 := by kernel_rfl
  i91 := by kernel_rfl
  i93 := by kernel_rfl
  i130 := by kernel_rfl
  i131 := by kernel_rfl
  m14 := by kernel_rfl }
def Tryd.laysC245_ren : Go.Shelf.Ren := ⟨fun | 245 => 78 | 279 => 86 | 280 => 87 | 281 => 88 | 282 => 89 | 316 => 92 | 171 => 94 | 205 => 93 | 243 => 97 | 246 => 98 | 283 => 99 | 284 => 100 | 285 => 101 | 286 => 102 | 129 => 104 | 317 => 103 | 318 => 105 | 319 => 106 | 320 => 107 | 337 => 108 | 338 => 109 | n => n, fun | 9 => 9 | 3 => 3 | 75 => 59 | 167 => 101 | 4 => 4 | 168 => 104 | 210 => 109 | 37 => 28 | 0 => 0 | 127 => 107 | 145 => 117 | 143 => 115 | 2 => 2 | 171 => 119 | 53 => 83 | 5 => 5 | 173 => 122 | 212 => 125 | 51 => 77 | 20 => 20 | 213 => 126 | 46 => 22 | 232 => 130 | 233 => 131 | 80 => 65 | n => n, fun | 15 => 3 | 16 => 4 | 17 => 6 | 18 => 7 | 19 => 8 | n => n⟩
theorem Tryd.laysC245 : Go.Proofs.LaysC.n245 Tryd.prog Tryd.laysC245_ren := {
  mixed := by kernel_rfl
  f129 := Tryd.func104.trans (congrArg some (by kernel_rfl))
  f171 := Tryd.func94.trans (congrArg some (by kernel_rfl))
  f205 := Tryd.func93.trans (congrArg some (by kernel_rfl))
  f243 := Tryd.func97.trans (congrArg some (by kernel_rfl))
  f245 := Tryd.func78.trans (congrArg some (by kernel_rfl))
  f246 := Tryd.func98.trans (congrArg some (by kernel_rfl))
  f279 := Tryd.func86.trans (congrArg some (by kernel_rfl))
  f280 := Tryd.func87.trans (congrArg some (by kernel_rfl))
  f281 := Tryd.func88.trans (congrArg some (by kernel_rfl))
  f282 := Tryd.func89.trans (congrArg some (by kernel_rfl))
  f283 := Tryd.func99.trans (congrArg some (by kernel_rfl))
  f284 := Tryd.func100.trans (congrArg some (by kernel_rfl))
  f285 := Tryd.func101.trans (congrArg some (by kernel_rfl))
  f286 := Tryd.func102.trans (congrArg some (by kernel_rfl))
  f316 := Tryd.func92.trans (congrArg some (by kernel_rfl))
  f317 := Tryd.func103.trans (congrArg some (by kernel_rfl))
  f318 := Tryd.func105.trans (congrArg some (by kernel_rfl))
  f319 := Tryd.func106.trans (congrArg some (by kernel_rfl))
  f320 := Tryd.func107.trans (congrArg some (by kernel_rfl))
  f337 := Tryd.func108.trans (congrArg some (by kernel_rfl))
  f338 := Tryd.func109.trans (congrArg some (by kernel_rfl))
  t0 := Tryd.underlying0
  a0 := Tryd.isAgg0
  z0 := Tryd.sizeOf0
  v0 := Tryd.zeroValue0
  t2 := Tryd.underlying2
  a2 := Tryd.isAgg2
  z2 := Tryd.sizeOf2
  v2 := Tryd.zeroValue2
  t3 := Tryd.underlying3
  a3 := Tryd.isAgg3
  z3 := Tryd.sizeOf3
  v3 := Tryd.zeroValue3
  t4 := Tryd.underlying4
  a4 := Tryd.isAgg4
  z4 := Tryd.sizeOf4
  v4 := Tryd.zeroValue4
  t5 := Tryd.underlying5
  a5 := Tryd.isAgg5
  z5 := Tryd.sizeOf5
  v5 := Tryd.zeroValue5
  t9 := Tryd.underlying9
  a9 := Tryd.isAgg9
  z9 := Tryd.sizeOf9
  v9 := Tryd.zeroValue9
  t20 := Tryd.underlying20
  a20 := Tryd.isAgg20
  z20 := Tryd.sizeOf20
  v20 := Tryd.zeroValue20
  t37 := Tryd.underlying28
  a37 := Tryd.isAgg28
  z37 := Tryd.sizeOf28
  v37 := Tryd.zeroValue28
  t46 := Tryd.underlying22
  a46 := Tryd.isAgg22
  z46 := Tryd.sizeOf22
  v46 := Tryd.zeroValue22
  t51 := Tryd.underlying77
  a51 := Tryd.isAgg77
  z51 := Tryd.sizeOf77
  v51 := Tryd.zeroValue77
  t53 := Tryd.underlying83
  a53 := Tryd.isAgg83
  z53 := Tryd.sizeOf83
  v53 := Tryd.zeroValue83
  t75 := Tryd.underlying59
  a75 := Tryd.isAgg59
  z75 := Tryd.sizeOf59
  v75 := Tryd.zeroValue59
  t127 := Tryd.underlying107
  a127 := Tryd.isAgg107
  z127 := Tryd.sizeOf107
  v127 := Tryd.zeroValue107
  t143 := Tryd.underlying115
  a143 := Tryd.isAgg115
  z143 := Tryd.sizeOf115
  v143 := Tryd.zeroValue115
  t145 := Tryd.underlying117
  a145 := Tryd.isAgg117
  z145 := Tryd.sizeOf117
  v145 := Tryd.zeroValue117
  t167 := Tryd.underlying101
  a167 := Tryd.isAgg101
  z167 := Tryd.sizeOf101
  v167 := Tryd.zeroValue101
  t168 := Tryd.underlying104
  a168 := Tryd.isAgg104
  z168 := Tryd.sizeOf104
  v168 := Tryd.zeroValue104
  t171 := Tryd.underlying119
  a171 := Tryd.isAgg119
  z171 := Tryd.sizeOf119
  v171 := Tryd.zeroValue119
  t173 := Tryd.underlying122
  a173 := Tryd.isAgg122
  z173 := Tryd.sizeOf122
  v173 := Tryd.zeroValue122
  t210 := Tryd.underlying109
  a210 := Tryd.isAgg109
  z210 := Tryd.sizeOf109
  v210 := Tryd.zeroValue109
  t212 := Tryd.underlying125
  a212 := Tryd.isAgg125
  z212 := Tryd.sizeOf125
  v212 := Tryd.zeroValue125
  t213 := Tryd.underlying126
  a213 := Tryd.isAgg126
  z213 := Tryd.sizeOf126
  t232 := Tryd.underlying130
  a232 := Tryd.isAgg130
  z232 := Tryd.sizeOf130
  v232 := Tryd.zeroValue130
  t233 := Tryd.underlying131
  a233 := Tryd.isAgg131
  z233 := Tryd.sizeOf131
  v233 := Tryd.zeroValue131
  g15 := by kernel_rfl
  g16 := by kernel_rfl
  g17 := by kernel_rfl
  g18 := by kernel_rfl
  g19 := by kernel_rfl
  t80 := Tryd.underlying65
  a80 := Tryd.isAgg65
  z80 := Tryd.sizeOf65
  v80 := Tryd.zeroValue65
  i0 := by kernel_rfl
  i2 := by kernel_rfl
  i3 := by kernel_rfl
  i4 := by kernel_rfl
  i5 := by kernel_rfl
  i9 := by kernel_rfl
  i20 := by kernel_rfl
  i37 := by kernel_rfl
  i46 := by kernel_rfl
  i51 := by kernel_rfl
  i53 := by kernel_rfl
  i75 := by kernel_rfl
  i80 := by kernel_rfl
  i127 := by kernel_rfl
  i143 := by kernel_rfl
  i145 := by kernel_rfl
  i167 := by kernel_rfl
  i168 := by kernel_rfl
  i171 := by kernel_rfl
  i173 := by kernel_rfl
  i210 := by kernel_rfl
  i212 := by kernel_rfl
  i232 := by kernel_rfl
  i233 := by kernel_rfl
  m15 := by kernel_rfl
  m16 := by kernel_rfl
  m17 := by kernel_rfl
  m18 := by kernel_rfl
  m19 := by kernel_rfl
  c0 := by kernel_rfl
  c2 := by kernel_rfl
  c3 := by kernel_rfl
  c4 := by kernel_rfl
  c5 := by kernel_rfl
  c9 := by kernel_rfl
  c20 := by kernel_rfl
  c37 := by kernel_rfl
  c46 := by kernel_rfl
  c51 := by kernel_rfl
  c53 := by kernel_rfl
  c75 := by kernel_rfl
  c80 := by kernel_rfl
  c127 := by kernel_rfl
  c143 := by kernel_rfl
  c145 := by kernel_rfl
  c167 := by kernel_rfl
  c168 := by kernel_rfl
  c171 := by kernel_rfl
  c173 := by kernel_rfl
  c210 := by kernel_rfl
  c212 := by kernel_rfl
  c213 := by kernel_rfl
  c232 := by kernel_rfl
  c233 := by kernel_rfl }
open Go.RowKit in
theorem Tryd.strconv_toError_syntax (fn s : ByteArray) (base bits : Int) (ev : Value) (w : World) (hlim : s.size ≤ 281474976710656) (hv : w.cell? ⟨3, 0, none⟩ = some ev) (hev : ev = .nilIface ∨ ∃ te pe, ev = .iface te pe) :
    Calls Tryd.prog 78 #[.string fn, .string s, .int .i64 base, .int .i64 bits, .iface 101 (.int .i64 2)] w fun e w' => ∃ N, e = .returned (.iface 104 (.pointer (some ⟨N, 0, none⟩))) ∧ w.heap.size ≤ N ∧ w'.heap[N]? = some (.cells #[.string fn, .string s, ev] 109 (0, 0)) ∧ Below w.heap.size w w' := Any.strconv_toError_syntax Tryd.laysC245 fn s base bits ev w hlim hv hev
def Tryd.lays321_ren : Go.Shelf.Ren := ⟨fun | 321 => 84 | n => n, fun | 5 => 5 | n => n, fun | n => n⟩
theorem Tryd.lays321 : Go.Proofs.Lays.n321 Tryd.prog Tryd.lays321_ren := {
  mixed := by kernel_rfl
  f321 := Tryd.func84.trans (congrArg some (by kernel_rfl))
  t5 := Tryd.underlying5
  a5 := Tryd.isAgg5
  z5 := Tryd.sizeOf5
  v5 := Tryd.zeroValue5 }
open Go.RowKit in
theorem Tryd.internal_strconv_lower (c : Int) (w : World) :
    Calls Tryd.prog 84 #[.int .u8 c] w fun e w' => e = .returned (.int .u8 (bits .or .u8 c 32)) ∧ w' = w := Any.internal_strconv_lower Tryd.lays321 c w
open Go.RowKit in
theorem Tryd.Buffer_WriteString_k (B b : Nat) (bs : List Value) (s : ByteArray) (w : World) (h : Lib.IsBuffer 56 5 B b bs w) (hBw : B ≤ w.heap.size) (h1 : ∀ v ∈ bs, v.oneCell' = true) (hlim : bs.length + s.size ≤ 140737488355328) :
    Calls Tryd.prog 46 #[.pointer (some ⟨b, 0, none⟩), .string s] w fun e w' => e = .returned (.tuple #[.int .i64 s.size, .nilIface]) ∧ Lib.IsBuffer 56 5 B b (bs ++ Lib.byteCells s.data.toList) w' ∧ Below B w w' ∧ Lib.OthersKept 5 (some b) w w' := Any.Buffer_WriteString_k Tryd.laysM178 B b bs s w h hBw h1 hlim
open Go.RowKit in
theorem Tryd.Buffer_grow_nil_small_own (B b n : Nat) (lr : Int) (w : World) (hB : B ≤ b) (hBw : B ≤ w.heap.size) (hbk : w.heap[b]? = some (.cells #[.slice none 0 0, .int .i64 0, .int .i8 lr] 56 (0, 0))) (hn : 1 ≤ n) (h64 : n ≤ 64) :
    Calls Tryd.prog 63 #[.pointer (some ⟨b, 0, none⟩), .int .i64 n] w fun e w' => e = .returned (.int .i64 0) ∧ ∃ xs, xs.length = n ∧ Lib.IsBuffer 56 5 B b xs w' ∧ Below B w w' ∧ Lib.OthersKept 5 (some b) w w' ∧ w.grownBy w' (some b) := Any.Buffer_grow_nil_small_own Tryd.laysM252 B b n lr w hB hBw hbk hn h64
open Go.RowKit in
theorem Tryd.Buffer_grow_nil_big_own (B b n : Nat) (lr : Int) (w : World) (hB : B ≤ b) (hBw : B ≤ w.heap.size) (hbk : w.heap[b]? = some (.cells #[.slice none 0 0, .int .i64 0, .int .i8 lr] 56 (0, 0))) (h64 : 64 < n) (hlim : n ≤ 140737488355328) :
    Calls Tryd.prog 63 #[.pointer (some ⟨b, 0, none⟩), .int .i64 n] w fun e w' => e = .returned (.int .i64 0) ∧ ∃ xs, xs.length = n ∧ Lib.IsBuffer 56 5 B b xs w' ∧ Below B w w' ∧ Lib.OthersKept 5 (some b) w w' ∧ w.grownBy w' (some b) := Any.Buffer_grow_nil_big_own Tryd.laysM252 B b n lr w hB hBw hbk h64 hlim
open Go.RowKit in
theorem Tryd.Buffer_Write_any (B b : Nat) (bs cs : List Value) (a : Addr) (n c : Nat) (w : World) (h : Lib.IsBuffer 56 5 B b bs w) (hBw : B ≤ w.heap.size) (h1 : ∀ v ∈ bs, v.oneCell' = true) (hn : cs.length = n) (hab : a.block ≠ b) (hsrc : ∀ j v, cs[j]? = some v → w.cell? (a.add j) = some v) (h1c : ∀ v ∈ cs, v.oneCell' = true) (hlim : bs.length + n ≤ 140737488355328) :
    Calls Tryd.prog 126 #[.pointer (some ⟨b, 0, none⟩), .slice (some a) n c] w fun e w' => e = .returned (.tuple #[.int .i64 n, .nilIface]) ∧ Lib.IsBuffer 56 5 B b (bs ++ cs) w' ∧ Below B w w' ∧ Lib.OthersKept 5 (some b) w w' := Any.Buffer_Write_any Tryd.laysM180 B b bs cs a n c w h hBw h1 hn hab hsrc h1c hlim
def Tryd.laysWr5_ren : Go.Shelf.Ren := ⟨fun | 5 => 47 | 7 => 65 | 8 => 64 | 9 => 63 | 10 => 66 | 11 => 73 | 12 => 74 | 13 => 75 | 14 => 76 | 15 => 83 | n => n, fun | 34 => 64 | 21 => 21 | 3 => 3 | 28 => 59 | 35 => 77 | 4 => 4 | 5 => 5 | 0 => 0 | 26 => 56 | 24 => 54 | 37 => 75 | 22 => 28 | 43 => 22 | 20 => 20 | 31 => 65 | 9 => 9 | n => n, fun | 0 => 2 | n => n⟩
theorem Tryd.laysWr5 : Go.Proofs.LaysWr.n5 Tryd.prog Tryd.laysWr5_ren := {
  mixed := by kernel_rfl
  f5 := Tryd.func47.trans (congrArg some (by kernel_rfl))
  f7 := Tryd.func65.trans (congrArg some (by kernel_rfl))
  f8 := Tryd.func64.trans (congrArg some (by kernel_rfl))
  f9 := Tryd.func63.trans (congrArg some (by kernel_rfl))
  f10 := Tryd.func66.trans (congrArg some (by kernel_rfl))
  f11 := Tryd.func73.trans (congrArg some (by kernel_rfl))
  f12 := Tryd.func74.trans (congrArg some (by kernel_rfl))
  f13 := Tryd.func75.trans (congrArg some (by kernel_rfl))
  f14 := Tryd.func76.trans (congrArg some (by kernel_rfl))
  f15 := Tryd.func83.trans (congrArg some (by kernel_rfl))
  t0 := Tryd.underlying0
  a0 := Tryd.isAgg0
  z0 := Tryd.sizeOf0
  v0 := Tryd.zeroValue0
  i0 := by kernel_rfl
  t3 := Tryd.underlying3
  a3 := Tryd.isAgg3
  z3 := Tryd.sizeOf3
  v3 := Tryd.zeroValue3
  i3 := by kernel_rfl
  t4 := Tryd.underlying4
  a4 := Tryd.isAgg4
  z4 := Tryd.sizeOf4
  v4 := Tryd.zeroValue4
  i4 := by kernel_rfl
  t5 := Tryd.underlying5
  a5 := Tryd.isAgg5
  z5 := Tryd.sizeOf5
  v5 := Tryd.zeroValue5
  i5 := by kernel_rfl
  t9 := Tryd.underlying9
  a9 := Tryd.isAgg9
  z9 := Tryd.sizeOf9
  v9 := Tryd.zeroValue9
  i9 := by kernel_rfl
  t20 := Tryd.underlying20
  a20 := Tryd.isAgg20
  z20 := Tryd.sizeOf20
  v20 := Tryd.zeroValue20
  i20 := by kernel_rfl
  t21 := Tryd.underlying21
  a21 := Tryd.isAgg21
  z21 := Tryd.sizeOf21
  v21 := Tryd.zeroValue21
  i21 := by kernel_rfl
  t22 := Tryd.underlying28
  a22 := Tryd.isAgg28
  z22 := Tryd.sizeOf28
  v22 := Tryd.zeroValue28
  i22 := by kernel_rfl
  t24 := Tryd.underlying54
  a24 := Tryd.isAgg54
  z24 := Tryd.sizeOf54
  v24 := Tryd.zeroValue54
  i24 := by kernel_rfl
  t26 := Tryd.underlying56
  a26 := Tryd.isAgg56
  z26 := Tryd.sizeOf56
  v26 := Tryd.zeroValue56
  i26 := by kernel_rfl
  t28 := Tryd.underlying59
  a28 := Tryd.isAgg59
  z28 := Tryd.sizeOf59
  v28 := Tryd.zeroValue59
  i28 := by kernel_rfl
  t31 := Tryd.underlying65
  a31 := Tryd.isAgg65
  z31 := Tryd.sizeOf65
  v31 := Tryd.zeroValue65
  i31 := by kernel_rfl
  t34 := Tryd.underlying64
  a34 := Tryd.isAgg64
  z34 := Tryd.sizeOf64
  v34 := Tryd.zeroValue64
  i34 := by kernel_rfl
  t35 := Tryd.underlying77
  a35 := Tryd.isAgg77
  z35 := Tryd.sizeOf77
  v35 := Tryd.zeroValue77
  i35 := by kernel_rfl
  t37 := Tryd.underlying75
  a37 := Tryd.isAgg75
  z37 := Tryd.sizeOf75
  v37 := Tryd.zeroValue75
  i37 := by kernel_rfl
  t43 := Tryd.underlying22
  a43 := Tryd.isAgg22
  z43 := Tryd.sizeOf22
  v43 := Tryd.zeroValue22
  i43 := by kernel_rfl
  g0 := by kernel_rfl
  m0 := by kernel_rfl }
open Go.RowKit in
theorem Tryd.Buffer_WriteRune_k (B b : Nat) (bs : List Value) (r : Int) (hr0 : -2147483648 ≤ r) (hr1 : r ≤ 2147483647) (w : World) (h : Lib.IsBuffer 56 5 B b bs w) (hBw : B ≤ w.heap.size) (h1 : ∀ v ∈ bs, v.oneCell' = true) (hlim : bs.length + 4 ≤ 140737488355328) :
    Calls Tryd.prog 47 #[.pointer (some ⟨b, 0, none⟩), .int .i32 r] w fun e w' => e = .returned (.tuple #[.int .i64 (Lib.runeCells r).length, .nilIface]) ∧ Lib.IsBuffer 56 5 B b (bs ++ Lib.runeCells r) w' ∧ Below B w w' ∧ Lib.OthersKept 5 (some b) w w' := Any.Buffer_WriteRune_k Tryd.laysWr5 B b bs r hr0 hr1 w h hBw h1 hlim
def Tryd.laysGw15_ren : Go.Shelf.Ren := ⟨fun | 15 => 43 | 20 => 62 | n => n, fun | 9 => 9 | 23 => 52 | 3 => 3 | 4 => 4 | 0 => 0 | 21 => 21 | n => n, fun | n => n⟩
theorem Tryd.laysGw15 : Go.Proofs.LaysGw.n15 Tryd.prog Tryd.laysGw15_ren := {
  mixed := by kernel_rfl
  f15 := Tryd.func43.trans (congrArg some (by kernel_rfl))
  f20 := Tryd.func62.trans (congrArg some (by kernel_rfl))
  t0 := Tryd.underlying0
  a0 := Tryd.isAgg0
  z0 := Tryd.sizeOf0
  v0 := Tryd.zeroValue0
  i0 := by kernel_rfl
  t3 := Tryd.underlying3
  a3 := Tryd.isAgg3
  z3 := Tryd.sizeOf3
  v3 := Tryd.zeroValue3
  i3 := by kernel_rfl
  t4 := Tryd.underlying4
  a4 := Tryd.isAgg4
  z4 := Tryd.sizeOf4
  v4 := Tryd.zeroValue4
  i4 := by kernel_rfl
  t9 := Tryd.underlying9
  a9 := Tryd.isAgg9
  z9 := Tryd.sizeOf9
  v9 := Tryd.zeroValue9
  i9 := by kernel_rfl
  t21 := Tryd.underlying21
  a21 := Tryd.isAgg21
  z21 := Tryd.sizeOf21
  v21 := Tryd.zeroValue21
  i21 := by kernel_rfl
  t23 := Tryd.underlying52
  a23 := Tryd.isAgg52
  z23 := Tryd.sizeOf52
  v23 := Tryd.zeroValue52
  i23 := by kernel_rfl }
open Go.RowKit Go.Lib in
theorem Tryd.strings_IndexFunc (g : Nat) (lb : Array Value) (eg : ∀ args w, (callFunc g args).run Tryd.prog w = .ok (.enter g args) w) (p : Nat → Bool) (s : ByteArray) (w : World) (hp : PredAt Tryd.prog g lb encR p w) :
    Calls Tryd.prog 43 #[.string s, .func (.func g) #[] lb] w fun e w' => e = .returned (.int .i64 (Lib.idxFunc p true s)) ∧ Below w.heap.size w w' := Any.strings_IndexFunc Tryd.laysGw15 g lb eg p s w hp
def Tryd.lays260_ren : Go.Shelf.Ren := ⟨fun | 260 => 60 | n => n, fun | 9 => 9 | 21 => 21 | 3 => 3 | 4 => 4 | 5 => 5 | 119 => 90 | 0 => 0 | 46 => 22 | 139 => 93 | 138 => 92 | n => n, fun | 3 => 0 | 4 => 1 | n => n⟩
theorem Tryd.lays260 : Go.Proofs.Lays.n260 Tryd.prog Tryd.lays260_ren := {
  mixed := by kernel_rfl
  f260 := Tryd.func60.trans (congrArg some (by kernel_rfl))
  t0 := Tryd.underlying0
  a0 := Tryd.isAgg0
  z0 := Tryd.sizeOf0
  v0 := Tryd.zeroValue0
  t3 := Tryd.underlying3
  a3 := Tryd.isAgg3
  z3 := Tryd.sizeOf3
  v3 := Tryd.zeroValue3
  t4 := Tryd.underlying4
  a4 := Tryd.isAgg4
  z4 := Tryd.sizeOf4
  v4 := Tryd.zeroValue4
  t5 := Tryd.underlying5
  a5 := Tryd.isAgg5
  z5 := Tryd.sizeOf5
  v5 := Tryd.zeroValue5
  t9 := Tryd.underlying9
  a9 := Tryd.isAgg9
  z9 := Tryd.sizeOf9
  v9 := Tryd.zeroValue9
  t21 := Tryd.underlying21
  a21 := Tryd.isAgg21
  z21 := Tryd.sizeOf21
  v21 := Tryd.zeroValue21
  t46 := Tryd.underlying22
  a46 := Tryd.isAgg22
  z46 := Tryd.sizeOf22
  v46 := Tryd.zeroValue22
  t119 := Tryd.underlying90
  a119 := Tryd.isAgg90
  z119 := Tryd.sizeOf90
  t138 := Tryd.underlying92
  a138 := Tryd.isAgg92
  z138 := Tryd.sizeOf92
  v138 := Tryd.zeroValue92
  t139 := Tryd.underlying93
  a139 := Tryd.isAgg93
  z139 := Tryd.sizeOf93
  v139 := Tryd.zeroValue93
  g3 := by kernel_rfl
  g4 := by kernel_rfl }
def Tryd.lays197_ren : Go.Shelf.Ren := ⟨fun | 197 => 41 | 260 => 60 | n => n, fun | 9 => 9 | 21 => 21 | 3 => 3 | 4 => 4 | 5 => 5 | 105 => 49 | 119 => 90 | 0 => 0 | 46 => 22 | 139 => 93 | 138 => 92 | n => n, fun | 3 => 0 | 4 => 1 | n => n⟩
theorem Tryd.lays197 : Go.Proofs.Lays.n197 Tryd.prog Tryd.lays197_ren := {
  mixed := by kernel_rfl
  f197 := Tryd.func41.trans (congrArg some (by kernel_rfl))
  f260 := Tryd.func60.trans (congrArg some (by kernel_rfl))
  t0 := Tryd.underlying0
  a0 := Tryd.isAgg0
  z0 := Tryd.sizeOf0
  v0 := Tryd.zeroValue0
  t3 := Tryd.underlying3
  a3 := Tryd.isAgg3
  z3 := Tryd.sizeOf3
  v3 := Tryd.zeroValue3
  t4 := Tryd.underlying4
  a4 := Tryd.isAgg4
  z4 := Tryd.sizeOf4
  v4 := Tryd.zeroValue4
  t5 := Tryd.underlying5
  a5 := Tryd.isAgg5
  z5 := Tryd.sizeOf5
  v5 := Tryd.zeroValue5
  t9 := Tryd.underlying9
  a9 := Tryd.isAgg9
  z9 := Tryd.sizeOf9
  v9 := Tryd.zeroValue9
  t21 := Tryd.underlying21
  a21 := Tryd.isAgg21
  z21 := Tryd.sizeOf21
  v21 := Tryd.zeroValue21
  t46 := Tryd.underlying22
  a46 := Tryd.isAgg22
  z46 := Tryd.sizeOf22
  v46 := Tryd.zeroValue22
  t105 := Tryd.underlying49
  a105 := Tryd.isAgg49
  z105 := Tryd.sizeOf49
  v105 := Tryd.zeroValue49
  t119 := Tryd.underlying90
  a119 := Tryd.isAgg90
  z119 := Tryd.sizeOf90
  t138 := Tryd.underlying92
  a138 := Tryd.isAgg92
  z138 := Tryd.sizeOf92
  v138 := Tryd.zeroValue92
  t139 := Tryd.underlying93
  a139 := Tryd.isAgg93
  z139 := Tryd.sizeOf93
  v139 := Tryd.zeroValue93
  g3 := by kernel_rfl
  g4 := by kernel_rfl }
open Go.RowKit Go.Lib in
theorem Tryd.utf8_DecodeRuneInString (s : ByteArray) (w : World) (hT : Lib.Utf8Tabs 0 1 w) :
    Calls Tryd.prog 41 #[.string s] w fun e w' => e = .returned (.tuple #[.int .i32 (Lib.decodeGo s).1, .int .i64 (Lib.decodeGo s).2]) ∧ Below w.heap.size w w' := Any.utf8_DecodeRuneInString Tryd.lays197 s w hT
def Tryd.lays271_ren : Go.Shelf.Ren := ⟨fun | 271 => 42 | 120 => 61 | 197 => 41 | 260 => 60 | n => n, fun | 9 => 9 | 21 => 21 | 3 => 3 | 4 => 4 | 5 => 5 | 105 => 49 | 119 => 90 | 0 => 0 | 46 => 22 | 139 => 93 | 138 => 92 | n => n, fun | 3 => 0 | 4 => 1 | n => n⟩
theorem Tryd.lays271 : Go.Proofs.Lays.n271 Tryd.prog Tryd.lays271_ren := {
  mixed := by kernel_rfl
  f120 := Tryd.func61.trans (congrArg some (by kernel_rfl))
  f197 := Tryd.func41.trans (congrArg some (by kernel_rfl))
  f260 := Tryd.func60.trans (congrArg some (by kernel_rfl))
  f271 := Tryd.func42.trans (congrArg some (by kernel_rfl))
  t0 := Tryd.underlying0
  a0 := Tryd.isAgg0
  z0 := Tryd.sizeOf0
  v0 := Tryd.zeroValue0
  t3 := Tryd.underlying3
  a3 := Tryd.isAgg3
  z3 := Tryd.sizeOf3
  v3 := Tryd.zeroValue3
  t4 := Tryd.underlying4
  a4 := Tryd.isAgg4
  z4 := Tryd.sizeOf4
  v4 := Tryd.zeroValue4
  t5 := Tryd.underlying5
  a5 := Tryd.isAgg5
  z5 := Tryd.sizeOf5
  v5 := Tryd.zeroValue5
  t9 := Tryd.underlying9
  a9 := Tryd.isAgg9
  z9 := Tryd.sizeOf9
  v9 := Tryd.zeroValue9
  t21 := Tryd.underlying21
  a21 := Tryd.isAgg21
  z21 := Tryd.sizeOf21
  v21 := Tryd.zeroValue21
  t46 := Tryd.underlying22
  a46 := Tryd.isAgg22
  z46 := Tryd.sizeOf22
  v46 := Tryd.zeroValue22
  t105 := Tryd.underlying49
  a105 := Tryd.isAgg49
  z105 := Tryd.sizeOf49
  v105 := Tryd.zeroValue49
  t119 := Tryd.underlying90
  a119 := Tryd.isAgg90
  z119 := Tryd.sizeOf90
  t138 := Tryd.underlying92
  a138 := Tryd.isAgg92
  z138 := Tryd.sizeOf92
  v138 := Tryd.zeroValue92
  t139 := Tryd.underlying93
  a139 := Tryd.isAgg93
  z139 := Tryd.sizeOf93
  v139 := Tryd.zeroValue93
  g3 := by kernel_rfl
  g4 := by kernel_rfl }
open Go.RowKit Go.Lib in
theorem Tryd.utf8_DecodeLastRuneInString (s : ByteArray) (w : World) (hs : s.size ≤ 9223372036854775807) (hT : Lib.Utf8Tabs 0 1 w) :
    Calls Tryd.prog 42 #[.string s] w fun e w' => e = .returned (.tuple #[.int .i32 (Lib.decodeLastL s.data.toList).1, .int .i64 (Lib.decodeLastL s.data.toList).2]) ∧ Below w.heap.size w w' := Any.utf8_DecodeLastRuneInString Tryd.lays271 s w hs hT
end Go.Proofs.YtlgoghonnnobfaaDoor.Shelf

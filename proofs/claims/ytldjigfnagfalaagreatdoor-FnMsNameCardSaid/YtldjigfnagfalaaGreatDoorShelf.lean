/- Part of the proof of LawFnMsName. -/
import Derived.Shelf.Small.Strs
import Derived.Shelf.LaysM
import Derived.Shelf.Bytes.Len
import Derived.Shelf.Bytes.TryGrow
import Derived.Shelf.Bytes.GrowSliceCatch
import Derived.Shelf.Bytes.GrowSlice
import Derived.Shelf.Bytes.GrowRow0
import Derived.Shelf.Bytes.GrowRow
import Derived.Shelf.Bytes.GrowNil
import Derived.Shelf.Bytes.Grow
import Derived.Shelf.Bytes.String
import Derived.Shelf.Bytes.Reset
import Derived.Shelf.Bytes.Write
import Derived.Shelf.Bytes.Bytes
import Derived.Ground.MnProg
import Derived.Shelf.Bin.LEPutUint16
import Derived.Shelf.Bin.LEPutUint32
import Derived.Shelf.Bin.LEPutUint64
import Derived.Shelf.Bin.BEPutUint16
import Derived.Shelf.Bin.BEPutUint32
import Derived.Shelf.Bin.BEPutUint64
import Derived.Shelf.Bin.LEPutUint16Panics
import Derived.Shelf.Bin.LEPutUint32Panics
import Derived.Shelf.Bin.LEPutUint64Panics
import Derived.Shelf.Bin.BEPutUint16Panics
import Derived.Shelf.Bin.BEPutUint32Panics
import Derived.Shelf.Bin.BEPutUint64Panics
import Derived.Shelf.Strings.Search1
import Derived.Shelf.Bytes.GrowRow0Kept
import Derived.Shelf.Bytes.GrowRowKept
import Derived.Shelf.Bytes.GrowNilKept
import Derived.Shelf.Bytes.GrowKept
import Derived.Shelf.Bytes.ResetKept
import Derived.Shelf.Bytes.WriteKept
import Derived.Shelf.Bytes.BufferK
import Derived.Shelf.Bytes.GrowRow0Own
import Derived.Shelf.Bytes.GrowRowOwn
import Derived.Shelf.Bytes.GrowNilOwn
import Derived.Shelf.Bytes.GrowOwn
import Derived.Shelf.Bytes.WriteAny
import Derived.Shelf.Bytes.LenAt
import Derived.Shelf.Bytes.StringAt
import Derived.Shelf.Bytes.TryGrowAt
import Derived.Shelf.Bytes.GrowRow0At
import Derived.Shelf.Bytes.GrowRowAt
import Derived.Shelf.Bytes.GrowNilAt
import Derived.Shelf.Bytes.GrowAt
import Derived.Shelf.Bytes.WriteAt
import Derived.Test.YtldjigfnagfalaaGreatDoorProg
set_option linter.unusedVariables false
set_option linter.unusedSimpArgs false
namespace Go.Proofs
open Go.Shelf
def Tryz.lays137_ren : Go.Shelf.Ren := ⟨fun | 137 => 52 | 217 => 84 | 266 => 99 | n => n, fun | 9 => 9 | 5 => 5 | 3 => 3 | n => n, fun | n => n⟩
open Go.RowKit in
def Tryz.laysM181_ren : Go.Shelf.Ren := ⟨fun | 181 => 59 | n => n, fun | 130 => 71 | 3 => 3 | 0 => 0 | 93 => 68 | 37 => 24 | 91 => 66 | 5 => 5 | n => n, fun | n => n⟩
theorem Tryz.laysM181 : Go.Proofs.LaysM.n181 Tryz.prog Tryz.laysM181_ren := {
  mixed := by kernel_rfl
  f181 := Tryz.func59.trans (congrArg some (by kernel_rfl))
  t0 := Tryz.underlying0
  a0 := Tryz.isAgg0
  z0 := Tryz.sizeOf0
  v0 := Tryz.zeroValue0
  t3 := Tryz.underlying3
  a3 := Tryz.isAgg3
  z3 := Tryz.sizeOf3
  v3 := Tryz.zeroValue3
  t37 := Tryz.underlying24
  a37 := Tryz.isAgg24
  z37 := Tryz.sizeOf24
  v37 := Tryz.zeroValue24
  t93 := Tryz.underlying68
  a93 := Tryz.isAgg68
  z93 := Tryz.sizeOf68
  v93 := Tryz.zeroValue68
  t130 := Tryz.underlying71
  a130 := Tryz.isAgg71
  z130 := Tryz.sizeOf71
  v130 := Tryz.zeroValue71
  t5 := Tryz.underlying5
  a5 := Tryz.isAgg5
  z5 := Tryz.sizeOf5
  v5 := Tryz.zeroValue5
  t91 := Tryz.underlying66
  a91 := Tryz.isAgg66
  z91 := Tryz.sizeOf66
  v91 := Tryz.zeroValue66
  i0 := by kernel_rfl
  i3 := by kernel_rfl
  i5 := by kernel_rfl
  i37 := by kernel_rfl
  i91 := by kernel_rfl
  i93 := by kernel_rfl
  i130 := by kernel_rfl }
open Go.RowKit in
theorem Tryz.Buffer_Len (B b : Nat) (bs : List Value) (w : World) (h : Lib.IsBuffer 68 5 B b bs w) :
    Calls Tryz.prog 59 #[.pointer (some ⟨b, 0, none⟩)] w fun e w' => e = .returned (.int .i64 bs.length) ∧ ∃ n, w' = w.drewN n := Any.Buffer_Len Tryz.laysM181 B b bs w h
def Tryz.laysM182_ren : Go.Shelf.Ren := ⟨fun | 182 => 28 | n => n, fun | 130 => 71 | 9 => 9 | 4 => 4 | 0 => 0 | 93 => 68 | 37 => 24 | 3 => 3 | 91 => 66 | 5 => 5 | n => n, fun | n => n⟩
theorem Tryz.laysM182 : Go.Proofs.LaysM.n182 Tryz.prog Tryz.laysM182_ren := {
  mixed := by kernel_rfl
  f182 := Tryz.func28.trans (congrArg some (by kernel_rfl))
  t0 := Tryz.underlying0
  a0 := Tryz.isAgg0
  z0 := Tryz.sizeOf0
  v0 := Tryz.zeroValue0
  t3 := Tryz.underlying3
  a3 := Tryz.isAgg3
  z3 := Tryz.sizeOf3
  v3 := Tryz.zeroValue3
  t4 := Tryz.underlying4
  a4 := Tryz.isAgg4
  z4 := Tryz.sizeOf4
  v4 := Tryz.zeroValue4
  t9 := Tryz.underlying9
  a9 := Tryz.isAgg9
  z9 := Tryz.sizeOf9
  v9 := Tryz.zeroValue9
  t37 := Tryz.underlying24
  a37 := Tryz.isAgg24
  z37 := Tryz.sizeOf24
  v37 := Tryz.zeroValue24
  t93 := Tryz.underlying68
  a93 := Tryz.isAgg68
  z93 := Tryz.sizeOf68
  v93 := Tryz.zeroValue68
  t130 := Tryz.underlying71
  a130 := Tryz.isAgg71
  z130 := Tryz.sizeOf71
  v130 := Tryz.zeroValue71
  t5 := Tryz.underlying5
  a5 := Tryz.isAgg5
  z5 := Tryz.sizeOf5
  v5 := Tryz.zeroValue5
  t91 := Tryz.underlying66
  a91 := Tryz.isAgg66
  z91 := Tryz.sizeOf66
  v91 := Tryz.zeroValue66
  i0 := by kernel_rfl
  i3 := by kernel_rfl
  i4 := by kernel_rfl
  i5 := by kernel_rfl
  i9 := by kernel_rfl
  i37 := by kernel_rfl
  i91 := by kernel_rfl
  i93 := by kernel_rfl
  i130 := by kernel_rfl }
open Go.RowKit in
theorem Tryz.Buffer_String (B b : Nat) (l : List UInt8) (w : World) (h : Lib.IsBuffer 68 5 B b (Lib.byteCells l) w) :
    Calls Tryz.prog 28 #[.pointer (some ⟨b, 0, none⟩)] w fun e w' => e = .returned (.string ⟨l.toArray⟩) ∧ ∃ n, w' = w.drewN n := Any.Buffer_String Tryz.laysM182 B b l w h
def Tryz.laysM180_ren : Go.Shelf.Ren := ⟨fun | 180 => 124 | 251 => 125 | 252 => 126 | 181 => 59 | 184 => 88 | 290 => 127 | 324 => 128 | n => n, fun | 130 => 71 | 37 => 24 | 3 => 3 | 75 => 50 | 0 => 0 | 93 => 68 | 91 => 66 | 131 => 228 | 4 => 4 | 20 => 20 | 5 => 5 | 80 => 78 | 9 => 9 | n => n, fun | 14 => 8 | n => n⟩
theorem Tryz.laysM180 : Go.Proofs.LaysM.n180 Tryz.prog Tryz.laysM180_ren := {
  mixed := by kernel_rfl
  f180 := Tryz.func124.trans (congrArg some (by kernel_rfl))
  f181 := Tryz.func59.trans (congrArg some (by kernel_rfl))
  f184 := Tryz.func88.trans (congrArg some (by kernel_rfl))
  f251 := Tryz.func125.trans (congrArg some (by kernel_rfl))
  f252 := Tryz.func126.trans (congrArg some (by kernel_rfl))
  f290 := Tryz.func127.trans (congrArg some (by kernel_rfl))
  f324 := Tryz.func128.trans (congrArg some (by kernel_rfl))
  t0 := Tryz.underlying0
  a0 := Tryz.isAgg0
  z0 := Tryz.sizeOf0
  v0 := Tryz.zeroValue0
  t3 := Tryz.underlying3
  a3 := Tryz.isAgg3
  z3 := Tryz.sizeOf3
  v3 := Tryz.zeroValue3
  t4 := Tryz.underlying4
  a4 := Tryz.isAgg4
  z4 := Tryz.sizeOf4
  v4 := Tryz.zeroValue4
  t20 := Tryz.underlying20
  a20 := Tryz.isAgg20
  z20 := Tryz.sizeOf20
  v20 := Tryz.zeroValue20
  t37 := Tryz.underlying24
  a37 := Tryz.isAgg24
  z37 := Tryz.sizeOf24
  v37 := Tryz.zeroValue24
  t75 := Tryz.underlying50
  a75 := Tryz.isAgg50
  z75 := Tryz.sizeOf50
  v75 := Tryz.zeroValue50
  t91 := Tryz.underlying66
  a91 := Tryz.isAgg66
  z91 := Tryz.sizeOf66
  v91 := Tryz.zeroValue66
  t93 := Tryz.underlying68
  a93 := Tryz.isAgg68
  z93 := Tryz.sizeOf68
  v93 := Tryz.zeroValue68
  t130 := Tryz.underlying71
  a130 := Tryz.isAgg71
  z130 := Tryz.sizeOf71
  v130 := Tryz.zeroValue71
  t131 := Tryz.underlying228
  a131 := Tryz.isAgg228
  z131 := Tryz.sizeOf228
  v131 := Tryz.zeroValue228
  g14 := by kernel_rfl
  t5 := Tryz.underlying5
  a5 := Tryz.isAgg5
  z5 := Tryz.sizeOf5
  v5 := Tryz.zeroValue5
  t9 := Tryz.underlying9
  a9 := Tryz.isAgg9
  z9 := Tryz.sizeOf9
  v9 := Tryz.zeroValue9
  t80 := Tryz.underlying78
  a80 := Tryz.isAgg78
  z80 := Tryz.sizeOf78
  v80 := Tryz.zeroValue78
  i0 := by kernel_rfl
  i3 := by kernel_rfl
  i4 := by kernel_rfl
  i5 := by kernel_rfl
  i9 := by kernel_rfl
  i20 := by kernel_rfl
  i37 := by kernel_rfl
  i75 := by kernel_rfl
  i80 := by kernel_rfl
  i91 := by kernel_rfl
  i93 := by kernel_rfl
  i130 := by kernel_rfl
  i131 := by kernel_rfl
  m14 := by kernel_rfl }
def Tryz.laysBin28_ren : Go.Shelf.Ren := ⟨fun | 28 => 140 | n => n, fun | 25 => 97 | 22 => 24 | 23 => 131 | 0 => 0 | 5 => 5 | 45 => 47 | n => n, fun | n => n⟩
open Go.RowKit in
def Tryz.laysBin31_ren : Go.Shelf.Ren := ⟨fun | 31 => 141 | n => n, fun | 25 => 97 | 22 => 24 | 29 => 36 | 0 => 0 | 5 => 5 | 45 => 47 | n => n, fun | n => n⟩
theorem Tryz.laysBin31 : Go.Proofs.LaysBin.n31 Tryz.prog Tryz.laysBin31_ren := {
  mixed := by kernel_rfl
  f31 := Tryz.func141.trans (congrArg some (by kernel_rfl))
  t0 := Tryz.underlying0
  a0 := Tryz.isAgg0
  z0 := Tryz.sizeOf0
  v0 := Tryz.zeroValue0
  i0 := by kernel_rfl
  t5 := Tryz.underlying5
  a5 := Tryz.isAgg5
  z5 := Tryz.sizeOf5
  v5 := Tryz.zeroValue5
  i5 := by kernel_rfl
  t22 := Tryz.underlying24
  a22 := Tryz.isAgg24
  z22 := Tryz.sizeOf24
  v22 := Tryz.zeroValue24
  i22 := by kernel_rfl
  t25 := Tryz.underlying97
  a25 := Tryz.isAgg97
  z25 := Tryz.sizeOf97
  v25 := Tryz.zeroValue97
  i25 := by kernel_rfl
  t29 := Tryz.underlying36
  a29 := Tryz.isAgg36
  z29 := Tryz.sizeOf36
  v29 := Tryz.zeroValue36
  i29 := by kernel_rfl
  t45 := Tryz.underlying47
  a45 := Tryz.isAgg47
  z45 := Tryz.sizeOf47
  v45 := Tryz.zeroValue47
  i45 := by kernel_rfl }
open Go.RowKit in
theorem Tryz.binary_LE_PutUint32 (g o n c v : Nat) (hv : v < 4294967296) (x0 x1 x2 x3 : Value) (w : World) (hn : 4 ≤ n) (c0 : w.cell? ⟨g, o, none⟩ = some x0) (c1 : w.cell? ⟨g, o + 1, none⟩ = some x1) (c2 : w.cell? ⟨g, o + 2, none⟩ = some x2) (c3 : w.cell? ⟨g, o + 3, none⟩ = some x3) (f0 : w.frozen? ⟨g, o, none⟩ = false) (f1 : w.frozen? ⟨g, o + 1, none⟩ = false) (f2 : w.frozen? ⟨g, o + 2, none⟩ = false) (f3 : w.frozen? ⟨g, o + 3, none⟩ = false) :
    Calls Tryz.prog 141 #[.agg #[], .slice (some ⟨g, o, none⟩) n c, .int .u32 v] w fun e w' => e = .returned (.tuple #[]) ∧ w' = (w.alloc (.cells #[] 97)).setCells g o (Lib.byteCells (Lib.leBytes 4 v)) := Any.binary_LE_PutUint32 Tryz.laysBin31 g o n c v hv x0 x1 x2 x3 w hn c0 c1 c2 c3 f0 f1 f2 f3
def Tryz.laysBin34_ren : Go.Shelf.Ren := ⟨fun | 34 => 142 | n => n, fun | 25 => 97 | 22 => 24 | 33 => 23 | 0 => 0 | 5 => 5 | 45 => 47 | n => n, fun | n => n⟩
open Go.RowKit in
def Tryz.laysBin37_ren : Go.Shelf.Ren := ⟨fun | 37 => 132 | n => n, fun | 37 => 96 | 22 => 24 | 23 => 131 | 0 => 0 | 5 => 5 | 45 => 47 | n => n, fun | n => n⟩
open Go.RowKit in
def Tryz.laysBin40_ren : Go.Shelf.Ren := ⟨fun | 40 => 133 | n => n, fun | 37 => 96 | 22 => 24 | 29 => 36 | 0 => 0 | 5 => 5 | 45 => 47 | n => n, fun | n => n⟩
theorem Tryz.laysBin40 : Go.Proofs.LaysBin.n40 Tryz.prog Tryz.laysBin40_ren := {
  mixed := by kernel_rfl
  f40 := Tryz.func133.trans (congrArg some (by kernel_rfl))
  t0 := Tryz.underlying0
  a0 := Tryz.isAgg0
  z0 := Tryz.sizeOf0
  v0 := Tryz.zeroValue0
  i0 := by kernel_rfl
  t5 := Tryz.underlying5
  a5 := Tryz.isAgg5
  z5 := Tryz.sizeOf5
  v5 := Tryz.zeroValue5
  i5 := by kernel_rfl
  t22 := Tryz.underlying24
  a22 := Tryz.isAgg24
  z22 := Tryz.sizeOf24
  v22 := Tryz.zeroValue24
  i22 := by kernel_rfl
  t29 := Tryz.underlying36
  a29 := Tryz.isAgg36
  z29 := Tryz.sizeOf36
  v29 := Tryz.zeroValue36
  i29 := by kernel_rfl
  t37 := Tryz.underlying96
  a37 := Tryz.isAgg96
  z37 := Tryz.sizeOf96
  v37 := Tryz.zeroValue96
  i37 := by kernel_rfl
  t45 := Tryz.underlying47
  a45 := Tryz.isAgg47
  z45 := Tryz.sizeOf47
  v45 := Tryz.zeroValue47
  i45 := by kernel_rfl }
open Go.RowKit in
theorem Tryz.binary_BE_PutUint32 (g o n c v : Nat) (hv : v < 4294967296) (x0 x1 x2 x3 : Value) (w : World) (hn : 4 ≤ n) (c0 : w.cell? ⟨g, o, none⟩ = some x0) (c1 : w.cell? ⟨g, o + 1, none⟩ = some x1) (c2 : w.cell? ⟨g, o + 2, none⟩ = some x2) (c3 : w.cell? ⟨g, o + 3, none⟩ = some x3) (f0 : w.frozen? ⟨g, o, none⟩ = false) (f1 : w.frozen? ⟨g, o + 1, none⟩ = false) (f2 : w.frozen? ⟨g, o + 2, none⟩ = false) (f3 : w.frozen? ⟨g, o + 3, none⟩ = false) :
    Calls Tryz.prog 133 #[.agg #[], .slice (some ⟨g, o, none⟩) n c, .int .u32 v] w fun e w' => e = .returned (.tuple #[]) ∧ w' = (w.alloc (.cells #[] 96)).setCells g o (Lib.byteCells (Lib.beBytes 4 v)) := Any.binary_BE_PutUint32 Tryz.laysBin40 g o n c v hv x0 x1 x2 x3 w hn c0 c1 c2 c3 f0 f1 f2 f3
def Tryz.laysBin43_ren : Go.Shelf.Ren := ⟨fun | 43 => 134 | n => n, fun | 37 => 96 | 22 => 24 | 33 => 23 | 0 => 0 | 5 => 5 | 45 => 47 | n => n, fun | n => n⟩
open Go.RowKit in
open Go.RowKit in
theorem Tryz.Buffer_Write_any (B b : Nat) (bs cs : List Value) (a : Addr) (n c : Nat) (w : World) (h : Lib.IsBuffer 68 5 B b bs w) (hBw : B ≤ w.heap.size) (h1 : ∀ v ∈ bs, v.oneCell' = true) (hn : cs.length = n) (hab : a.block ≠ b) (hsrc : ∀ j v, cs[j]? = some v → w.cell? (a.add j) = some v) (h1c : ∀ v ∈ cs, v.oneCell' = true) (hlim : bs.length + n ≤ 140737488355328) :
    Calls Tryz.prog 124 #[.pointer (some ⟨b, 0, none⟩), .slice (some a) n c] w fun e w' => e = .returned (.tuple #[.int .i64 n, .nilIface]) ∧ Lib.IsBuffer 68 5 B b (bs ++ cs) w' ∧ Below B w w' ∧ Lib.OthersKept 5 (some b) w w' := Any.Buffer_Write_any Tryz.laysM180 B b bs cs a n c w h hBw h1 hn hab hsrc h1c hlim
end Go.Proofs

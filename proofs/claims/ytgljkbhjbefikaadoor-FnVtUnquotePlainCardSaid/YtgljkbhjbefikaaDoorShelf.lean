/-
  DERIVED: THE SHELF's CONTRACTS AT THIS DUMP, IN PLAIN WORDS (tools/lay-plain.mjs out of 'YtgljkbhjbefikaaDoorShelf.lean', which tools/lay-shelf.mjs wrote): THE SAME DECLARATIONS UNDER THE SAME NAMES: 'import', 'namespace', 'open', 'def', 'theorem' AND NOTHING ELSE: no command of the shelf's: FOR A HAND-IN. Each laying: the table of numbers ('.._ren') and one theorem, a field a fact of the dump's own or the kernel's comparison; each contract: ONE APPLICATION.
-/
import Derived.Shelf.LaysM
import Derived.Shelf.Bytes.String
import Derived.Ground.MzProg
import Derived.Shelf.Wr.WriteRune
import Derived.Shelf.Unicode.DecodeAny
import Derived.Test.YtgljkbhjbefikaaDoorProg
namespace Go.Proofs
open Go.Shelf
def Tryd.laysM182_ren : Go.Shelf.Ren := ⟨fun | 182 => 41 | n => n, fun | 130 => 65 | 9 => 9 | 4 => 4 | 0 => 0 | 93 => 69 | 37 => 26 | 3 => 3 | 91 => 67 | 5 => 5 | n => n, fun | n => n⟩
theorem Tryd.laysM182 : Go.Proofs.LaysM.n182 Tryd.prog Tryd.laysM182_ren := {
  mixed := by kernel_rfl
  f182 := Tryd.func41.trans (congrArg some (by kernel_rfl))
  t0 := Tryd.underlying0
  a0 := Tryd.isAgg0
  z0 := Tryd.sizeOf0
  v0 := Tryd.zeroValue0
  t3 := Tryd.underlying3
  a3 := Tryd.isAgg3
  z3 := Tryd.sizeOf3
  v3 := Tryd.zeroValue3
  t4 := Tryd.underlying4
  a4 := Tryd.isAgg4
  z4 := Tryd.sizeOf4
  v4 := Tryd.zeroValue4
  t9 := Tryd.underlying9
  a9 := Tryd.isAgg9
  z9 := Tryd.sizeOf9
  v9 := Tryd.zeroValue9
  t37 := Tryd.underlying26
  a37 := Tryd.isAgg26
  z37 := Tryd.sizeOf26
  v37 := Tryd.zeroValue26
  t93 := Tryd.underlying69
  a93 := Tryd.isAgg69
  z93 := Tryd.sizeOf69
  v93 := Tryd.zeroValue69
  t130 := Tryd.underlying65
  a130 := Tryd.isAgg65
  z130 := Tryd.sizeOf65
  v130 := Tryd.zeroValue65
  t5 := Tryd.underlying5
  a5 := Tryd.isAgg5
  z5 := Tryd.sizeOf5
  v5 := Tryd.zeroValue5
  t91 := Tryd.underlying67
  a91 := Tryd.isAgg67
  z91 := Tryd.sizeOf67
  v91 := Tryd.zeroValue67
  i0 := by kernel_rfl
  i3 := by kernel_rfl
  i4 := by kernel_rfl
  i5 := by kernel_rfl
  i9 := by kernel_rfl
  i37 := by kernel_rfl
  i91 := by kernel_rfl
  i93 := by kernel_rfl
  i130 := by kernel_rfl }
open Go.RowKit in
/-- (*bytes.Buffer).String: "String returns the contents of the unread portion of the buffer as a string.": THE BYTES THAT WERE WRITTEN. The world is as it was but for the count of draws (the statement has two reads: its order is drawn). (LAID: no walk: one application.) -/
theorem Tryd.Buffer_String (B b : Nat) (l : List UInt8) (w : World) (h : Lib.IsBuffer 69 5 B b (Lib.byteCells l) w) :
    Calls Tryd.prog 41 #[.pointer (some ⟨b, 0, none⟩)] w fun e w' => e = .returned (.string ⟨l.toArray⟩) ∧ ∃ n, w' = w.drewN n := Any.Buffer_String Tryd.laysM182 B b l w h
def Tryd.laysWr5_ren : Go.Shelf.Ren := ⟨fun | 5 => 40 | 7 => 54 | 8 => 55 | 9 => 56 | 10 => 57 | 11 => 88 | 12 => 89 | 13 => 90 | 14 => 91 | 15 => 100 | n => n, fun | 34 => 65 | 21 => 21 | 3 => 3 | 28 => 37 | 35 => 93 | 4 => 4 | 5 => 5 | 0 => 0 | 26 => 69 | 24 => 67 | 37 => 95 | 22 => 26 | 43 => 145 | 20 => 20 | 31 => 74 | 9 => 9 | n => n, fun | 0 => 3 | n => n⟩
theorem Tryd.laysWr5 : Go.Proofs.LaysWr.n5 Tryd.prog Tryd.laysWr5_ren := {
  mixed := by kernel_rfl
  f5 := Tryd.func40.trans (congrArg some (by kernel_rfl))
  f7 := Tryd.func54.trans (congrArg some (by kernel_rfl))
  f8 := Tryd.func55.trans (congrArg some (by kernel_rfl))
  f9 := Tryd.func56.trans (congrArg some (by kernel_rfl))
  f10 := Tryd.func57.trans (congrArg some (by kernel_rfl))
  f11 := Tryd.func88.trans (congrArg some (by kernel_rfl))
  f12 := Tryd.func89.trans (congrArg some (by kernel_rfl))
  f13 := Tryd.func90.trans (congrArg some (by kernel_rfl))
  f14 := Tryd.func91.trans (congrArg some (by kernel_rfl))
  f15 := Tryd.func100.trans (congrArg some (by kernel_rfl))
  t0 := Tryd.underlying0
  a0 := Tryd.isAgg0
  z0 := Tryd.sizeOf0
  v0 := Tryd.zeroValue0
  i0 := by kernel_rfl
  t3 := Tryd.underlying3
  a3 := Tryd.isAgg3
  z3 := Tryd.sizeOf3
  v3 := Tryd.zeroValue3
  i3 := by kernel_rfl
  t4 := Tryd.underlying4
  a4 := Tryd.isAgg4
  z4 := Tryd.sizeOf4
  v4 := Tryd.zeroValue4
  i4 := by kernel_rfl
  t5 := Tryd.underlying5
  a5 := Tryd.isAgg5
  z5 := Tryd.sizeOf5
  v5 := Tryd.zeroValue5
  i5 := by kernel_rfl
  t9 := Tryd.underlying9
  a9 := Tryd.isAgg9
  z9 := Tryd.sizeOf9
  v9 := Tryd.zeroValue9
  i9 := by kernel_rfl
  t20 := Tryd.underlying20
  a20 := Tryd.isAgg20
  z20 := Tryd.sizeOf20
  v20 := Tryd.zeroValue20
  i20 := by kernel_rfl
  t21 := Tryd.underlying21
  a21 := Tryd.isAgg21
  z21 := Tryd.sizeOf21
  v21 := Tryd.zeroValue21
  i21 := by kernel_rfl
  t22 := Tryd.underlying26
  a22 := Tryd.isAgg26
  z22 := Tryd.sizeOf26
  v22 := Tryd.zeroValue26
  i22 := by kernel_rfl
  t24 := Tryd.underlying67
  a24 := Tryd.isAgg67
  z24 := Tryd.sizeOf67
  v24 := Tryd.zeroValue67
  i24 := by kernel_rfl
  t26 := Tryd.underlying69
  a26 := Tryd.isAgg69
  z26 := Tryd.sizeOf69
  v26 := Tryd.zeroValue69
  i26 := by kernel_rfl
  t28 := Tryd.underlying37
  a28 := Tryd.isAgg37
  z28 := Tryd.sizeOf37
  v28 := Tryd.zeroValue37
  i28 := by kernel_rfl
  t31 := Tryd.underlying74
  a31 := Tryd.isAgg74
  z31 := Tryd.sizeOf74
  v31 := Tryd.zeroValue74
  i31 := by kernel_rfl
  t34 := Tryd.underlying65
  a34 := Tryd.isAgg65
  z34 := Tryd.sizeOf65
  v34 := Tryd.zeroValue65
  i34 := by kernel_rfl
  t35 := Tryd.underlying93
  a35 := Tryd.isAgg93
  z35 := Tryd.sizeOf93
  v35 := Tryd.zeroValue93
  i35 := by kernel_rfl
  t37 := Tryd.underlying95
  a37 := Tryd.isAgg95
  z37 := Tryd.sizeOf95
  v37 := Tryd.zeroValue95
  i37 := by kernel_rfl
  t43 := Tryd.underlying145
  a43 := Tryd.isAgg145
  z43 := Tryd.sizeOf145
  v43 := Tryd.zeroValue145
  i43 := by kernel_rfl
  g0 := by kernel_rfl
  m0 := by kernel_rfl }
open Go.RowKit in
/-- (*bytes.Buffer).WriteRune, AT EVERY RUNE: (the number of its bytes, nil); THE BUFFER HOLDS THEM BEHIND WHAT IT HELD. The frames: as '_k'. NO WALK: the two roads as one. (LAID: no walk: one application.) -/
theorem Tryd.Buffer_WriteRune_k (B b : Nat) (bs : List Value) (r : Int) (hr0 : -2147483648 ≤ r) (hr1 : r ≤ 2147483647) (w : World) (h : Lib.IsBuffer 69 5 B b bs w) (hBw : B ≤ w.heap.size) (h1 : ∀ v ∈ bs, v.oneCell' = true) (hlim : bs.length + 4 ≤ 140737488355328) :
    Calls Tryd.prog 40 #[.pointer (some ⟨b, 0, none⟩), .int .i32 r] w fun e w' => e = .returned (.tuple #[.int .i64 (Lib.runeCells r).length, .nilIface]) ∧ Lib.IsBuffer 69 5 B b (bs ++ Lib.runeCells r) w' ∧ Below B w w' ∧ Lib.OthersKept 5 (some b) w w' := Any.Buffer_WriteRune_k Tryd.laysWr5 B b bs r hr0 hr1 w h hBw h1 hlim
def Tryd.lays197_ren : Go.Shelf.Ren := ⟨fun | 197 => 39 | 260 => 53 | n => n, fun | 9 => 9 | 21 => 21 | 3 => 3 | 4 => 4 | 5 => 5 | 105 => 70 | 119 => 149 | 0 => 0 | 46 => 145 | 139 => 152 | 138 => 151 | n => n, fun | 3 => 1 | 4 => 2 | n => n⟩
theorem Tryd.lays197 : Go.Proofs.Lays.n197 Tryd.prog Tryd.lays197_ren := {
  mixed := by kernel_rfl
  f197 := Tryd.func39.trans (congrArg some (by kernel_rfl))
  f260 := Tryd.func53.trans (congrArg some (by kernel_rfl))
  t0 := Tryd.underlying0
  a0 := Tryd.isAgg0
  z0 := Tryd.sizeOf0
  v0 := Tryd.zeroValue0
  t3 := Tryd.underlying3
  a3 := Tryd.isAgg3
  z3 := Tryd.sizeOf3
  v3 := Tryd.zeroValue3
  t4 := Tryd.underlying4
  a4 := Tryd.isAgg4
  z4 := Tryd.sizeOf4
  v4 := Tryd.zeroValue4
  t5 := Tryd.underlying5
  a5 := Tryd.isAgg5
  z5 := Tryd.sizeOf5
  v5 := Tryd.zeroValue5
  t9 := Tryd.underlying9
  a9 := Tryd.isAgg9
  z9 := Tryd.sizeOf9
  v9 := Tryd.zeroValue9
  t21 := Tryd.underlying21
  a21 := Tryd.isAgg21
  z21 := Tryd.sizeOf21
  v21 := Tryd.zeroValue21
  t46 := Tryd.underlying145
  a46 := Tryd.isAgg145
  z46 := Tryd.sizeOf145
  v46 := Tryd.zeroValue145
  t105 := Tryd.underlying70
  a105 := Tryd.isAgg70
  z105 := Tryd.sizeOf70
  v105 := Tryd.zeroValue70
  t119 := Tryd.underlying149
  a119 := Tryd.isAgg149
  z119 := Tryd.sizeOf149
  t138 := Tryd.underlying151
  a138 := Tryd.isAgg151
  z138 := Tryd.sizeOf151
  v138 := Tryd.zeroValue151
  t139 := Tryd.underlying152
  a139 := Tryd.isAgg152
  z139 := Tryd.sizeOf152
  v139 := Tryd.zeroValue152
  g3 := by kernel_rfl
  g4 := by kernel_rfl }
def Tryd.lays260_ren : Go.Shelf.Ren := ⟨fun | 260 => 53 | n => n, fun | 9 => 9 | 21 => 21 | 3 => 3 | 4 => 4 | 5 => 5 | 119 => 149 | 0 => 0 | 46 => 145 | 139 => 152 | 138 => 151 | n => n, fun | 3 => 1 | 4 => 2 | n => n⟩
theorem Tryd.lays260 : Go.Proofs.Lays.n260 Tryd.prog Tryd.lays260_ren := {
  mixed := by kernel_rfl
  f260 := Tryd.func53.trans (congrArg some (by kernel_rfl))
  t0 := Tryd.underlying0
  a0 := Tryd.isAgg0
  z0 := Tryd.sizeOf0
  v0 := Tryd.zeroValue0
  t3 := Tryd.underlying3
  a3 := Tryd.isAgg3
  z3 := Tryd.sizeOf3
  v3 := Tryd.zeroValue3
  t4 := Tryd.underlying4
  a4 := Tryd.isAgg4
  z4 := Tryd.sizeOf4
  v4 := Tryd.zeroValue4
  t5 := Tryd.underlying5
  a5 := Tryd.isAgg5
  z5 := Tryd.sizeOf5
  v5 := Tryd.zeroValue5
  t9 := Tryd.underlying9
  a9 := Tryd.isAgg9
  z9 := Tryd.sizeOf9
  v9 := Tryd.zeroValue9
  t21 := Tryd.underlying21
  a21 := Tryd.isAgg21
  z21 := Tryd.sizeOf21
  v21 := Tryd.zeroValue21
  t46 := Tryd.underlying145
  a46 := Tryd.isAgg145
  z46 := Tryd.sizeOf145
  v46 := Tryd.zeroValue145
  t119 := Tryd.underlying149
  a119 := Tryd.isAgg149
  z119 := Tryd.sizeOf149
  t138 := Tryd.underlying151
  a138 := Tryd.isAgg151
  z138 := Tryd.sizeOf151
  v138 := Tryd.zeroValue151
  t139 := Tryd.underlying152
  a139 := Tryd.isAgg152
  z139 := Tryd.sizeOf152
  v139 := Tryd.zeroValue152
  g3 := by kernel_rfl
  g4 := by kernel_rfl }
open Go.RowKit Go.Lib in
/-- **unicode/utf8.DecodeRuneInString AT EVERY STRING.** (LAID: no walk: one application.) -/
theorem Tryd.utf8_DecodeRuneInString (s : ByteArray) (w : World) (hT : Lib.Utf8Tabs 1 2 w) :
    Calls Tryd.prog 39 #[.string s] w fun e w' => e = .returned (.tuple #[.int .i32 (Lib.decodeGo s).1, .int .i64 (Lib.decodeGo s).2]) ∧ Below w.heap.size w w' := Any.utf8_DecodeRuneInString Tryd.lays197 s w hT
end Go.Proofs

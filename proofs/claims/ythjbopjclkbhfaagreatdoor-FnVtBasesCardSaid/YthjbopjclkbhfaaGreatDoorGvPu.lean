/- strconv's ParseUint at a written base and size, and errors.New, as plain functions of the text. -/
import Derived.Test.YthjbopjclkbhfaaGreatDoorProg
import Derived.Test.YthjbopjclkbhfaaGreatDoorWWords
import Derived.WalkKit
import Derived.Below
import Derived.Lib.Strings
import Derived.Lib.Walk
import Derived.Lib.BufferWrite
import Derived.Lib.UnsafeStr
import Derived.Lib.Hide
import Derived.Lib.ConvBytes
import Derived.Lib.IfaceEq
import Derived.Laws.MakeOwn
import Derived.Laws.Strings3
import Derived.Laws.Closers25
import Derived.Laws.Closers25b
import Derived.RegionTactic
import Derived.Deep.RegionWith
import Derived.BigCall
import Derived.BigGuard
import Derived.LaidLaws
import Derived.KernelRfl
namespace Go.Proofs.YthjbopjclkbhfaaGreatDoor.Given
open Go.RowKit Go.Proofs.YthjbopjclkbhfaaGreatDoorW.PrintWords

/-- An error's value: nil, or some value of an interface. -/
def IsErr (v : Value) : Option Int → Prop
  | none => v = .nilIface
  | some _ => ∃ t u, v = .iface t u
def errNew.f (_ : ByteArray) : Option (Option Int) := some (some 0)
set_option maxHeartbeats 1000000 in
theorem errNew.calls (a0 : ByteArray) (r : Option Int) (w : World) (h : errNew.f a0 = some r) :
    Calls Tryz.prog 58 #[.string a0] w fun e w' => ∃ v, e = .returned v ∧ IsErr v r ∧ Below w.heap.size w w' := by
  have H : some 0 = r := Option.some.inj h
  subst H
  clear h
  go_enter Tryz.func58, Tryz.ntmps58
  go_wp2
  go_ret
  exact ⟨_, rfl, ⟨_, _, rfl⟩, (Below.refl _ _).alloc (Nat.le_refl _) _⟩

/-- The two sentinels of strconv's hold some errors. -/
def Glob (w : World) : Prop := (∃ t u, w.cell? ⟨4, 0, none⟩ = some (.iface t u)) ∧ (∃ t u, w.cell? ⟨5, 0, none⟩ = some (.iface t u))
theorem Glob.below {w w' : World} {n : Nat} (h : Glob w) (hb : Below n w w') (hn : w.heap.size ≤ n) : Glob w' := by
  obtain ⟨⟨t, u, h1⟩, t2, u2, h2⟩ := h
  exact ⟨⟨t, u, (hb.cell (p := ⟨4, 0, none⟩) (Nat.lt_of_lt_of_le (block_lt_of_cell h1) hn)).trans h1⟩, t2, u2, (hb.cell (p := ⟨5, 0, none⟩) (Nat.lt_of_lt_of_le (block_lt_of_cell h2) hn)).trans h2⟩

theorem infoU8 : (Tryz.prog.info? 5).map (fun i => (i.zero, i.size, i.bytes)) = some (some (.int .u8 0), 1, 1) := by kernel_rfl

set_option maxHeartbeats 4000000 in
set_option maxRecDepth 100000 in
/-- A copy of a text. -/
theorem clone.calls (s : ByteArray) (w : World) (hlim : s.size ≤ 281474976710656) :
    Calls Tryz.prog 57 #[.string s] w fun e w' => e = .returned (.string s) ∧ Below w.heap.size w w' := by
  by_cases h0 : s.size = 0
  · have hs : s = ⟨#[]⟩ := by
      apply ByteArray.ext
      exact Array.eq_empty_of_size_eq_zero h0
    subst hs
    go_enter Tryz.func57, Tryz.ntmps57
    go_wp2
    go_ret
    exact ⟨rfl, Below.refl _ _⟩
  · obtain ⟨i0, hi, hzz⟩ := Option.map_eq_some_iff.1 infoU8
    simp only [Prod.mk.injEq] at hzz
    obtain ⟨hz0, hz1, hz2⟩ := hzz
    have hinfo : (Tryz.prog.info? 5).map (·.size) = some 1 := by rw [hi]; simp [hz1]
    have hco : Tryz.prog.cellsOf 5 = 1 := by simp [Program.cellsOf, hi, hz1]
    obtain ⟨M, hM⟩ : ∃ M, M = madeCells (Value.int .u8 0).cells (((s.size : Nat) : Int).toNat * i0.size) := ⟨_, rfl⟩
    have hMs : M.size = s.size := by rw [hM, size_madeCells, hz1]; simp
    have hmk : ∀ W : World, (Instr.makeSlice 43 (.int .i64 (s.size : Int)) (.int .i64 (s.size : Int))).run Tryz.prog W = .ok (.slice (some ⟨W.heap.size, 0, none⟩) s.size s.size) (W.alloc (.cells M 5)) := fun W => by
      have h := run_make (P := Tryz.prog) W 43 5 i0 (.int .u8 0) Tryz.underlying43 hi hz0 .i64 .i64 (s.size : Int) (s.size : Int) (by omega) (by omega) (by rw [hz2]; omega) (by omega)
      rw [← hM] at h
      simpa using h
    clear hM
    have hcp := Lib.run_copy_row_string (P := Tryz.prog) (w.alloc (.cells M 5)) 43 9 3 5 w.heap.size 0 s.size s.size s M 5 Tryz.underlying43 hinfo (heap_alloc_new w _) (Nat.le_refl _) (by omega)
    obtain ⟨Y, hY⟩ : ∃ Y, Y = (M.toList.take 0 ++ Lib.byteCells s.data.toList ++ M.toList.drop (0 + s.size)).toArray := ⟨_, rfl⟩
    rw [← hY] at hcp
    have hYl : Y.toList = Lib.byteCells s.data.toList := by
      rw [hY, List.toList_toArray, List.take_zero, List.nil_append, List.drop_of_length_le (by rw [Array.length_toList]; omega), List.append_nil]
    have hYs : Y.size = s.size := by rw [← Array.length_toList, hYl, Lib.byteCells_length, ← Lib.size_eq]
    have hgY : ((w.alloc (.cells M 5)).setRow w.heap.size Y).heap[w.heap.size]? = some (.cells Y 5 (0, 0)) := setRow_heap _ _ M _ 5 (0, 0) (heap_alloc_new w _)
    have hne : s.data.toList ≠ [] := fun e => h0 (by rw [Lib.size_eq, e]; rfl)
    have hUS := Lib.run_unsafeString_row (P := Tryz.prog) ((w.alloc (.cells M 5)).setRow w.heap.size Y) 160 3 9 5 Tryz.underlying160 hco w.heap.size Y.size (by unfold World.shape?; rw [hgY]) s.data.toList hne (by rw [← Lib.size_eq]; omega) (by rw [← Lib.size_eq]; omega)
      (fun j x hx => Lib.cells_of_row hgY Y.size j _ (by rw [List.take_of_length_le (by rw [Array.length_toList]; exact Nat.le_refl _), hYl]; simp [Lib.byteCells, hx]))
    rw [← Lib.size_eq] at hUS
    clear hY
    go_enter Tryz.func57, Tryz.ntmps57
    go_wp2
    go_ret
    have hb1 : Below w.heap.size w (w.alloc (.cells M 5)) := (Below.refl _ w).alloc (Nat.le_refl _) _
    have hb2 : Below w.heap.size (w.alloc (.cells M 5)) ((w.alloc (.cells M 5)).setRow w.heap.size Y) := ⟨rfl, rfl, rfl, by simp, fun k hk => setRow_other _ _ _ _ (by omega)⟩
    exact ⟨rfl, Lib.below_freeze (hb1.trans hb2) (p := ⟨w.heap.size, 0, none⟩) (Nat.le_refl _) _⟩

set_option maxHeartbeats 6400000 in
set_option maxRecDepth 100000 in
theorem syn.calls (fn s : ByteArray) (te : TypeId) (pe : Value) (w : World) (hlim : s.size ≤ 281474976710656) (hv : w.cell? ⟨4, 0, none⟩ = some (.iface te pe)) :
    Calls Tryz.prog 42 #[.string fn, .string s] w fun e w' => ∃ N, e = .returned (.pointer (some ⟨N, 0, none⟩)) ∧ Below w.heap.size w w' := by
  have hG : 4 < w.heap.size := block_lt_of_cell hv
  have hvd : w.drew.cell? ⟨4, 0, none⟩ = some (.iface te pe) := hv
  go_enter Tryz.func42, Tryz.ntmps42
  go_wp2
  go_region_with (
      go_at_call 57
      refine (clone.calls s _ hlim).mono ?_
      rintro e w2 ⟨rfl, hbel⟩
      have hv2 : w2.cell? ⟨4, 0, none⟩ = some (.iface te pe) := (hbel.cell (show (⟨4, 0, none⟩ : Addr).block < w.drew.heap.size from hG)).trans hvd)
  all_goals (
    go_wp2
    go_ret
    have hs2 : w.heap.size ≤ w2.heap.size := hbel.size
    exact ⟨_, rfl, ((Below.drew (Below.refl _ w)).trans hbel).alloc hs2 _⟩)

set_option maxHeartbeats 6400000 in
set_option maxRecDepth 100000 in
theorem rng.calls (fn s : ByteArray) (te : TypeId) (pe : Value) (w : World) (hlim : s.size ≤ 281474976710656) (hv : w.cell? ⟨5, 0, none⟩ = some (.iface te pe)) :
    Calls Tryz.prog 43 #[.string fn, .string s] w fun e w' => ∃ N, e = .returned (.pointer (some ⟨N, 0, none⟩)) ∧ Below w.heap.size w w' := by
  have hG : 5 < w.heap.size := block_lt_of_cell hv
  have hvd : w.drew.cell? ⟨5, 0, none⟩ = some (.iface te pe) := hv
  go_enter Tryz.func43, Tryz.ntmps43
  go_wp2
  go_region_with (
      go_at_call 57
      refine (clone.calls s _ hlim).mono ?_
      rintro e w2 ⟨rfl, hbel⟩
      have hv2 : w2.cell? ⟨5, 0, none⟩ = some (.iface te pe) := (hbel.cell (show (⟨5, 0, none⟩ : Addr).block < w.drew.heap.size from hG)).trans hvd)
  all_goals (
    go_wp2
    go_ret
    have hs2 : w.heap.size ≤ w2.heap.size := hbel.size
    exact ⟨_, rfl, ((Below.drew (Below.refl _ w)).trans hbel).alloc hs2 _⟩)

theorem cmpS : (Tryz.prog.info? 116).map (·.comparable) = some true := by kernel_rfl
set_option maxHeartbeats 4000000 in
set_option maxRecDepth 100000 in
/-- What the outer package makes of the inner one's two errors. -/
theorem toErr.calls (fn s : ByteArray) (base bits m : Int) (w : World) (hlim : s.size ≤ 281474976710656) (hG : Glob w) (hm : m = 1 ∨ m = 2) :
    Calls Tryz.prog 36 #[.string fn, .string s, .int .i64 base, .int .i64 bits, .iface 116 (.int .i64 m)] w fun e w' => ∃ t u, e = .returned (.iface t u) ∧ Below w.heap.size w w' := by
  obtain ⟨⟨t1, u1, h1⟩, t2, u2, h2⟩ := hG
  rcases hm with rfl | rfl
  · have hq12 : ∀ W, (binOp .eql 39 (.iface 116 (.int .i64 1)) (.iface 116 (.int .i64 2))).run Tryz.prog W = .ok (.bool false) W := fun W => Lib.run_eql_iface_int W 1 2 Tryz.underlying39 cmpS Tryz.underlying116
    have hq11 : ∀ W, (binOp .eql 39 (.iface 116 (.int .i64 1)) (.iface 116 (.int .i64 1))).run Tryz.prog W = .ok (.bool true) W := fun W => Lib.run_eql_iface_int W 1 1 Tryz.underlying39 cmpS Tryz.underlying116
    have H1 := Lib.hid h1
    have H2 := Lib.hid h2
    clear h1 h2
    go_enter Tryz.func36, Tryz.ntmps36
    go_wp2_with (go_at_call 43; refine (rng.calls fn s t2 u2 _ hlim H2.out).mono ?_; rintro e w2 ⟨N, rfl, h3⟩)
    go_ret
    exact ⟨_, _, rfl, h3⟩
  · have hq22 : ∀ W, (binOp .eql 39 (.iface 116 (.int .i64 2)) (.iface 116 (.int .i64 2))).run Tryz.prog W = .ok (.bool true) W := fun W => Lib.run_eql_iface_int W 2 2 Tryz.underlying39 cmpS Tryz.underlying116
    have H1 := Lib.hid h1
    have H2 := Lib.hid h2
    clear h1 h2
    go_enter Tryz.func36, Tryz.ntmps36
    go_wp2_with (go_at_call 42; refine (syn.calls fn s t1 u1 _ hlim H1.out).mono ?_; rintro e w2 ⟨N, rfl, h3⟩)
    go_ret
    exact ⟨_, _, rfl, h3⟩

/-- A byte's value as a digit of a great base (255: it is none). -/
def dg (c : Int) : Int := if 48 ≤ c ∧ c ≤ 57 then c - 48 else if 97 ≤ bits .or .u8 c 32 ∧ bits .or .u8 c 32 ≤ 122 then bits .or .u8 c 32 - 87 else 255
/-- What comes of the digits: a number, bad syntax, too great. -/
inductive PE where
  | ok (n : Int)
  | syn
  | rng
def puGo (B M : Int) : Int → List UInt8 → PE
  | a, [] => .ok a
  | a, c :: r => if dg c.toNat ≥ B then .syn else if a * B + dg c.toNat > M then .rng else puGo B M (a * B + dg c.toNat) r
def PE.tuple (M : Int) : PE → Value
  | .ok n => .tuple #[.int .u64 n, .nilIface]
  | .syn => .tuple #[.int .u64 0, .iface 116 (.int .i64 2)]
  | .rng => .tuple #[.int .u64 M, .iface 116 (.int .i64 1)]
/-- What the outer ParseUint hands back: the number, and whether there is an error. -/
def PE.out (M : Int) : PE → Int × Option Int
  | .ok n => (n, none)
  | .syn => (0, some 0)
  | .rng => (M, some 0)
theorem puGo_digit {B M a : Int} {c : UInt8} {r : List UInt8} {d : Int} (h : dg c.toNat = d) : puGo B M a (c :: r) = if d ≥ B then .syn else if a * B + d > M then .rng else puGo B M (a * B + d) r := by
  subst h; rfl

theorem lower.calls (c l : Int) (w : World) (h : bits .or .u8 c 32 = l) :
    Calls Tryz.prog 46 #[.int .u8 c] w fun e w' => e = .returned (.int .u8 l) ∧ w = w' := by
  subst h
  go_enter Tryz.func46, Tryz.ntmps46
  go_wp2
  go_ret
  exact ⟨rfl, rfl⟩
theorem bw_below (w : World) (e : TypeId) (s : ByteArray) : Below w.heap.size w (Lib.bytesWorld w e s) :=
  Lib.below_freeze (((Below.drew (Below.refl _ w))).alloc (Nat.le_refl _) _) (p := ⟨w.heap.size, (Lib.bytesCells w e s).size, none⟩) (Nat.le_refl _) _

end Go.Proofs.YthjbopjclkbhfaaGreatDoor.Given

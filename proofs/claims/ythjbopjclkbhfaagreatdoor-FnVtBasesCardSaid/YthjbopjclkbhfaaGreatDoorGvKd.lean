/- The values of the seven kinds of whole numbers: their type, their bits, as plain data. -/
import Derived.Test.YthjbopjclkbhfaaGreatDoorDg
import Derived.LoopTactic
import Derived.Deep.QuietTactic
import Derived.BigQuiet
import Derived.Deep.RegionWith
import Derived.Deep.RegionHeld3
namespace Go.Proofs.YthjbopjclkbhfaaGreatDoor.Given
open Go.RowKit Go.Proofs.YthjbopjclkbhfaaGreatDoorW.PrintWords
set_option linter.unusedVariables false

theorem bcell {W w1 : World} (hb : Below W.heap.size W w1) : (∀ b o, b < W.heap.size → w1.cell? ⟨b, o, none⟩ = W.cell? ⟨b, o, none⟩) ∧ (∀ b o, b < W.heap.size → w1.frozen? ⟨b, o, none⟩ = W.frozen? ⟨b, o, none⟩) :=
  ⟨fun b o h => hb.cell (p := ⟨b, o, none⟩) h, fun b o h => hb.frozen (p := ⟨b, o, none⟩) h⟩
theorem below_new {w w1 : World} {o : Obj} (hb : Below (w.alloc o).heap.size (w.alloc o) w1) : Below w.heap.size w w1 :=
  ((Below.refl _ _).alloc (Nat.le_refl _) _).trans (hb.mono (by simp))
theorem two_new {w w1 : World} {o o' : Obj} (hb : Below ((w.alloc o).alloc o').heap.size ((w.alloc o).alloc o') w1) : w.heap.size + 1 < w1.heap.size := by
  have := hb.size
  simp at this
  omega
theorem below_new2 {w w1 w2 : World} {o o' : Obj} (hb : Below ((w.alloc o).alloc o').heap.size ((w.alloc o).alloc o') w1) (hb2 : Below w1.heap.size w1 w2) : Below w.heap.size w w2 :=
  ((((Below.refl _ _).alloc (Nat.le_refl _) _).alloc (by simp) _).trans (hb.mono (by simp; omega))).trans (hb2.mono (by have := two_new hb; omega))
/-- A type's zero value. -/
noncomputable def Zv (t : TypeId) : Value := ((Tryz.prog.info? t).bind (·.zero)).getD undef
theorem as_5_5 (v : Value) (w : World) : (Instr.typeAssert (.iface 5 v) 20 5 true).run Tryz.prog w = .ok (.tuple #[v, .bool true]) w := by kernel_rfl
theorem as_5_101 (v : Value) (w : World) : (Instr.typeAssert (.iface 5 v) 20 101 true).run Tryz.prog w = .ok (.tuple #[Zv 101, .bool false]) w := by kernel_rfl
theorem as_5_102 (v : Value) (w : World) : (Instr.typeAssert (.iface 5 v) 20 102 true).run Tryz.prog w = .ok (.tuple #[Zv 102, .bool false]) w := by kernel_rfl
theorem as_5_103 (v : Value) (w : World) : (Instr.typeAssert (.iface 5 v) 20 103 true).run Tryz.prog w = .ok (.tuple #[Zv 103, .bool false]) w := by kernel_rfl
theorem as_5_4 (v : Value) (w : World) : (Instr.typeAssert (.iface 5 v) 20 4 true).run Tryz.prog w = .ok (.tuple #[Zv 4, .bool false]) w := by kernel_rfl
theorem as_5_75 (v : Value) (w : World) : (Instr.typeAssert (.iface 5 v) 20 75 true).run Tryz.prog w = .ok (.tuple #[Zv 75, .bool false]) w := by kernel_rfl
theorem as_5_72 (v : Value) (w : World) : (Instr.typeAssert (.iface 5 v) 20 72 true).run Tryz.prog w = .ok (.tuple #[Zv 72, .bool false]) w := by kernel_rfl
theorem as_5_21 (v : Value) (w : World) : (Instr.typeAssert (.iface 5 v) 20 21 true).run Tryz.prog w = .ok (.tuple #[Zv 21, .bool false]) w := by kernel_rfl
theorem as_5_58 (v : Value) (w : World) : (Instr.typeAssert (.iface 5 v) 20 58 true).run Tryz.prog w = .ok (.tuple #[Zv 58, .bool false]) w := by kernel_rfl
theorem as_5_2 (v : Value) (w : World) : (Instr.typeAssert (.iface 5 v) 20 2 true).run Tryz.prog w = .ok (.tuple #[Zv 2, .bool false]) w := by kernel_rfl
theorem as_5_22 (v : Value) (w : World) : (Instr.typeAssert (.iface 5 v) 20 22 true).run Tryz.prog w = .ok (.tuple #[Zv 22, .bool false]) w := by kernel_rfl
theorem as_5_63 (v : Value) (w : World) : (Instr.typeAssert (.iface 5 v) 20 63 true).run Tryz.prog w = .ok (.tuple #[Zv 63, .bool false]) w := by kernel_rfl
theorem as_5_9 (v : Value) (w : World) : (Instr.typeAssert (.iface 5 v) 20 9 true).run Tryz.prog w = .ok (.tuple #[Zv 9, .bool false]) w := by kernel_rfl
theorem as_5_85 (v : Value) (w : World) : (Instr.typeAssert (.iface 5 v) 20 85 true).run Tryz.prog w = .ok (.tuple #[Zv 85, .bool false]) w := by kernel_rfl
theorem as_5_53 (v : Value) (w : World) : (Instr.typeAssert (.iface 5 v) 20 53 true).run Tryz.prog w = .ok (.tuple #[Zv 53, .bool false]) w := by kernel_rfl
theorem as_5_87 (v : Value) (w : World) : (Instr.typeAssert (.iface 5 v) 20 87 true).run Tryz.prog w = .ok (.tuple #[Zv 87, .bool false]) w := by kernel_rfl
theorem as_5_77 (v : Value) (w : World) : (Instr.typeAssert (.iface 5 v) 20 77 true).run Tryz.prog w = .ok (.tuple #[Zv 77, .bool false]) w := by kernel_rfl
theorem as_5_83 (v : Value) (w : World) : (Instr.typeAssert (.iface 5 v) 20 83 true).run Tryz.prog w = .ok (.tuple #[Zv 83, .bool false]) w := by kernel_rfl
theorem as_5_89 (v : Value) (w : World) : (Instr.typeAssert (.iface 5 v) 20 89 true).run Tryz.prog w = .ok (.tuple #[Zv 89, .bool false]) w := by kernel_rfl
theorem as_5_43 (v : Value) (w : World) : (Instr.typeAssert (.iface 5 v) 20 43 true).run Tryz.prog w = .ok (.tuple #[Zv 43, .bool false]) w := by kernel_rfl
theorem as_5_104 (v : Value) (w : World) : (Instr.typeAssert (.iface 5 v) 20 104 true).run Tryz.prog w = .ok (.tuple #[Zv 104, .bool false]) w := by kernel_rfl
theorem as_5_88 (v : Value) (w : World) : (Instr.typeAssert (.iface 5 v) 20 88 true).run Tryz.prog w = .ok (.tuple #[Zv 88, .bool false]) w := by kernel_rfl
theorem as_5_94 (v : Value) (w : World) : (Instr.typeAssert (.iface 5 v) 20 94 true).run Tryz.prog w = .ok (.tuple #[Zv 94, .bool false]) w := by kernel_rfl
theorem as_75_5 (v : Value) (w : World) : (Instr.typeAssert (.iface 75 v) 20 5 true).run Tryz.prog w = .ok (.tuple #[Zv 5, .bool false]) w := by kernel_rfl
theorem as_75_101 (v : Value) (w : World) : (Instr.typeAssert (.iface 75 v) 20 101 true).run Tryz.prog w = .ok (.tuple #[Zv 101, .bool false]) w := by kernel_rfl
theorem as_75_102 (v : Value) (w : World) : (Instr.typeAssert (.iface 75 v) 20 102 true).run Tryz.prog w = .ok (.tuple #[Zv 102, .bool false]) w := by kernel_rfl
theorem as_75_103 (v : Value) (w : World) : (Instr.typeAssert (.iface 75 v) 20 103 true).run Tryz.prog w = .ok (.tuple #[Zv 103, .bool false]) w := by kernel_rfl
theorem as_75_4 (v : Value) (w : World) : (Instr.typeAssert (.iface 75 v) 20 4 true).run Tryz.prog w = .ok (.tuple #[Zv 4, .bool false]) w := by kernel_rfl
theorem as_75_75 (v : Value) (w : World) : (Instr.typeAssert (.iface 75 v) 20 75 true).run Tryz.prog w = .ok (.tuple #[v, .bool true]) w := by kernel_rfl
theorem as_75_72 (v : Value) (w : World) : (Instr.typeAssert (.iface 75 v) 20 72 true).run Tryz.prog w = .ok (.tuple #[Zv 72, .bool false]) w := by kernel_rfl
theorem as_75_21 (v : Value) (w : World) : (Instr.typeAssert (.iface 75 v) 20 21 true).run Tryz.prog w = .ok (.tuple #[Zv 21, .bool false]) w := by kernel_rfl
theorem as_75_58 (v : Value) (w : World) : (Instr.typeAssert (.iface 75 v) 20 58 true).run Tryz.prog w = .ok (.tuple #[Zv 58, .bool false]) w := by kernel_rfl
theorem as_75_2 (v : Value) (w : World) : (Instr.typeAssert (.iface 75 v) 20 2 true).run Tryz.prog w = .ok (.tuple #[Zv 2, .bool false]) w := by kernel_rfl
theorem as_75_22 (v : Value) (w : World) : (Instr.typeAssert (.iface 75 v) 20 22 true).run Tryz.prog w = .ok (.tuple #[Zv 22, .bool false]) w := by kernel_rfl
theorem as_75_63 (v : Value) (w : World) : (Instr.typeAssert (.iface 75 v) 20 63 true).run Tryz.prog w = .ok (.tuple #[Zv 63, .bool false]) w := by kernel_rfl
theorem as_75_9 (v : Value) (w : World) : (Instr.typeAssert (.iface 75 v) 20 9 true).run Tryz.prog w = .ok (.tuple #[Zv 9, .bool false]) w := by kernel_rfl
theorem as_75_85 (v : Value) (w : World) : (Instr.typeAssert (.iface 75 v) 20 85 true).run Tryz.prog w = .ok (.tuple #[Zv 85, .bool false]) w := by kernel_rfl
theorem as_75_53 (v : Value) (w : World) : (Instr.typeAssert (.iface 75 v) 20 53 true).run Tryz.prog w = .ok (.tuple #[Zv 53, .bool false]) w := by kernel_rfl
theorem as_75_87 (v : Value) (w : World) : (Instr.typeAssert (.iface 75 v) 20 87 true).run Tryz.prog w = .ok (.tuple #[Zv 87, .bool false]) w := by kernel_rfl
theorem as_75_77 (v : Value) (w : World) : (Instr.typeAssert (.iface 75 v) 20 77 true).run Tryz.prog w = .ok (.tuple #[Zv 77, .bool false]) w := by kernel_rfl
theorem as_75_83 (v : Value) (w : World) : (Instr.typeAssert (.iface 75 v) 20 83 true).run Tryz.prog w = .ok (.tuple #[Zv 83, .bool false]) w := by kernel_rfl
theorem as_75_89 (v : Value) (w : World) : (Instr.typeAssert (.iface 75 v) 20 89 true).run Tryz.prog w = .ok (.tuple #[Zv 89, .bool false]) w := by kernel_rfl
theorem as_75_43 (v : Value) (w : World) : (Instr.typeAssert (.iface 75 v) 20 43 true).run Tryz.prog w = .ok (.tuple #[Zv 43, .bool false]) w := by kernel_rfl
theorem as_75_104 (v : Value) (w : World) : (Instr.typeAssert (.iface 75 v) 20 104 true).run Tryz.prog w = .ok (.tuple #[Zv 104, .bool false]) w := by kernel_rfl
theorem as_75_88 (v : Value) (w : World) : (Instr.typeAssert (.iface 75 v) 20 88 true).run Tryz.prog w = .ok (.tuple #[Zv 88, .bool false]) w := by kernel_rfl
theorem as_75_94 (v : Value) (w : World) : (Instr.typeAssert (.iface 75 v) 20 94 true).run Tryz.prog w = .ok (.tuple #[Zv 94, .bool false]) w := by kernel_rfl
theorem as_72_5 (v : Value) (w : World) : (Instr.typeAssert (.iface 72 v) 20 5 true).run Tryz.prog w = .ok (.tuple #[Zv 5, .bool false]) w := by kernel_rfl
theorem as_72_101 (v : Value) (w : World) : (Instr.typeAssert (.iface 72 v) 20 101 true).run Tryz.prog w = .ok (.tuple #[Zv 101, .bool false]) w := by kernel_rfl
theorem as_72_102 (v : Value) (w : World) : (Instr.typeAssert (.iface 72 v) 20 102 true).run Tryz.prog w = .ok (.tuple #[Zv 102, .bool false]) w := by kernel_rfl
theorem as_72_103 (v : Value) (w : World) : (Instr.typeAssert (.iface 72 v) 20 103 true).run Tryz.prog w = .ok (.tuple #[Zv 103, .bool false]) w := by kernel_rfl
theorem as_72_4 (v : Value) (w : World) : (Instr.typeAssert (.iface 72 v) 20 4 true).run Tryz.prog w = .ok (.tuple #[Zv 4, .bool false]) w := by kernel_rfl
theorem as_72_75 (v : Value) (w : World) : (Instr.typeAssert (.iface 72 v) 20 75 true).run Tryz.prog w = .ok (.tuple #[Zv 75, .bool false]) w := by kernel_rfl
theorem as_72_72 (v : Value) (w : World) : (Instr.typeAssert (.iface 72 v) 20 72 true).run Tryz.prog w = .ok (.tuple #[v, .bool true]) w := by kernel_rfl
theorem as_72_21 (v : Value) (w : World) : (Instr.typeAssert (.iface 72 v) 20 21 true).run Tryz.prog w = .ok (.tuple #[Zv 21, .bool false]) w := by kernel_rfl
theorem as_72_58 (v : Value) (w : World) : (Instr.typeAssert (.iface 72 v) 20 58 true).run Tryz.prog w = .ok (.tuple #[Zv 58, .bool false]) w := by kernel_rfl
theorem as_72_2 (v : Value) (w : World) : (Instr.typeAssert (.iface 72 v) 20 2 true).run Tryz.prog w = .ok (.tuple #[Zv 2, .bool false]) w := by kernel_rfl
theorem as_72_22 (v : Value) (w : World) : (Instr.typeAssert (.iface 72 v) 20 22 true).run Tryz.prog w = .ok (.tuple #[Zv 22, .bool false]) w := by kernel_rfl
theorem as_72_63 (v : Value) (w : World) : (Instr.typeAssert (.iface 72 v) 20 63 true).run Tryz.prog w = .ok (.tuple #[Zv 63, .bool false]) w := by kernel_rfl
theorem as_72_9 (v : Value) (w : World) : (Instr.typeAssert (.iface 72 v) 20 9 true).run Tryz.prog w = .ok (.tuple #[Zv 9, .bool false]) w := by kernel_rfl
theorem as_72_85 (v : Value) (w : World) : (Instr.typeAssert (.iface 72 v) 20 85 true).run Tryz.prog w = .ok (.tuple #[Zv 85, .bool false]) w := by kernel_rfl
theorem as_72_53 (v : Value) (w : World) : (Instr.typeAssert (.iface 72 v) 20 53 true).run Tryz.prog w = .ok (.tuple #[Zv 53, .bool false]) w := by kernel_rfl
theorem as_72_87 (v : Value) (w : World) : (Instr.typeAssert (.iface 72 v) 20 87 true).run Tryz.prog w = .ok (.tuple #[Zv 87, .bool false]) w := by kernel_rfl
theorem as_72_77 (v : Value) (w : World) : (Instr.typeAssert (.iface 72 v) 20 77 true).run Tryz.prog w = .ok (.tuple #[Zv 77, .bool false]) w := by kernel_rfl
theorem as_72_83 (v : Value) (w : World) : (Instr.typeAssert (.iface 72 v) 20 83 true).run Tryz.prog w = .ok (.tuple #[Zv 83, .bool false]) w := by kernel_rfl
theorem as_72_89 (v : Value) (w : World) : (Instr.typeAssert (.iface 72 v) 20 89 true).run Tryz.prog w = .ok (.tuple #[Zv 89, .bool false]) w := by kernel_rfl
theorem as_72_43 (v : Value) (w : World) : (Instr.typeAssert (.iface 72 v) 20 43 true).run Tryz.prog w = .ok (.tuple #[Zv 43, .bool false]) w := by kernel_rfl
theorem as_72_104 (v : Value) (w : World) : (Instr.typeAssert (.iface 72 v) 20 104 true).run Tryz.prog w = .ok (.tuple #[Zv 104, .bool false]) w := by kernel_rfl
theorem as_72_88 (v : Value) (w : World) : (Instr.typeAssert (.iface 72 v) 20 88 true).run Tryz.prog w = .ok (.tuple #[Zv 88, .bool false]) w := by kernel_rfl
theorem as_72_94 (v : Value) (w : World) : (Instr.typeAssert (.iface 72 v) 20 94 true).run Tryz.prog w = .ok (.tuple #[Zv 94, .bool false]) w := by kernel_rfl
theorem as_21_5 (v : Value) (w : World) : (Instr.typeAssert (.iface 21 v) 20 5 true).run Tryz.prog w = .ok (.tuple #[Zv 5, .bool false]) w := by kernel_rfl
theorem as_21_101 (v : Value) (w : World) : (Instr.typeAssert (.iface 21 v) 20 101 true).run Tryz.prog w = .ok (.tuple #[Zv 101, .bool false]) w := by kernel_rfl
theorem as_21_102 (v : Value) (w : World) : (Instr.typeAssert (.iface 21 v) 20 102 true).run Tryz.prog w = .ok (.tuple #[Zv 102, .bool false]) w := by kernel_rfl
theorem as_21_103 (v : Value) (w : World) : (Instr.typeAssert (.iface 21 v) 20 103 true).run Tryz.prog w = .ok (.tuple #[Zv 103, .bool false]) w := by kernel_rfl
theorem as_21_4 (v : Value) (w : World) : (Instr.typeAssert (.iface 21 v) 20 4 true).run Tryz.prog w = .ok (.tuple #[Zv 4, .bool false]) w := by kernel_rfl
theorem as_21_75 (v : Value) (w : World) : (Instr.typeAssert (.iface 21 v) 20 75 true).run Tryz.prog w = .ok (.tuple #[Zv 75, .bool false]) w := by kernel_rfl
theorem as_21_72 (v : Value) (w : World) : (Instr.typeAssert (.iface 21 v) 20 72 true).run Tryz.prog w = .ok (.tuple #[Zv 72, .bool false]) w := by kernel_rfl
theorem as_21_21 (v : Value) (w : World) : (Instr.typeAssert (.iface 21 v) 20 21 true).run Tryz.prog w = .ok (.tuple #[v, .bool true]) w := by kernel_rfl
theorem as_21_58 (v : Value) (w : World) : (Instr.typeAssert (.iface 21 v) 20 58 true).run Tryz.prog w = .ok (.tuple #[Zv 58, .bool false]) w := by kernel_rfl
theorem as_21_2 (v : Value) (w : World) : (Instr.typeAssert (.iface 21 v) 20 2 true).run Tryz.prog w = .ok (.tuple #[Zv 2, .bool false]) w := by kernel_rfl
theorem as_21_22 (v : Value) (w : World) : (Instr.typeAssert (.iface 21 v) 20 22 true).run Tryz.prog w = .ok (.tuple #[Zv 22, .bool false]) w := by kernel_rfl
theorem as_21_63 (v : Value) (w : World) : (Instr.typeAssert (.iface 21 v) 20 63 true).run Tryz.prog w = .ok (.tuple #[Zv 63, .bool false]) w := by kernel_rfl
theorem as_21_9 (v : Value) (w : World) : (Instr.typeAssert (.iface 21 v) 20 9 true).run Tryz.prog w = .ok (.tuple #[Zv 9, .bool false]) w := by kernel_rfl
theorem as_21_85 (v : Value) (w : World) : (Instr.typeAssert (.iface 21 v) 20 85 true).run Tryz.prog w = .ok (.tuple #[Zv 85, .bool false]) w := by kernel_rfl
theorem as_21_53 (v : Value) (w : World) : (Instr.typeAssert (.iface 21 v) 20 53 true).run Tryz.prog w = .ok (.tuple #[Zv 53, .bool false]) w := by kernel_rfl
theorem as_21_87 (v : Value) (w : World) : (Instr.typeAssert (.iface 21 v) 20 87 true).run Tryz.prog w = .ok (.tuple #[Zv 87, .bool false]) w := by kernel_rfl
theorem as_21_77 (v : Value) (w : World) : (Instr.typeAssert (.iface 21 v) 20 77 true).run Tryz.prog w = .ok (.tuple #[Zv 77, .bool false]) w := by kernel_rfl
theorem as_21_83 (v : Value) (w : World) : (Instr.typeAssert (.iface 21 v) 20 83 true).run Tryz.prog w = .ok (.tuple #[Zv 83, .bool false]) w := by kernel_rfl
theorem as_21_89 (v : Value) (w : World) : (Instr.typeAssert (.iface 21 v) 20 89 true).run Tryz.prog w = .ok (.tuple #[Zv 89, .bool false]) w := by kernel_rfl
theorem as_21_43 (v : Value) (w : World) : (Instr.typeAssert (.iface 21 v) 20 43 true).run Tryz.prog w = .ok (.tuple #[Zv 43, .bool false]) w := by kernel_rfl
theorem as_21_104 (v : Value) (w : World) : (Instr.typeAssert (.iface 21 v) 20 104 true).run Tryz.prog w = .ok (.tuple #[Zv 104, .bool false]) w := by kernel_rfl
theorem as_21_88 (v : Value) (w : World) : (Instr.typeAssert (.iface 21 v) 20 88 true).run Tryz.prog w = .ok (.tuple #[Zv 88, .bool false]) w := by kernel_rfl
theorem as_21_94 (v : Value) (w : World) : (Instr.typeAssert (.iface 21 v) 20 94 true).run Tryz.prog w = .ok (.tuple #[Zv 94, .bool false]) w := by kernel_rfl
theorem as_58_5 (v : Value) (w : World) : (Instr.typeAssert (.iface 58 v) 20 5 true).run Tryz.prog w = .ok (.tuple #[Zv 5, .bool false]) w := by kernel_rfl
theorem as_58_101 (v : Value) (w : World) : (Instr.typeAssert (.iface 58 v) 20 101 true).run Tryz.prog w = .ok (.tuple #[Zv 101, .bool false]) w := by kernel_rfl
theorem as_58_102 (v : Value) (w : World) : (Instr.typeAssert (.iface 58 v) 20 102 true).run Tryz.prog w = .ok (.tuple #[Zv 102, .bool false]) w := by kernel_rfl
theorem as_58_103 (v : Value) (w : World) : (Instr.typeAssert (.iface 58 v) 20 103 true).run Tryz.prog w = .ok (.tuple #[Zv 103, .bool false]) w := by kernel_rfl
theorem as_58_4 (v : Value) (w : World) : (Instr.typeAssert (.iface 58 v) 20 4 true).run Tryz.prog w = .ok (.tuple #[Zv 4, .bool false]) w := by kernel_rfl
theorem as_58_75 (v : Value) (w : World) : (Instr.typeAssert (.iface 58 v) 20 75 true).run Tryz.prog w = .ok (.tuple #[Zv 75, .bool false]) w := by kernel_rfl
theorem as_58_72 (v : Value) (w : World) : (Instr.typeAssert (.iface 58 v) 20 72 true).run Tryz.prog w = .ok (.tuple #[Zv 72, .bool false]) w := by kernel_rfl
theorem as_58_21 (v : Value) (w : World) : (Instr.typeAssert (.iface 58 v) 20 21 true).run Tryz.prog w = .ok (.tuple #[Zv 21, .bool false]) w := by kernel_rfl
theorem as_58_58 (v : Value) (w : World) : (Instr.typeAssert (.iface 58 v) 20 58 true).run Tryz.prog w = .ok (.tuple #[v, .bool true]) w := by kernel_rfl
theorem as_58_2 (v : Value) (w : World) : (Instr.typeAssert (.iface 58 v) 20 2 true).run Tryz.prog w = .ok (.tuple #[Zv 2, .bool false]) w := by kernel_rfl
theorem as_58_22 (v : Value) (w : World) : (Instr.typeAssert (.iface 58 v) 20 22 true).run Tryz.prog w = .ok (.tuple #[Zv 22, .bool false]) w := by kernel_rfl
theorem as_58_63 (v : Value) (w : World) : (Instr.typeAssert (.iface 58 v) 20 63 true).run Tryz.prog w = .ok (.tuple #[Zv 63, .bool false]) w := by kernel_rfl
theorem as_58_9 (v : Value) (w : World) : (Instr.typeAssert (.iface 58 v) 20 9 true).run Tryz.prog w = .ok (.tuple #[Zv 9, .bool false]) w := by kernel_rfl
theorem as_58_85 (v : Value) (w : World) : (Instr.typeAssert (.iface 58 v) 20 85 true).run Tryz.prog w = .ok (.tuple #[Zv 85, .bool false]) w := by kernel_rfl
theorem as_58_53 (v : Value) (w : World) : (Instr.typeAssert (.iface 58 v) 20 53 true).run Tryz.prog w = .ok (.tuple #[Zv 53, .bool false]) w := by kernel_rfl
theorem as_58_87 (v : Value) (w : World) : (Instr.typeAssert (.iface 58 v) 20 87 true).run Tryz.prog w = .ok (.tuple #[Zv 87, .bool false]) w := by kernel_rfl
theorem as_58_77 (v : Value) (w : World) : (Instr.typeAssert (.iface 58 v) 20 77 true).run Tryz.prog w = .ok (.tuple #[Zv 77, .bool false]) w := by kernel_rfl
theorem as_58_83 (v : Value) (w : World) : (Instr.typeAssert (.iface 58 v) 20 83 true).run Tryz.prog w = .ok (.tuple #[Zv 83, .bool false]) w := by kernel_rfl
theorem as_58_89 (v : Value) (w : World) : (Instr.typeAssert (.iface 58 v) 20 89 true).run Tryz.prog w = .ok (.tuple #[Zv 89, .bool false]) w := by kernel_rfl
theorem as_58_43 (v : Value) (w : World) : (Instr.typeAssert (.iface 58 v) 20 43 true).run Tryz.prog w = .ok (.tuple #[Zv 43, .bool false]) w := by kernel_rfl
theorem as_58_104 (v : Value) (w : World) : (Instr.typeAssert (.iface 58 v) 20 104 true).run Tryz.prog w = .ok (.tuple #[Zv 104, .bool false]) w := by kernel_rfl
theorem as_58_88 (v : Value) (w : World) : (Instr.typeAssert (.iface 58 v) 20 88 true).run Tryz.prog w = .ok (.tuple #[Zv 88, .bool false]) w := by kernel_rfl
theorem as_58_94 (v : Value) (w : World) : (Instr.typeAssert (.iface 58 v) 20 94 true).run Tryz.prog w = .ok (.tuple #[Zv 94, .bool false]) w := by kernel_rfl
theorem as_2_5 (v : Value) (w : World) : (Instr.typeAssert (.iface 2 v) 20 5 true).run Tryz.prog w = .ok (.tuple #[Zv 5, .bool false]) w := by kernel_rfl
theorem as_2_101 (v : Value) (w : World) : (Instr.typeAssert (.iface 2 v) 20 101 true).run Tryz.prog w = .ok (.tuple #[Zv 101, .bool false]) w := by kernel_rfl
theorem as_2_102 (v : Value) (w : World) : (Instr.typeAssert (.iface 2 v) 20 102 true).run Tryz.prog w = .ok (.tuple #[Zv 102, .bool false]) w := by kernel_rfl
theorem as_2_103 (v : Value) (w : World) : (Instr.typeAssert (.iface 2 v) 20 103 true).run Tryz.prog w = .ok (.tuple #[Zv 103, .bool false]) w := by kernel_rfl
theorem as_2_4 (v : Value) (w : World) : (Instr.typeAssert (.iface 2 v) 20 4 true).run Tryz.prog w = .ok (.tuple #[Zv 4, .bool false]) w := by kernel_rfl
theorem as_2_75 (v : Value) (w : World) : (Instr.typeAssert (.iface 2 v) 20 75 true).run Tryz.prog w = .ok (.tuple #[Zv 75, .bool false]) w := by kernel_rfl
theorem as_2_72 (v : Value) (w : World) : (Instr.typeAssert (.iface 2 v) 20 72 true).run Tryz.prog w = .ok (.tuple #[Zv 72, .bool false]) w := by kernel_rfl
theorem as_2_21 (v : Value) (w : World) : (Instr.typeAssert (.iface 2 v) 20 21 true).run Tryz.prog w = .ok (.tuple #[Zv 21, .bool false]) w := by kernel_rfl
theorem as_2_58 (v : Value) (w : World) : (Instr.typeAssert (.iface 2 v) 20 58 true).run Tryz.prog w = .ok (.tuple #[Zv 58, .bool false]) w := by kernel_rfl
theorem as_2_2 (v : Value) (w : World) : (Instr.typeAssert (.iface 2 v) 20 2 true).run Tryz.prog w = .ok (.tuple #[v, .bool true]) w := by kernel_rfl
theorem as_2_22 (v : Value) (w : World) : (Instr.typeAssert (.iface 2 v) 20 22 true).run Tryz.prog w = .ok (.tuple #[Zv 22, .bool false]) w := by kernel_rfl
theorem as_2_63 (v : Value) (w : World) : (Instr.typeAssert (.iface 2 v) 20 63 true).run Tryz.prog w = .ok (.tuple #[Zv 63, .bool false]) w := by kernel_rfl
theorem as_2_9 (v : Value) (w : World) : (Instr.typeAssert (.iface 2 v) 20 9 true).run Tryz.prog w = .ok (.tuple #[Zv 9, .bool false]) w := by kernel_rfl
theorem as_2_85 (v : Value) (w : World) : (Instr.typeAssert (.iface 2 v) 20 85 true).run Tryz.prog w = .ok (.tuple #[Zv 85, .bool false]) w := by kernel_rfl
theorem as_2_53 (v : Value) (w : World) : (Instr.typeAssert (.iface 2 v) 20 53 true).run Tryz.prog w = .ok (.tuple #[Zv 53, .bool false]) w := by kernel_rfl
theorem as_2_87 (v : Value) (w : World) : (Instr.typeAssert (.iface 2 v) 20 87 true).run Tryz.prog w = .ok (.tuple #[Zv 87, .bool false]) w := by kernel_rfl
theorem as_2_77 (v : Value) (w : World) : (Instr.typeAssert (.iface 2 v) 20 77 true).run Tryz.prog w = .ok (.tuple #[Zv 77, .bool false]) w := by kernel_rfl
theorem as_2_83 (v : Value) (w : World) : (Instr.typeAssert (.iface 2 v) 20 83 true).run Tryz.prog w = .ok (.tuple #[Zv 83, .bool false]) w := by kernel_rfl
theorem as_2_89 (v : Value) (w : World) : (Instr.typeAssert (.iface 2 v) 20 89 true).run Tryz.prog w = .ok (.tuple #[Zv 89, .bool false]) w := by kernel_rfl
theorem as_2_43 (v : Value) (w : World) : (Instr.typeAssert (.iface 2 v) 20 43 true).run Tryz.prog w = .ok (.tuple #[Zv 43, .bool false]) w := by kernel_rfl
theorem as_2_104 (v : Value) (w : World) : (Instr.typeAssert (.iface 2 v) 20 104 true).run Tryz.prog w = .ok (.tuple #[Zv 104, .bool false]) w := by kernel_rfl
theorem as_2_88 (v : Value) (w : World) : (Instr.typeAssert (.iface 2 v) 20 88 true).run Tryz.prog w = .ok (.tuple #[Zv 88, .bool false]) w := by kernel_rfl
theorem as_2_94 (v : Value) (w : World) : (Instr.typeAssert (.iface 2 v) 20 94 true).run Tryz.prog w = .ok (.tuple #[Zv 94, .bool false]) w := by kernel_rfl
theorem as_22_5 (v : Value) (w : World) : (Instr.typeAssert (.iface 22 v) 20 5 true).run Tryz.prog w = .ok (.tuple #[Zv 5, .bool false]) w := by kernel_rfl
theorem as_22_101 (v : Value) (w : World) : (Instr.typeAssert (.iface 22 v) 20 101 true).run Tryz.prog w = .ok (.tuple #[Zv 101, .bool false]) w := by kernel_rfl
theorem as_22_102 (v : Value) (w : World) : (Instr.typeAssert (.iface 22 v) 20 102 true).run Tryz.prog w = .ok (.tuple #[Zv 102, .bool false]) w := by kernel_rfl
theorem as_22_103 (v : Value) (w : World) : (Instr.typeAssert (.iface 22 v) 20 103 true).run Tryz.prog w = .ok (.tuple #[Zv 103, .bool false]) w := by kernel_rfl
theorem as_22_4 (v : Value) (w : World) : (Instr.typeAssert (.iface 22 v) 20 4 true).run Tryz.prog w = .ok (.tuple #[Zv 4, .bool false]) w := by kernel_rfl
theorem as_22_75 (v : Value) (w : World) : (Instr.typeAssert (.iface 22 v) 20 75 true).run Tryz.prog w = .ok (.tuple #[Zv 75, .bool false]) w := by kernel_rfl
theorem as_22_72 (v : Value) (w : World) : (Instr.typeAssert (.iface 22 v) 20 72 true).run Tryz.prog w = .ok (.tuple #[Zv 72, .bool false]) w := by kernel_rfl
theorem as_22_21 (v : Value) (w : World) : (Instr.typeAssert (.iface 22 v) 20 21 true).run Tryz.prog w = .ok (.tuple #[Zv 21, .bool false]) w := by kernel_rfl
theorem as_22_58 (v : Value) (w : World) : (Instr.typeAssert (.iface 22 v) 20 58 true).run Tryz.prog w = .ok (.tuple #[Zv 58, .bool false]) w := by kernel_rfl
theorem as_22_2 (v : Value) (w : World) : (Instr.typeAssert (.iface 22 v) 20 2 true).run Tryz.prog w = .ok (.tuple #[Zv 2, .bool false]) w := by kernel_rfl
theorem as_22_22 (v : Value) (w : World) : (Instr.typeAssert (.iface 22 v) 20 22 true).run Tryz.prog w = .ok (.tuple #[v, .bool true]) w := by kernel_rfl
theorem as_22_63 (v : Value) (w : World) : (Instr.typeAssert (.iface 22 v) 20 63 true).run Tryz.prog w = .ok (.tuple #[Zv 63, .bool false]) w := by kernel_rfl
theorem as_22_9 (v : Value) (w : World) : (Instr.typeAssert (.iface 22 v) 20 9 true).run Tryz.prog w = .ok (.tuple #[Zv 9, .bool false]) w := by kernel_rfl
theorem as_22_85 (v : Value) (w : World) : (Instr.typeAssert (.iface 22 v) 20 85 true).run Tryz.prog w = .ok (.tuple #[Zv 85, .bool false]) w := by kernel_rfl
theorem as_22_53 (v : Value) (w : World) : (Instr.typeAssert (.iface 22 v) 20 53 true).run Tryz.prog w = .ok (.tuple #[Zv 53, .bool false]) w := by kernel_rfl
theorem as_22_87 (v : Value) (w : World) : (Instr.typeAssert (.iface 22 v) 20 87 true).run Tryz.prog w = .ok (.tuple #[Zv 87, .bool false]) w := by kernel_rfl
theorem as_22_77 (v : Value) (w : World) : (Instr.typeAssert (.iface 22 v) 20 77 true).run Tryz.prog w = .ok (.tuple #[Zv 77, .bool false]) w := by kernel_rfl
theorem as_22_83 (v : Value) (w : World) : (Instr.typeAssert (.iface 22 v) 20 83 true).run Tryz.prog w = .ok (.tuple #[Zv 83, .bool false]) w := by kernel_rfl
theorem as_22_89 (v : Value) (w : World) : (Instr.typeAssert (.iface 22 v) 20 89 true).run Tryz.prog w = .ok (.tuple #[Zv 89, .bool false]) w := by kernel_rfl
theorem as_22_43 (v : Value) (w : World) : (Instr.typeAssert (.iface 22 v) 20 43 true).run Tryz.prog w = .ok (.tuple #[Zv 43, .bool false]) w := by kernel_rfl
theorem as_22_104 (v : Value) (w : World) : (Instr.typeAssert (.iface 22 v) 20 104 true).run Tryz.prog w = .ok (.tuple #[Zv 104, .bool false]) w := by kernel_rfl
theorem as_22_88 (v : Value) (w : World) : (Instr.typeAssert (.iface 22 v) 20 88 true).run Tryz.prog w = .ok (.tuple #[Zv 88, .bool false]) w := by kernel_rfl
theorem as_22_94 (v : Value) (w : World) : (Instr.typeAssert (.iface 22 v) 20 94 true).run Tryz.prog w = .ok (.tuple #[Zv 94, .bool false]) w := by kernel_rfl
attribute [local go_sem] as_5_5 as_5_101 as_5_102 as_5_103 as_5_4 as_5_75 as_5_72 as_5_21 as_5_58 as_5_2 as_5_22 as_5_63 as_5_9 as_5_85 as_5_53 as_5_87 as_5_77 as_5_83 as_5_89 as_5_43 as_5_104 as_5_88 as_5_94
attribute [local go_sem] as_75_5 as_75_101 as_75_102 as_75_103 as_75_4 as_75_75 as_75_72 as_75_21 as_75_58 as_75_2 as_75_22 as_75_63 as_75_9 as_75_85 as_75_53 as_75_87 as_75_77 as_75_83 as_75_89 as_75_43 as_75_104 as_75_88 as_75_94
attribute [local go_sem] as_72_5 as_72_101 as_72_102 as_72_103 as_72_4 as_72_75 as_72_72 as_72_21 as_72_58 as_72_2 as_72_22 as_72_63 as_72_9 as_72_85 as_72_53 as_72_87 as_72_77 as_72_83 as_72_89 as_72_43 as_72_104 as_72_88 as_72_94
attribute [local go_sem] as_21_5 as_21_101 as_21_102 as_21_103 as_21_4 as_21_75 as_21_72 as_21_21 as_21_58 as_21_2 as_21_22 as_21_63 as_21_9 as_21_85 as_21_53 as_21_87 as_21_77 as_21_83 as_21_89 as_21_43 as_21_104 as_21_88 as_21_94
attribute [local go_sem] as_58_5 as_58_101 as_58_102 as_58_103 as_58_4 as_58_75 as_58_72 as_58_21 as_58_58 as_58_2 as_58_22 as_58_63 as_58_9 as_58_85 as_58_53 as_58_87 as_58_77 as_58_83 as_58_89 as_58_43 as_58_104 as_58_88 as_58_94
attribute [local go_sem] as_2_5 as_2_101 as_2_102 as_2_103 as_2_4 as_2_75 as_2_72 as_2_21 as_2_58 as_2_2 as_2_22 as_2_63 as_2_9 as_2_85 as_2_53 as_2_87 as_2_77 as_2_83 as_2_89 as_2_43 as_2_104 as_2_88 as_2_94
attribute [local go_sem] as_22_5 as_22_101 as_22_102 as_22_103 as_22_4 as_22_75 as_22_72 as_22_21 as_22_58 as_22_2 as_22_22 as_22_63 as_22_9 as_22_85 as_22_53 as_22_87 as_22_77 as_22_83 as_22_89 as_22_43 as_22_104 as_22_88 as_22_94

set_option maxHeartbeats 8000000 in
set_option maxRecDepth 100000 in
theorem typeOf_121.calls (v : Int) (w : World) : Calls Tryz.prog 39 #[.iface 5 (.int .u8 v)] w fun e w' => e = .returned (.string ⟨#[121]⟩) ∧ Below w.heap.size w w' := by
  go_enter Tryz.func39, Tryz.ntmps39
  go_wp2
  go_ret
  exact ⟨rfl, Below.refl _ _⟩
set_option maxHeartbeats 8000000 in
set_option maxRecDepth 100000 in
theorem valueOf_121.calls (v : Int) (w : World) : Calls Tryz.prog 28 #[.iface 5 (.int .u8 v)] w fun e w' => e = .returned (.agg #[.iface 5 (.int .u8 v), .string ⟨#[121]⟩]) ∧ Below w.heap.size w w' := by
  go_enter Tryz.func28, Tryz.ntmps28
  go_wp2_with (go_at_call 39; refine (typeOf_121.calls v _).mono ?_; rintro e w1 ⟨rfl, hb⟩; obtain ⟨hc, hf⟩ := bcell hb)
  refine bodyPost_ret (v := .agg #[.iface 5 (.int .u8 v), .string ⟨#[121]⟩]) (by simp [results, Tryz.results28, go_sem, hc]) rfl ⟨rfl, ?_⟩
  exact ((below_new hb).setCell (Nat.le_refl _) _).setCell (Nat.le_refl _) _

set_option maxHeartbeats 8000000 in
set_option maxRecDepth 100000 in
theorem bits_121.calls (v : Int) (h : 0 ≤ v ∧ v ≤ 255) (w : World) : Calls Tryz.prog 30 #[.agg #[.iface 5 (.int .u8 v), .string ⟨#[121]⟩]] w fun e w' => e = .returned (.int .u64 v) ∧ Below w.heap.size w w' := by
  go_enter Tryz.func30, Tryz.ntmps30
  go_wp2
  go_ret
  exact ⟨rfl, (Below.refl _ _).alloc (Nat.le_refl _) _⟩
set_option maxHeartbeats 8000000 in
set_option maxRecDepth 100000 in
theorem doorOut_121.calls (v : Int) (h0 : 0 ≤ v) (h1 : v ≤ 255) (w : World) : Calls Tryz.prog 17 #[.iface 5 (.int .u8 v), .string ⟨#[121]⟩] w fun e w' => e = .returned (.agg #[.int .u8 121, .int .u64 v, .string ⟨#[]⟩, .slice none 0 0]) ∧ Below w.heap.size w w' := by
  go_enter Tryz.func17, Tryz.ntmps17
  go_wp2_with (first
    | (go_at_call 28; refine (valueOf_121.calls v _).mono ?_; rintro e w1 ⟨rfl, hb⟩; obtain ⟨hc, hf⟩ := bcell hb; have hz := two_new hb; have hz0 : w.heap.size < w1.heap.size := Nat.lt_of_succ_lt hz)
    | (go_at_call 30; refine (bits_121.calls v ⟨h0, h1⟩ _).mono ?_; rintro e w2 ⟨rfl, hb2⟩; obtain ⟨hc2, hf2⟩ := bcell hb2))
  have q0 : w2.cell? ⟨w.heap.size, 0, none⟩ = some (.int .u8 0) := by rw [hc2 _ _ hz0, hc _ _ (by simp; omega)]; simp
  have q1 : w2.cell? ⟨w.heap.size, 1, none⟩ = some (.int .u64 0) := by rw [hc2 _ _ hz0, hc _ _ (by simp; omega)]; simp
  have q2 : w2.cell? ⟨w.heap.size, 2, none⟩ = some (.string ⟨#[]⟩) := by rw [hc2 _ _ hz0, hc _ _ (by simp; omega)]; simp
  have q3 : w2.cell? ⟨w.heap.size, 3, none⟩ = some (.slice none 0 0) := by rw [hc2 _ _ hz0, hc _ _ (by simp; omega)]; simp
  refine bodyPost_ret (v := .agg #[.int .u8 121, .int .u64 v, .string ⟨#[]⟩, .slice none 0 0]) (by simp [results, Tryz.results17, go_sem, q0, q1, q2, q3]; rfl) rfl ⟨rfl, ?_⟩
  exact (((((below_new2 hb hb2).setCell (Nat.le_succ _) _).setCell (Nat.le_refl _) _).setCell (Nat.le_refl _) _).setCell (Nat.le_refl _) _).setCell (Nat.le_refl _) _

set_option maxHeartbeats 8000000 in
set_option maxRecDepth 100000 in
theorem typeOf_110.calls (v : Int) (w : World) : Calls Tryz.prog 39 #[.iface 75 (.int .i16 v)] w fun e w' => e = .returned (.string ⟨#[110]⟩) ∧ Below w.heap.size w w' := by
  go_enter Tryz.func39, Tryz.ntmps39
  go_wp2
  go_ret
  exact ⟨rfl, Below.refl _ _⟩
set_option maxHeartbeats 8000000 in
set_option maxRecDepth 100000 in
theorem valueOf_110.calls (v : Int) (w : World) : Calls Tryz.prog 28 #[.iface 75 (.int .i16 v)] w fun e w' => e = .returned (.agg #[.iface 75 (.int .i16 v), .string ⟨#[110]⟩]) ∧ Below w.heap.size w w' := by
  go_enter Tryz.func28, Tryz.ntmps28
  go_wp2_with (go_at_call 39; refine (typeOf_110.calls v _).mono ?_; rintro e w1 ⟨rfl, hb⟩; obtain ⟨hc, hf⟩ := bcell hb)
  refine bodyPost_ret (v := .agg #[.iface 75 (.int .i16 v), .string ⟨#[110]⟩]) (by simp [results, Tryz.results28, go_sem, hc]) rfl ⟨rfl, ?_⟩
  exact ((below_new hb).setCell (Nat.le_refl _) _).setCell (Nat.le_refl _) _

set_option maxHeartbeats 8000000 in
set_option maxRecDepth 100000 in
theorem bits_110.calls (v : Int) (h : 0 ≤ v ∧ v ≤ 32767) (w : World) : Calls Tryz.prog 29 #[.agg #[.iface 75 (.int .i16 v), .string ⟨#[110]⟩]] w fun e w' => e = .returned (.int .i64 v) ∧ Below w.heap.size w w' := by
  go_enter Tryz.func29, Tryz.ntmps29
  go_wp2
  go_ret
  exact ⟨rfl, (Below.refl _ _).alloc (Nat.le_refl _) _⟩
set_option maxHeartbeats 8000000 in
set_option maxRecDepth 100000 in
theorem doorOut_110.calls (v : Int) (h0 : 0 ≤ v) (h1 : v ≤ 32767) (w : World) : Calls Tryz.prog 17 #[.iface 75 (.int .i16 v), .string ⟨#[110]⟩] w fun e w' => e = .returned (.agg #[.int .u8 110, .int .u64 v, .string ⟨#[]⟩, .slice none 0 0]) ∧ Below w.heap.size w w' := by
  go_enter Tryz.func17, Tryz.ntmps17
  go_wp2_with (first
    | (go_at_call 28; refine (valueOf_110.calls v _).mono ?_; rintro e w1 ⟨rfl, hb⟩; obtain ⟨hc, hf⟩ := bcell hb; have hz := two_new hb; have hz0 : w.heap.size < w1.heap.size := Nat.lt_of_succ_lt hz)
    | (go_at_call 29; refine (bits_110.calls v ⟨h0, h1⟩ _).mono ?_; rintro e w2 ⟨rfl, hb2⟩; obtain ⟨hc2, hf2⟩ := bcell hb2))
  have q0 : w2.cell? ⟨w.heap.size, 0, none⟩ = some (.int .u8 0) := by rw [hc2 _ _ hz0, hc _ _ (by simp; omega)]; simp
  have q1 : w2.cell? ⟨w.heap.size, 1, none⟩ = some (.int .u64 0) := by rw [hc2 _ _ hz0, hc _ _ (by simp; omega)]; simp
  have q2 : w2.cell? ⟨w.heap.size, 2, none⟩ = some (.string ⟨#[]⟩) := by rw [hc2 _ _ hz0, hc _ _ (by simp; omega)]; simp
  have q3 : w2.cell? ⟨w.heap.size, 3, none⟩ = some (.slice none 0 0) := by rw [hc2 _ _ hz0, hc _ _ (by simp; omega)]; simp
  refine bodyPost_ret (v := .agg #[.int .u8 110, .int .u64 v, .string ⟨#[]⟩, .slice none 0 0]) (by simp [results, Tryz.results17, go_sem, q0, q1, q2, q3]; rfl) rfl ⟨rfl, ?_⟩
  exact (((((below_new2 hb hb2).setCell (Nat.le_succ _) _).setCell (Nat.le_refl _) _).setCell (Nat.le_refl _) _).setCell (Nat.le_refl _) _).setCell (Nat.le_refl _) _

set_option maxHeartbeats 8000000 in
set_option maxRecDepth 100000 in
theorem typeOf_113.calls (v : Int) (w : World) : Calls Tryz.prog 39 #[.iface 72 (.int .u16 v)] w fun e w' => e = .returned (.string ⟨#[113]⟩) ∧ Below w.heap.size w w' := by
  go_enter Tryz.func39, Tryz.ntmps39
  go_wp2
  go_ret
  exact ⟨rfl, Below.refl _ _⟩
set_option maxHeartbeats 8000000 in
set_option maxRecDepth 100000 in
theorem valueOf_113.calls (v : Int) (w : World) : Calls Tryz.prog 28 #[.iface 72 (.int .u16 v)] w fun e w' => e = .returned (.agg #[.iface 72 (.int .u16 v), .string ⟨#[113]⟩]) ∧ Below w.heap.size w w' := by
  go_enter Tryz.func28, Tryz.ntmps28
  go_wp2_with (go_at_call 39; refine (typeOf_113.calls v _).mono ?_; rintro e w1 ⟨rfl, hb⟩; obtain ⟨hc, hf⟩ := bcell hb)
  refine bodyPost_ret (v := .agg #[.iface 72 (.int .u16 v), .string ⟨#[113]⟩]) (by simp [results, Tryz.results28, go_sem, hc]) rfl ⟨rfl, ?_⟩
  exact ((below_new hb).setCell (Nat.le_refl _) _).setCell (Nat.le_refl _) _

set_option maxHeartbeats 8000000 in
set_option maxRecDepth 100000 in
theorem bits_113.calls (v : Int) (h : 0 ≤ v ∧ v ≤ 65535) (w : World) : Calls Tryz.prog 30 #[.agg #[.iface 72 (.int .u16 v), .string ⟨#[113]⟩]] w fun e w' => e = .returned (.int .u64 v) ∧ Below w.heap.size w w' := by
  go_enter Tryz.func30, Tryz.ntmps30
  go_wp2
  go_ret
  exact ⟨rfl, (Below.refl _ _).alloc (Nat.le_refl _) _⟩
set_option maxHeartbeats 8000000 in
set_option maxRecDepth 100000 in
theorem doorOut_113.calls (v : Int) (h0 : 0 ≤ v) (h1 : v ≤ 65535) (w : World) : Calls Tryz.prog 17 #[.iface 72 (.int .u16 v), .string ⟨#[113]⟩] w fun e w' => e = .returned (.agg #[.int .u8 113, .int .u64 v, .string ⟨#[]⟩, .slice none 0 0]) ∧ Below w.heap.size w w' := by
  go_enter Tryz.func17, Tryz.ntmps17
  go_wp2_with (first
    | (go_at_call 28; refine (valueOf_113.calls v _).mono ?_; rintro e w1 ⟨rfl, hb⟩; obtain ⟨hc, hf⟩ := bcell hb; have hz := two_new hb; have hz0 : w.heap.size < w1.heap.size := Nat.lt_of_succ_lt hz)
    | (go_at_call 30; refine (bits_113.calls v ⟨h0, h1⟩ _).mono ?_; rintro e w2 ⟨rfl, hb2⟩; obtain ⟨hc2, hf2⟩ := bcell hb2))
  have q0 : w2.cell? ⟨w.heap.size, 0, none⟩ = some (.int .u8 0) := by rw [hc2 _ _ hz0, hc _ _ (by simp; omega)]; simp
  have q1 : w2.cell? ⟨w.heap.size, 1, none⟩ = some (.int .u64 0) := by rw [hc2 _ _ hz0, hc _ _ (by simp; omega)]; simp
  have q2 : w2.cell? ⟨w.heap.size, 2, none⟩ = some (.string ⟨#[]⟩) := by rw [hc2 _ _ hz0, hc _ _ (by simp; omega)]; simp
  have q3 : w2.cell? ⟨w.heap.size, 3, none⟩ = some (.slice none 0 0) := by rw [hc2 _ _ hz0, hc _ _ (by simp; omega)]; simp
  refine bodyPost_ret (v := .agg #[.int .u8 113, .int .u64 v, .string ⟨#[]⟩, .slice none 0 0]) (by simp [results, Tryz.results17, go_sem, q0, q1, q2, q3]; rfl) rfl ⟨rfl, ?_⟩
  exact (((((below_new2 hb hb2).setCell (Nat.le_succ _) _).setCell (Nat.le_refl _) _).setCell (Nat.le_refl _) _).setCell (Nat.le_refl _) _).setCell (Nat.le_refl _) _

set_option maxHeartbeats 8000000 in
set_option maxRecDepth 100000 in
theorem typeOf_105.calls (v : Int) (w : World) : Calls Tryz.prog 39 #[.iface 21 (.int .i32 v)] w fun e w' => e = .returned (.string ⟨#[105]⟩) ∧ Below w.heap.size w w' := by
  go_enter Tryz.func39, Tryz.ntmps39
  go_wp2
  go_ret
  exact ⟨rfl, Below.refl _ _⟩
set_option maxHeartbeats 8000000 in
set_option maxRecDepth 100000 in
theorem valueOf_105.calls (v : Int) (w : World) : Calls Tryz.prog 28 #[.iface 21 (.int .i32 v)] w fun e w' => e = .returned (.agg #[.iface 21 (.int .i32 v), .string ⟨#[105]⟩]) ∧ Below w.heap.size w w' := by
  go_enter Tryz.func28, Tryz.ntmps28
  go_wp2_with (go_at_call 39; refine (typeOf_105.calls v _).mono ?_; rintro e w1 ⟨rfl, hb⟩; obtain ⟨hc, hf⟩ := bcell hb)
  refine bodyPost_ret (v := .agg #[.iface 21 (.int .i32 v), .string ⟨#[105]⟩]) (by simp [results, Tryz.results28, go_sem, hc]) rfl ⟨rfl, ?_⟩
  exact ((below_new hb).setCell (Nat.le_refl _) _).setCell (Nat.le_refl _) _

set_option maxHeartbeats 8000000 in
set_option maxRecDepth 100000 in
theorem bits_105.calls (v : Int) (h : 0 ≤ v ∧ v ≤ 2147483647) (w : World) : Calls Tryz.prog 29 #[.agg #[.iface 21 (.int .i32 v), .string ⟨#[105]⟩]] w fun e w' => e = .returned (.int .i64 v) ∧ Below w.heap.size w w' := by
  go_enter Tryz.func29, Tryz.ntmps29
  go_wp2
  go_ret
  exact ⟨rfl, (Below.refl _ _).alloc (Nat.le_refl _) _⟩
set_option maxHeartbeats 8000000 in
set_option maxRecDepth 100000 in
theorem doorOut_105.calls (v : Int) (h0 : 0 ≤ v) (h1 : v ≤ 2147483647) (w : World) : Calls Tryz.prog 17 #[.iface 21 (.int .i32 v), .string ⟨#[105]⟩] w fun e w' => e = .returned (.agg #[.int .u8 105, .int .u64 v, .string ⟨#[]⟩, .slice none 0 0]) ∧ Below w.heap.size w w' := by
  go_enter Tryz.func17, Tryz.ntmps17
  go_wp2_with (first
    | (go_at_call 28; refine (valueOf_105.calls v _).mono ?_; rintro e w1 ⟨rfl, hb⟩; obtain ⟨hc, hf⟩ := bcell hb; have hz := two_new hb; have hz0 : w.heap.size < w1.heap.size := Nat.lt_of_succ_lt hz)
    | (go_at_call 29; refine (bits_105.calls v ⟨h0, h1⟩ _).mono ?_; rintro e w2 ⟨rfl, hb2⟩; obtain ⟨hc2, hf2⟩ := bcell hb2))
  have q0 : w2.cell? ⟨w.heap.size, 0, none⟩ = some (.int .u8 0) := by rw [hc2 _ _ hz0, hc _ _ (by simp; omega)]; simp
  have q1 : w2.cell? ⟨w.heap.size, 1, none⟩ = some (.int .u64 0) := by rw [hc2 _ _ hz0, hc _ _ (by simp; omega)]; simp
  have q2 : w2.cell? ⟨w.heap.size, 2, none⟩ = some (.string ⟨#[]⟩) := by rw [hc2 _ _ hz0, hc _ _ (by simp; omega)]; simp
  have q3 : w2.cell? ⟨w.heap.size, 3, none⟩ = some (.slice none 0 0) := by rw [hc2 _ _ hz0, hc _ _ (by simp; omega)]; simp
  refine bodyPost_ret (v := .agg #[.int .u8 105, .int .u64 v, .string ⟨#[]⟩, .slice none 0 0]) (by simp [results, Tryz.results17, go_sem, q0, q1, q2, q3]; rfl) rfl ⟨rfl, ?_⟩
  exact (((((below_new2 hb hb2).setCell (Nat.le_succ _) _).setCell (Nat.le_refl _) _).setCell (Nat.le_refl _) _).setCell (Nat.le_refl _) _).setCell (Nat.le_refl _) _

set_option maxHeartbeats 8000000 in
set_option maxRecDepth 100000 in
theorem typeOf_117.calls (v : Int) (w : World) : Calls Tryz.prog 39 #[.iface 58 (.int .u32 v)] w fun e w' => e = .returned (.string ⟨#[117]⟩) ∧ Below w.heap.size w w' := by
  go_enter Tryz.func39, Tryz.ntmps39
  go_wp2
  go_ret
  exact ⟨rfl, Below.refl _ _⟩
set_option maxHeartbeats 8000000 in
set_option maxRecDepth 100000 in
theorem valueOf_117.calls (v : Int) (w : World) : Calls Tryz.prog 28 #[.iface 58 (.int .u32 v)] w fun e w' => e = .returned (.agg #[.iface 58 (.int .u32 v), .string ⟨#[117]⟩]) ∧ Below w.heap.size w w' := by
  go_enter Tryz.func28, Tryz.ntmps28
  go_wp2_with (go_at_call 39; refine (typeOf_117.calls v _).mono ?_; rintro e w1 ⟨rfl, hb⟩; obtain ⟨hc, hf⟩ := bcell hb)
  refine bodyPost_ret (v := .agg #[.iface 58 (.int .u32 v), .string ⟨#[117]⟩]) (by simp [results, Tryz.results28, go_sem, hc]) rfl ⟨rfl, ?_⟩
  exact ((below_new hb).setCell (Nat.le_refl _) _).setCell (Nat.le_refl _) _

set_option maxHeartbeats 8000000 in
set_option maxRecDepth 100000 in
theorem bits_117.calls (v : Int) (h : 0 ≤ v ∧ v ≤ 4294967295) (w : World) : Calls Tryz.prog 30 #[.agg #[.iface 58 (.int .u32 v), .string ⟨#[117]⟩]] w fun e w' => e = .returned (.int .u64 v) ∧ Below w.heap.size w w' := by
  go_enter Tryz.func30, Tryz.ntmps30
  go_wp2
  go_ret
  exact ⟨rfl, (Below.refl _ _).alloc (Nat.le_refl _) _⟩
set_option maxHeartbeats 8000000 in
set_option maxRecDepth 100000 in
theorem doorOut_117.calls (v : Int) (h0 : 0 ≤ v) (h1 : v ≤ 4294967295) (w : World) : Calls Tryz.prog 17 #[.iface 58 (.int .u32 v), .string ⟨#[117]⟩] w fun e w' => e = .returned (.agg #[.int .u8 117, .int .u64 v, .string ⟨#[]⟩, .slice none 0 0]) ∧ Below w.heap.size w w' := by
  go_enter Tryz.func17, Tryz.ntmps17
  go_wp2_with (first
    | (go_at_call 28; refine (valueOf_117.calls v _).mono ?_; rintro e w1 ⟨rfl, hb⟩; obtain ⟨hc, hf⟩ := bcell hb; have hz := two_new hb; have hz0 : w.heap.size < w1.heap.size := Nat.lt_of_succ_lt hz)
    | (go_at_call 30; refine (bits_117.calls v ⟨h0, h1⟩ _).mono ?_; rintro e w2 ⟨rfl, hb2⟩; obtain ⟨hc2, hf2⟩ := bcell hb2))
  have q0 : w2.cell? ⟨w.heap.size, 0, none⟩ = some (.int .u8 0) := by rw [hc2 _ _ hz0, hc _ _ (by simp; omega)]; simp
  have q1 : w2.cell? ⟨w.heap.size, 1, none⟩ = some (.int .u64 0) := by rw [hc2 _ _ hz0, hc _ _ (by simp; omega)]; simp
  have q2 : w2.cell? ⟨w.heap.size, 2, none⟩ = some (.string ⟨#[]⟩) := by rw [hc2 _ _ hz0, hc _ _ (by simp; omega)]; simp
  have q3 : w2.cell? ⟨w.heap.size, 3, none⟩ = some (.slice none 0 0) := by rw [hc2 _ _ hz0, hc _ _ (by simp; omega)]; simp
  refine bodyPost_ret (v := .agg #[.int .u8 117, .int .u64 v, .string ⟨#[]⟩, .slice none 0 0]) (by simp [results, Tryz.results17, go_sem, q0, q1, q2, q3]; rfl) rfl ⟨rfl, ?_⟩
  exact (((((below_new2 hb hb2).setCell (Nat.le_succ _) _).setCell (Nat.le_refl _) _).setCell (Nat.le_refl _) _).setCell (Nat.le_refl _) _).setCell (Nat.le_refl _) _

set_option maxHeartbeats 8000000 in
set_option maxRecDepth 100000 in
theorem typeOf_120.calls (v : Int) (w : World) : Calls Tryz.prog 39 #[.iface 2 (.int .i64 v)] w fun e w' => e = .returned (.string ⟨#[120]⟩) ∧ Below w.heap.size w w' := by
  go_enter Tryz.func39, Tryz.ntmps39
  go_wp2
  go_ret
  exact ⟨rfl, Below.refl _ _⟩
set_option maxHeartbeats 8000000 in
set_option maxRecDepth 100000 in
theorem valueOf_120.calls (v : Int) (w : World) : Calls Tryz.prog 28 #[.iface 2 (.int .i64 v)] w fun e w' => e = .returned (.agg #[.iface 2 (.int .i64 v), .string ⟨#[120]⟩]) ∧ Below w.heap.size w w' := by
  go_enter Tryz.func28, Tryz.ntmps28
  go_wp2_with (go_at_call 39; refine (typeOf_120.calls v _).mono ?_; rintro e w1 ⟨rfl, hb⟩; obtain ⟨hc, hf⟩ := bcell hb)
  refine bodyPost_ret (v := .agg #[.iface 2 (.int .i64 v), .string ⟨#[120]⟩]) (by simp [results, Tryz.results28, go_sem, hc]) rfl ⟨rfl, ?_⟩
  exact ((below_new hb).setCell (Nat.le_refl _) _).setCell (Nat.le_refl _) _

set_option maxHeartbeats 8000000 in
set_option maxRecDepth 100000 in
theorem bits_120.calls (v : Int) (h : 0 ≤ v ∧ v ≤ 9223372036854775807) (w : World) : Calls Tryz.prog 29 #[.agg #[.iface 2 (.int .i64 v), .string ⟨#[120]⟩]] w fun e w' => e = .returned (.int .i64 v) ∧ Below w.heap.size w w' := by
  go_enter Tryz.func29, Tryz.ntmps29
  go_wp2
  go_ret
  exact ⟨rfl, (Below.refl _ _).alloc (Nat.le_refl _) _⟩
set_option maxHeartbeats 8000000 in
set_option maxRecDepth 100000 in
theorem doorOut_120.calls (v : Int) (h0 : 0 ≤ v) (h1 : v ≤ 9223372036854775807) (w : World) : Calls Tryz.prog 17 #[.iface 2 (.int .i64 v), .string ⟨#[120]⟩] w fun e w' => e = .returned (.agg #[.int .u8 120, .int .u64 v, .string ⟨#[]⟩, .slice none 0 0]) ∧ Below w.heap.size w w' := by
  go_enter Tryz.func17, Tryz.ntmps17
  go_wp2_with (first
    | (go_at_call 28; refine (valueOf_120.calls v _).mono ?_; rintro e w1 ⟨rfl, hb⟩; obtain ⟨hc, hf⟩ := bcell hb; have hz := two_new hb; have hz0 : w.heap.size < w1.heap.size := Nat.lt_of_succ_lt hz)
    | (go_at_call 29; refine (bits_120.calls v ⟨h0, h1⟩ _).mono ?_; rintro e w2 ⟨rfl, hb2⟩; obtain ⟨hc2, hf2⟩ := bcell hb2))
  have q0 : w2.cell? ⟨w.heap.size, 0, none⟩ = some (.int .u8 0) := by rw [hc2 _ _ hz0, hc _ _ (by simp; omega)]; simp
  have q1 : w2.cell? ⟨w.heap.size, 1, none⟩ = some (.int .u64 0) := by rw [hc2 _ _ hz0, hc _ _ (by simp; omega)]; simp
  have q2 : w2.cell? ⟨w.heap.size, 2, none⟩ = some (.string ⟨#[]⟩) := by rw [hc2 _ _ hz0, hc _ _ (by simp; omega)]; simp
  have q3 : w2.cell? ⟨w.heap.size, 3, none⟩ = some (.slice none 0 0) := by rw [hc2 _ _ hz0, hc _ _ (by simp; omega)]; simp
  refine bodyPost_ret (v := .agg #[.int .u8 120, .int .u64 v, .string ⟨#[]⟩, .slice none 0 0]) (by simp [results, Tryz.results17, go_sem, q0, q1, q2, q3]; rfl) rfl ⟨rfl, ?_⟩
  exact (((((below_new2 hb hb2).setCell (Nat.le_succ _) _).setCell (Nat.le_refl _) _).setCell (Nat.le_refl _) _).setCell (Nat.le_refl _) _).setCell (Nat.le_refl _) _

set_option maxHeartbeats 8000000 in
set_option maxRecDepth 100000 in
theorem typeOf_116.calls (v : Int) (w : World) : Calls Tryz.prog 39 #[.iface 22 (.int .u64 v)] w fun e w' => e = .returned (.string ⟨#[116]⟩) ∧ Below w.heap.size w w' := by
  go_enter Tryz.func39, Tryz.ntmps39
  go_wp2
  go_ret
  exact ⟨rfl, Below.refl _ _⟩
set_option maxHeartbeats 8000000 in
set_option maxRecDepth 100000 in
theorem valueOf_116.calls (v : Int) (w : World) : Calls Tryz.prog 28 #[.iface 22 (.int .u64 v)] w fun e w' => e = .returned (.agg #[.iface 22 (.int .u64 v), .string ⟨#[116]⟩]) ∧ Below w.heap.size w w' := by
  go_enter Tryz.func28, Tryz.ntmps28
  go_wp2_with (go_at_call 39; refine (typeOf_116.calls v _).mono ?_; rintro e w1 ⟨rfl, hb⟩; obtain ⟨hc, hf⟩ := bcell hb)
  refine bodyPost_ret (v := .agg #[.iface 22 (.int .u64 v), .string ⟨#[116]⟩]) (by simp [results, Tryz.results28, go_sem, hc]) rfl ⟨rfl, ?_⟩
  exact ((below_new hb).setCell (Nat.le_refl _) _).setCell (Nat.le_refl _) _

set_option maxHeartbeats 8000000 in
set_option maxRecDepth 100000 in
theorem bits_116.calls (v : Int) (h : 0 ≤ v ∧ v ≤ 18446744073709551615) (w : World) : Calls Tryz.prog 30 #[.agg #[.iface 22 (.int .u64 v), .string ⟨#[116]⟩]] w fun e w' => e = .returned (.int .u64 v) ∧ Below w.heap.size w w' := by
  go_enter Tryz.func30, Tryz.ntmps30
  go_wp2
  go_ret
  exact ⟨rfl, (Below.refl _ _).alloc (Nat.le_refl _) _⟩
set_option maxHeartbeats 8000000 in
set_option maxRecDepth 100000 in
theorem doorOut_116.calls (v : Int) (h0 : 0 ≤ v) (h1 : v ≤ 18446744073709551615) (w : World) : Calls Tryz.prog 17 #[.iface 22 (.int .u64 v), .string ⟨#[116]⟩] w fun e w' => e = .returned (.agg #[.int .u8 116, .int .u64 v, .string ⟨#[]⟩, .slice none 0 0]) ∧ Below w.heap.size w w' := by
  go_enter Tryz.func17, Tryz.ntmps17
  go_wp2_with (first
    | (go_at_call 28; refine (valueOf_116.calls v _).mono ?_; rintro e w1 ⟨rfl, hb⟩; obtain ⟨hc, hf⟩ := bcell hb; have hz := two_new hb; have hz0 : w.heap.size < w1.heap.size := Nat.lt_of_succ_lt hz)
    | (go_at_call 30; refine (bits_116.calls v ⟨h0, h1⟩ _).mono ?_; rintro e w2 ⟨rfl, hb2⟩; obtain ⟨hc2, hf2⟩ := bcell hb2))
  have q0 : w2.cell? ⟨w.heap.size, 0, none⟩ = some (.int .u8 0) := by rw [hc2 _ _ hz0, hc _ _ (by simp; omega)]; simp
  have q1 : w2.cell? ⟨w.heap.size, 1, none⟩ = some (.int .u64 0) := by rw [hc2 _ _ hz0, hc _ _ (by simp; omega)]; simp
  have q2 : w2.cell? ⟨w.heap.size, 2, none⟩ = some (.string ⟨#[]⟩) := by rw [hc2 _ _ hz0, hc _ _ (by simp; omega)]; simp
  have q3 : w2.cell? ⟨w.heap.size, 3, none⟩ = some (.slice none 0 0) := by rw [hc2 _ _ hz0, hc _ _ (by simp; omega)]; simp
  refine bodyPost_ret (v := .agg #[.int .u8 116, .int .u64 v, .string ⟨#[]⟩, .slice none 0 0]) (by simp [results, Tryz.results17, go_sem, q0, q1, q2, q3]; rfl) rfl ⟨rfl, ?_⟩
  exact (((((below_new2 hb hb2).setCell (Nat.le_succ _) _).setCell (Nat.le_refl _) _).setCell (Nat.le_refl _) _).setCell (Nat.le_refl _) _).setCell (Nat.le_refl _) _
end Go.Proofs.YthjbopjclkbhfaaGreatDoor.Given

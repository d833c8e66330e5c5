/- Part of the proof of LawFnSgOfParts. -/
import Derived.Test.YtnojjfklnihmnaaDoorProg
import Derived.Test.YtnojjfklnihmnaaDoorWWords
import Derived.KernelRfl
set_option linter.unusedVariables false
set_option linter.unusedSimpArgs false
namespace Go.Proofs.YtnojjfklnihmnaaDoor.Given
open Go.RowKit Go.Proofs.YtnojjfklnihmnaaDoorW.PrintWords
noncomputable def Zv (t : TypeId) : Value := ((Tryd.prog.info? t).bind (·.zero)).getD undef
theorem as_5_5 (v : Value) (w : World) : (Instr.typeAssert (.iface 5 v) 20 5 true).run Tryd.prog w = .ok (.tuple #[v, .bool true]) w := by kernel_rfl
theorem as_4_5 (v : Value) (w : World) : (Instr.typeAssert (.iface 4 v) 20 5 true).run Tryd.prog w = .ok (.tuple #[Zv 5, .bool false]) w := by kernel_rfl
theorem as_4_79 (v : Value) (w : World) : (Instr.typeAssert (.iface 4 v) 20 79 true).run Tryd.prog w = .ok (.tuple #[Zv 79, .bool false]) w := by kernel_rfl
theorem as_4_80 (v : Value) (w : World) : (Instr.typeAssert (.iface 4 v) 20 80 true).run Tryd.prog w = .ok (.tuple #[Zv 80, .bool false]) w := by kernel_rfl
theorem as_4_81 (v : Value) (w : World) : (Instr.typeAssert (.iface 4 v) 20 81 true).run Tryd.prog w = .ok (.tuple #[Zv 81, .bool false]) w := by kernel_rfl
theorem as_4_4 (v : Value) (w : World) : (Instr.typeAssert (.iface 4 v) 20 4 true).run Tryd.prog w = .ok (.tuple #[v, .bool true]) w := by kernel_rfl
theorem as_64_5 (v : Value) (w : World) : (Instr.typeAssert (.iface 64 v) 20 5 true).run Tryd.prog w = .ok (.tuple #[Zv 5, .bool false]) w := by kernel_rfl
theorem as_64_79 (v : Value) (w : World) : (Instr.typeAssert (.iface 64 v) 20 79 true).run Tryd.prog w = .ok (.tuple #[Zv 79, .bool false]) w := by kernel_rfl
theorem as_64_80 (v : Value) (w : World) : (Instr.typeAssert (.iface 64 v) 20 80 true).run Tryd.prog w = .ok (.tuple #[Zv 80, .bool false]) w := by kernel_rfl
theorem as_64_81 (v : Value) (w : World) : (Instr.typeAssert (.iface 64 v) 20 81 true).run Tryd.prog w = .ok (.tuple #[Zv 81, .bool false]) w := by kernel_rfl
theorem as_64_4 (v : Value) (w : World) : (Instr.typeAssert (.iface 64 v) 20 4 true).run Tryd.prog w = .ok (.tuple #[Zv 4, .bool false]) w := by kernel_rfl
theorem as_64_64 (v : Value) (w : World) : (Instr.typeAssert (.iface 64 v) 20 64 true).run Tryd.prog w = .ok (.tuple #[v, .bool true]) w := by kernel_rfl
theorem as_82_5 (v : Value) (w : World) : (Instr.typeAssert (.iface 82 v) 20 5 true).run Tryd.prog w = .ok (.tuple #[Zv 5, .bool false]) w := by kernel_rfl
theorem as_82_79 (v : Value) (w : World) : (Instr.typeAssert (.iface 82 v) 20 79 true).run Tryd.prog w = .ok (.tuple #[Zv 79, .bool false]) w := by kernel_rfl
theorem as_82_80 (v : Value) (w : World) : (Instr.typeAssert (.iface 82 v) 20 80 true).run Tryd.prog w = .ok (.tuple #[Zv 80, .bool false]) w := by kernel_rfl
theorem as_82_81 (v : Value) (w : World) : (Instr.typeAssert (.iface 82 v) 20 81 true).run Tryd.prog w = .ok (.tuple #[Zv 81, .bool false]) w := by kernel_rfl
theorem as_82_4 (v : Value) (w : World) : (Instr.typeAssert (.iface 82 v) 20 4 true).run Tryd.prog w = .ok (.tuple #[Zv 4, .bool false]) w := by kernel_rfl
theorem as_82_64 (v : Value) (w : World) : (Instr.typeAssert (.iface 82 v) 20 64 true).run Tryd.prog w = .ok (.tuple #[Zv 64, .bool false]) w := by kernel_rfl
theorem as_82_82 (v : Value) (w : World) : (Instr.typeAssert (.iface 82 v) 20 82 true).run Tryd.prog w = .ok (.tuple #[v, .bool true]) w := by kernel_rfl
theorem as_21_5 (v : Value) (w : World) : (Instr.typeAssert (.iface 21 v) 20 5 true).run Tryd.prog w = .ok (.tuple #[Zv 5, .bool false]) w := by kernel_rfl
theorem as_21_79 (v : Value) (w : World) : (Instr.typeAssert (.iface 21 v) 20 79 true).run Tryd.prog w = .ok (.tuple #[Zv 79, .bool false]) w := by kernel_rfl
theorem as_21_80 (v : Value) (w : World) : (Instr.typeAssert (.iface 21 v) 20 80 true).run Tryd.prog w = .ok (.tuple #[Zv 80, .bool false]) w := by kernel_rfl
theorem as_21_81 (v : Value) (w : World) : (Instr.typeAssert (.iface 21 v) 20 81 true).run Tryd.prog w = .ok (.tuple #[Zv 81, .bool false]) w := by kernel_rfl
theorem as_21_4 (v : Value) (w : World) : (Instr.typeAssert (.iface 21 v) 20 4 true).run Tryd.prog w = .ok (.tuple #[Zv 4, .bool false]) w := by kernel_rfl
theorem as_21_64 (v : Value) (w : World) : (Instr.typeAssert (.iface 21 v) 20 64 true).run Tryd.prog w = .ok (.tuple #[Zv 64, .bool false]) w := by kernel_rfl
theorem as_21_82 (v : Value) (w : World) : (Instr.typeAssert (.iface 21 v) 20 82 true).run Tryd.prog w = .ok (.tuple #[Zv 82, .bool false]) w := by kernel_rfl
theorem as_21_21 (v : Value) (w : World) : (Instr.typeAssert (.iface 21 v) 20 21 true).run Tryd.prog w = .ok (.tuple #[v, .bool true]) w := by kernel_rfl
theorem as_83_5 (v : Value) (w : World) : (Instr.typeAssert (.iface 83 v) 20 5 true).run Tryd.prog w = .ok (.tuple #[Zv 5, .bool false]) w := by kernel_rfl
theorem as_83_79 (v : Value) (w : World) : (Instr.typeAssert (.iface 83 v) 20 79 true).run Tryd.prog w = .ok (.tuple #[Zv 79, .bool false]) w := by kernel_rfl
theorem as_83_80 (v : Value) (w : World) : (Instr.typeAssert (.iface 83 v) 20 80 true).run Tryd.prog w = .ok (.tuple #[Zv 80, .bool false]) w := by kernel_rfl
theorem as_83_81 (v : Value) (w : World) : (Instr.typeAssert (.iface 83 v) 20 81 true).run Tryd.prog w = .ok (.tuple #[Zv 81, .bool false]) w := by kernel_rfl
theorem as_83_4 (v : Value) (w : World) : (Instr.typeAssert (.iface 83 v) 20 4 true).run Tryd.prog w = .ok (.tuple #[Zv 4, .bool false]) w := by kernel_rfl
theorem as_83_64 (v : Value) (w : World) : (Instr.typeAssert (.iface 83 v) 20 64 true).run Tryd.prog w = .ok (.tuple #[Zv 64, .bool false]) w := by kernel_rfl
theorem as_83_82 (v : Value) (w : World) : (Instr.typeAssert (.iface 83 v) 20 82 true).run Tryd.prog w = .ok (.tuple #[Zv 82, .bool false]) w := by kernel_rfl
theorem as_83_21 (v : Value) (w : World) : (Instr.typeAssert (.iface 83 v) 20 21 true).run Tryd.prog w = .ok (.tuple #[Zv 21, .bool false]) w := by kernel_rfl
theorem as_83_83 (v : Value) (w : World) : (Instr.typeAssert (.iface 83 v) 20 83 true).run Tryd.prog w = .ok (.tuple #[v, .bool true]) w := by kernel_rfl
theorem as_2_5 (v : Value) (w : World) : (Instr.typeAssert (.iface 2 v) 20 5 true).run Tryd.prog w = .ok (.tuple #[Zv 5, .bool false]) w := by kernel_rfl
theorem as_2_79 (v : Value) (w : World) : (Instr.typeAssert (.iface 2 v) 20 79 true).run Tryd.prog w = .ok (.tuple #[Zv 79, .bool false]) w := by kernel_rfl
theorem as_2_80 (v : Value) (w : World) : (Instr.typeAssert (.iface 2 v) 20 80 true).run Tryd.prog w = .ok (.tuple #[Zv 80, .bool false]) w := by kernel_rfl
theorem as_2_81 (v : Value) (w : World) : (Instr.typeAssert (.iface 2 v) 20 81 true).run Tryd.prog w = .ok (.tuple #[Zv 81, .bool false]) w := by kernel_rfl
theorem as_2_4 (v : Value) (w : World) : (Instr.typeAssert (.iface 2 v) 20 4 true).run Tryd.prog w = .ok (.tuple #[Zv 4, .bool false]) w := by kernel_rfl
theorem as_2_64 (v : Value) (w : World) : (Instr.typeAssert (.iface 2 v) 20 64 true).run Tryd.prog w = .ok (.tuple #[Zv 64, .bool false]) w := by kernel_rfl
theorem as_2_82 (v : Value) (w : World) : (Instr.typeAssert (.iface 2 v) 20 82 true).run Tryd.prog w = .ok (.tuple #[Zv 82, .bool false]) w := by kernel_rfl
theorem as_2_21 (v : Value) (w : World) : (Instr.typeAssert (.iface 2 v) 20 21 true).run Tryd.prog w = .ok (.tuple #[Zv 21, .bool false]) w := by kernel_rfl
theorem as_2_83 (v : Value) (w : World) : (Instr.typeAssert (.iface 2 v) 20 83 true).run Tryd.prog w = .ok (.tuple #[Zv 83, .bool false]) w := by kernel_rfl
theorem as_2_2 (v : Value) (w : World) : (Instr.typeAssert (.iface 2 v) 20 2 true).run Tryd.prog w = .ok (.tuple #[v, .bool true]) w := by kernel_rfl
theorem as_22_5 (v : Value) (w : World) : (Instr.typeAssert (.iface 22 v) 20 5 true).run Tryd.prog w = .ok (.tuple #[Zv 5, .bool false]) w := by kernel_rfl
theorem as_22_79 (v : Value) (w : World) : (Instr.typeAssert (.iface 22 v) 20 79 true).run Tryd.prog w = .ok (.tuple #[Zv 79, .bool false]) w := by kernel_rfl
theorem as_22_80 (v : Value) (w : World) : (Instr.typeAssert (.iface 22 v) 20 80 true).run Tryd.prog w = .ok (.tuple #[Zv 80, .bool false]) w := by kernel_rfl
theorem as_22_81 (v : Value) (w : World) : (Instr.typeAssert (.iface 22 v) 20 81 true).run Tryd.prog w = .ok (.tuple #[Zv 81, .bool false]) w := by kernel_rfl
theorem as_22_4 (v : Value) (w : World) : (Instr.typeAssert (.iface 22 v) 20 4 true).run Tryd.prog w = .ok (.tuple #[Zv 4, .bool false]) w := by kernel_rfl
theorem as_22_64 (v : Value) (w : World) : (Instr.typeAssert (.iface 22 v) 20 64 true).run Tryd.prog w = .ok (.tuple #[Zv 64, .bool false]) w := by kernel_rfl
theorem as_22_82 (v : Value) (w : World) : (Instr.typeAssert (.iface 22 v) 20 82 true).run Tryd.prog w = .ok (.tuple #[Zv 82, .bool false]) w := by kernel_rfl
theorem as_22_21 (v : Value) (w : World) : (Instr.typeAssert (.iface 22 v) 20 21 true).run Tryd.prog w = .ok (.tuple #[Zv 21, .bool false]) w := by kernel_rfl
theorem as_22_83 (v : Value) (w : World) : (Instr.typeAssert (.iface 22 v) 20 83 true).run Tryd.prog w = .ok (.tuple #[Zv 83, .bool false]) w := by kernel_rfl
theorem as_22_2 (v : Value) (w : World) : (Instr.typeAssert (.iface 22 v) 20 2 true).run Tryd.prog w = .ok (.tuple #[Zv 2, .bool false]) w := by kernel_rfl
theorem as_22_22 (v : Value) (w : World) : (Instr.typeAssert (.iface 22 v) 20 22 true).run Tryd.prog w = .ok (.tuple #[v, .bool true]) w := by kernel_rfl
theorem as_84_5 (v : Value) (w : World) : (Instr.typeAssert (.iface 84 v) 20 5 true).run Tryd.prog w = .ok (.tuple #[Zv 5, .bool false]) w := by kernel_rfl
theorem as_84_79 (v : Value) (w : World) : (Instr.typeAssert (.iface 84 v) 20 79 true).run Tryd.prog w = .ok (.tuple #[Zv 79, .bool false]) w := by kernel_rfl
theorem as_84_80 (v : Value) (w : World) : (Instr.typeAssert (.iface 84 v) 20 80 true).run Tryd.prog w = .ok (.tuple #[Zv 80, .bool false]) w := by kernel_rfl
theorem as_84_81 (v : Value) (w : World) : (Instr.typeAssert (.iface 84 v) 20 81 true).run Tryd.prog w = .ok (.tuple #[Zv 81, .bool false]) w := by kernel_rfl
theorem as_84_4 (v : Value) (w : World) : (Instr.typeAssert (.iface 84 v) 20 4 true).run Tryd.prog w = .ok (.tuple #[Zv 4, .bool false]) w := by kernel_rfl
theorem as_84_64 (v : Value) (w : World) : (Instr.typeAssert (.iface 84 v) 20 64 true).run Tryd.prog w = .ok (.tuple #[Zv 64, .bool false]) w := by kernel_rfl
theorem as_84_82 (v : Value) (w : World) : (Instr.typeAssert (.iface 84 v) 20 82 true).run Tryd.prog w = .ok (.tuple #[Zv 82, .bool false]) w := by kernel_rfl
theorem as_84_21 (v : Value) (w : World) : (Instr.typeAssert (.iface 84 v) 20 21 true).run Tryd.prog w = .ok (.tuple #[Zv 21, .bool false]) w := by kernel_rfl
theorem as_84_83 (v : Value) (w : World) : (Instr.typeAssert (.iface 84 v) 20 83 true).run Tryd.prog w = .ok (.tuple #[Zv 83, .bool false]) w := by kernel_rfl
theorem as_84_2 (v : Value) (w : World) : (Instr.typeAssert (.iface 84 v) 20 2 true).run Tryd.prog w = .ok (.tuple #[Zv 2, .bool false]) w := by kernel_rfl
theorem as_84_22 (v : Value) (w : World) : (Instr.typeAssert (.iface 84 v) 20 22 true).run Tryd.prog w = .ok (.tuple #[Zv 22, .bool false]) w := by kernel_rfl
theorem as_84_84 (v : Value) (w : World) : (Instr.typeAssert (.iface 84 v) 20 84 true).run Tryd.prog w = .ok (.tuple #[v, .bool true]) w := by kernel_rfl
theorem as_9_5 (v : Value) (w : World) : (Instr.typeAssert (.iface 9 v) 20 5 true).run Tryd.prog w = .ok (.tuple #[Zv 5, .bool false]) w := by kernel_rfl
theorem as_9_79 (v : Value) (w : World) : (Instr.typeAssert (.iface 9 v) 20 79 true).run Tryd.prog w = .ok (.tuple #[Zv 79, .bool false]) w := by kernel_rfl
theorem as_9_80 (v : Value) (w : World) : (Instr.typeAssert (.iface 9 v) 20 80 true).run Tryd.prog w = .ok (.tuple #[Zv 80, .bool false]) w := by kernel_rfl
theorem as_9_81 (v : Value) (w : World) : (Instr.typeAssert (.iface 9 v) 20 81 true).run Tryd.prog w = .ok (.tuple #[Zv 81, .bool false]) w := by kernel_rfl
theorem as_9_4 (v : Value) (w : World) : (Instr.typeAssert (.iface 9 v) 20 4 true).run Tryd.prog w = .ok (.tuple #[Zv 4, .bool false]) w := by kernel_rfl
theorem as_9_64 (v : Value) (w : World) : (Instr.typeAssert (.iface 9 v) 20 64 true).run Tryd.prog w = .ok (.tuple #[Zv 64, .bool false]) w := by kernel_rfl
theorem as_9_82 (v : Value) (w : World) : (Instr.typeAssert (.iface 9 v) 20 82 true).run Tryd.prog w = .ok (.tuple #[Zv 82, .bool false]) w := by kernel_rfl
theorem as_9_21 (v : Value) (w : World) : (Instr.typeAssert (.iface 9 v) 20 21 true).run Tryd.prog w = .ok (.tuple #[Zv 21, .bool false]) w := by kernel_rfl
theorem as_9_83 (v : Value) (w : World) : (Instr.typeAssert (.iface 9 v) 20 83 true).run Tryd.prog w = .ok (.tuple #[Zv 83, .bool false]) w := by kernel_rfl
theorem as_9_2 (v : Value) (w : World) : (Instr.typeAssert (.iface 9 v) 20 2 true).run Tryd.prog w = .ok (.tuple #[Zv 2, .bool false]) w := by kernel_rfl
theorem as_9_22 (v : Value) (w : World) : (Instr.typeAssert (.iface 9 v) 20 22 true).run Tryd.prog w = .ok (.tuple #[Zv 22, .bool false]) w := by kernel_rfl
theorem as_9_84 (v : Value) (w : World) : (Instr.typeAssert (.iface 9 v) 20 84 true).run Tryd.prog w = .ok (.tuple #[Zv 84, .bool false]) w := by kernel_rfl
theorem as_9_9 (v : Value) (w : World) : (Instr.typeAssert (.iface 9 v) 20 9 true).run Tryd.prog w = .ok (.tuple #[v, .bool true]) w := by kernel_rfl
theorem as_85_5 (v : Value) (w : World) : (Instr.typeAssert (.iface 85 v) 20 5 true).run Tryd.prog w = .ok (.tuple #[Zv 5, .bool false]) w := by kernel_rfl
theorem as_85_79 (v : Value) (w : World) : (Instr.typeAssert (.iface 85 v) 20 79 true).run Tryd.prog w = .ok (.tuple #[Zv 79, .bool false]) w := by kernel_rfl
theorem as_85_80 (v : Value) (w : World) : (Instr.typeAssert (.iface 85 v) 20 80 true).run Tryd.prog w = .ok (.tuple #[Zv 80, .bool false]) w := by kernel_rfl
theorem as_85_81 (v : Value) (w : World) : (Instr.typeAssert (.iface 85 v) 20 81 true).run Tryd.prog w = .ok (.tuple #[Zv 81, .bool false]) w := by kernel_rfl
theorem as_85_4 (v : Value) (w : World) : (Instr.typeAssert (.iface 85 v) 20 4 true).run Tryd.prog w = .ok (.tuple #[Zv 4, .bool false]) w := by kernel_rfl
theorem as_85_64 (v : Value) (w : World) : (Instr.typeAssert (.iface 85 v) 20 64 true).run Tryd.prog w = .ok (.tuple #[Zv 64, .bool false]) w := by kernel_rfl
theorem as_85_82 (v : Value) (w : World) : (Instr.typeAssert (.iface 85 v) 20 82 true).run Tryd.prog w = .ok (.tuple #[Zv 82, .bool false]) w := by kernel_rfl
theorem as_85_21 (v : Value) (w : World) : (Instr.typeAssert (.iface 85 v) 20 21 true).run Tryd.prog w = .ok (.tuple #[Zv 21, .bool false]) w := by kernel_rfl
theorem as_85_83 (v : Value) (w : World) : (Instr.typeAssert (.iface 85 v) 20 83 true).run Tryd.prog w = .ok (.tuple #[Zv 83, .bool false]) w := by kernel_rfl
theorem as_85_2 (v : Value) (w : World) : (Instr.typeAssert (.iface 85 v) 20 2 true).run Tryd.prog w = .ok (.tuple #[Zv 2, .bool false]) w := by kernel_rfl
theorem as_85_22 (v : Value) (w : World) : (Instr.typeAssert (.iface 85 v) 20 22 true).run Tryd.prog w = .ok (.tuple #[Zv 22, .bool false]) w := by kernel_rfl
theorem as_85_84 (v : Value) (w : World) : (Instr.typeAssert (.iface 85 v) 20 84 true).run Tryd.prog w = .ok (.tuple #[Zv 84, .bool false]) w := by kernel_rfl
theorem as_85_9 (v : Value) (w : World) : (Instr.typeAssert (.iface 85 v) 20 9 true).run Tryd.prog w = .ok (.tuple #[Zv 9, .bool false]) w := by kernel_rfl
theorem as_85_85 (v : Value) (w : World) : (Instr.typeAssert (.iface 85 v) 20 85 true).run Tryd.prog w = .ok (.tuple #[v, .bool true]) w := by kernel_rfl
theorem as_42_5 (v : Value) (w : World) : (Instr.typeAssert (.iface 42 v) 20 5 true).run Tryd.prog w = .ok (.tuple #[Zv 5, .bool false]) w := by kernel_rfl
theorem as_42_79 (v : Value) (w : World) : (Instr.typeAssert (.iface 42 v) 20 79 true).run Tryd.prog w = .ok (.tuple #[Zv 79, .bool false]) w := by kernel_rfl
theorem as_42_80 (v : Value) (w : World) : (Instr.typeAssert (.iface 42 v) 20 80 true).run Tryd.prog w = .ok (.tuple #[Zv 80, .bool false]) w := by kernel_rfl
theorem as_42_81 (v : Value) (w : World) : (Instr.typeAssert (.iface 42 v) 20 81 true).run Tryd.prog w = .ok (.tuple #[Zv 81, .bool false]) w := by kernel_rfl
theorem as_42_4 (v : Value) (w : World) : (Instr.typeAssert (.iface 42 v) 20 4 true).run Tryd.prog w = .ok (.tuple #[Zv 4, .bool false]) w := by kernel_rfl
theorem as_42_64 (v : Value) (w : World) : (Instr.typeAssert (.iface 42 v) 20 64 true).run Tryd.prog w = .ok (.tuple #[Zv 64, .bool false]) w := by kernel_rfl
theorem as_42_82 (v : Value) (w : World) : (Instr.typeAssert (.iface 42 v) 20 82 true).run Tryd.prog w = .ok (.tuple #[Zv 82, .bool false]) w := by kernel_rfl
theorem as_42_21 (v : Value) (w : World) : (Instr.typeAssert (.iface 42 v) 20 21 true).run Tryd.prog w = .ok (.tuple #[Zv 21, .bool false]) w := by kernel_rfl
theorem as_42_83 (v : Value) (w : World) : (Instr.typeAssert (.iface 42 v) 20 83 true).run Tryd.prog w = .ok (.tuple #[Zv 83, .bool false]) w := by kernel_rfl
theorem as_42_2 (v : Value) (w : World) : (Instr.typeAssert (.iface 42 v) 20 2 true).run Tryd.prog w = .ok (.tuple #[Zv 2, .bool false]) w := by kernel_rfl
theorem as_42_22 (v : Value) (w : World) : (Instr.typeAssert (.iface 42 v) 20 22 true).run Tryd.prog w = .ok (.tuple #[Zv 22, .bool false]) w := by kernel_rfl
theorem as_42_84 (v : Value) (w : World) : (Instr.typeAssert (.iface 42 v) 20 84 true).run Tryd.prog w = .ok (.tuple #[Zv 84, .bool false]) w := by kernel_rfl
theorem as_42_9 (v : Value) (w : World) : (Instr.typeAssert (.iface 42 v) 20 9 true).run Tryd.prog w = .ok (.tuple #[Zv 9, .bool false]) w := by kernel_rfl
theorem as_42_85 (v : Value) (w : World) : (Instr.typeAssert (.iface 42 v) 20 85 true).run Tryd.prog w = .ok (.tuple #[Zv 85, .bool false]) w := by kernel_rfl
theorem as_42_42 (v : Value) (w : World) : (Instr.typeAssert (.iface 42 v) 20 42 true).run Tryd.prog w = .ok (.tuple #[v, .bool true]) w := by kernel_rfl
theorem as_87_5 (v : Value) (w : World) : (Instr.typeAssert (.iface 87 v) 20 5 true).run Tryd.prog w = .ok (.tuple #[Zv 5, .bool false]) w := by kernel_rfl
theorem as_87_79 (v : Value) (w : World) : (Instr.typeAssert (.iface 87 v) 20 79 true).run Tryd.prog w = .ok (.tuple #[Zv 79, .bool false]) w := by kernel_rfl
theorem as_87_80 (v : Value) (w : World) : (Instr.typeAssert (.iface 87 v) 20 80 true).run Tryd.prog w = .ok (.tuple #[Zv 80, .bool false]) w := by kernel_rfl
theorem as_87_81 (v : Value) (w : World) : (Instr.typeAssert (.iface 87 v) 20 81 true).run Tryd.prog w = .ok (.tuple #[Zv 81, .bool false]) w := by kernel_rfl
theorem as_87_4 (v : Value) (w : World) : (Instr.typeAssert (.iface 87 v) 20 4 true).run Tryd.prog w = .ok (.tuple #[Zv 4, .bool false]) w := by kernel_rfl
theorem as_87_64 (v : Value) (w : World) : (Instr.typeAssert (.iface 87 v) 20 64 true).run Tryd.prog w = .ok (.tuple #[Zv 64, .bool false]) w := by kernel_rfl
theorem as_87_82 (v : Value) (w : World) : (Instr.typeAssert (.iface 87 v) 20 82 true).run Tryd.prog w = .ok (.tuple #[Zv 82, .bool false]) w := by kernel_rfl
theorem as_87_21 (v : Value) (w : World) : (Instr.typeAssert (.iface 87 v) 20 21 true).run Tryd.prog w = .ok (.tuple #[Zv 21, .bool false]) w := by kernel_rfl
theorem as_87_83 (v : Value) (w : World) : (Instr.typeAssert (.iface 87 v) 20 83 true).run Tryd.prog w = .ok (.tuple #[Zv 83, .bool false]) w := by kernel_rfl
theorem as_87_2 (v : Value) (w : World) : (Instr.typeAssert (.iface 87 v) 20 2 true).run Tryd.prog w = .ok (.tuple #[Zv 2, .bool false]) w := by kernel_rfl
theorem as_87_22 (v : Value) (w : World) : (Instr.typeAssert (.iface 87 v) 20 22 true).run Tryd.prog w = .ok (.tuple #[Zv 22, .bool false]) w := by kernel_rfl
theorem as_87_84 (v : Value) (w : World) : (Instr.typeAssert (.iface 87 v) 20 84 true).run Tryd.prog w = .ok (.tuple #[Zv 84, .bool false]) w := by kernel_rfl
theorem as_87_9 (v : Value) (w : World) : (Instr.typeAssert (.iface 87 v) 20 9 true).run Tryd.prog w = .ok (.tuple #[Zv 9, .bool false]) w := by kernel_rfl
theorem as_87_85 (v : Value) (w : World) : (Instr.typeAssert (.iface 87 v) 20 85 true).run Tryd.prog w = .ok (.tuple #[Zv 85, .bool false]) w := by kernel_rfl
theorem as_87_42 (v : Value) (w : World) : (Instr.typeAssert (.iface 87 v) 20 42 true).run Tryd.prog w = .ok (.tuple #[Zv 42, .bool false]) w := by kernel_rfl
theorem as_87_87 (v : Value) (w : World) : (Instr.typeAssert (.iface 87 v) 20 87 true).run Tryd.prog w = .ok (.tuple #[v, .bool true]) w := by kernel_rfl
theorem as_89_5 (v : Value) (w : World) : (Instr.typeAssert (.iface 89 v) 20 5 true).run Tryd.prog w = .ok (.tuple #[Zv 5, .bool false]) w := by kernel_rfl
theorem as_89_79 (v : Value) (w : World) : (Instr.typeAssert (.iface 89 v) 20 79 true).run Tryd.prog w = .ok (.tuple #[Zv 79, .bool false]) w := by kernel_rfl
theorem as_89_80 (v : Value) (w : World) : (Instr.typeAssert (.iface 89 v) 20 80 true).run Tryd.prog w = .ok (.tuple #[Zv 80, .bool false]) w := by kernel_rfl
theorem as_89_81 (v : Value) (w : World) : (Instr.typeAssert (.iface 89 v) 20 81 true).run Tryd.prog w = .ok (.tuple #[Zv 81, .bool false]) w := by kernel_rfl
theorem as_89_4 (v : Value) (w : World) : (Instr.typeAssert (.iface 89 v) 20 4 true).run Tryd.prog w = .ok (.tuple #[Zv 4, .bool false]) w := by kernel_rfl
theorem as_89_64 (v : Value) (w : World) : (Instr.typeAssert (.iface 89 v) 20 64 true).run Tryd.prog w = .ok (.tuple #[Zv 64, .bool false]) w := by kernel_rfl
theorem as_89_82 (v : Value) (w : World) : (Instr.typeAssert (.iface 89 v) 20 82 true).run Tryd.prog w = .ok (.tuple #[Zv 82, .bool false]) w := by kernel_rfl
theorem as_89_21 (v : Value) (w : World) : (Instr.typeAssert (.iface 89 v) 20 21 true).run Tryd.prog w = .ok (.tuple #[Zv 21, .bool false]) w := by kernel_rfl
theorem as_89_83 (v : Value) (w : World) : (Instr.typeAssert (.iface 89 v) 20 83 true).run Tryd.prog w = .ok (.tuple #[Zv 83, .bool false]) w := by kernel_rfl
theorem as_89_2 (v : Value) (w : World) : (Instr.typeAssert (.iface 89 v) 20 2 true).run Tryd.prog w = .ok (.tuple #[Zv 2, .bool false]) w := by kernel_rfl
theorem as_89_22 (v : Value) (w : World) : (Instr.typeAssert (.iface 89 v) 20 22 true).run Tryd.prog w = .ok (.tuple #[Zv 22, .bool false]) w := by kernel_rfl
theorem as_89_84 (v : Value) (w : World) : (Instr.typeAssert (.iface 89 v) 20 84 true).run Tryd.prog w = .ok (.tuple #[Zv 84, .bool false]) w := by kernel_rfl
theorem as_89_9 (v : Value) (w : World) : (Instr.typeAssert (.iface 89 v) 20 9 true).run Tryd.prog w = .ok (.tuple #[Zv 9, .bool false]) w := by kernel_rfl
theorem as_89_85 (v : Value) (w : World) : (Instr.typeAssert (.iface 89 v) 20 85 true).run Tryd.prog w = .ok (.tuple #[Zv 85, .bool false]) w := by kernel_rfl
theorem as_89_42 (v : Value) (w : World) : (Instr.typeAssert (.iface 89 v) 20 42 true).run Tryd.prog w = .ok (.tuple #[Zv 42, .bool false]) w := by kernel_rfl
theorem as_89_87 (v : Value) (w : World) : (Instr.typeAssert (.iface 89 v) 20 87 true).run Tryd.prog w = .ok (.tuple #[Zv 87, .bool false]) w := by kernel_rfl
theorem as_89_88 (v : Value) (w : World) : (Instr.typeAssert (.iface 89 v) 20 88 true).run Tryd.prog w = .ok (.tuple #[Zv 88, .bool false]) w := by kernel_rfl
theorem as_89_89 (v : Value) (w : World) : (Instr.typeAssert (.iface 89 v) 20 89 true).run Tryd.prog w = .ok (.tuple #[v, .bool true]) w := by kernel_rfl
theorem as_90_5 (v : Value) (w : World) : (Instr.typeAssert (.iface 90 v) 20 5 true).run Tryd.prog w = .ok (.tuple #[Zv 5, .bool false]) w := by kernel_rfl
theorem as_90_79 (v : Value) (w : World) : (Instr.typeAssert (.iface 90 v) 20 79 true).run Tryd.prog w = .ok (.tuple #[Zv 79, .bool false]) w := by kernel_rfl
theorem as_90_80 (v : Value) (w : World) : (Instr.typeAssert (.iface 90 v) 20 80 true).run Tryd.prog w = .ok (.tuple #[Zv 80, .bool false]) w := by kernel_rfl
theorem as_90_81 (v : Value) (w : World) : (Instr.typeAssert (.iface 90 v) 20 81 true).run Tryd.prog w = .ok (.tuple #[Zv 81, .bool false]) w := by kernel_rfl
theorem as_90_4 (v : Value) (w : World) : (Instr.typeAssert (.iface 90 v) 20 4 true).run Tryd.prog w = .ok (.tuple #[Zv 4, .bool false]) w := by kernel_rfl
theorem as_90_64 (v : Value) (w : World) : (Instr.typeAssert (.iface 90 v) 20 64 true).run Tryd.prog w = .ok (.tuple #[Zv 64, .bool false]) w := by kernel_rfl
theorem as_90_82 (v : Value) (w : World) : (Instr.typeAssert (.iface 90 v) 20 82 true).run Tryd.prog w = .ok (.tuple #[Zv 82, .bool false]) w := by kernel_rfl
theorem as_90_21 (v : Value) (w : World) : (Instr.typeAssert (.iface 90 v) 20 21 true).run Tryd.prog w = .ok (.tuple #[Zv 21, .bool false]) w := by kernel_rfl
theorem as_90_83 (v : Value) (w : World) : (Instr.typeAssert (.iface 90 v) 20 83 true).run Tryd.prog w = .ok (.tuple #[Zv 83, .bool false]) w := by kernel_rfl
theorem as_90_2 (v : Value) (w : World) : (Instr.typeAssert (.iface 90 v) 20 2 true).run Tryd.prog w = .ok (.tuple #[Zv 2, .bool false]) w := by kernel_rfl
theorem as_90_22 (v : Value) (w : World) : (Instr.typeAssert (.iface 90 v) 20 22 true).run Tryd.prog w = .ok (.tuple #[Zv 22, .bool false]) w := by kernel_rfl
theorem as_90_84 (v : Value) (w : World) : (Instr.typeAssert (.iface 90 v) 20 84 true).run Tryd.prog w = .ok (.tuple #[Zv 84, .bool false]) w := by kernel_rfl
theorem as_90_9 (v : Value) (w : World) : (Instr.typeAssert (.iface 90 v) 20 9 true).run Tryd.prog w = .ok (.tuple #[Zv 9, .bool false]) w := by kernel_rfl
theorem as_90_85 (v : Value) (w : World) : (Instr.typeAssert (.iface 90 v) 20 85 true).run Tryd.prog w = .ok (.tuple #[Zv 85, .bool false]) w := by kernel_rfl
theorem as_90_42 (v : Value) (w : World) : (Instr.typeAssert (.iface 90 v) 20 42 true).run Tryd.prog w = .ok (.tuple #[Zv 42, .bool false]) w := by kernel_rfl
theorem as_90_87 (v : Value) (w : World) : (Instr.typeAssert (.iface 90 v) 20 87 true).run Tryd.prog w = .ok (.tuple #[Zv 87, .bool false]) w := by kernel_rfl
theorem as_90_88 (v : Value) (w : World) : (Instr.typeAssert (.iface 90 v) 20 88 true).run Tryd.prog w = .ok (.tuple #[Zv 88, .bool false]) w := by kernel_rfl
theorem as_90_89 (v : Value) (w : World) : (Instr.typeAssert (.iface 90 v) 20 89 true).run Tryd.prog w = .ok (.tuple #[Zv 89, .bool false]) w := by kernel_rfl
theorem as_90_44 (v : Value) (w : World) : (Instr.typeAssert (.iface 90 v) 20 44 true).run Tryd.prog w = .ok (.tuple #[Zv 44, .bool false]) w := by kernel_rfl
theorem as_90_30 (v : Value) (w : World) : (Instr.typeAssert (.iface 90 v) 20 30 true).run Tryd.prog w = .ok (.tuple #[Zv 30, .bool false]) w := by kernel_rfl
theorem as_90_90 (v : Value) (w : World) : (Instr.typeAssert (.iface 90 v) 20 90 true).run Tryd.prog w = .ok (.tuple #[v, .bool true]) w := by kernel_rfl
theorem as_94_5 (v : Value) (w : World) : (Instr.typeAssert (.iface 94 v) 20 5 true).run Tryd.prog w = .ok (.tuple #[Zv 5, .bool false]) w := by kernel_rfl
theorem as_94_79 (v : Value) (w : World) : (Instr.typeAssert (.iface 94 v) 20 79 true).run Tryd.prog w = .ok (.tuple #[Zv 79, .bool false]) w := by kernel_rfl
theorem as_94_80 (v : Value) (w : World) : (Instr.typeAssert (.iface 94 v) 20 80 true).run Tryd.prog w = .ok (.tuple #[Zv 80, .bool false]) w := by kernel_rfl
theorem as_94_81 (v : Value) (w : World) : (Instr.typeAssert (.iface 94 v) 20 81 true).run Tryd.prog w = .ok (.tuple #[Zv 81, .bool false]) w := by kernel_rfl
theorem as_94_4 (v : Value) (w : World) : (Instr.typeAssert (.iface 94 v) 20 4 true).run Tryd.prog w = .ok (.tuple #[Zv 4, .bool false]) w := by kernel_rfl
theorem as_94_64 (v : Value) (w : World) : (Instr.typeAssert (.iface 94 v) 20 64 true).run Tryd.prog w = .ok (.tuple #[Zv 64, .bool false]) w := by kernel_rfl
theorem as_94_82 (v : Value) (w : World) : (Instr.typeAssert (.iface 94 v) 20 82 true).run Tryd.prog w = .ok (.tuple #[Zv 82, .bool false]) w := by kernel_rfl
theorem as_94_21 (v : Value) (w : World) : (Instr.typeAssert (.iface 94 v) 20 21 true).run Tryd.prog w = .ok (.tuple #[Zv 21, .bool false]) w := by kernel_rfl
theorem as_94_83 (v : Value) (w : World) : (Instr.typeAssert (.iface 94 v) 20 83 true).run Tryd.prog w = .ok (.tuple #[Zv 83, .bool false]) w := by kernel_rfl
theorem as_94_2 (v : Value) (w : World) : (Instr.typeAssert (.iface 94 v) 20 2 true).run Tryd.prog w = .ok (.tuple #[Zv 2, .bool false]) w := by kernel_rfl
theorem as_94_22 (v : Value) (w : World) : (Instr.typeAssert (.iface 94 v) 20 22 true).run Tryd.prog w = .ok (.tuple #[Zv 22, .bool false]) w := by kernel_rfl
theorem as_94_84 (v : Value) (w : World) : (Instr.typeAssert (.iface 94 v) 20 84 true).run Tryd.prog w = .ok (.tuple #[Zv 84, .bool false]) w := by kernel_rfl
theorem as_94_9 (v : Value) (w : World) : (Instr.typeAssert (.iface 94 v) 20 9 true).run Tryd.prog w = .ok (.tuple #[Zv 9, .bool false]) w := by kernel_rfl
theorem as_94_85 (v : Value) (w : World) : (Instr.typeAssert (.iface 94 v) 20 85 true).run Tryd.prog w = .ok (.tuple #[Zv 85, .bool false]) w := by kernel_rfl
theorem as_94_42 (v : Value) (w : World) : (Instr.typeAssert (.iface 94 v) 20 42 true).run Tryd.prog w = .ok (.tuple #[Zv 42, .bool false]) w := by kernel_rfl
theorem as_94_87 (v : Value) (w : World) : (Instr.typeAssert (.iface 94 v) 20 87 true).run Tryd.prog w = .ok (.tuple #[Zv 87, .bool false]) w := by kernel_rfl
theorem as_94_88 (v : Value) (w : World) : (Instr.typeAssert (.iface 94 v) 20 88 true).run Tryd.prog w = .ok (.tuple #[Zv 88, .bool false]) w := by kernel_rfl
theorem as_94_89 (v : Value) (w : World) : (Instr.typeAssert (.iface 94 v) 20 89 true).run Tryd.prog w = .ok (.tuple #[Zv 89, .bool false]) w := by kernel_rfl
theorem as_94_44 (v : Value) (w : World) : (Instr.typeAssert (.iface 94 v) 20 44 true).run Tryd.prog w = .ok (.tuple #[Zv 44, .bool false]) w := by kernel_rfl
theorem as_94_30 (v : Value) (w : World) : (Instr.typeAssert (.iface 94 v) 20 30 true).run Tryd.prog w = .ok (.tuple #[Zv 30, .bool false]) w := by kernel_rfl
theorem as_94_90 (v : Value) (w : World) : (Instr.typeAssert (.iface 94 v) 20 90 true).run Tryd.prog w = .ok (.tuple #[Zv 90, .bool false]) w := by kernel_rfl
theorem as_94_94 (v : Value) (w : World) : (Instr.typeAssert (.iface 94 v) 20 94 true).run Tryd.prog w = .ok (.tuple #[v, .bool true]) w := by kernel_rfl
theorem as_99_5 (v : Value) (w : World) : (Instr.typeAssert (.iface 99 v) 20 5 true).run Tryd.prog w = .ok (.tuple #[Zv 5, .bool false]) w := by kernel_rfl
theorem as_99_79 (v : Value) (w : World) : (Instr.typeAssert (.iface 99 v) 20 79 true).run Tryd.prog w = .ok (.tuple #[Zv 79, .bool false]) w := by kernel_rfl
theorem as_99_80 (v : Value) (w : World) : (Instr.typeAssert (.iface 99 v) 20 80 true).run Tryd.prog w = .ok (.tuple #[Zv 80, .bool false]) w := by kernel_rfl
theorem as_99_81 (v : Value) (w : World) : (Instr.typeAssert (.iface 99 v) 20 81 true).run Tryd.prog w = .ok (.tuple #[Zv 81, .bool false]) w := by kernel_rfl
theorem as_99_4 (v : Value) (w : World) : (Instr.typeAssert (.iface 99 v) 20 4 true).run Tryd.prog w = .ok (.tuple #[Zv 4, .bool false]) w := by kernel_rfl
theorem as_99_64 (v : Value) (w : World) : (Instr.typeAssert (.iface 99 v) 20 64 true).run Tryd.prog w = .ok (.tuple #[Zv 64, .bool false]) w := by kernel_rfl
theorem as_99_82 (v : Value) (w : World) : (Instr.typeAssert (.iface 99 v) 20 82 true).run Tryd.prog w = .ok (.tuple #[Zv 82, .bool false]) w := by kernel_rfl
theorem as_99_21 (v : Value) (w : World) : (Instr.typeAssert (.iface 99 v) 20 21 true).run Tryd.prog w = .ok (.tuple #[Zv 21, .bool false]) w := by kernel_rfl
theorem as_99_83 (v : Value) (w : World) : (Instr.typeAssert (.iface 99 v) 20 83 true).run Tryd.prog w = .ok (.tuple #[Zv 83, .bool false]) w := by kernel_rfl
theorem as_99_2 (v : Value) (w : World) : (Instr.typeAssert (.iface 99 v) 20 2 true).run Tryd.prog w = .ok (.tuple #[Zv 2, .bool false]) w := by kernel_rfl
theorem as_99_22 (v : Value) (w : World) : (Instr.typeAssert (.iface 99 v) 20 22 true).run Tryd.prog w = .ok (.tuple #[Zv 22, .bool false]) w := by kernel_rfl
theorem as_99_84 (v : Value) (w : World) : (Instr.typeAssert (.iface 99 v) 20 84 true).run Tryd.prog w = .ok (.tuple #[Zv 84, .bool false]) w := by kernel_rfl
theorem as_99_9 (v : Value) (w : World) : (Instr.typeAssert (.iface 99 v) 20 9 true).run Tryd.prog w = .ok (.tuple #[Zv 9, .bool false]) w := by kernel_rfl
theorem as_99_85 (v : Value) (w : World) : (Instr.typeAssert (.iface 99 v) 20 85 true).run Tryd.prog w = .ok (.tuple #[Zv 85, .bool false]) w := by kernel_rfl
theorem as_99_42 (v : Value) (w : World) : (Instr.typeAssert (.iface 99 v) 20 42 true).run Tryd.prog w = .ok (.tuple #[Zv 42, .bool false]) w := by kernel_rfl
theorem as_99_87 (v : Value) (w : World) : (Instr.typeAssert (.iface 99 v) 20 87 true).run Tryd.prog w = .ok (.tuple #[Zv 87, .bool false]) w := by kernel_rfl
theorem as_99_88 (v : Value) (w : World) : (Instr.typeAssert (.iface 99 v) 20 88 true).run Tryd.prog w = .ok (.tuple #[Zv 88, .bool false]) w := by kernel_rfl
theorem as_99_89 (v : Value) (w : World) : (Instr.typeAssert (.iface 99 v) 20 89 true).run Tryd.prog w = .ok (.tuple #[Zv 89, .bool false]) w := by kernel_rfl
theorem as_99_44 (v : Value) (w : World) : (Instr.typeAssert (.iface 99 v) 20 44 true).run Tryd.prog w = .ok (.tuple #[Zv 44, .bool false]) w := by kernel_rfl
theorem as_99_30 (v : Value) (w : World) : (Instr.typeAssert (.iface 99 v) 20 30 true).run Tryd.prog w = .ok (.tuple #[Zv 30, .bool false]) w := by kernel_rfl
theorem as_99_90 (v : Value) (w : World) : (Instr.typeAssert (.iface 99 v) 20 90 true).run Tryd.prog w = .ok (.tuple #[Zv 90, .bool false]) w := by kernel_rfl
theorem as_99_94 (v : Value) (w : World) : (Instr.typeAssert (.iface 99 v) 20 94 true).run Tryd.prog w = .ok (.tuple #[Zv 94, .bool false]) w := by kernel_rfl
theorem as_99_99 (v : Value) (w : World) : (Instr.typeAssert (.iface 99 v) 20 99 true).run Tryd.prog w = .ok (.tuple #[v, .bool true]) w := by kernel_rfl
theorem ai_94 (v : Value) (w : World) : (Instr.typeAssert (.iface 94 v) 20 94 false).run Tryd.prog w = .ok v w := by kernel_rfl
end Go.Proofs.YtnojjfklnihmnaaDoor.Given

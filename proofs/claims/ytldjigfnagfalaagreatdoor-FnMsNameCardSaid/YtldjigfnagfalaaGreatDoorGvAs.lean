/- Part of the proof of LawFnMsName. -/
import Derived.Test.YtldjigfnagfalaaGreatDoorProg
import Derived.Test.YtldjigfnagfalaaGreatDoorWWords
import Derived.KernelRfl
set_option linter.unusedVariables false
set_option linter.unusedSimpArgs false
namespace Go.Proofs.YtldjigfnagfalaaGreatDoor.Given
open Go.RowKit Go.Proofs.YtldjigfnagfalaaGreatDoorW.PrintWords
noncomputable def Zv (t : TypeId) : Value := ((Tryz.prog.info? t).bind (·.zero)).getD undef
theorem as_5_5 (v : Value) (w : World) : (Instr.typeAssert (.iface 5 v) 20 5 true).run Tryz.prog w = .ok (.tuple #[v, .bool true]) w := by kernel_rfl
theorem as_5_105 (v : Value) (w : World) : (Instr.typeAssert (.iface 5 v) 20 105 true).run Tryz.prog w = .ok (.tuple #[Zv 105, .bool false]) w := by kernel_rfl
theorem as_5_106 (v : Value) (w : World) : (Instr.typeAssert (.iface 5 v) 20 106 true).run Tryz.prog w = .ok (.tuple #[Zv 106, .bool false]) w := by kernel_rfl
theorem as_5_115 (v : Value) (w : World) : (Instr.typeAssert (.iface 5 v) 20 115 true).run Tryz.prog w = .ok (.tuple #[Zv 115, .bool false]) w := by kernel_rfl
theorem as_5_4 (v : Value) (w : World) : (Instr.typeAssert (.iface 5 v) 20 4 true).run Tryz.prog w = .ok (.tuple #[Zv 4, .bool false]) w := by kernel_rfl
theorem as_5_64 (v : Value) (w : World) : (Instr.typeAssert (.iface 5 v) 20 64 true).run Tryz.prog w = .ok (.tuple #[Zv 64, .bool false]) w := by kernel_rfl
theorem as_5_131 (v : Value) (w : World) : (Instr.typeAssert (.iface 5 v) 20 131 true).run Tryz.prog w = .ok (.tuple #[Zv 131, .bool false]) w := by kernel_rfl
theorem as_5_21 (v : Value) (w : World) : (Instr.typeAssert (.iface 5 v) 20 21 true).run Tryz.prog w = .ok (.tuple #[Zv 21, .bool false]) w := by kernel_rfl
theorem as_5_36 (v : Value) (w : World) : (Instr.typeAssert (.iface 5 v) 20 36 true).run Tryz.prog w = .ok (.tuple #[Zv 36, .bool false]) w := by kernel_rfl
theorem as_5_2 (v : Value) (w : World) : (Instr.typeAssert (.iface 5 v) 20 2 true).run Tryz.prog w = .ok (.tuple #[Zv 2, .bool false]) w := by kernel_rfl
theorem as_5_23 (v : Value) (w : World) : (Instr.typeAssert (.iface 5 v) 20 23 true).run Tryz.prog w = .ok (.tuple #[Zv 23, .bool false]) w := by kernel_rfl
theorem as_5_132 (v : Value) (w : World) : (Instr.typeAssert (.iface 5 v) 20 132 true).run Tryz.prog w = .ok (.tuple #[Zv 132, .bool false]) w := by kernel_rfl
theorem as_5_9 (v : Value) (w : World) : (Instr.typeAssert (.iface 5 v) 20 9 true).run Tryz.prog w = .ok (.tuple #[Zv 9, .bool false]) w := by kernel_rfl
theorem as_5_135 (v : Value) (w : World) : (Instr.typeAssert (.iface 5 v) 20 135 true).run Tryz.prog w = .ok (.tuple #[Zv 135, .bool false]) w := by kernel_rfl
theorem as_5_111 (v : Value) (w : World) : (Instr.typeAssert (.iface 5 v) 20 111 true).run Tryz.prog w = .ok (.tuple #[Zv 111, .bool false]) w := by kernel_rfl
theorem as_5_113 (v : Value) (w : World) : (Instr.typeAssert (.iface 5 v) 20 113 true).run Tryz.prog w = .ok (.tuple #[Zv 113, .bool false]) w := by kernel_rfl
theorem as_5_178 (v : Value) (w : World) : (Instr.typeAssert (.iface 5 v) 20 178 true).run Tryz.prog w = .ok (.tuple #[Zv 178, .bool false]) w := by kernel_rfl
theorem as_5_156 (v : Value) (w : World) : (Instr.typeAssert (.iface 5 v) 20 156 true).run Tryz.prog w = .ok (.tuple #[Zv 156, .bool false]) w := by kernel_rfl
theorem as_5_76 (v : Value) (w : World) : (Instr.typeAssert (.iface 5 v) 20 76 true).run Tryz.prog w = .ok (.tuple #[Zv 76, .bool false]) w := by kernel_rfl
theorem as_5_24 (v : Value) (w : World) : (Instr.typeAssert (.iface 5 v) 20 24 true).run Tryz.prog w = .ok (.tuple #[Zv 24, .bool false]) w := by kernel_rfl
theorem as_5_162 (v : Value) (w : World) : (Instr.typeAssert (.iface 5 v) 20 162 true).run Tryz.prog w = .ok (.tuple #[Zv 162, .bool false]) w := by kernel_rfl
theorem as_5_186 (v : Value) (w : World) : (Instr.typeAssert (.iface 5 v) 20 186 true).run Tryz.prog w = .ok (.tuple #[Zv 186, .bool false]) w := by kernel_rfl
theorem as_5_158 (v : Value) (w : World) : (Instr.typeAssert (.iface 5 v) 20 158 true).run Tryz.prog w = .ok (.tuple #[Zv 158, .bool false]) w := by kernel_rfl
theorem ai_5 (v : Value) (w : World) : (Instr.typeAssert (.iface 5 v) 20 5 false).run Tryz.prog w = .ok v w := by kernel_rfl
theorem as_64_5 (v : Value) (w : World) : (Instr.typeAssert (.iface 64 v) 20 5 true).run Tryz.prog w = .ok (.tuple #[Zv 5, .bool false]) w := by kernel_rfl
theorem as_64_105 (v : Value) (w : World) : (Instr.typeAssert (.iface 64 v) 20 105 true).run Tryz.prog w = .ok (.tuple #[Zv 105, .bool false]) w := by kernel_rfl
theorem as_64_106 (v : Value) (w : World) : (Instr.typeAssert (.iface 64 v) 20 106 true).run Tryz.prog w = .ok (.tuple #[Zv 106, .bool false]) w := by kernel_rfl
theorem as_64_115 (v : Value) (w : World) : (Instr.typeAssert (.iface 64 v) 20 115 true).run Tryz.prog w = .ok (.tuple #[Zv 115, .bool false]) w := by kernel_rfl
theorem as_64_4 (v : Value) (w : World) : (Instr.typeAssert (.iface 64 v) 20 4 true).run Tryz.prog w = .ok (.tuple #[Zv 4, .bool false]) w := by kernel_rfl
theorem as_64_64 (v : Value) (w : World) : (Instr.typeAssert (.iface 64 v) 20 64 true).run Tryz.prog w = .ok (.tuple #[v, .bool true]) w := by kernel_rfl
theorem as_64_131 (v : Value) (w : World) : (Instr.typeAssert (.iface 64 v) 20 131 true).run Tryz.prog w = .ok (.tuple #[Zv 131, .bool false]) w := by kernel_rfl
theorem as_64_21 (v : Value) (w : World) : (Instr.typeAssert (.iface 64 v) 20 21 true).run Tryz.prog w = .ok (.tuple #[Zv 21, .bool false]) w := by kernel_rfl
theorem as_64_36 (v : Value) (w : World) : (Instr.typeAssert (.iface 64 v) 20 36 true).run Tryz.prog w = .ok (.tuple #[Zv 36, .bool false]) w := by kernel_rfl
theorem as_64_2 (v : Value) (w : World) : (Instr.typeAssert (.iface 64 v) 20 2 true).run Tryz.prog w = .ok (.tuple #[Zv 2, .bool false]) w := by kernel_rfl
theorem as_64_23 (v : Value) (w : World) : (Instr.typeAssert (.iface 64 v) 20 23 true).run Tryz.prog w = .ok (.tuple #[Zv 23, .bool false]) w := by kernel_rfl
theorem as_64_132 (v : Value) (w : World) : (Instr.typeAssert (.iface 64 v) 20 132 true).run Tryz.prog w = .ok (.tuple #[Zv 132, .bool false]) w := by kernel_rfl
theorem as_64_9 (v : Value) (w : World) : (Instr.typeAssert (.iface 64 v) 20 9 true).run Tryz.prog w = .ok (.tuple #[Zv 9, .bool false]) w := by kernel_rfl
theorem as_64_135 (v : Value) (w : World) : (Instr.typeAssert (.iface 64 v) 20 135 true).run Tryz.prog w = .ok (.tuple #[Zv 135, .bool false]) w := by kernel_rfl
theorem as_64_111 (v : Value) (w : World) : (Instr.typeAssert (.iface 64 v) 20 111 true).run Tryz.prog w = .ok (.tuple #[Zv 111, .bool false]) w := by kernel_rfl
theorem as_64_113 (v : Value) (w : World) : (Instr.typeAssert (.iface 64 v) 20 113 true).run Tryz.prog w = .ok (.tuple #[Zv 113, .bool false]) w := by kernel_rfl
theorem as_64_178 (v : Value) (w : World) : (Instr.typeAssert (.iface 64 v) 20 178 true).run Tryz.prog w = .ok (.tuple #[Zv 178, .bool false]) w := by kernel_rfl
theorem as_64_156 (v : Value) (w : World) : (Instr.typeAssert (.iface 64 v) 20 156 true).run Tryz.prog w = .ok (.tuple #[Zv 156, .bool false]) w := by kernel_rfl
theorem as_64_76 (v : Value) (w : World) : (Instr.typeAssert (.iface 64 v) 20 76 true).run Tryz.prog w = .ok (.tuple #[Zv 76, .bool false]) w := by kernel_rfl
theorem as_64_24 (v : Value) (w : World) : (Instr.typeAssert (.iface 64 v) 20 24 true).run Tryz.prog w = .ok (.tuple #[Zv 24, .bool false]) w := by kernel_rfl
theorem as_64_162 (v : Value) (w : World) : (Instr.typeAssert (.iface 64 v) 20 162 true).run Tryz.prog w = .ok (.tuple #[Zv 162, .bool false]) w := by kernel_rfl
theorem as_64_186 (v : Value) (w : World) : (Instr.typeAssert (.iface 64 v) 20 186 true).run Tryz.prog w = .ok (.tuple #[Zv 186, .bool false]) w := by kernel_rfl
theorem as_64_158 (v : Value) (w : World) : (Instr.typeAssert (.iface 64 v) 20 158 true).run Tryz.prog w = .ok (.tuple #[Zv 158, .bool false]) w := by kernel_rfl
theorem ai_64 (v : Value) (w : World) : (Instr.typeAssert (.iface 64 v) 20 64 false).run Tryz.prog w = .ok v w := by kernel_rfl
theorem as_131_5 (v : Value) (w : World) : (Instr.typeAssert (.iface 131 v) 20 5 true).run Tryz.prog w = .ok (.tuple #[Zv 5, .bool false]) w := by kernel_rfl
theorem as_131_105 (v : Value) (w : World) : (Instr.typeAssert (.iface 131 v) 20 105 true).run Tryz.prog w = .ok (.tuple #[Zv 105, .bool false]) w := by kernel_rfl
theorem as_131_106 (v : Value) (w : World) : (Instr.typeAssert (.iface 131 v) 20 106 true).run Tryz.prog w = .ok (.tuple #[Zv 106, .bool false]) w := by kernel_rfl
theorem as_131_115 (v : Value) (w : World) : (Instr.typeAssert (.iface 131 v) 20 115 true).run Tryz.prog w = .ok (.tuple #[Zv 115, .bool false]) w := by kernel_rfl
theorem as_131_4 (v : Value) (w : World) : (Instr.typeAssert (.iface 131 v) 20 4 true).run Tryz.prog w = .ok (.tuple #[Zv 4, .bool false]) w := by kernel_rfl
theorem as_131_64 (v : Value) (w : World) : (Instr.typeAssert (.iface 131 v) 20 64 true).run Tryz.prog w = .ok (.tuple #[Zv 64, .bool false]) w := by kernel_rfl
theorem as_131_131 (v : Value) (w : World) : (Instr.typeAssert (.iface 131 v) 20 131 true).run Tryz.prog w = .ok (.tuple #[v, .bool true]) w := by kernel_rfl
theorem as_131_21 (v : Value) (w : World) : (Instr.typeAssert (.iface 131 v) 20 21 true).run Tryz.prog w = .ok (.tuple #[Zv 21, .bool false]) w := by kernel_rfl
theorem as_131_36 (v : Value) (w : World) : (Instr.typeAssert (.iface 131 v) 20 36 true).run Tryz.prog w = .ok (.tuple #[Zv 36, .bool false]) w := by kernel_rfl
theorem as_131_2 (v : Value) (w : World) : (Instr.typeAssert (.iface 131 v) 20 2 true).run Tryz.prog w = .ok (.tuple #[Zv 2, .bool false]) w := by kernel_rfl
theorem as_131_23 (v : Value) (w : World) : (Instr.typeAssert (.iface 131 v) 20 23 true).run Tryz.prog w = .ok (.tuple #[Zv 23, .bool false]) w := by kernel_rfl
theorem as_131_132 (v : Value) (w : World) : (Instr.typeAssert (.iface 131 v) 20 132 true).run Tryz.prog w = .ok (.tuple #[Zv 132, .bool false]) w := by kernel_rfl
theorem as_131_9 (v : Value) (w : World) : (Instr.typeAssert (.iface 131 v) 20 9 true).run Tryz.prog w = .ok (.tuple #[Zv 9, .bool false]) w := by kernel_rfl
theorem as_131_135 (v : Value) (w : World) : (Instr.typeAssert (.iface 131 v) 20 135 true).run Tryz.prog w = .ok (.tuple #[Zv 135, .bool false]) w := by kernel_rfl
theorem as_131_111 (v : Value) (w : World) : (Instr.typeAssert (.iface 131 v) 20 111 true).run Tryz.prog w = .ok (.tuple #[Zv 111, .bool false]) w := by kernel_rfl
theorem as_131_113 (v : Value) (w : World) : (Instr.typeAssert (.iface 131 v) 20 113 true).run Tryz.prog w = .ok (.tuple #[Zv 113, .bool false]) w := by kernel_rfl
theorem as_131_178 (v : Value) (w : World) : (Instr.typeAssert (.iface 131 v) 20 178 true).run Tryz.prog w = .ok (.tuple #[Zv 178, .bool false]) w := by kernel_rfl
theorem as_131_156 (v : Value) (w : World) : (Instr.typeAssert (.iface 131 v) 20 156 true).run Tryz.prog w = .ok (.tuple #[Zv 156, .bool false]) w := by kernel_rfl
theorem as_131_76 (v : Value) (w : World) : (Instr.typeAssert (.iface 131 v) 20 76 true).run Tryz.prog w = .ok (.tuple #[Zv 76, .bool false]) w := by kernel_rfl
theorem as_131_24 (v : Value) (w : World) : (Instr.typeAssert (.iface 131 v) 20 24 true).run Tryz.prog w = .ok (.tuple #[Zv 24, .bool false]) w := by kernel_rfl
theorem as_131_162 (v : Value) (w : World) : (Instr.typeAssert (.iface 131 v) 20 162 true).run Tryz.prog w = .ok (.tuple #[Zv 162, .bool false]) w := by kernel_rfl
theorem as_131_186 (v : Value) (w : World) : (Instr.typeAssert (.iface 131 v) 20 186 true).run Tryz.prog w = .ok (.tuple #[Zv 186, .bool false]) w := by kernel_rfl
theorem as_131_158 (v : Value) (w : World) : (Instr.typeAssert (.iface 131 v) 20 158 true).run Tryz.prog w = .ok (.tuple #[Zv 158, .bool false]) w := by kernel_rfl
theorem ai_131 (v : Value) (w : World) : (Instr.typeAssert (.iface 131 v) 20 131 false).run Tryz.prog w = .ok v w := by kernel_rfl
theorem as_21_5 (v : Value) (w : World) : (Instr.typeAssert (.iface 21 v) 20 5 true).run Tryz.prog w = .ok (.tuple #[Zv 5, .bool false]) w := by kernel_rfl
theorem as_21_105 (v : Value) (w : World) : (Instr.typeAssert (.iface 21 v) 20 105 true).run Tryz.prog w = .ok (.tuple #[Zv 105, .bool false]) w := by kernel_rfl
theorem as_21_106 (v : Value) (w : World) : (Instr.typeAssert (.iface 21 v) 20 106 true).run Tryz.prog w = .ok (.tuple #[Zv 106, .bool false]) w := by kernel_rfl
theorem as_21_115 (v : Value) (w : World) : (Instr.typeAssert (.iface 21 v) 20 115 true).run Tryz.prog w = .ok (.tuple #[Zv 115, .bool false]) w := by kernel_rfl
theorem as_21_4 (v : Value) (w : World) : (Instr.typeAssert (.iface 21 v) 20 4 true).run Tryz.prog w = .ok (.tuple #[Zv 4, .bool false]) w := by kernel_rfl
theorem as_21_64 (v : Value) (w : World) : (Instr.typeAssert (.iface 21 v) 20 64 true).run Tryz.prog w = .ok (.tuple #[Zv 64, .bool false]) w := by kernel_rfl
theorem as_21_131 (v : Value) (w : World) : (Instr.typeAssert (.iface 21 v) 20 131 true).run Tryz.prog w = .ok (.tuple #[Zv 131, .bool false]) w := by kernel_rfl
theorem as_21_21 (v : Value) (w : World) : (Instr.typeAssert (.iface 21 v) 20 21 true).run Tryz.prog w = .ok (.tuple #[v, .bool true]) w := by kernel_rfl
theorem as_21_36 (v : Value) (w : World) : (Instr.typeAssert (.iface 21 v) 20 36 true).run Tryz.prog w = .ok (.tuple #[Zv 36, .bool false]) w := by kernel_rfl
theorem as_21_2 (v : Value) (w : World) : (Instr.typeAssert (.iface 21 v) 20 2 true).run Tryz.prog w = .ok (.tuple #[Zv 2, .bool false]) w := by kernel_rfl
theorem as_21_23 (v : Value) (w : World) : (Instr.typeAssert (.iface 21 v) 20 23 true).run Tryz.prog w = .ok (.tuple #[Zv 23, .bool false]) w := by kernel_rfl
theorem as_21_132 (v : Value) (w : World) : (Instr.typeAssert (.iface 21 v) 20 132 true).run Tryz.prog w = .ok (.tuple #[Zv 132, .bool false]) w := by kernel_rfl
theorem as_21_9 (v : Value) (w : World) : (Instr.typeAssert (.iface 21 v) 20 9 true).run Tryz.prog w = .ok (.tuple #[Zv 9, .bool false]) w := by kernel_rfl
theorem as_21_135 (v : Value) (w : World) : (Instr.typeAssert (.iface 21 v) 20 135 true).run Tryz.prog w = .ok (.tuple #[Zv 135, .bool false]) w := by kernel_rfl
theorem as_21_111 (v : Value) (w : World) : (Instr.typeAssert (.iface 21 v) 20 111 true).run Tryz.prog w = .ok (.tuple #[Zv 111, .bool false]) w := by kernel_rfl
theorem as_21_113 (v : Value) (w : World) : (Instr.typeAssert (.iface 21 v) 20 113 true).run Tryz.prog w = .ok (.tuple #[Zv 113, .bool false]) w := by kernel_rfl
theorem as_21_178 (v : Value) (w : World) : (Instr.typeAssert (.iface 21 v) 20 178 true).run Tryz.prog w = .ok (.tuple #[Zv 178, .bool false]) w := by kernel_rfl
theorem as_21_156 (v : Value) (w : World) : (Instr.typeAssert (.iface 21 v) 20 156 true).run Tryz.prog w = .ok (.tuple #[Zv 156, .bool false]) w := by kernel_rfl
theorem as_21_76 (v : Value) (w : World) : (Instr.typeAssert (.iface 21 v) 20 76 true).run Tryz.prog w = .ok (.tuple #[Zv 76, .bool false]) w := by kernel_rfl
theorem as_21_24 (v : Value) (w : World) : (Instr.typeAssert (.iface 21 v) 20 24 true).run Tryz.prog w = .ok (.tuple #[Zv 24, .bool false]) w := by kernel_rfl
theorem as_21_162 (v : Value) (w : World) : (Instr.typeAssert (.iface 21 v) 20 162 true).run Tryz.prog w = .ok (.tuple #[Zv 162, .bool false]) w := by kernel_rfl
theorem as_21_186 (v : Value) (w : World) : (Instr.typeAssert (.iface 21 v) 20 186 true).run Tryz.prog w = .ok (.tuple #[Zv 186, .bool false]) w := by kernel_rfl
theorem as_21_158 (v : Value) (w : World) : (Instr.typeAssert (.iface 21 v) 20 158 true).run Tryz.prog w = .ok (.tuple #[Zv 158, .bool false]) w := by kernel_rfl
theorem ai_21 (v : Value) (w : World) : (Instr.typeAssert (.iface 21 v) 20 21 false).run Tryz.prog w = .ok v w := by kernel_rfl
theorem as_36_5 (v : Value) (w : World) : (Instr.typeAssert (.iface 36 v) 20 5 true).run Tryz.prog w = .ok (.tuple #[Zv 5, .bool false]) w := by kernel_rfl
theorem as_36_105 (v : Value) (w : World) : (Instr.typeAssert (.iface 36 v) 20 105 true).run Tryz.prog w = .ok (.tuple #[Zv 105, .bool false]) w := by kernel_rfl
theorem as_36_106 (v : Value) (w : World) : (Instr.typeAssert (.iface 36 v) 20 106 true).run Tryz.prog w = .ok (.tuple #[Zv 106, .bool false]) w := by kernel_rfl
theorem as_36_115 (v : Value) (w : World) : (Instr.typeAssert (.iface 36 v) 20 115 true).run Tryz.prog w = .ok (.tuple #[Zv 115, .bool false]) w := by kernel_rfl
theorem as_36_4 (v : Value) (w : World) : (Instr.typeAssert (.iface 36 v) 20 4 true).run Tryz.prog w = .ok (.tuple #[Zv 4, .bool false]) w := by kernel_rfl
theorem as_36_64 (v : Value) (w : World) : (Instr.typeAssert (.iface 36 v) 20 64 true).run Tryz.prog w = .ok (.tuple #[Zv 64, .bool false]) w := by kernel_rfl
theorem as_36_131 (v : Value) (w : World) : (Instr.typeAssert (.iface 36 v) 20 131 true).run Tryz.prog w = .ok (.tuple #[Zv 131, .bool false]) w := by kernel_rfl
theorem as_36_21 (v : Value) (w : World) : (Instr.typeAssert (.iface 36 v) 20 21 true).run Tryz.prog w = .ok (.tuple #[Zv 21, .bool false]) w := by kernel_rfl
theorem as_36_36 (v : Value) (w : World) : (Instr.typeAssert (.iface 36 v) 20 36 true).run Tryz.prog w = .ok (.tuple #[v, .bool true]) w := by kernel_rfl
theorem as_36_2 (v : Value) (w : World) : (Instr.typeAssert (.iface 36 v) 20 2 true).run Tryz.prog w = .ok (.tuple #[Zv 2, .bool false]) w := by kernel_rfl
theorem as_36_23 (v : Value) (w : World) : (Instr.typeAssert (.iface 36 v) 20 23 true).run Tryz.prog w = .ok (.tuple #[Zv 23, .bool false]) w := by kernel_rfl
theorem as_36_132 (v : Value) (w : World) : (Instr.typeAssert (.iface 36 v) 20 132 true).run Tryz.prog w = .ok (.tuple #[Zv 132, .bool false]) w := by kernel_rfl
theorem as_36_9 (v : Value) (w : World) : (Instr.typeAssert (.iface 36 v) 20 9 true).run Tryz.prog w = .ok (.tuple #[Zv 9, .bool false]) w := by kernel_rfl
theorem as_36_135 (v : Value) (w : World) : (Instr.typeAssert (.iface 36 v) 20 135 true).run Tryz.prog w = .ok (.tuple #[Zv 135, .bool false]) w := by kernel_rfl
theorem as_36_111 (v : Value) (w : World) : (Instr.typeAssert (.iface 36 v) 20 111 true).run Tryz.prog w = .ok (.tuple #[Zv 111, .bool false]) w := by kernel_rfl
theorem as_36_113 (v : Value) (w : World) : (Instr.typeAssert (.iface 36 v) 20 113 true).run Tryz.prog w = .ok (.tuple #[Zv 113, .bool false]) w := by kernel_rfl
theorem as_36_178 (v : Value) (w : World) : (Instr.typeAssert (.iface 36 v) 20 178 true).run Tryz.prog w = .ok (.tuple #[Zv 178, .bool false]) w := by kernel_rfl
theorem as_36_156 (v : Value) (w : World) : (Instr.typeAssert (.iface 36 v) 20 156 true).run Tryz.prog w = .ok (.tuple #[Zv 156, .bool false]) w := by kernel_rfl
theorem as_36_76 (v : Value) (w : World) : (Instr.typeAssert (.iface 36 v) 20 76 true).run Tryz.prog w = .ok (.tuple #[Zv 76, .bool false]) w := by kernel_rfl
theorem as_36_24 (v : Value) (w : World) : (Instr.typeAssert (.iface 36 v) 20 24 true).run Tryz.prog w = .ok (.tuple #[Zv 24, .bool false]) w := by kernel_rfl
theorem as_36_162 (v : Value) (w : World) : (Instr.typeAssert (.iface 36 v) 20 162 true).run Tryz.prog w = .ok (.tuple #[Zv 162, .bool false]) w := by kernel_rfl
theorem as_36_186 (v : Value) (w : World) : (Instr.typeAssert (.iface 36 v) 20 186 true).run Tryz.prog w = .ok (.tuple #[Zv 186, .bool false]) w := by kernel_rfl
theorem as_36_158 (v : Value) (w : World) : (Instr.typeAssert (.iface 36 v) 20 158 true).run Tryz.prog w = .ok (.tuple #[Zv 158, .bool false]) w := by kernel_rfl
theorem ai_36 (v : Value) (w : World) : (Instr.typeAssert (.iface 36 v) 20 36 false).run Tryz.prog w = .ok v w := by kernel_rfl
theorem as_2_5 (v : Value) (w : World) : (Instr.typeAssert (.iface 2 v) 20 5 true).run Tryz.prog w = .ok (.tuple #[Zv 5, .bool false]) w := by kernel_rfl
theorem as_2_105 (v : Value) (w : World) : (Instr.typeAssert (.iface 2 v) 20 105 true).run Tryz.prog w = .ok (.tuple #[Zv 105, .bool false]) w := by kernel_rfl
theorem as_2_106 (v : Value) (w : World) : (Instr.typeAssert (.iface 2 v) 20 106 true).run Tryz.prog w = .ok (.tuple #[Zv 106, .bool false]) w := by kernel_rfl
theorem as_2_115 (v : Value) (w : World) : (Instr.typeAssert (.iface 2 v) 20 115 true).run Tryz.prog w = .ok (.tuple #[Zv 115, .bool false]) w := by kernel_rfl
theorem as_2_4 (v : Value) (w : World) : (Instr.typeAssert (.iface 2 v) 20 4 true).run Tryz.prog w = .ok (.tuple #[Zv 4, .bool false]) w := by kernel_rfl
theorem as_2_64 (v : Value) (w : World) : (Instr.typeAssert (.iface 2 v) 20 64 true).run Tryz.prog w = .ok (.tuple #[Zv 64, .bool false]) w := by kernel_rfl
theorem as_2_131 (v : Value) (w : World) : (Instr.typeAssert (.iface 2 v) 20 131 true).run Tryz.prog w = .ok (.tuple #[Zv 131, .bool false]) w := by kernel_rfl
theorem as_2_21 (v : Value) (w : World) : (Instr.typeAssert (.iface 2 v) 20 21 true).run Tryz.prog w = .ok (.tuple #[Zv 21, .bool false]) w := by kernel_rfl
theorem as_2_36 (v : Value) (w : World) : (Instr.typeAssert (.iface 2 v) 20 36 true).run Tryz.prog w = .ok (.tuple #[Zv 36, .bool false]) w := by kernel_rfl
theorem as_2_2 (v : Value) (w : World) : (Instr.typeAssert (.iface 2 v) 20 2 true).run Tryz.prog w = .ok (.tuple #[v, .bool true]) w := by kernel_rfl
theorem as_2_23 (v : Value) (w : World) : (Instr.typeAssert (.iface 2 v) 20 23 true).run Tryz.prog w = .ok (.tuple #[Zv 23, .bool false]) w := by kernel_rfl
theorem as_2_132 (v : Value) (w : World) : (Instr.typeAssert (.iface 2 v) 20 132 true).run Tryz.prog w = .ok (.tuple #[Zv 132, .bool false]) w := by kernel_rfl
theorem as_2_9 (v : Value) (w : World) : (Instr.typeAssert (.iface 2 v) 20 9 true).run Tryz.prog w = .ok (.tuple #[Zv 9, .bool false]) w := by kernel_rfl
theorem as_2_135 (v : Value) (w : World) : (Instr.typeAssert (.iface 2 v) 20 135 true).run Tryz.prog w = .ok (.tuple #[Zv 135, .bool false]) w := by kernel_rfl
theorem as_2_111 (v : Value) (w : World) : (Instr.typeAssert (.iface 2 v) 20 111 true).run Tryz.prog w = .ok (.tuple #[Zv 111, .bool false]) w := by kernel_rfl
theorem as_2_113 (v : Value) (w : World) : (Instr.typeAssert (.iface 2 v) 20 113 true).run Tryz.prog w = .ok (.tuple #[Zv 113, .bool false]) w := by kernel_rfl
theorem as_2_178 (v : Value) (w : World) : (Instr.typeAssert (.iface 2 v) 20 178 true).run Tryz.prog w = .ok (.tuple #[Zv 178, .bool false]) w := by kernel_rfl
theorem as_2_156 (v : Value) (w : World) : (Instr.typeAssert (.iface 2 v) 20 156 true).run Tryz.prog w = .ok (.tuple #[Zv 156, .bool false]) w := by kernel_rfl
theorem as_2_76 (v : Value) (w : World) : (Instr.typeAssert (.iface 2 v) 20 76 true).run Tryz.prog w = .ok (.tuple #[Zv 76, .bool false]) w := by kernel_rfl
theorem as_2_24 (v : Value) (w : World) : (Instr.typeAssert (.iface 2 v) 20 24 true).run Tryz.prog w = .ok (.tuple #[Zv 24, .bool false]) w := by kernel_rfl
theorem as_2_162 (v : Value) (w : World) : (Instr.typeAssert (.iface 2 v) 20 162 true).run Tryz.prog w = .ok (.tuple #[Zv 162, .bool false]) w := by kernel_rfl
theorem as_2_186 (v : Value) (w : World) : (Instr.typeAssert (.iface 2 v) 20 186 true).run Tryz.prog w = .ok (.tuple #[Zv 186, .bool false]) w := by kernel_rfl
theorem as_2_158 (v : Value) (w : World) : (Instr.typeAssert (.iface 2 v) 20 158 true).run Tryz.prog w = .ok (.tuple #[Zv 158, .bool false]) w := by kernel_rfl
theorem ai_2 (v : Value) (w : World) : (Instr.typeAssert (.iface 2 v) 20 2 false).run Tryz.prog w = .ok v w := by kernel_rfl
theorem as_23_5 (v : Value) (w : World) : (Instr.typeAssert (.iface 23 v) 20 5 true).run Tryz.prog w = .ok (.tuple #[Zv 5, .bool false]) w := by kernel_rfl
theorem as_23_105 (v : Value) (w : World) : (Instr.typeAssert (.iface 23 v) 20 105 true).run Tryz.prog w = .ok (.tuple #[Zv 105, .bool false]) w := by kernel_rfl
theorem as_23_106 (v : Value) (w : World) : (Instr.typeAssert (.iface 23 v) 20 106 true).run Tryz.prog w = .ok (.tuple #[Zv 106, .bool false]) w := by kernel_rfl
theorem as_23_115 (v : Value) (w : World) : (Instr.typeAssert (.iface 23 v) 20 115 true).run Tryz.prog w = .ok (.tuple #[Zv 115, .bool false]) w := by kernel_rfl
theorem as_23_4 (v : Value) (w : World) : (Instr.typeAssert (.iface 23 v) 20 4 true).run Tryz.prog w = .ok (.tuple #[Zv 4, .bool false]) w := by kernel_rfl
theorem as_23_64 (v : Value) (w : World) : (Instr.typeAssert (.iface 23 v) 20 64 true).run Tryz.prog w = .ok (.tuple #[Zv 64, .bool false]) w := by kernel_rfl
theorem as_23_131 (v : Value) (w : World) : (Instr.typeAssert (.iface 23 v) 20 131 true).run Tryz.prog w = .ok (.tuple #[Zv 131, .bool false]) w := by kernel_rfl
theorem as_23_21 (v : Value) (w : World) : (Instr.typeAssert (.iface 23 v) 20 21 true).run Tryz.prog w = .ok (.tuple #[Zv 21, .bool false]) w := by kernel_rfl
theorem as_23_36 (v : Value) (w : World) : (Instr.typeAssert (.iface 23 v) 20 36 true).run Tryz.prog w = .ok (.tuple #[Zv 36, .bool false]) w := by kernel_rfl
theorem as_23_2 (v : Value) (w : World) : (Instr.typeAssert (.iface 23 v) 20 2 true).run Tryz.prog w = .ok (.tuple #[Zv 2, .bool false]) w := by kernel_rfl
theorem as_23_23 (v : Value) (w : World) : (Instr.typeAssert (.iface 23 v) 20 23 true).run Tryz.prog w = .ok (.tuple #[v, .bool true]) w := by kernel_rfl
theorem as_23_132 (v : Value) (w : World) : (Instr.typeAssert (.iface 23 v) 20 132 true).run Tryz.prog w = .ok (.tuple #[Zv 132, .bool false]) w := by kernel_rfl
theorem as_23_9 (v : Value) (w : World) : (Instr.typeAssert (.iface 23 v) 20 9 true).run Tryz.prog w = .ok (.tuple #[Zv 9, .bool false]) w := by kernel_rfl
theorem as_23_135 (v : Value) (w : World) : (Instr.typeAssert (.iface 23 v) 20 135 true).run Tryz.prog w = .ok (.tuple #[Zv 135, .bool false]) w := by kernel_rfl
theorem as_23_111 (v : Value) (w : World) : (Instr.typeAssert (.iface 23 v) 20 111 true).run Tryz.prog w = .ok (.tuple #[Zv 111, .bool false]) w := by kernel_rfl
theorem as_23_113 (v : Value) (w : World) : (Instr.typeAssert (.iface 23 v) 20 113 true).run Tryz.prog w = .ok (.tuple #[Zv 113, .bool false]) w := by kernel_rfl
theorem as_23_178 (v : Value) (w : World) : (Instr.typeAssert (.iface 23 v) 20 178 true).run Tryz.prog w = .ok (.tuple #[Zv 178, .bool false]) w := by kernel_rfl
theorem as_23_156 (v : Value) (w : World) : (Instr.typeAssert (.iface 23 v) 20 156 true).run Tryz.prog w = .ok (.tuple #[Zv 156, .bool false]) w := by kernel_rfl
theorem as_23_76 (v : Value) (w : World) : (Instr.typeAssert (.iface 23 v) 20 76 true).run Tryz.prog w = .ok (.tuple #[Zv 76, .bool false]) w := by kernel_rfl
theorem as_23_24 (v : Value) (w : World) : (Instr.typeAssert (.iface 23 v) 20 24 true).run Tryz.prog w = .ok (.tuple #[Zv 24, .bool false]) w := by kernel_rfl
theorem as_23_162 (v : Value) (w : World) : (Instr.typeAssert (.iface 23 v) 20 162 true).run Tryz.prog w = .ok (.tuple #[Zv 162, .bool false]) w := by kernel_rfl
theorem as_23_186 (v : Value) (w : World) : (Instr.typeAssert (.iface 23 v) 20 186 true).run Tryz.prog w = .ok (.tuple #[Zv 186, .bool false]) w := by kernel_rfl
theorem as_23_158 (v : Value) (w : World) : (Instr.typeAssert (.iface 23 v) 20 158 true).run Tryz.prog w = .ok (.tuple #[Zv 158, .bool false]) w := by kernel_rfl
theorem ai_23 (v : Value) (w : World) : (Instr.typeAssert (.iface 23 v) 20 23 false).run Tryz.prog w = .ok v w := by kernel_rfl
theorem as_132_5 (v : Value) (w : World) : (Instr.typeAssert (.iface 132 v) 20 5 true).run Tryz.prog w = .ok (.tuple #[Zv 5, .bool false]) w := by kernel_rfl
theorem as_132_105 (v : Value) (w : World) : (Instr.typeAssert (.iface 132 v) 20 105 true).run Tryz.prog w = .ok (.tuple #[Zv 105, .bool false]) w := by kernel_rfl
theorem as_132_106 (v : Value) (w : World) : (Instr.typeAssert (.iface 132 v) 20 106 true).run Tryz.prog w = .ok (.tuple #[Zv 106, .bool false]) w := by kernel_rfl
theorem as_132_115 (v : Value) (w : World) : (Instr.typeAssert (.iface 132 v) 20 115 true).run Tryz.prog w = .ok (.tuple #[Zv 115, .bool false]) w := by kernel_rfl
theorem as_132_4 (v : Value) (w : World) : (Instr.typeAssert (.iface 132 v) 20 4 true).run Tryz.prog w = .ok (.tuple #[Zv 4, .bool false]) w := by kernel_rfl
theorem as_132_64 (v : Value) (w : World) : (Instr.typeAssert (.iface 132 v) 20 64 true).run Tryz.prog w = .ok (.tuple #[Zv 64, .bool false]) w := by kernel_rfl
theorem as_132_131 (v : Value) (w : World) : (Instr.typeAssert (.iface 132 v) 20 131 true).run Tryz.prog w = .ok (.tuple #[Zv 131, .bool false]) w := by kernel_rfl
theorem as_132_21 (v : Value) (w : World) : (Instr.typeAssert (.iface 132 v) 20 21 true).run Tryz.prog w = .ok (.tuple #[Zv 21, .bool false]) w := by kernel_rfl
theorem as_132_36 (v : Value) (w : World) : (Instr.typeAssert (.iface 132 v) 20 36 true).run Tryz.prog w = .ok (.tuple #[Zv 36, .bool false]) w := by kernel_rfl
theorem as_132_2 (v : Value) (w : World) : (Instr.typeAssert (.iface 132 v) 20 2 true).run Tryz.prog w = .ok (.tuple #[Zv 2, .bool false]) w := by kernel_rfl
theorem as_132_23 (v : Value) (w : World) : (Instr.typeAssert (.iface 132 v) 20 23 true).run Tryz.prog w = .ok (.tuple #[Zv 23, .bool false]) w := by kernel_rfl
theorem as_132_132 (v : Value) (w : World) : (Instr.typeAssert (.iface 132 v) 20 132 true).run Tryz.prog w = .ok (.tuple #[v, .bool true]) w := by kernel_rfl
theorem as_132_9 (v : Value) (w : World) : (Instr.typeAssert (.iface 132 v) 20 9 true).run Tryz.prog w = .ok (.tuple #[Zv 9, .bool false]) w := by kernel_rfl
theorem as_132_135 (v : Value) (w : World) : (Instr.typeAssert (.iface 132 v) 20 135 true).run Tryz.prog w = .ok (.tuple #[Zv 135, .bool false]) w := by kernel_rfl
theorem as_132_111 (v : Value) (w : World) : (Instr.typeAssert (.iface 132 v) 20 111 true).run Tryz.prog w = .ok (.tuple #[Zv 111, .bool false]) w := by kernel_rfl
theorem as_132_113 (v : Value) (w : World) : (Instr.typeAssert (.iface 132 v) 20 113 true).run Tryz.prog w = .ok (.tuple #[Zv 113, .bool false]) w := by kernel_rfl
theorem as_132_178 (v : Value) (w : World) : (Instr.typeAssert (.iface 132 v) 20 178 true).run Tryz.prog w = .ok (.tuple #[Zv 178, .bool false]) w := by kernel_rfl
theorem as_132_156 (v : Value) (w : World) : (Instr.typeAssert (.iface 132 v) 20 156 true).run Tryz.prog w = .ok (.tuple #[Zv 156, .bool false]) w := by kernel_rfl
theorem as_132_76 (v : Value) (w : World) : (Instr.typeAssert (.iface 132 v) 20 76 true).run Tryz.prog w = .ok (.tuple #[Zv 76, .bool false]) w := by kernel_rfl
theorem as_132_24 (v : Value) (w : World) : (Instr.typeAssert (.iface 132 v) 20 24 true).run Tryz.prog w = .ok (.tuple #[Zv 24, .bool false]) w := by kernel_rfl
theorem as_132_162 (v : Value) (w : World) : (Instr.typeAssert (.iface 132 v) 20 162 true).run Tryz.prog w = .ok (.tuple #[Zv 162, .bool false]) w := by kernel_rfl
theorem as_132_186 (v : Value) (w : World) : (Instr.typeAssert (.iface 132 v) 20 186 true).run Tryz.prog w = .ok (.tuple #[Zv 186, .bool false]) w := by kernel_rfl
theorem as_132_158 (v : Value) (w : World) : (Instr.typeAssert (.iface 132 v) 20 158 true).run Tryz.prog w = .ok (.tuple #[Zv 158, .bool false]) w := by kernel_rfl
theorem ai_132 (v : Value) (w : World) : (Instr.typeAssert (.iface 132 v) 20 132 false).run Tryz.prog w = .ok v w := by kernel_rfl
theorem as_156_5 (v : Value) (w : World) : (Instr.typeAssert (.iface 156 v) 20 5 true).run Tryz.prog w = .ok (.tuple #[Zv 5, .bool false]) w := by kernel_rfl
theorem as_156_105 (v : Value) (w : World) : (Instr.typeAssert (.iface 156 v) 20 105 true).run Tryz.prog w = .ok (.tuple #[Zv 105, .bool false]) w := by kernel_rfl
theorem as_156_106 (v : Value) (w : World) : (Instr.typeAssert (.iface 156 v) 20 106 true).run Tryz.prog w = .ok (.tuple #[Zv 106, .bool false]) w := by kernel_rfl
theorem as_156_115 (v : Value) (w : World) : (Instr.typeAssert (.iface 156 v) 20 115 true).run Tryz.prog w = .ok (.tuple #[Zv 115, .bool false]) w := by kernel_rfl
theorem as_156_4 (v : Value) (w : World) : (Instr.typeAssert (.iface 156 v) 20 4 true).run Tryz.prog w = .ok (.tuple #[Zv 4, .bool false]) w := by kernel_rfl
theorem as_156_64 (v : Value) (w : World) : (Instr.typeAssert (.iface 156 v) 20 64 true).run Tryz.prog w = .ok (.tuple #[Zv 64, .bool false]) w := by kernel_rfl
theorem as_156_131 (v : Value) (w : World) : (Instr.typeAssert (.iface 156 v) 20 131 true).run Tryz.prog w = .ok (.tuple #[Zv 131, .bool false]) w := by kernel_rfl
theorem as_156_21 (v : Value) (w : World) : (Instr.typeAssert (.iface 156 v) 20 21 true).run Tryz.prog w = .ok (.tuple #[Zv 21, .bool false]) w := by kernel_rfl
theorem as_156_36 (v : Value) (w : World) : (Instr.typeAssert (.iface 156 v) 20 36 true).run Tryz.prog w = .ok (.tuple #[Zv 36, .bool false]) w := by kernel_rfl
theorem as_156_2 (v : Value) (w : World) : (Instr.typeAssert (.iface 156 v) 20 2 true).run Tryz.prog w = .ok (.tuple #[Zv 2, .bool false]) w := by kernel_rfl
theorem as_156_23 (v : Value) (w : World) : (Instr.typeAssert (.iface 156 v) 20 23 true).run Tryz.prog w = .ok (.tuple #[Zv 23, .bool false]) w := by kernel_rfl
theorem as_156_132 (v : Value) (w : World) : (Instr.typeAssert (.iface 156 v) 20 132 true).run Tryz.prog w = .ok (.tuple #[Zv 132, .bool false]) w := by kernel_rfl
theorem as_156_9 (v : Value) (w : World) : (Instr.typeAssert (.iface 156 v) 20 9 true).run Tryz.prog w = .ok (.tuple #[Zv 9, .bool false]) w := by kernel_rfl
theorem as_156_135 (v : Value) (w : World) : (Instr.typeAssert (.iface 156 v) 20 135 true).run Tryz.prog w = .ok (.tuple #[Zv 135, .bool false]) w := by kernel_rfl
theorem as_156_111 (v : Value) (w : World) : (Instr.typeAssert (.iface 156 v) 20 111 true).run Tryz.prog w = .ok (.tuple #[Zv 111, .bool false]) w := by kernel_rfl
theorem as_156_113 (v : Value) (w : World) : (Instr.typeAssert (.iface 156 v) 20 113 true).run Tryz.prog w = .ok (.tuple #[Zv 113, .bool false]) w := by kernel_rfl
theorem as_156_178 (v : Value) (w : World) : (Instr.typeAssert (.iface 156 v) 20 178 true).run Tryz.prog w = .ok (.tuple #[Zv 178, .bool false]) w := by kernel_rfl
theorem as_156_156 (v : Value) (w : World) : (Instr.typeAssert (.iface 156 v) 20 156 true).run Tryz.prog w = .ok (.tuple #[v, .bool true]) w := by kernel_rfl
theorem as_156_76 (v : Value) (w : World) : (Instr.typeAssert (.iface 156 v) 20 76 true).run Tryz.prog w = .ok (.tuple #[Zv 76, .bool false]) w := by kernel_rfl
theorem as_156_24 (v : Value) (w : World) : (Instr.typeAssert (.iface 156 v) 20 24 true).run Tryz.prog w = .ok (.tuple #[Zv 24, .bool false]) w := by kernel_rfl
theorem as_156_162 (v : Value) (w : World) : (Instr.typeAssert (.iface 156 v) 20 162 true).run Tryz.prog w = .ok (.tuple #[Zv 162, .bool false]) w := by kernel_rfl
theorem as_156_186 (v : Value) (w : World) : (Instr.typeAssert (.iface 156 v) 20 186 true).run Tryz.prog w = .ok (.tuple #[Zv 186, .bool false]) w := by kernel_rfl
theorem as_156_158 (v : Value) (w : World) : (Instr.typeAssert (.iface 156 v) 20 158 true).run Tryz.prog w = .ok (.tuple #[Zv 158, .bool false]) w := by kernel_rfl
theorem ai_156 (v : Value) (w : World) : (Instr.typeAssert (.iface 156 v) 20 156 false).run Tryz.prog w = .ok v w := by kernel_rfl
theorem as_162_5 (v : Value) (w : World) : (Instr.typeAssert (.iface 162 v) 20 5 true).run Tryz.prog w = .ok (.tuple #[Zv 5, .bool false]) w := by kernel_rfl
theorem as_162_105 (v : Value) (w : World) : (Instr.typeAssert (.iface 162 v) 20 105 true).run Tryz.prog w = .ok (.tuple #[Zv 105, .bool false]) w := by kernel_rfl
theorem as_162_106 (v : Value) (w : World) : (Instr.typeAssert (.iface 162 v) 20 106 true).run Tryz.prog w = .ok (.tuple #[Zv 106, .bool false]) w := by kernel_rfl
theorem as_162_115 (v : Value) (w : World) : (Instr.typeAssert (.iface 162 v) 20 115 true).run Tryz.prog w = .ok (.tuple #[Zv 115, .bool false]) w := by kernel_rfl
theorem as_162_4 (v : Value) (w : World) : (Instr.typeAssert (.iface 162 v) 20 4 true).run Tryz.prog w = .ok (.tuple #[Zv 4, .bool false]) w := by kernel_rfl
theorem as_162_64 (v : Value) (w : World) : (Instr.typeAssert (.iface 162 v) 20 64 true).run Tryz.prog w = .ok (.tuple #[Zv 64, .bool false]) w := by kernel_rfl
theorem as_162_131 (v : Value) (w : World) : (Instr.typeAssert (.iface 162 v) 20 131 true).run Tryz.prog w = .ok (.tuple #[Zv 131, .bool false]) w := by kernel_rfl
theorem as_162_21 (v : Value) (w : World) : (Instr.typeAssert (.iface 162 v) 20 21 true).run Tryz.prog w = .ok (.tuple #[Zv 21, .bool false]) w := by kernel_rfl
theorem as_162_36 (v : Value) (w : World) : (Instr.typeAssert (.iface 162 v) 20 36 true).run Tryz.prog w = .ok (.tuple #[Zv 36, .bool false]) w := by kernel_rfl
theorem as_162_2 (v : Value) (w : World) : (Instr.typeAssert (.iface 162 v) 20 2 true).run Tryz.prog w = .ok (.tuple #[Zv 2, .bool false]) w := by kernel_rfl
theorem as_162_23 (v : Value) (w : World) : (Instr.typeAssert (.iface 162 v) 20 23 true).run Tryz.prog w = .ok (.tuple #[Zv 23, .bool false]) w := by kernel_rfl
theorem as_162_132 (v : Value) (w : World) : (Instr.typeAssert (.iface 162 v) 20 132 true).run Tryz.prog w = .ok (.tuple #[Zv 132, .bool false]) w := by kernel_rfl
theorem as_162_9 (v : Value) (w : World) : (Instr.typeAssert (.iface 162 v) 20 9 true).run Tryz.prog w = .ok (.tuple #[Zv 9, .bool false]) w := by kernel_rfl
theorem as_162_135 (v : Value) (w : World) : (Instr.typeAssert (.iface 162 v) 20 135 true).run Tryz.prog w = .ok (.tuple #[Zv 135, .bool false]) w := by kernel_rfl
theorem as_162_111 (v : Value) (w : World) : (Instr.typeAssert (.iface 162 v) 20 111 true).run Tryz.prog w = .ok (.tuple #[Zv 111, .bool false]) w := by kernel_rfl
theorem as_162_113 (v : Value) (w : World) : (Instr.typeAssert (.iface 162 v) 20 113 true).run Tryz.prog w = .ok (.tuple #[Zv 113, .bool false]) w := by kernel_rfl
theorem as_162_178 (v : Value) (w : World) : (Instr.typeAssert (.iface 162 v) 20 178 true).run Tryz.prog w = .ok (.tuple #[Zv 178, .bool false]) w := by kernel_rfl
theorem as_162_156 (v : Value) (w : World) : (Instr.typeAssert (.iface 162 v) 20 156 true).run Tryz.prog w = .ok (.tuple #[Zv 156, .bool false]) w := by kernel_rfl
theorem as_162_76 (v : Value) (w : World) : (Instr.typeAssert (.iface 162 v) 20 76 true).run Tryz.prog w = .ok (.tuple #[Zv 76, .bool false]) w := by kernel_rfl
theorem as_162_24 (v : Value) (w : World) : (Instr.typeAssert (.iface 162 v) 20 24 true).run Tryz.prog w = .ok (.tuple #[Zv 24, .bool false]) w := by kernel_rfl
theorem as_162_162 (v : Value) (w : World) : (Instr.typeAssert (.iface 162 v) 20 162 true).run Tryz.prog w = .ok (.tuple #[v, .bool true]) w := by kernel_rfl
theorem as_162_186 (v : Value) (w : World) : (Instr.typeAssert (.iface 162 v) 20 186 true).run Tryz.prog w = .ok (.tuple #[Zv 186, .bool false]) w := by kernel_rfl
theorem as_162_158 (v : Value) (w : World) : (Instr.typeAssert (.iface 162 v) 20 158 true).run Tryz.prog w = .ok (.tuple #[Zv 158, .bool false]) w := by kernel_rfl
theorem ai_162 (v : Value) (w : World) : (Instr.typeAssert (.iface 162 v) 20 162 false).run Tryz.prog w = .ok v w := by kernel_rfl
end Go.Proofs.YtldjigfnagfalaaGreatDoor.Given

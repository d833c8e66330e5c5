/- Part of the proof of LawFnMsName. -/
import Derived.Test.YtldjigfnagfalaaGreatDoorGvAs
import Derived.Test.YtldjigfnagfalaaGreatDoorGvEn
set_option linter.unusedVariables false
set_option linter.unusedSimpArgs false
section
namespace Go.Proofs.YtldjigfnagfalaaGreatDoor.Given
open Go.RowKit Go.Proofs.YtldjigfnagfalaaGreatDoorW.PrintWords
theorem as_9_5 (v : Value) (w : World) : (Instr.typeAssert (.iface 9 v) 20 5 true).run Tryz.prog w = .ok (.tuple #[Zv 5, .bool false]) w := by kernel_rfl
theorem as_9_105 (v : Value) (w : World) : (Instr.typeAssert (.iface 9 v) 20 105 true).run Tryz.prog w = .ok (.tuple #[Zv 105, .bool false]) w := by kernel_rfl
theorem as_9_106 (v : Value) (w : World) : (Instr.typeAssert (.iface 9 v) 20 106 true).run Tryz.prog w = .ok (.tuple #[Zv 106, .bool false]) w := by kernel_rfl
theorem as_9_115 (v : Value) (w : World) : (Instr.typeAssert (.iface 9 v) 20 115 true).run Tryz.prog w = .ok (.tuple #[Zv 115, .bool false]) w := by kernel_rfl
theorem as_9_4 (v : Value) (w : World) : (Instr.typeAssert (.iface 9 v) 20 4 true).run Tryz.prog w = .ok (.tuple #[Zv 4, .bool false]) w := by kernel_rfl
theorem as_9_64 (v : Value) (w : World) : (Instr.typeAssert (.iface 9 v) 20 64 true).run Tryz.prog w = .ok (.tuple #[Zv 64, .bool false]) w := by kernel_rfl
theorem as_9_131 (v : Value) (w : World) : (Instr.typeAssert (.iface 9 v) 20 131 true).run Tryz.prog w = .ok (.tuple #[Zv 131, .bool false]) w := by kernel_rfl
theorem as_9_21 (v : Value) (w : World) : (Instr.typeAssert (.iface 9 v) 20 21 true).run Tryz.prog w = .ok (.tuple #[Zv 21, .bool false]) w := by kernel_rfl
theorem as_9_36 (v : Value) (w : World) : (Instr.typeAssert (.iface 9 v) 20 36 true).run Tryz.prog w = .ok (.tuple #[Zv 36, .bool false]) w := by kernel_rfl
theorem as_9_2 (v : Value) (w : World) : (Instr.typeAssert (.iface 9 v) 20 2 true).run Tryz.prog w = .ok (.tuple #[Zv 2, .bool false]) w := by kernel_rfl
theorem as_9_23 (v : Value) (w : World) : (Instr.typeAssert (.iface 9 v) 20 23 true).run Tryz.prog w = .ok (.tuple #[Zv 23, .bool false]) w := by kernel_rfl
theorem as_9_132 (v : Value) (w : World) : (Instr.typeAssert (.iface 9 v) 20 132 true).run Tryz.prog w = .ok (.tuple #[Zv 132, .bool false]) w := by kernel_rfl
theorem as_9_9 (v : Value) (w : World) : (Instr.typeAssert (.iface 9 v) 20 9 true).run Tryz.prog w = .ok (.tuple #[v, .bool true]) w := by kernel_rfl
theorem as_9_135 (v : Value) (w : World) : (Instr.typeAssert (.iface 9 v) 20 135 true).run Tryz.prog w = .ok (.tuple #[Zv 135, .bool false]) w := by kernel_rfl
theorem as_9_111 (v : Value) (w : World) : (Instr.typeAssert (.iface 9 v) 20 111 true).run Tryz.prog w = .ok (.tuple #[Zv 111, .bool false]) w := by kernel_rfl
theorem as_9_113 (v : Value) (w : World) : (Instr.typeAssert (.iface 9 v) 20 113 true).run Tryz.prog w = .ok (.tuple #[Zv 113, .bool false]) w := by kernel_rfl
theorem as_9_178 (v : Value) (w : World) : (Instr.typeAssert (.iface 9 v) 20 178 true).run Tryz.prog w = .ok (.tuple #[Zv 178, .bool false]) w := by kernel_rfl
theorem as_9_156 (v : Value) (w : World) : (Instr.typeAssert (.iface 9 v) 20 156 true).run Tryz.prog w = .ok (.tuple #[Zv 156, .bool false]) w := by kernel_rfl
theorem as_9_76 (v : Value) (w : World) : (Instr.typeAssert (.iface 9 v) 20 76 true).run Tryz.prog w = .ok (.tuple #[Zv 76, .bool false]) w := by kernel_rfl
theorem as_9_24 (v : Value) (w : World) : (Instr.typeAssert (.iface 9 v) 20 24 true).run Tryz.prog w = .ok (.tuple #[Zv 24, .bool false]) w := by kernel_rfl
theorem as_9_162 (v : Value) (w : World) : (Instr.typeAssert (.iface 9 v) 20 162 true).run Tryz.prog w = .ok (.tuple #[Zv 162, .bool false]) w := by kernel_rfl
theorem as_9_186 (v : Value) (w : World) : (Instr.typeAssert (.iface 9 v) 20 186 true).run Tryz.prog w = .ok (.tuple #[Zv 186, .bool false]) w := by kernel_rfl
theorem as_9_158 (v : Value) (w : World) : (Instr.typeAssert (.iface 9 v) 20 158 true).run Tryz.prog w = .ok (.tuple #[Zv 158, .bool false]) w := by kernel_rfl
theorem ai_9 (v : Value) (w : World) : (Instr.typeAssert (.iface 9 v) 20 9 false).run Tryz.prog w = .ok v w := by kernel_rfl
theorem as_135_5 (v : Value) (w : World) : (Instr.typeAssert (.iface 135 v) 20 5 true).run Tryz.prog w = .ok (.tuple #[Zv 5, .bool false]) w := by kernel_rfl
theorem as_135_105 (v : Value) (w : World) : (Instr.typeAssert (.iface 135 v) 20 105 true).run Tryz.prog w = .ok (.tuple #[Zv 105, .bool false]) w := by kernel_rfl
theorem as_135_106 (v : Value) (w : World) : (Instr.typeAssert (.iface 135 v) 20 106 true).run Tryz.prog w = .ok (.tuple #[Zv 106, .bool false]) w := by kernel_rfl
theorem as_135_115 (v : Value) (w : World) : (Instr.typeAssert (.iface 135 v) 20 115 true).run Tryz.prog w = .ok (.tuple #[Zv 115, .bool false]) w := by kernel_rfl
theorem as_135_4 (v : Value) (w : World) : (Instr.typeAssert (.iface 135 v) 20 4 true).run Tryz.prog w = .ok (.tuple #[Zv 4, .bool false]) w := by kernel_rfl
theorem as_135_64 (v : Value) (w : World) : (Instr.typeAssert (.iface 135 v) 20 64 true).run Tryz.prog w = .ok (.tuple #[Zv 64, .bool false]) w := by kernel_rfl
theorem as_135_131 (v : Value) (w : World) : (Instr.typeAssert (.iface 135 v) 20 131 true).run Tryz.prog w = .ok (.tuple #[Zv 131, .bool false]) w := by kernel_rfl
theorem as_135_21 (v : Value) (w : World) : (Instr.typeAssert (.iface 135 v) 20 21 true).run Tryz.prog w = .ok (.tuple #[Zv 21, .bool false]) w := by kernel_rfl
theorem as_135_36 (v : Value) (w : World) : (Instr.typeAssert (.iface 135 v) 20 36 true).run Tryz.prog w = .ok (.tuple #[Zv 36, .bool false]) w := by kernel_rfl
theorem as_135_2 (v : Value) (w : World) : (Instr.typeAssert (.iface 135 v) 20 2 true).run Tryz.prog w = .ok (.tuple #[Zv 2, .bool false]) w := by kernel_rfl
theorem as_135_23 (v : Value) (w : World) : (Instr.typeAssert (.iface 135 v) 20 23 true).run Tryz.prog w = .ok (.tuple #[Zv 23, .bool false]) w := by kernel_rfl
theorem as_135_132 (v : Value) (w : World) : (Instr.typeAssert (.iface 135 v) 20 132 true).run Tryz.prog w = .ok (.tuple #[Zv 132, .bool false]) w := by kernel_rfl
theorem as_135_9 (v : Value) (w : World) : (Instr.typeAssert (.iface 135 v) 20 9 true).run Tryz.prog w = .ok (.tuple #[Zv 9, .bool false]) w := by kernel_rfl
theorem as_135_135 (v : Value) (w : World) : (Instr.typeAssert (.iface 135 v) 20 135 true).run Tryz.prog w = .ok (.tuple #[v, .bool true]) w := by kernel_rfl
theorem as_135_111 (v : Value) (w : World) : (Instr.typeAssert (.iface 135 v) 20 111 true).run Tryz.prog w = .ok (.tuple #[Zv 111, .bool false]) w := by kernel_rfl
theorem as_135_113 (v : Value) (w : World) : (Instr.typeAssert (.iface 135 v) 20 113 true).run Tryz.prog w = .ok (.tuple #[Zv 113, .bool false]) w := by kernel_rfl
theorem as_135_178 (v : Value) (w : World) : (Instr.typeAssert (.iface 135 v) 20 178 true).run Tryz.prog w = .ok (.tuple #[Zv 178, .bool false]) w := by kernel_rfl
theorem as_135_156 (v : Value) (w : World) : (Instr.typeAssert (.iface 135 v) 20 156 true).run Tryz.prog w = .ok (.tuple #[Zv 156, .bool false]) w := by kernel_rfl
theorem as_135_76 (v : Value) (w : World) : (Instr.typeAssert (.iface 135 v) 20 76 true).run Tryz.prog w = .ok (.tuple #[Zv 76, .bool false]) w := by kernel_rfl
theorem as_135_24 (v : Value) (w : World) : (Instr.typeAssert (.iface 135 v) 20 24 true).run Tryz.prog w = .ok (.tuple #[Zv 24, .bool false]) w := by kernel_rfl
theorem as_135_162 (v : Value) (w : World) : (Instr.typeAssert (.iface 135 v) 20 162 true).run Tryz.prog w = .ok (.tuple #[Zv 162, .bool false]) w := by kernel_rfl
theorem as_135_186 (v : Value) (w : World) : (Instr.typeAssert (.iface 135 v) 20 186 true).run Tryz.prog w = .ok (.tuple #[Zv 186, .bool false]) w := by kernel_rfl
theorem as_135_158 (v : Value) (w : World) : (Instr.typeAssert (.iface 135 v) 20 158 true).run Tryz.prog w = .ok (.tuple #[Zv 158, .bool false]) w := by kernel_rfl
theorem ai_135 (v : Value) (w : World) : (Instr.typeAssert (.iface 135 v) 20 135 false).run Tryz.prog w = .ok v w := by kernel_rfl
theorem as_111_5 (v : Value) (w : World) : (Instr.typeAssert (.iface 111 v) 20 5 true).run Tryz.prog w = .ok (.tuple #[Zv 5, .bool false]) w := by kernel_rfl
theorem as_111_105 (v : Value) (w : World) : (Instr.typeAssert (.iface 111 v) 20 105 true).run Tryz.prog w = .ok (.tuple #[Zv 105, .bool false]) w := by kernel_rfl
theorem as_111_106 (v : Value) (w : World) : (Instr.typeAssert (.iface 111 v) 20 106 true).run Tryz.prog w = .ok (.tuple #[Zv 106, .bool false]) w := by kernel_rfl
theorem as_111_115 (v : Value) (w : World) : (Instr.typeAssert (.iface 111 v) 20 115 true).run Tryz.prog w = .ok (.tuple #[Zv 115, .bool false]) w := by kernel_rfl
theorem as_111_4 (v : Value) (w : World) : (Instr.typeAssert (.iface 111 v) 20 4 true).run Tryz.prog w = .ok (.tuple #[Zv 4, .bool false]) w := by kernel_rfl
theorem as_111_64 (v : Value) (w : World) : (Instr.typeAssert (.iface 111 v) 20 64 true).run Tryz.prog w = .ok (.tuple #[Zv 64, .bool false]) w := by kernel_rfl
theorem as_111_131 (v : Value) (w : World) : (Instr.typeAssert (.iface 111 v) 20 131 true).run Tryz.prog w = .ok (.tuple #[Zv 131, .bool false]) w := by kernel_rfl
theorem as_111_21 (v : Value) (w : World) : (Instr.typeAssert (.iface 111 v) 20 21 true).run Tryz.prog w = .ok (.tuple #[Zv 21, .bool false]) w := by kernel_rfl
theorem as_111_36 (v : Value) (w : World) : (Instr.typeAssert (.iface 111 v) 20 36 true).run Tryz.prog w = .ok (.tuple #[Zv 36, .bool false]) w := by kernel_rfl
theorem as_111_2 (v : Value) (w : World) : (Instr.typeAssert (.iface 111 v) 20 2 true).run Tryz.prog w = .ok (.tuple #[Zv 2, .bool false]) w := by kernel_rfl
theorem as_111_23 (v : Value) (w : World) : (Instr.typeAssert (.iface 111 v) 20 23 true).run Tryz.prog w = .ok (.tuple #[Zv 23, .bool false]) w := by kernel_rfl
theorem as_111_132 (v : Value) (w : World) : (Instr.typeAssert (.iface 111 v) 20 132 true).run Tryz.prog w = .ok (.tuple #[Zv 132, .bool false]) w := by kernel_rfl
theorem as_111_9 (v : Value) (w : World) : (Instr.typeAssert (.iface 111 v) 20 9 true).run Tryz.prog w = .ok (.tuple #[Zv 9, .bool false]) w := by kernel_rfl
theorem as_111_135 (v : Value) (w : World) : (Instr.typeAssert (.iface 111 v) 20 135 true).run Tryz.prog w = .ok (.tuple #[Zv 135, .bool false]) w := by kernel_rfl
theorem as_111_111 (v : Value) (w : World) : (Instr.typeAssert (.iface 111 v) 20 111 true).run Tryz.prog w = .ok (.tuple #[v, .bool true]) w := by kernel_rfl
theorem as_111_113 (v : Value) (w : World) : (Instr.typeAssert (.iface 111 v) 20 113 true).run Tryz.prog w = .ok (.tuple #[Zv 113, .bool false]) w := by kernel_rfl
theorem as_111_178 (v : Value) (w : World) : (Instr.typeAssert (.iface 111 v) 20 178 true).run Tryz.prog w = .ok (.tuple #[Zv 178, .bool false]) w := by kernel_rfl
theorem as_111_156 (v : Value) (w : World) : (Instr.typeAssert (.iface 111 v) 20 156 true).run Tryz.prog w = .ok (.tuple #[Zv 156, .bool false]) w := by kernel_rfl
theorem as_111_76 (v : Value) (w : World) : (Instr.typeAssert (.iface 111 v) 20 76 true).run Tryz.prog w = .ok (.tuple #[Zv 76, .bool false]) w := by kernel_rfl
theorem as_111_24 (v : Value) (w : World) : (Instr.typeAssert (.iface 111 v) 20 24 true).run Tryz.prog w = .ok (.tuple #[Zv 24, .bool false]) w := by kernel_rfl
theorem as_111_162 (v : Value) (w : World) : (Instr.typeAssert (.iface 111 v) 20 162 true).run Tryz.prog w = .ok (.tuple #[Zv 162, .bool false]) w := by kernel_rfl
theorem as_111_186 (v : Value) (w : World) : (Instr.typeAssert (.iface 111 v) 20 186 true).run Tryz.prog w = .ok (.tuple #[Zv 186, .bool false]) w := by kernel_rfl
theorem as_111_158 (v : Value) (w : World) : (Instr.typeAssert (.iface 111 v) 20 158 true).run Tryz.prog w = .ok (.tuple #[Zv 158, .bool false]) w := by kernel_rfl
theorem ai_111 (v : Value) (w : World) : (Instr.typeAssert (.iface 111 v) 20 111 false).run Tryz.prog w = .ok v w := by kernel_rfl
theorem as_113_5 (v : Value) (w : World) : (Instr.typeAssert (.iface 113 v) 20 5 true).run Tryz.prog w = .ok (.tuple #[Zv 5, .bool false]) w := by kernel_rfl
theorem as_113_105 (v : Value) (w : World) : (Instr.typeAssert (.iface 113 v) 20 105 true).run Tryz.prog w = .ok (.tuple #[Zv 105, .bool false]) w := by kernel_rfl
theorem as_113_106 (v : Value) (w : World) : (Instr.typeAssert (.iface 113 v) 20 106 true).run Tryz.prog w = .ok (.tuple #[Zv 106, .bool false]) w := by kernel_rfl
theorem as_113_115 (v : Value) (w : World) : (Instr.typeAssert (.iface 113 v) 20 115 true).run Tryz.prog w = .ok (.tuple #[Zv 115, .bool false]) w := by kernel_rfl
theorem as_113_4 (v : Value) (w : World) : (Instr.typeAssert (.iface 113 v) 20 4 true).run Tryz.prog w = .ok (.tuple #[Zv 4, .bool false]) w := by kernel_rfl
theorem as_113_64 (v : Value) (w : World) : (Instr.typeAssert (.iface 113 v) 20 64 true).run Tryz.prog w = .ok (.tuple #[Zv 64, .bool false]) w := by kernel_rfl
theorem as_113_131 (v : Value) (w : World) : (Instr.typeAssert (.iface 113 v) 20 131 true).run Tryz.prog w = .ok (.tuple #[Zv 131, .bool false]) w := by kernel_rfl
theorem as_113_21 (v : Value) (w : World) : (Instr.typeAssert (.iface 113 v) 20 21 true).run Tryz.prog w = .ok (.tuple #[Zv 21, .bool false]) w := by kernel_rfl
theorem as_113_36 (v : Value) (w : World) : (Instr.typeAssert (.iface 113 v) 20 36 true).run Tryz.prog w = .ok (.tuple #[Zv 36, .bool false]) w := by kernel_rfl
theorem as_113_2 (v : Value) (w : World) : (Instr.typeAssert (.iface 113 v) 20 2 true).run Tryz.prog w = .ok (.tuple #[Zv 2, .bool false]) w := by kernel_rfl
theorem as_113_23 (v : Value) (w : World) : (Instr.typeAssert (.iface 113 v) 20 23 true).run Tryz.prog w = .ok (.tuple #[Zv 23, .bool false]) w := by kernel_rfl
theorem as_113_132 (v : Value) (w : World) : (Instr.typeAssert (.iface 113 v) 20 132 true).run Tryz.prog w = .ok (.tuple #[Zv 132, .bool false]) w := by kernel_rfl
theorem as_113_9 (v : Value) (w : World) : (Instr.typeAssert (.iface 113 v) 20 9 true).run Tryz.prog w = .ok (.tuple #[Zv 9, .bool false]) w := by kernel_rfl
theorem as_113_135 (v : Value) (w : World) : (Instr.typeAssert (.iface 113 v) 20 135 true).run Tryz.prog w = .ok (.tuple #[Zv 135, .bool false]) w := by kernel_rfl
theorem as_113_111 (v : Value) (w : World) : (Instr.typeAssert (.iface 113 v) 20 111 true).run Tryz.prog w = .ok (.tuple #[Zv 111, .bool false]) w := by kernel_rfl
theorem as_113_113 (v : Value) (w : World) : (Instr.typeAssert (.iface 113 v) 20 113 true).run Tryz.prog w = .ok (.tuple #[v, .bool true]) w := by kernel_rfl
theorem as_113_178 (v : Value) (w : World) : (Instr.typeAssert (.iface 113 v) 20 178 true).run Tryz.prog w = .ok (.tuple #[Zv 178, .bool false]) w := by kernel_rfl
theorem as_113_156 (v : Value) (w : World) : (Instr.typeAssert (.iface 113 v) 20 156 true).run Tryz.prog w = .ok (.tuple #[Zv 156, .bool false]) w := by kernel_rfl
theorem as_113_76 (v : Value) (w : World) : (Instr.typeAssert (.iface 113 v) 20 76 true).run Tryz.prog w = .ok (.tuple #[Zv 76, .bool false]) w := by kernel_rfl
theorem as_113_24 (v : Value) (w : World) : (Instr.typeAssert (.iface 113 v) 20 24 true).run Tryz.prog w = .ok (.tuple #[Zv 24, .bool false]) w := by kernel_rfl
theorem as_113_162 (v : Value) (w : World) : (Instr.typeAssert (.iface 113 v) 20 162 true).run Tryz.prog w = .ok (.tuple #[Zv 162, .bool false]) w := by kernel_rfl
theorem as_113_186 (v : Value) (w : World) : (Instr.typeAssert (.iface 113 v) 20 186 true).run Tryz.prog w = .ok (.tuple #[Zv 186, .bool false]) w := by kernel_rfl
theorem as_113_158 (v : Value) (w : World) : (Instr.typeAssert (.iface 113 v) 20 158 true).run Tryz.prog w = .ok (.tuple #[Zv 158, .bool false]) w := by kernel_rfl
theorem ai_113 (v : Value) (w : World) : (Instr.typeAssert (.iface 113 v) 20 113 false).run Tryz.prog w = .ok v w := by kernel_rfl
theorem as_158_5 (v : Value) (w : World) : (Instr.typeAssert (.iface 158 v) 20 5 true).run Tryz.prog w = .ok (.tuple #[Zv 5, .bool false]) w := by kernel_rfl
theorem as_158_105 (v : Value) (w : World) : (Instr.typeAssert (.iface 158 v) 20 105 true).run Tryz.prog w = .ok (.tuple #[Zv 105, .bool false]) w := by kernel_rfl
theorem as_158_106 (v : Value) (w : World) : (Instr.typeAssert (.iface 158 v) 20 106 true).run Tryz.prog w = .ok (.tuple #[Zv 106, .bool false]) w := by kernel_rfl
theorem as_158_115 (v : Value) (w : World) : (Instr.typeAssert (.iface 158 v) 20 115 true).run Tryz.prog w = .ok (.tuple #[Zv 115, .bool false]) w := by kernel_rfl
theorem as_158_4 (v : Value) (w : World) : (Instr.typeAssert (.iface 158 v) 20 4 true).run Tryz.prog w = .ok (.tuple #[Zv 4, .bool false]) w := by kernel_rfl
theorem as_158_64 (v : Value) (w : World) : (Instr.typeAssert (.iface 158 v) 20 64 true).run Tryz.prog w = .ok (.tuple #[Zv 64, .bool false]) w := by kernel_rfl
theorem as_158_131 (v : Value) (w : World) : (Instr.typeAssert (.iface 158 v) 20 131 true).run Tryz.prog w = .ok (.tuple #[Zv 131, .bool false]) w := by kernel_rfl
theorem as_158_21 (v : Value) (w : World) : (Instr.typeAssert (.iface 158 v) 20 21 true).run Tryz.prog w = .ok (.tuple #[Zv 21, .bool false]) w := by kernel_rfl
theorem as_158_36 (v : Value) (w : World) : (Instr.typeAssert (.iface 158 v) 20 36 true).run Tryz.prog w = .ok (.tuple #[Zv 36, .bool false]) w := by kernel_rfl
theorem as_158_2 (v : Value) (w : World) : (Instr.typeAssert (.iface 158 v) 20 2 true).run Tryz.prog w = .ok (.tuple #[Zv 2, .bool false]) w := by kernel_rfl
theorem as_158_23 (v : Value) (w : World) : (Instr.typeAssert (.iface 158 v) 20 23 true).run Tryz.prog w = .ok (.tuple #[Zv 23, .bool false]) w := by kernel_rfl
theorem as_158_132 (v : Value) (w : World) : (Instr.typeAssert (.iface 158 v) 20 132 true).run Tryz.prog w = .ok (.tuple #[Zv 132, .bool false]) w := by kernel_rfl
theorem as_158_9 (v : Value) (w : World) : (Instr.typeAssert (.iface 158 v) 20 9 true).run Tryz.prog w = .ok (.tuple #[Zv 9, .bool false]) w := by kernel_rfl
theorem as_158_135 (v : Value) (w : World) : (Instr.typeAssert (.iface 158 v) 20 135 true).run Tryz.prog w = .ok (.tuple #[Zv 135, .bool false]) w := by kernel_rfl
theorem as_158_111 (v : Value) (w : World) : (Instr.typeAssert (.iface 158 v) 20 111 true).run Tryz.prog w = .ok (.tuple #[Zv 111, .bool false]) w := by kernel_rfl
theorem as_158_113 (v : Value) (w : World) : (Instr.typeAssert (.iface 158 v) 20 113 true).run Tryz.prog w = .ok (.tuple #[Zv 113, .bool false]) w := by kernel_rfl
theorem as_158_178 (v : Value) (w : World) : (Instr.typeAssert (.iface 158 v) 20 178 true).run Tryz.prog w = .ok (.tuple #[Zv 178, .bool false]) w := by kernel_rfl
theorem as_158_156 (v : Value) (w : World) : (Instr.typeAssert (.iface 158 v) 20 156 true).run Tryz.prog w = .ok (.tuple #[Zv 156, .bool false]) w := by kernel_rfl
theorem as_158_76 (v : Value) (w : World) : (Instr.typeAssert (.iface 158 v) 20 76 true).run Tryz.prog w = .ok (.tuple #[Zv 76, .bool false]) w := by kernel_rfl
theorem as_158_24 (v : Value) (w : World) : (Instr.typeAssert (.iface 158 v) 20 24 true).run Tryz.prog w = .ok (.tuple #[Zv 24, .bool false]) w := by kernel_rfl
theorem as_158_162 (v : Value) (w : World) : (Instr.typeAssert (.iface 158 v) 20 162 true).run Tryz.prog w = .ok (.tuple #[Zv 162, .bool false]) w := by kernel_rfl
theorem as_158_186 (v : Value) (w : World) : (Instr.typeAssert (.iface 158 v) 20 186 true).run Tryz.prog w = .ok (.tuple #[Zv 186, .bool false]) w := by kernel_rfl
theorem as_158_158 (v : Value) (w : World) : (Instr.typeAssert (.iface 158 v) 20 158 true).run Tryz.prog w = .ok (.tuple #[v, .bool true]) w := by kernel_rfl
theorem ai_158 (v : Value) (w : World) : (Instr.typeAssert (.iface 158 v) 20 158 false).run Tryz.prog w = .ok v w := by kernel_rfl
theorem as_105_5 (v : Value) (w : World) : (Instr.typeAssert (.iface 105 v) 20 5 true).run Tryz.prog w = .ok (.tuple #[Zv 5, .bool false]) w := by kernel_rfl
theorem as_105_105 (v : Value) (w : World) : (Instr.typeAssert (.iface 105 v) 20 105 true).run Tryz.prog w = .ok (.tuple #[v, .bool true]) w := by kernel_rfl
theorem as_105_106 (v : Value) (w : World) : (Instr.typeAssert (.iface 105 v) 20 106 true).run Tryz.prog w = .ok (.tuple #[Zv 106, .bool false]) w := by kernel_rfl
theorem as_105_115 (v : Value) (w : World) : (Instr.typeAssert (.iface 105 v) 20 115 true).run Tryz.prog w = .ok (.tuple #[Zv 115, .bool false]) w := by kernel_rfl
theorem as_105_4 (v : Value) (w : World) : (Instr.typeAssert (.iface 105 v) 20 4 true).run Tryz.prog w = .ok (.tuple #[Zv 4, .bool false]) w := by kernel_rfl
theorem as_105_64 (v : Value) (w : World) : (Instr.typeAssert (.iface 105 v) 20 64 true).run Tryz.prog w = .ok (.tuple #[Zv 64, .bool false]) w := by kernel_rfl
theorem as_105_131 (v : Value) (w : World) : (Instr.typeAssert (.iface 105 v) 20 131 true).run Tryz.prog w = .ok (.tuple #[Zv 131, .bool false]) w := by kernel_rfl
theorem as_105_21 (v : Value) (w : World) : (Instr.typeAssert (.iface 105 v) 20 21 true).run Tryz.prog w = .ok (.tuple #[Zv 21, .bool false]) w := by kernel_rfl
theorem as_105_36 (v : Value) (w : World) : (Instr.typeAssert (.iface 105 v) 20 36 true).run Tryz.prog w = .ok (.tuple #[Zv 36, .bool false]) w := by kernel_rfl
theorem as_105_2 (v : Value) (w : World) : (Instr.typeAssert (.iface 105 v) 20 2 true).run Tryz.prog w = .ok (.tuple #[Zv 2, .bool false]) w := by kernel_rfl
theorem as_105_23 (v : Value) (w : World) : (Instr.typeAssert (.iface 105 v) 20 23 true).run Tryz.prog w = .ok (.tuple #[Zv 23, .bool false]) w := by kernel_rfl
theorem as_105_132 (v : Value) (w : World) : (Instr.typeAssert (.iface 105 v) 20 132 true).run Tryz.prog w = .ok (.tuple #[Zv 132, .bool false]) w := by kernel_rfl
theorem as_105_9 (v : Value) (w : World) : (Instr.typeAssert (.iface 105 v) 20 9 true).run Tryz.prog w = .ok (.tuple #[Zv 9, .bool false]) w := by kernel_rfl
theorem as_105_135 (v : Value) (w : World) : (Instr.typeAssert (.iface 105 v) 20 135 true).run Tryz.prog w = .ok (.tuple #[Zv 135, .bool false]) w := by kernel_rfl
theorem as_105_111 (v : Value) (w : World) : (Instr.typeAssert (.iface 105 v) 20 111 true).run Tryz.prog w = .ok (.tuple #[Zv 111, .bool false]) w := by kernel_rfl
theorem as_105_113 (v : Value) (w : World) : (Instr.typeAssert (.iface 105 v) 20 113 true).run Tryz.prog w = .ok (.tuple #[Zv 113, .bool false]) w := by kernel_rfl
theorem as_105_178 (v : Value) (w : World) : (Instr.typeAssert (.iface 105 v) 20 178 true).run Tryz.prog w = .ok (.tuple #[Zv 178, .bool false]) w := by kernel_rfl
theorem as_105_156 (v : Value) (w : World) : (Instr.typeAssert (.iface 105 v) 20 156 true).run Tryz.prog w = .ok (.tuple #[Zv 156, .bool false]) w := by kernel_rfl
theorem as_105_76 (v : Value) (w : World) : (Instr.typeAssert (.iface 105 v) 20 76 true).run Tryz.prog w = .ok (.tuple #[Zv 76, .bool false]) w := by kernel_rfl
theorem as_105_24 (v : Value) (w : World) : (Instr.typeAssert (.iface 105 v) 20 24 true).run Tryz.prog w = .ok (.tuple #[Zv 24, .bool false]) w := by kernel_rfl
theorem as_105_162 (v : Value) (w : World) : (Instr.typeAssert (.iface 105 v) 20 162 true).run Tryz.prog w = .ok (.tuple #[Zv 162, .bool false]) w := by kernel_rfl
theorem as_105_186 (v : Value) (w : World) : (Instr.typeAssert (.iface 105 v) 20 186 true).run Tryz.prog w = .ok (.tuple #[Zv 186, .bool false]) w := by kernel_rfl
theorem as_105_158 (v : Value) (w : World) : (Instr.typeAssert (.iface 105 v) 20 158 true).run Tryz.prog w = .ok (.tuple #[Zv 158, .bool false]) w := by kernel_rfl
theorem ai_105 (v : Value) (w : World) : (Instr.typeAssert (.iface 105 v) 20 105 false).run Tryz.prog w = .ok v w := by kernel_rfl
theorem as_106_5 (v : Value) (w : World) : (Instr.typeAssert (.iface 106 v) 20 5 true).run Tryz.prog w = .ok (.tuple #[Zv 5, .bool false]) w := by kernel_rfl
theorem as_106_105 (v : Value) (w : World) : (Instr.typeAssert (.iface 106 v) 20 105 true).run Tryz.prog w = .ok (.tuple #[Zv 105, .bool false]) w := by kernel_rfl
theorem as_106_106 (v : Value) (w : World) : (Instr.typeAssert (.iface 106 v) 20 106 true).run Tryz.prog w = .ok (.tuple #[v, .bool true]) w := by kernel_rfl
theorem as_106_115 (v : Value) (w : World) : (Instr.typeAssert (.iface 106 v) 20 115 true).run Tryz.prog w = .ok (.tuple #[Zv 115, .bool false]) w := by kernel_rfl
theorem as_106_4 (v : Value) (w : World) : (Instr.typeAssert (.iface 106 v) 20 4 true).run Tryz.prog w = .ok (.tuple #[Zv 4, .bool false]) w := by kernel_rfl
theorem as_106_64 (v : Value) (w : World) : (Instr.typeAssert (.iface 106 v) 20 64 true).run Tryz.prog w = .ok (.tuple #[Zv 64, .bool false]) w := by kernel_rfl
theorem as_106_131 (v : Value) (w : World) : (Instr.typeAssert (.iface 106 v) 20 131 true).run Tryz.prog w = .ok (.tuple #[Zv 131, .bool false]) w := by kernel_rfl
theorem as_106_21 (v : Value) (w : World) : (Instr.typeAssert (.iface 106 v) 20 21 true).run Tryz.prog w = .ok (.tuple #[Zv 21, .bool false]) w := by kernel_rfl
theorem as_106_36 (v : Value) (w : World) : (Instr.typeAssert (.iface 106 v) 20 36 true).run Tryz.prog w = .ok (.tuple #[Zv 36, .bool false]) w := by kernel_rfl
theorem as_106_2 (v : Value) (w : World) : (Instr.typeAssert (.iface 106 v) 20 2 true).run Tryz.prog w = .ok (.tuple #[Zv 2, .bool false]) w := by kernel_rfl
theorem as_106_23 (v : Value) (w : World) : (Instr.typeAssert (.iface 106 v) 20 23 true).run Tryz.prog w = .ok (.tuple #[Zv 23, .bool false]) w := by kernel_rfl
theorem as_106_132 (v : Value) (w : World) : (Instr.typeAssert (.iface 106 v) 20 132 true).run Tryz.prog w = .ok (.tuple #[Zv 132, .bool false]) w := by kernel_rfl
theorem as_106_9 (v : Value) (w : World) : (Instr.typeAssert (.iface 106 v) 20 9 true).run Tryz.prog w = .ok (.tuple #[Zv 9, .bool false]) w := by kernel_rfl
theorem as_106_135 (v : Value) (w : World) : (Instr.typeAssert (.iface 106 v) 20 135 true).run Tryz.prog w = .ok (.tuple #[Zv 135, .bool false]) w := by kernel_rfl
theorem as_106_111 (v : Value) (w : World) : (Instr.typeAssert (.iface 106 v) 20 111 true).run Tryz.prog w = .ok (.tuple #[Zv 111, .bool false]) w := by kernel_rfl
theorem as_106_113 (v : Value) (w : World) : (Instr.typeAssert (.iface 106 v) 20 113 true).run Tryz.prog w = .ok (.tuple #[Zv 113, .bool false]) w := by kernel_rfl
theorem as_106_178 (v : Value) (w : World) : (Instr.typeAssert (.iface 106 v) 20 178 true).run Tryz.prog w = .ok (.tuple #[Zv 178, .bool false]) w := by kernel_rfl
theorem as_106_156 (v : Value) (w : World) : (Instr.typeAssert (.iface 106 v) 20 156 true).run Tryz.prog w = .ok (.tuple #[Zv 156, .bool false]) w := by kernel_rfl
theorem as_106_76 (v : Value) (w : World) : (Instr.typeAssert (.iface 106 v) 20 76 true).run Tryz.prog w = .ok (.tuple #[Zv 76, .bool false]) w := by kernel_rfl
theorem as_106_24 (v : Value) (w : World) : (Instr.typeAssert (.iface 106 v) 20 24 true).run Tryz.prog w = .ok (.tuple #[Zv 24, .bool false]) w := by kernel_rfl
theorem as_106_162 (v : Value) (w : World) : (Instr.typeAssert (.iface 106 v) 20 162 true).run Tryz.prog w = .ok (.tuple #[Zv 162, .bool false]) w := by kernel_rfl
theorem as_106_186 (v : Value) (w : World) : (Instr.typeAssert (.iface 106 v) 20 186 true).run Tryz.prog w = .ok (.tuple #[Zv 186, .bool false]) w := by kernel_rfl
theorem as_106_158 (v : Value) (w : World) : (Instr.typeAssert (.iface 106 v) 20 158 true).run Tryz.prog w = .ok (.tuple #[Zv 158, .bool false]) w := by kernel_rfl
theorem ai_106 (v : Value) (w : World) : (Instr.typeAssert (.iface 106 v) 20 106 false).run Tryz.prog w = .ok v w := by kernel_rfl
end Go.Proofs.YtldjigfnagfalaaGreatDoor.Given
end
section
namespace Go.Proofs.YtldjigfnagfalaaGreatDoor.Given
open Go.RowKit Go.Proofs.YtldjigfnagfalaaGreatDoorW.PrintWords
set_option linter.unusedVariables false
attribute [local go_sem] as_9_5 as_9_105 as_9_106 as_9_115 as_9_4 as_9_64 as_9_131 as_9_21 as_9_36 as_9_2 as_9_23 as_9_132 as_9_9 as_9_135 as_9_111 as_9_113 as_9_178 as_9_156 as_9_76 as_9_24 as_9_162 as_9_186 as_9_158 as_135_5
attribute [local go_sem] as_135_105 as_135_106 as_135_115 as_135_4 as_135_64 as_135_131 as_135_21 as_135_36 as_135_2 as_135_23 as_135_132 as_135_9 as_135_135 as_135_111 as_135_113 as_135_178 as_135_156 as_135_76 as_135_24 as_135_162 as_135_186 as_135_158 as_111_5 as_111_105
attribute [local go_sem] as_111_106 as_111_115 as_111_4 as_111_64 as_111_131 as_111_21 as_111_36 as_111_2 as_111_23 as_111_132 as_111_9 as_111_135 as_111_111 as_111_113 as_111_178 as_111_156 as_111_76 as_111_24 as_111_162 as_111_186 as_111_158 as_113_5 as_113_105 as_113_106
attribute [local go_sem] as_113_115 as_113_4 as_113_64 as_113_131 as_113_21 as_113_36 as_113_2 as_113_23 as_113_132 as_113_9 as_113_135 as_113_111 as_113_113 as_113_178 as_113_156 as_113_76 as_113_24 as_113_162 as_113_186 as_113_158 as_158_5 as_158_105 as_158_106 as_158_115
attribute [local go_sem] as_158_4 as_158_64 as_158_131 as_158_21 as_158_36 as_158_2 as_158_23 as_158_132 as_158_9 as_158_135 as_158_111 as_158_113 as_158_178 as_158_156 as_158_76 as_158_24 as_158_162 as_158_186 as_158_158 as_105_5 as_105_105 as_105_106 as_105_115 as_105_4
attribute [local go_sem] as_105_64 as_105_131 as_105_21 as_105_36 as_105_2 as_105_23 as_105_132 as_105_9 as_105_135 as_105_111 as_105_113 as_105_178 as_105_156 as_105_76 as_105_24 as_105_162 as_105_186 as_105_158 as_106_5 as_106_105 as_106_106 as_106_115 as_106_4 as_106_64
attribute [local go_sem] as_106_131 as_106_21 as_106_36 as_106_2 as_106_23 as_106_132 as_106_9 as_106_135 as_106_111 as_106_113 as_106_178 as_106_156 as_106_76 as_106_24 as_106_162 as_106_186 as_106_158 ai_9 ai_135 ai_111 ai_113 ai_158 ai_105 ai_106
set_option maxHeartbeats 8000000 in
set_option maxRecDepth 100000 in
theorem typeOf_s (s : ByteArray) (w : World) : Calls Tryz.prog 70 #[.iface 9 (.string s)] w fun e w' => e = .returned (.string ⟨#[115]⟩) ∧ Below w.heap.size w w' := by
  go_enter Tryz.func70, Tryz.ntmps70
  go_wp2
  go_ret
  exact ⟨rfl, by repeat (first | exact Below.refl _ _ | apply below_alloc | apply below_drew)⟩
set_option maxHeartbeats 4000000 in
theorem valueOf_s (s : ByteArray) (w : World) : Calls Tryz.prog 37 #[.iface 9 (.string s)] w fun e w' => e = .returned (.agg #[.iface 9 (.string s), .string ⟨#[115]⟩]) ∧ Below w.heap.size w w' := by
  go_enter Tryz.func37, Tryz.ntmps37
  go_wp2_with (go_at_call 70; refine (typeOf_s s _).mono ?_; rintro e w1 ⟨rfl, hb⟩; obtain ⟨hc, hf⟩ := bcell hb)
  refine bodyPost_ret (v := .agg #[.iface 9 (.string s), .string ⟨#[115]⟩]) (by simp [results, go_sem, hc]) rfl ⟨rfl, ?_⟩
  exact ((below_new hb).setCell (Nat.le_refl _) _).setCell (Nat.le_refl _) _
set_option maxHeartbeats 8000000 in
set_option maxRecDepth 100000 in
theorem typeOf_o (s : ByteArray) (w : World) : Calls Tryz.prog 70 #[.iface 135 (.string s)] w fun e w' => e = .returned (.string ⟨#[111]⟩) ∧ Below w.heap.size w w' := by
  go_enter Tryz.func70, Tryz.ntmps70
  go_wp2
  go_ret
  exact ⟨rfl, by repeat (first | exact Below.refl _ _ | apply below_alloc | apply below_drew)⟩
set_option maxHeartbeats 4000000 in
theorem valueOf_o (s : ByteArray) (w : World) : Calls Tryz.prog 37 #[.iface 135 (.string s)] w fun e w' => e = .returned (.agg #[.iface 135 (.string s), .string ⟨#[111]⟩]) ∧ Below w.heap.size w w' := by
  go_enter Tryz.func37, Tryz.ntmps37
  go_wp2_with (go_at_call 70; refine (typeOf_o s _).mono ?_; rintro e w1 ⟨rfl, hb⟩; obtain ⟨hc, hf⟩ := bcell hb)
  refine bodyPost_ret (v := .agg #[.iface 135 (.string s), .string ⟨#[111]⟩]) (by simp [results, go_sem, hc]) rfl ⟨rfl, ?_⟩
  exact ((below_new hb).setCell (Nat.le_refl _) _).setCell (Nat.le_refl _) _
set_option maxHeartbeats 8000000 in
set_option maxRecDepth 100000 in
theorem typeOf_g (s : ByteArray) (w : World) : Calls Tryz.prog 70 #[.iface 111 (.agg #[.string s])] w fun e w' => e = .returned (.string ⟨#[103]⟩) ∧ Below w.heap.size w w' := by
  go_enter Tryz.func70, Tryz.ntmps70
  go_wp2
  go_ret
  exact ⟨rfl, by repeat (first | exact Below.refl _ _ | apply below_alloc | apply below_drew)⟩
set_option maxHeartbeats 4000000 in
theorem valueOf_g (s : ByteArray) (w : World) : Calls Tryz.prog 37 #[.iface 111 (.agg #[.string s])] w fun e w' => e = .returned (.agg #[.iface 111 (.agg #[.string s]), .string ⟨#[103]⟩]) ∧ Below w.heap.size w w' := by
  go_enter Tryz.func37, Tryz.ntmps37
  go_wp2_with (go_at_call 70; refine (typeOf_g s _).mono ?_; rintro e w1 ⟨rfl, hb⟩; obtain ⟨hc, hf⟩ := bcell hb)
  refine bodyPost_ret (v := .agg #[.iface 111 (.agg #[.string s]), .string ⟨#[103]⟩]) (by simp [results, go_sem, hc]) rfl ⟨rfl, ?_⟩
  exact ((below_new hb).setCell (Nat.le_refl _) _).setCell (Nat.le_refl _) _
set_option maxHeartbeats 8000000 in
set_option maxRecDepth 100000 in
theorem typeOf_v (s : ByteArray) (U : TypeId) (y : Value) (w : World) : Calls Tryz.prog 70 #[.iface 113 (.agg #[.string s, .iface U y])] w fun e w' => e = .returned (.string ⟨#[118]⟩) ∧ Below w.heap.size w w' := by
  go_enter Tryz.func70, Tryz.ntmps70
  go_wp2
  go_ret
  exact ⟨rfl, by repeat (first | exact Below.refl _ _ | apply below_alloc | apply below_drew)⟩
set_option maxHeartbeats 4000000 in
theorem valueOf_v (s : ByteArray) (U : TypeId) (y : Value) (w : World) : Calls Tryz.prog 37 #[.iface 113 (.agg #[.string s, .iface U y])] w fun e w' => e = .returned (.agg #[.iface 113 (.agg #[.string s, .iface U y]), .string ⟨#[118]⟩]) ∧ Below w.heap.size w w' := by
  go_enter Tryz.func37, Tryz.ntmps37
  go_wp2_with (go_at_call 70; refine (typeOf_v s U y _).mono ?_; rintro e w1 ⟨rfl, hb⟩; obtain ⟨hc, hf⟩ := bcell hb)
  refine bodyPost_ret (v := .agg #[.iface 113 (.agg #[.string s, .iface U y]), .string ⟨#[118]⟩]) (by simp [results, go_sem, hc]) rfl ⟨rfl, ?_⟩
  exact ((below_new hb).setCell (Nat.le_refl _) _).setCell (Nat.le_refl _) _
set_option maxHeartbeats 8000000 in
set_option maxRecDepth 100000 in
theorem typeOf_T (v : Int) (w : World) : Calls Tryz.prog 70 #[.iface 105 (.int .u8 v)] w fun e w' => e = .returned (.string ⟨#[121]⟩) ∧ Below w.heap.size w w' := by
  go_enter Tryz.func70, Tryz.ntmps70
  go_wp2
  go_ret
  exact ⟨rfl, by repeat (first | exact Below.refl _ _ | apply below_alloc | apply below_drew)⟩
set_option maxHeartbeats 4000000 in
theorem valueOf_T (v : Int) (w : World) : Calls Tryz.prog 37 #[.iface 105 (.int .u8 v)] w fun e w' => e = .returned (.agg #[.iface 105 (.int .u8 v), .string ⟨#[121]⟩]) ∧ Below w.heap.size w w' := by
  go_enter Tryz.func37, Tryz.ntmps37
  go_wp2_with (go_at_call 70; refine (typeOf_T v _).mono ?_; rintro e w1 ⟨rfl, hb⟩; obtain ⟨hc, hf⟩ := bcell hb)
  refine bodyPost_ret (v := .agg #[.iface 105 (.int .u8 v), .string ⟨#[121]⟩]) (by simp [results, go_sem, hc]) rfl ⟨rfl, ?_⟩
  exact ((below_new hb).setCell (Nat.le_refl _) _).setCell (Nat.le_refl _) _
set_option maxHeartbeats 8000000 in
set_option maxRecDepth 100000 in
theorem typeOf_F (v : Int) (w : World) : Calls Tryz.prog 70 #[.iface 106 (.int .u8 v)] w fun e w' => e = .returned (.string ⟨#[121]⟩) ∧ Below w.heap.size w w' := by
  go_enter Tryz.func70, Tryz.ntmps70
  go_wp2
  go_ret
  exact ⟨rfl, by repeat (first | exact Below.refl _ _ | apply below_alloc | apply below_drew)⟩
set_option maxHeartbeats 4000000 in
theorem valueOf_F (v : Int) (w : World) : Calls Tryz.prog 37 #[.iface 106 (.int .u8 v)] w fun e w' => e = .returned (.agg #[.iface 106 (.int .u8 v), .string ⟨#[121]⟩]) ∧ Below w.heap.size w w' := by
  go_enter Tryz.func37, Tryz.ntmps37
  go_wp2_with (go_at_call 70; refine (typeOf_F v _).mono ?_; rintro e w1 ⟨rfl, hb⟩; obtain ⟨hc, hf⟩ := bcell hb)
  refine bodyPost_ret (v := .agg #[.iface 106 (.int .u8 v), .string ⟨#[121]⟩]) (by simp [results, go_sem, hc]) rfl ⟨rfl, ?_⟩
  exact ((below_new hb).setCell (Nat.le_refl _) _).setCell (Nat.le_refl _) _
set_option maxHeartbeats 4000000 in
theorem kindOf_s (w : World) : Calls Tryz.prog 81 #[.string ⟨#[115]⟩] w fun e w' => e = .returned (.int .i64 17) ∧ w = w' := by
  go_enter Tryz.func81, Tryz.ntmps81
  go_wp2
  go_ret
  exact ⟨rfl, rfl⟩
set_option maxHeartbeats 4000000 in
theorem align_s (w : World) : Calls Tryz.prog 42 #[.string ⟨#[115]⟩] w fun e w' => e = .returned (.int .i64 4) ∧ w = w' := by
  go_enter Tryz.func42, Tryz.ntmps42
  go_wp2_with (go_at_call 81; refine (kindOf_s _).mono ?_; rintro e w1 ⟨rfl, rfl⟩)
  all_goals
    go_ret
    exact ⟨rfl, rfl⟩
set_option maxHeartbeats 4000000 in
theorem zKind_s (x : Value) (w : World) : Calls Tryz.prog 44 #[.agg #[x, .string ⟨#[115]⟩]] w fun e w' => e = .returned (.int .i64 17) ∧ Below w.heap.size w w' := by
  go_enter Tryz.func44, Tryz.ntmps44
  go_wp2_with (go_at_call 81; refine (kindOf_s _).mono ?_; rintro e w1 ⟨rfl, rfl⟩)
  go_ret
  exact ⟨rfl, (Below.refl _ _).alloc (Nat.le_refl _) _⟩
set_option maxHeartbeats 4000000 in
theorem kindOf_o (w : World) : Calls Tryz.prog 81 #[.string ⟨#[111]⟩] w fun e w' => e = .returned (.int .i64 17) ∧ w = w' := by
  go_enter Tryz.func81, Tryz.ntmps81
  go_wp2
  go_ret
  exact ⟨rfl, rfl⟩
set_option maxHeartbeats 4000000 in
theorem align_o (w : World) : Calls Tryz.prog 42 #[.string ⟨#[111]⟩] w fun e w' => e = .returned (.int .i64 4) ∧ w = w' := by
  go_enter Tryz.func42, Tryz.ntmps42
  go_wp2
  all_goals
    go_ret
    exact ⟨rfl, rfl⟩
set_option maxHeartbeats 4000000 in
theorem zKind_o (x : Value) (w : World) : Calls Tryz.prog 44 #[.agg #[x, .string ⟨#[111]⟩]] w fun e w' => e = .returned (.int .i64 17) ∧ Below w.heap.size w w' := by
  go_enter Tryz.func44, Tryz.ntmps44
  go_wp2_with (go_at_call 81; refine (kindOf_o _).mono ?_; rintro e w1 ⟨rfl, rfl⟩)
  go_ret
  exact ⟨rfl, (Below.refl _ _).alloc (Nat.le_refl _) _⟩
set_option maxHeartbeats 4000000 in
theorem kindOf_g (w : World) : Calls Tryz.prog 81 #[.string ⟨#[103]⟩] w fun e w' => e = .returned (.int .i64 18) ∧ w = w' := by
  go_enter Tryz.func81, Tryz.ntmps81
  go_wp2
  go_ret
  exact ⟨rfl, rfl⟩
set_option maxHeartbeats 4000000 in
theorem align_g (w : World) : Calls Tryz.prog 42 #[.string ⟨#[103]⟩] w fun e w' => e = .returned (.int .i64 1) ∧ w = w' := by
  go_enter Tryz.func42, Tryz.ntmps42
  go_wp2
  all_goals
    go_ret
    exact ⟨rfl, rfl⟩
set_option maxHeartbeats 4000000 in
theorem zKind_g (x : Value) (w : World) : Calls Tryz.prog 44 #[.agg #[x, .string ⟨#[103]⟩]] w fun e w' => e = .returned (.int .i64 18) ∧ Below w.heap.size w w' := by
  go_enter Tryz.func44, Tryz.ntmps44
  go_wp2_with (go_at_call 81; refine (kindOf_g _).mono ?_; rintro e w1 ⟨rfl, rfl⟩)
  go_ret
  exact ⟨rfl, (Below.refl _ _).alloc (Nat.le_refl _) _⟩
set_option maxHeartbeats 4000000 in
theorem kindOf_v (w : World) : Calls Tryz.prog 81 #[.string ⟨#[118]⟩] w fun e w' => e = .returned (.int .i64 18) ∧ w = w' := by
  go_enter Tryz.func81, Tryz.ntmps81
  go_wp2
  go_ret
  exact ⟨rfl, rfl⟩
set_option maxHeartbeats 4000000 in
theorem align_v (w : World) : Calls Tryz.prog 42 #[.string ⟨#[118]⟩] w fun e w' => e = .returned (.int .i64 1) ∧ w = w' := by
  go_enter Tryz.func42, Tryz.ntmps42
  go_wp2
  all_goals
    go_ret
    exact ⟨rfl, rfl⟩
set_option maxHeartbeats 4000000 in
theorem zKind_v (x : Value) (w : World) : Calls Tryz.prog 44 #[.agg #[x, .string ⟨#[118]⟩]] w fun e w' => e = .returned (.int .i64 18) ∧ Below w.heap.size w w' := by
  go_enter Tryz.func44, Tryz.ntmps44
  go_wp2_with (go_at_call 81; refine (kindOf_v _).mono ?_; rintro e w1 ⟨rfl, rfl⟩)
  go_ret
  exact ⟨rfl, (Below.refl _ _).alloc (Nat.le_refl _) _⟩
set_option maxHeartbeats 4000000 in
theorem kindOf_r (w : World) : Calls Tryz.prog 81 #[.string ⟨#[40, 121, 118, 41]⟩] w fun e w' => e = .returned (.int .i64 18) ∧ w = w' := by
  go_enter Tryz.func81, Tryz.ntmps81
  go_wp2
  go_ret
  exact ⟨rfl, rfl⟩
set_option maxHeartbeats 4000000 in
theorem align_r (w : World) : Calls Tryz.prog 42 #[.string ⟨#[40, 121, 118, 41]⟩] w fun e w' => e = .returned (.int .i64 8) ∧ w = w' := by
  go_enter Tryz.func42, Tryz.ntmps42
  go_wp2_with (go_at_call 81; refine (kindOf_r _).mono ?_; rintro e w1 ⟨rfl, rfl⟩)
  all_goals
    go_ret
    exact ⟨rfl, rfl⟩
set_option maxHeartbeats 4000000 in
theorem zKind_r (x : Value) (w : World) : Calls Tryz.prog 44 #[.agg #[x, .string ⟨#[40, 121, 118, 41]⟩]] w fun e w' => e = .returned (.int .i64 18) ∧ Below w.heap.size w w' := by
  go_enter Tryz.func44, Tryz.ntmps44
  go_wp2_with (go_at_call 81; refine (kindOf_r _).mono ?_; rintro e w1 ⟨rfl, rfl⟩)
  go_ret
  exact ⟨rfl, (Below.refl _ _).alloc (Nat.le_refl _) _⟩
set_option maxHeartbeats 4000000 in
theorem kindOf_l (w : World) : Calls Tryz.prog 81 #[.string ⟨#[91, 40, 121, 118, 41]⟩] w fun e w' => e = .returned (.int .i64 16) ∧ w = w' := by
  go_enter Tryz.func81, Tryz.ntmps81
  go_wp2
  go_ret
  exact ⟨rfl, rfl⟩
set_option maxHeartbeats 4000000 in
theorem align_l (w : World) : Calls Tryz.prog 42 #[.string ⟨#[91, 40, 121, 118, 41]⟩] w fun e w' => e = .returned (.int .i64 4) ∧ w = w' := by
  go_enter Tryz.func42, Tryz.ntmps42
  go_wp2_with (go_at_call 81; refine (kindOf_l _).mono ?_; rintro e w1 ⟨rfl, rfl⟩)
  all_goals
    go_ret
    exact ⟨rfl, rfl⟩
set_option maxHeartbeats 4000000 in
theorem zKind_l (x : Value) (w : World) : Calls Tryz.prog 44 #[.agg #[x, .string ⟨#[91, 40, 121, 118, 41]⟩]] w fun e w' => e = .returned (.int .i64 16) ∧ Below w.heap.size w w' := by
  go_enter Tryz.func44, Tryz.ntmps44
  go_wp2_with (go_at_call 81; refine (kindOf_l _).mono ?_; rintro e w1 ⟨rfl, rfl⟩)
  go_ret
  exact ⟨rfl, (Below.refl _ _).alloc (Nat.le_refl _) _⟩
set_option maxHeartbeats 8000000 in
theorem zStr_s (s t : ByteArray) (w : World) : Calls Tryz.prog 50 #[.agg #[.iface 9 (.string s), .string t]] w fun e w' => e = .returned (.string s) ∧ Below w.heap.size w w' := by
  go_enter Tryz.func50, Tryz.ntmps50
  go_wp2
  go_ret
  exact ⟨rfl, (Below.refl _ _).alloc (Nat.le_refl _) _⟩
set_option maxHeartbeats 8000000 in
theorem zStr_o (s t : ByteArray) (w : World) : Calls Tryz.prog 50 #[.agg #[.iface 135 (.string s), .string t]] w fun e w' => e = .returned (.string s) ∧ Below w.heap.size w w' := by
  go_enter Tryz.func50, Tryz.ntmps50
  go_wp2
  go_ret
  exact ⟨rfl, (Below.refl _ _).alloc (Nat.le_refl _) _⟩
set_option maxHeartbeats 8000000 in
theorem zLen_s (s t : ByteArray) (w : World) : Calls Tryz.prog 54 #[.agg #[.iface 9 (.string s), .string t]] w fun e w' => e = .returned (.int .i64 s.size) ∧ Below w.heap.size w w' := by
  go_enter Tryz.func54, Tryz.ntmps54
  go_wp2
  go_ret
  exact ⟨rfl, (Below.refl _ _).alloc (Nat.le_refl _) _⟩
set_option maxHeartbeats 8000000 in
theorem zLen_o (s t : ByteArray) (w : World) : Calls Tryz.prog 54 #[.agg #[.iface 135 (.string s), .string t]] w fun e w' => e = .returned (.int .i64 s.size) ∧ Below w.heap.size w w' := by
  go_enter Tryz.func54, Tryz.ntmps54
  go_wp2
  go_ret
  exact ⟨rfl, (Below.refl _ _).alloc (Nat.le_refl _) _⟩
set_option maxHeartbeats 8000000 in
theorem zNum_T (t : ByteArray) (v : Int) (h0 : 0 ≤ v) (h1 : v < 256) (w : World) : Calls Tryz.prog 45 #[.agg #[.iface 105 (.int .u8 v), .string t]] w fun e w' => e = .returned (.int .u64 v) ∧ Below w.heap.size w w' := by
  go_enter Tryz.func45, Tryz.ntmps45
  go_wp2
  go_ret
  exact ⟨rfl, (Below.refl _ _).alloc (Nat.le_refl _) _⟩
set_option maxHeartbeats 8000000 in
theorem zNum_F (t : ByteArray) (v : Int) (h0 : 0 ≤ v) (h1 : v < 256) (w : World) : Calls Tryz.prog 45 #[.agg #[.iface 106 (.int .u8 v), .string t]] w fun e w' => e = .returned (.int .u64 v) ∧ Below w.heap.size w w' := by
  go_enter Tryz.func45, Tryz.ntmps45
  go_wp2
  go_ret
  exact ⟨rfl, (Below.refl _ _).alloc (Nat.le_refl _) _⟩
set_option maxHeartbeats 8000000 in
theorem zIface (x : Value) (t : ByteArray) (T : TypeId) (w : World) : Calls Tryz.prog 62 #[.agg #[.iface T x, .string t]] w fun e w' => e = .returned (.iface T x) ∧ Below w.heap.size w w' := by
  go_enter Tryz.func62, Tryz.ntmps62
  go_wp2
  go_ret
  exact ⟨rfl, (Below.refl _ _).alloc (Nat.le_refl _) _⟩
end Go.Proofs.YtldjigfnagfalaaGreatDoor.Given
end

/- What the laid sentinels of strconv's give the walks. -/
import Derived.Test.YtgljkbhjbefikaaDoorRows
import Derived.Test.YtgljkbhjbefikaaDoorGvPu
import Derived.LaidMore
import Derived.LaidLaws
import Derived.MakeChecks
import Derived.Stop.LaidErr
namespace Go.Proofs.YtgljkbhjbefikaaDoor.Given
open Go.ChangeShapes Go.WideShapes Go.RowKit
theorem glStar : "*" ++ "errors.errorString" = "*errors.errorString" := by decide
theorem glRow (u : TypeId) (h : Tryd.prog.typeName? 3 u = some "*errors.errorString") : u = 89 :=
  typeName_ptr_named (nm := "errors.errorString") (by rw [glStar]; kernel_rfl) (by kernel_rfl) (by decide) u (by rw [glStar]; exact h)
theorem glCells91 : Tryd.prog.cellsOf 91 = 1 := by kernel_rfl
theorem glCells9 : Tryd.prog.cellsOf 9 = 1 := by kernel_rfl
theorem glob_of_two {W : World} {r : List (String × DataW Unit)} (h : laidMet Tryd.prog (("strconv.ErrRange", Rows.laid_strconv_ErrRange) :: ("strconv.ErrSyntax", Rows.laid_strconv_ErrSyntax) :: r) W) : Glob W := by
  have g6 : Tryd.prog.globalNamed "strconv.ErrRange" = some 6 := by kernel_rfl
  have g5 : Tryd.prog.globalNamed "strconv.ErrSyntax" = some 5 := by kernel_rfl
  obtain ⟨a1, s1, h1, _, _, _⟩ := laid_sentinel h g6 (by kernel_rfl) Tryd.underlying37 glRow Tryd.underlying89 Tryd.underlying91 rfl rfl Tryd.underlying9 glCells91 glCells9
  obtain ⟨a2, s2, h2, _, _, _⟩ := laid_sentinel h.tail g5 (by kernel_rfl) Tryd.underlying37 glRow Tryd.underlying89 Tryd.underlying91 rfl rfl Tryd.underlying9 glCells91 glCells9
  exact ⟨⟨_, _, by simpa using World.var?_cell g5 h2 0⟩, _, _, by simpa using World.var?_cell g6 h1 0⟩
theorem glob_bytes {W : World} (h : laidMetH Tryd.prog [("math/bits.deBruijn32tab", Rows.laid_math_bits_deBruijn32tab), ("math/bits.deBruijn64tab", Rows.laid_math_bits_deBruijn64tab), ("internal/strconv.uint64pow10", Rows.laid_internal_strconv_uint64pow10), ("strconv.ErrRange", Rows.laid_strconv_ErrRange), ("strconv.ErrSyntax", Rows.laid_strconv_ErrSyntax)] W) : Glob W := by
  rw [MakeChecks.laidMetH_plain _ _ _ (by kernel_rfl)] at h
  exact glob_of_two h.tail.tail.tail
end Go.Proofs.YtgljkbhjbefikaaDoor.Given

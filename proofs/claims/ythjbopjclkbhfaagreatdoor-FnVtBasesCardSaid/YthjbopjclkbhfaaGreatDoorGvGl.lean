/- What the laid variables give the walks. -/
import Derived.Test.YthjbopjclkbhfaaGreatDoorRows
import Derived.Test.YthjbopjclkbhfaaGreatDoorGvWk
import Derived.LaidMore
import Derived.LaidLaws
import Derived.Lib.LaidTab
import Derived.Lib.ItoaMem
import Derived.Lib.SmallJoins
import Derived.MakeChecks
import Derived.Stop.LaidErr
namespace Go.Proofs.YthjbopjclkbhfaaGreatDoor.Given
open Go.ChangeShapes Go.WideShapes Go.RowKit
theorem glStar : "*" ++ "errors.errorString" = "*errors.errorString" := by decide
theorem glRow (u : TypeId) (h : Tryz.prog.typeName? 3 u = some "*errors.errorString") : u = 161 :=
  typeName_ptr_named (nm := "errors.errorString") (by rw [glStar]; kernel_rfl) (by kernel_rfl) (by decide) u (by rw [glStar]; exact h)
theorem glCells163 : Tryz.prog.cellsOf 163 = 1 := by kernel_rfl
theorem glCells9 : Tryz.prog.cellsOf 9 = 1 := by kernel_rfl
theorem glob_of_two {W : World} {r : List (String × DataW Unit)} (h : laidMet Tryz.prog (("strconv.ErrRange", Rows.laid_strconv_ErrRange) :: ("strconv.ErrSyntax", Rows.laid_strconv_ErrSyntax) :: r) W) : Glob W := by
  have g6 : Tryz.prog.globalNamed "strconv.ErrRange" = some 5 := by kernel_rfl
  have g5 : Tryz.prog.globalNamed "strconv.ErrSyntax" = some 4 := by kernel_rfl
  obtain ⟨a1, s1, h1, _, _, _⟩ := laid_sentinel h g6 (by kernel_rfl) Tryz.underlying39 glRow Tryz.underlying161 Tryz.underlying163 rfl rfl Tryz.underlying9 glCells163 glCells9
  obtain ⟨a2, s2, h2, _, _, _⟩ := laid_sentinel h.tail g5 (by kernel_rfl) Tryz.underlying39 glRow Tryz.underlying161 Tryz.underlying163 rfl rfl Tryz.underlying9 glCells163 glCells9
  exact ⟨⟨_, _, by simpa using World.var?_cell g5 h2 0⟩, _, _, by simpa using World.var?_cell g6 h1 0⟩
def zs64 : List Int := [0, 1, 56, 2, 57, 49, 28, 3, 61, 58, 42, 50, 38, 29, 17, 4, 62, 47, 59, 36, 45, 43, 51, 22, 53, 39, 33, 30, 24, 18, 12, 5, 63, 55, 48, 27, 60, 41, 37, 16, 46, 35, 44, 21, 52, 32, 23, 11, 54, 26, 40, 15, 34, 20, 31, 10, 25, 14, 19, 9, 13, 8, 7, 6]
set_option maxRecDepth 100000 in
theorem eq64 : Rows.laid_math_bits_deBruijn64tab (H := Unit) = Lib.tabData .u8 zs64 := by kernel_rfl
set_option maxRecDepth 100000 in
theorem eqPow : Rows.laid_internal_strconv_uint64pow10 (H := Unit) = Lib.tabData .u64 Lib.pow10Tab := by kernel_rfl
theorem tz_of {W : World} {r : List (String × DataW Unit)} (h : laidMet Tryz.prog (("math/bits.deBruijn64tab", Rows.laid_math_bits_deBruijn64tab) :: r) W) : Tz W := by
  rw [eq64] at h
  have g : Tryz.prog.globalNamed "math/bits.deBruijn64tab" = some 3 := by kernel_rfl
  have t := Lib.tabIs_of_head (P := Tryz.prog) g (by kernel_rfl) Tryz.underlying113 Tryz.underlying5 (by kernel_rfl) (by kernel_rfl) h
  exact ⟨t.cell g 7 (by decide), t.cell g 15 (by decide)⟩
theorem pow_of {W : World} {r : List (String × DataW Unit)} (h : laidMet Tryz.prog (("internal/strconv.uint64pow10", Rows.laid_internal_strconv_uint64pow10) :: r) W) : Lib.TabIs Tryz.prog W "internal/strconv.uint64pow10" .u64 Lib.pow10Tab := by
  rw [eqPow] at h
  exact Lib.tabIs_of_head (P := Tryz.prog) (g := 0) (by kernel_rfl) (by kernel_rfl) Tryz.underlying57 Tryz.underlying22 (by kernel_rfl) (by kernel_rfl) h
theorem gd_of_laid {W : World} (h : laidMetH Tryz.prog [("math/bits.deBruijn32tab", Rows.laid_math_bits_deBruijn32tab), ("math/bits.deBruijn64tab", Rows.laid_math_bits_deBruijn64tab), ("internal/strconv.float32info", Rows.laid_internal_strconv_float32info), ("internal/strconv.float64info", Rows.laid_internal_strconv_float64info), ("internal/strconv.optimize", Rows.laid_internal_strconv_optimize), ("internal/strconv.powtab", Rows.laid_internal_strconv_powtab), ("internal/strconv.float64pow10", Rows.laid_internal_strconv_float64pow10), ("internal/strconv.float32pow10", Rows.laid_internal_strconv_float32pow10), ("internal/strconv.uint64pow10", Rows.laid_internal_strconv_uint64pow10), ("strconv.ErrRange", Rows.laid_strconv_ErrRange), ("strconv.ErrSyntax", Rows.laid_strconv_ErrSyntax), ("internal/strconv.leftcheats", Rows.laid_internal_strconv_leftcheats), ("internal/strconv.pow10Tab", Rows.laid_internal_strconv_pow10Tab)] W) : Gd W := by
  rw [MakeChecks.laidMetH_plain _ _ _ (by kernel_rfl)] at h
  have h1 := tz_of h.tail
  have h2 := pow_of h.tail.tail.tail.tail.tail.tail.tail.tail
  have h3 := glob_of_two h.tail.tail.tail.tail.tail.tail.tail.tail.tail
  intro W' hb
  exact ⟨h3.below hb (Nat.le_refl _), h1.below hb (Nat.le_refl _), Joins.tab_stays (g := 0) (by kernel_rfl) h2 hb (Nat.le_refl _)⟩
end Go.Proofs.YthjbopjclkbhfaaGreatDoor.Given

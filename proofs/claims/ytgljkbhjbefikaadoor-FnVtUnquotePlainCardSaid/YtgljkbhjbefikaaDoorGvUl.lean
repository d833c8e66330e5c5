/- What the laid tables of unicode/utf8 give the walks. -/
import Derived.Test.YtgljkbhjbefikaaDoorRows
import Derived.Test.YtgljkbhjbefikaaDoorGvUq
import Derived.Lib.LaidU8T
import Derived.LaidMore
import Derived.LaidLaws
import Derived.MakeChecks
namespace Go.Proofs.YtgljkbhjbefikaaDoor.Given
open Go.ChangeShapes Go.WideShapes Go.RowKit
set_option maxRecDepth 100000 in
theorem acceptEq : Rows.laid_unicode_utf8_acceptRanges (H := Unit) = Lib.acceptData := by kernel_rfl
set_option maxRecDepth 100000 in
theorem firstEq : Rows.laid_unicode_utf8_first = Lib.firstData := by kernel_rfl
theorem tabs_of {l : List (String × DataW Unit)} {W : World} (h : laidMet Tryd.prog l W) (h1 : ("unicode/utf8.first", Rows.laid_unicode_utf8_first) ∈ l) (h2 : ("unicode/utf8.acceptRanges", Rows.laid_unicode_utf8_acceptRanges) ∈ l) : Tabs W := by
  rw [firstEq] at h1
  rw [acceptEq] at h2
  exact utf8Tabs_of_readsT (ρ := Tryd.lays260_ren) (U8Types.of260 Tryd.lays260) ⟨by kernel_rfl, by kernel_rfl, by kernel_rfl, by kernel_rfl, by kernel_rfl, by kernel_rfl, by kernel_rfl⟩ (Lib.laidMet.reads h h1) (Lib.laidMet.reads h h2)
theorem tabs_unq {W : World} (h : laidMetH Tryd.prog [("math/bits.deBruijn32tab", Rows.laid_math_bits_deBruijn32tab), ("math/bits.deBruijn64tab", Rows.laid_math_bits_deBruijn64tab), ("internal/strconv.uint64pow10", Rows.laid_internal_strconv_uint64pow10), ("unicode/utf8.acceptRanges", Rows.laid_unicode_utf8_acceptRanges), ("strconv.ErrRange", Rows.laid_strconv_ErrRange), ("strconv.ErrSyntax", Rows.laid_strconv_ErrSyntax), ("bytes.ErrTooLarge", Rows.laid_bytes_ErrTooLarge), ("unicode/utf8.first", Rows.laid_unicode_utf8_first)] W) : Tabs W := by
  rw [MakeChecks.laidMetH_plain _ _ _ (by kernel_rfl)] at h
  exact tabs_of h (.tail _ (.tail _ (.tail _ (.tail _ (.tail _ (.tail _ (.tail _ (.head _)))))))) (.tail _ (.tail _ (.tail _ (.head _))))
end Go.Proofs.YtgljkbhjbefikaaDoor.Given

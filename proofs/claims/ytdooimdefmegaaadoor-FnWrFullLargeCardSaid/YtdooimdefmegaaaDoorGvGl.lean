/- What the laid io.EOF and io.ErrUnexpectedEOF give the door's walks. -/
import Derived.Test.YtdooimdefmegaaaDoorRows
import Derived.Test.YtdooimdefmegaaaDoorGvWf
import Derived.LaidMore
import Derived.LaidLaws
import Derived.MakeChecks
import Derived.RowKit
import Derived.ChangeVars
import Derived.JoinedOf
namespace Go.Proofs.YtdooimdefmegaaaDoor.Given
open Go.ChangeShapes Go.WideShapes Go.RowKit

def laidE : List (String × DataW Unit) := [("io.ErrShortBuffer", Rows.laid_io_ErrShortBuffer), ("io.EOF", Rows.laid_io_EOF), ("io.ErrUnexpectedEOF", Rows.laid_io_ErrUnexpectedEOF)]
theorem gEof : Tryd.prog.globalNamed "io.EOF" = some 0 := by kernel_rfl
theorem gUx : Tryd.prog.globalNamed "io.ErrUnexpectedEOF" = some 1 := by kernel_rfl
theorem tEof : (Tryd.prog.globals[0]?).map (·.type) = some 38 := by kernel_rfl
theorem tUx : (Tryd.prog.globals[1]?).map (·.type) = some 38 := by kernel_rfl
theorem glCells101 : Tryd.prog.cellsOf 101 = 1 := by kernel_rfl
theorem glCells9 : Tryd.prog.cellsOf 9 = 1 := by kernel_rfl
theorem glStar : "*" ++ "errors.errorString" = "*errors.errorString" := by decide
theorem glRow (u : TypeId) (h : Tryd.prog.typeName? 3 u = some "*errors.errorString") : u = 83 :=
  typeName_ptr_named (nm := "errors.errorString") (by rw [glStar]; kernel_rfl) (by kernel_rfl) (by decide) u (by rw [glStar]; exact h)

theorem glob_of_laid {W : World} (h : laidMetH Tryd.prog laidE W) : Glob W := by
  rw [MakeChecks.laidMetH_plain _ _ _ (by kernel_rfl)] at h
  obtain ⟨ps, ⟨g2, t2, cs2, f2, p2, q2, hg2, ht2, hv2, hd2, ⟨g0, t0, cs0, f0, p0, q0, hg0, ht0, hv0, hd0, ⟨g1, t1, cs1, f1, p1, q1, hg1, ht1, hv1, hd1, hq1, e1⟩, e0⟩, e2⟩, hnd, hrows⟩ := h
  obtain rfl := Option.some.inj (gEof.symm.trans hg0)
  obtain rfl := Option.some.inj (gUx.symm.trans hg1)
  obtain rfl := Option.some.inj (tEof.symm.trans ht0)
  obtain rfl := Option.some.inj (tUx.symm.trans ht1)
  have hq1' : q1 = [] := hq1
  subst hq1'
  subst e1
  subst e0
  subst e2
  obtain ⟨l0⟩ := cs0
  obtain ⟨l1⟩ := cs1
  have ok0 : ∀ u v, l0 = [.iface u v] → Value.okWide Tryd.prog W .any 0 u v := fun u v e => by
    subst e
    exact (hrows 0 0 (by simp [MemPlace.row])).2 u v (by simpa using World.var?_cell hg0 hv0 0)
  have ok1 : ∀ u v, l1 = [.iface u v] → Value.okWide Tryd.prog W .any 0 u v := fun u v e => by
    subst e
    exact (hrows 1 0 (by simp [MemPlace.row])).2 u v (by simpa using World.var?_cell hg1 hv1 0)
  obtain ⟨a0, s0, rfl, hc0, hs0, hz0, rfl⟩ := errorString_of_trod Tryd.underlying38 glRow Tryd.underlying83 Tryd.underlying101 rfl rfl Tryd.underlying9 glCells101 glCells9 hd0 ok0
  obtain ⟨a1, s1, rfl, hc1, hs1, hz1, rfl⟩ := errorString_of_trod Tryd.underlying38 glRow Tryd.underlying83 Tryd.underlying101 rfl rfl Tryd.underlying9 glCells101 glCells9 hd1 ok1
  have hb0 := (hrows a0.block a0.off (by simp [MemPlace.row])).1
  have hb1 := (hrows a1.block a1.off (by simp [MemPlace.row])).1
  refine ⟨a0, a1, by simpa using World.var?_cell hg0 hv0 0, by simpa using World.var?_cell hg1 hv1 0, ?_, hb0, hb1⟩
  rintro rfl
  have e := Value.string.inj (Option.some.inj (hc0.symm.trans hc1))
  subst e
  exact absurd (hs0.symm.trans hs1) (by decide)
end Go.Proofs.YtdooimdefmegaaaDoor.Given

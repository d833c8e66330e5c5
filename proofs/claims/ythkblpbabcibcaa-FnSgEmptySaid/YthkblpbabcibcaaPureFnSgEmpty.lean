/- Of all texts the empty one alone is an empty signature: the plain law. -/
import Derived.Test.YthkblpbabcibcaaPSgx1
import Derived.Test.YthkblpbabcibcaaGvSg
namespace Go.Proofs.Ythkblpbabcibcaa.Pure
open Go.RowKit Go.Proofs.Ythkblpbabcibcaa.PSg Go.Proofs.YthkblpbabcibcaaW.PrintWords Go.Proofs.YthkblpbabcibcaaW.PrintLast

theorem empty_f (s : ByteArray) : Given.SgEmpty.f s = some (s.toList == ([] : List UInt8)) := by
  unfold Given.SgEmpty.f
  by_cases h0 : s.size = 0
  · have hp : Given.psOk s = true := by rw [Given.psOk, Given.vsAll_end h0, decide_eq_true (by omega)]; rfl
    rw [hp, decide_eq_true h0, Pl.toList_nil.mpr h0]; rfl
  · rw [decide_eq_false h0, Bool.and_false]
    cases e : s.toList with
    | nil => exact absurd (Pl.toList_nil.mp e) h0
    | cons x l => rfl

theorem FnSgEmpty : laws_FnSgEmpty.Pure := by
  intro s hs
  unfold laws_FnSgEmpty.f
  split
  · rfl
  split
  · rfl
  rw [empty_f, empty_f, Pl.toList_nil.mpr (show (⟨#[]⟩ : ByteArray).size = 0 from rfl)]
  simp only [Option.bind_some, beq_self_eq_true, if_true]

end Go.Proofs.Ythkblpbabcibcaa.Pure

/- The inner check of interfaces' names takes just the texts (of at most 2^12 bytes) of two elements or more between points, of letters of ASCII, digits and '_', none empty or beginning with a digit, of at most 255 bytes. For every text; longer ones are let by, as the law has it. -/
import Derived.Test.YthkmgbfobobpdaaNmSp
namespace Go.Proofs.Ythkmgbfobobpdaa.Pure
open Go.RowKit Go.Proofs.Ythkmgbfobobpdaa.PNm Go.Proofs.YthkmgbfobobpdaaW.PrintWords Go.Proofs.YthkmgbfobobpdaaW.PrintLast
open Go.Proofs.Ythkmgbfobobpdaa.Pl Go.Proofs.Ythkmgbfobobpdaa.NmPl Go.Proofs.Ythkmgbfobobpdaa.Given

theorem FnNmInterface : laws_FnNmInterface.Pure := by
  intro s hs
  refine Ev.rounds ?_
  by_cases h1 : (s.size : Int) > 2147483647
  · simp only [laws_FnNmInterface.f, if_pos h1]; exact Ev.now _
  by_cases h2 : (s.size : Int) > 4096
  · simp only [laws_FnNmInterface.f, if_neg h1, if_pos h2]; exact Ev.now _
  have hab : impl_NmInterface.f (⟨#[97, 46, 98]⟩ : ByteArray) = some true := by
    rw [if_f _ (by decide)]; decide
  simp only [laws_FnNmInterface.f, if_neg h1, if_neg h2, if_f s (by omega), Option.bind_some]
  refine Ev.bind (vi_sp s (by omega)) ?_
  simp only [beq_self_eq_true, if_true, hab, Option.bind_some]
  exact Ev.now _
end Go.Proofs.Ythkmgbfobobpdaa.Pure

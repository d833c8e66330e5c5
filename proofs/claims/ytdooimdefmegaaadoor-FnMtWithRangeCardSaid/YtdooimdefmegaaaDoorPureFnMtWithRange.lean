/- The numbers from 0 to 63 are taken, the others refused: the plain law. -/
import Derived.Test.YtdooimdefmegaaaDoorPMtx1
namespace Go.Proofs.YtdooimdefmegaaaDoor.Pure
open Go.RowKit Go.Proofs.YtdooimdefmegaaaDoor.PMt Go.Proofs.YtdooimdefmegaaaDoorW.PrintWords Go.Proofs.YtdooimdefmegaaaDoorW.PrintLast

theorem good (k n : Int) (v : ByteArray) (hk : k = 6 ∨ k = 7) (h0 : 0 ≤ n) (h1 : n ≤ 63) : ∃ a, Given.MtWith.f k n v = some (a, v, true) := by
  obtain ⟨t, ht, _⟩ := Given.itoa_some h0 h1
  unfold Given.MtWith.f
  rw [if_pos hk, if_pos ⟨h0, h1⟩, ht]
  exact ⟨_, rfl⟩
theorem bad (k n : Int) (v : ByteArray) (hk : k = 6 ∨ k = 7) (h : ¬ (0 ≤ n ∧ n ≤ 63)) : Given.MtWith.f k n v = some (⟨#[]⟩, ⟨#[]⟩, false) := by
  unfold Given.MtWith.f
  rw [if_pos hk, if_neg h]

theorem each (k n : Int) (v : ByteArray) (hk : k = 6 ∨ k = 7) : ((Given.MtWith.f k n v).bind fun bt101 => ((Given.MtWith.f k 63 v).bind fun bt104 => (if n ≥ 0 then (if (bt101.2.2 == (decide (n ≤ 63))) = true then (some bt104.2.2) else (some false)) else (if (bt101.2.2 == false) = true then (some bt104.2.2) else (some false))))) = some true := by
  obtain ⟨a, ha⟩ := good k 63 v hk (by omega) (by omega)
  rw [ha]
  by_cases h : 0 ≤ n ∧ n ≤ 63
  · obtain ⟨b, hb⟩ := good k n v hk h.1 h.2
    rw [hb]
    simp only [Option.bind_some, if_pos (show n ≥ 0 from h.1), decide_eq_true h.2]; rfl
  · rw [bad k n v hk h]
    by_cases h0 : n ≥ 0
    · simp only [Option.bind_some, if_pos h0, decide_eq_false (show ¬ n ≤ 63 by omega)]; rfl
    · simp only [Option.bind_some, if_neg h0]; rfl

theorem FnMtWithRange : laws_FnMtWithRange.Pure := by
  intro n p _
  unfold laws_FnMtWithRange.f
  cases p with
  | true => rw [if_pos rfl]; exact each 7 n _ (.inr rfl)
  | false => rw [if_neg (by decide)]; exact each 6 n _ (.inl rfl)

end Go.Proofs.YtdooimdefmegaaaDoor.Pure

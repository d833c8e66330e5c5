/- Part of the proof of LawFnMsName. -/
import Derived.Test.YtldjigfnagfalaaGreatDoorGvMg
import Derived.Test.YtldjigfnagfalaaGreatDoorGvV4
set_option linter.unusedVariables false
set_option linter.unusedSimpArgs false
namespace Go.Proofs.YtldjigfnagfalaaGreatDoor.Given
open Go.RowKit Go.Proofs.YtldjigfnagfalaaGreatDoorW.PrintWords Go.Proofs.YtldjigfnagfalaaGreatDoorW.PrintLast Go.Proofs.YtldjigfnagfalaaGreatDoorW.PrintMore Go.Proofs.YtldjigfnagfalaaGreatDoor.PMi
set_option linter.unusedVariables false
set_option maxHeartbeats 4000000 in
theorem good_of (t : Nat) (h1 : 1 ≤ t) (h4 : t ≤ 4) (S : ByteArray) (hS : Plain S) (hM : IsMember.f S = some true) : Good t 3 (fieldsOf t S) := by
  have hk : ∀ k, k < 10 → k = 0 ∨ k = 1 ∨ k = 2 ∨ k = 3 ∨ k = 4 ∨ k = 5 ∨ k = 6 ∨ k = 7 ∨ k = 8 ∨ k = 9 := fun k h => by omega
  have ht : t = 1 ∨ t = 2 ∨ t = 3 ∨ t = 4 := by omega
  refine ⟨by omega, by decide, ?_, ?_, ?_, ?_, ?_, ?_, ?_, ?_⟩
  · intro k hk10
    rcases ht with rfl | rfl | rfl | rfl <;> rcases hk k hk10 with rfl | rfl | rfl | rfl | rfl | rfl | rfl | rfl | rfl | rfl <;>
      first
        | (refine Or.inr ⟨?_, ?_⟩ <;> (simp [FB, fieldsOf]; done))
        | (refine Or.inl ⟨.path pa, ?_, ?_, ?_⟩ <;> (simp [FB, fieldsOf]; done))
        | (refine Or.inl ⟨.str ab, ?_, ?_, ?_⟩ <;> (simp [FB, fieldsOf]; done))
        | (refine Or.inl ⟨.num 9, ?_, ?_, ?_⟩ <;> (simp [FB, fieldsOf]; done))
        | (refine Or.inl ⟨.str S, ?_, ?_, ?_⟩ <;> (simp [FB, fieldsOf]; done))
  · rcases ht with rfl | rfl | rfl | rfl <;> simp [FB, fieldsOf]
  · rcases ht with rfl | rfl | rfl | rfl <;> simp [FB, fieldsOf]
  · rcases ht with rfl | rfl | rfl | rfl <;> simp [fieldsOf]
  · rcases ht with rfl | rfl | rfl | rfl <;> simp [fieldsOf]
  · rcases ht with rfl | rfl | rfl | rfl <;> simp [fieldsOf, HV.Fine, hS, pa_plain, pa_path, ab_plain]
  · rcases ht with rfl | rfl | rfl | rfl <;> simp [fieldsOf]
  · rcases ht with rfl | rfl | rfl | rfl
    · exact fun m r w hm hr => valid_1 S hM m r 3 w hm hr
    · exact fun m r w hm hr => valid_2 S hM m r 3 w hm hr
    · exact fun m r w hm hr => valid_3 S hM m r 3 w hm hr
    · exact fun m r w hm hr => valid_4 S hM m r 3 w hm hr
end Go.Proofs.YtldjigfnagfalaaGreatDoor.Given

/- (*encoder).padding and align, where no padding is due. -/
import Derived.Test.YtldjigfnagfalaaGreatDoorGvBw
namespace Go.Proofs.YtldjigfnagfalaaGreatDoor.Given
open Go.RowKit Go.Proofs.YtldjigfnagfalaaGreatDoorW.PrintWords
set_option linter.unusedVariables false

set_option maxHeartbeats 1000000 in
theorem padding0 (e : Nat) (q s : Int) (h0 : 0 ≤ q) (h1 : q < 4611686018427387904) (hs : s ≠ 0) (hm : q.tmod s = 0) (w : World) (c3 : w.cell? ⟨e, 3, none⟩ = some (.int .i64 q)) :
    Calls Tryz.prog 56 #[.pointer (some ⟨e, 0, none⟩), .int .i64 0, .int .i64 s] w fun r w' => r = .returned (.int .i64 0) ∧ w = w' := by
  have hw : wrap64 q = q := by unfold wrap64; omega
  have hw0 : wrap64 (q + 0) = q := by unfold wrap64; omega
  have hs0 : (s == 0) = false := by simpa using hs
  go_enter Tryz.func56, Tryz.ntmps56
  go_wp2
  go_ret
  exact ⟨rfl, rfl⟩
set_option maxHeartbeats 1000000 in
theorem align0 (e : Nat) (q s : Int) (h0 : 0 ≤ q) (h1 : q < 4611686018427387904) (hs : s ≠ 0) (hm : q.tmod s = 0) (w : World) (c3 : w.cell? ⟨e, 3, none⟩ = some (.int .i64 q)) :
    Calls Tryz.prog 41 #[.pointer (some ⟨e, 0, none⟩), .int .i64 s] w fun r w' => r = .returned (.tuple #[]) ∧ w = w' := by
  go_enter Tryz.func41, Tryz.ntmps41
  go_wp2_with (go_at_call 56; refine (padding0 e q s h0 h1 hs hm _ c3).mono ?_; rintro r w1 ⟨rfl, rfl⟩)
  refine bodyPost_end (results_none (by rfl) _ _ _) rfl ⟨rfl, rfl⟩
end Go.Proofs.YtldjigfnagfalaaGreatDoor.Given

/- zzCutPrefix. -/
import Derived.Test.YthjbopjclkbhfaaGreatDoorDg
import Derived.LoopTactic
import Derived.Deep.QuietTactic
import Derived.BigQuiet
namespace Go.Proofs.YthjbopjclkbhfaaGreatDoor.Given
open Go.RowKit Go.Lib Go.Proofs.YthjbopjclkbhfaaGreatDoorW.PrintWords

set_option maxHeartbeats 1000000 in
theorem cut_no (s p : ByteArray) (h : ((s.extract 0 p.size).toList == p.toList) = false) (w : World) :
    Calls Tryz.prog 24 #[.string s, .string p] w fun e w' => e = .returned (.tuple #[.string s, .bool false]) ∧ w = w' := by
  by_cases hp : s.size < p.size
  · go_enter Tryz.func24, Tryz.ntmps24
    go_wp2
    go_ret2
    exact ⟨rfl, rfl⟩
  · have hp2 : p.size ≤ s.size := Nat.not_lt.1 hp
    go_enter Tryz.func24, Tryz.ntmps24
    go_wp2
    go_ret2
    exact ⟨rfl, rfl⟩
set_option maxHeartbeats 1000000 in
theorem cut_yes (s p : ByteArray) (hp : p.size ≤ s.size) (h : ((s.extract 0 p.size).toList == p.toList) = true) (w : World) :
    Calls Tryz.prog 24 #[.string s, .string p] w fun e w' => e = .returned (.tuple #[.string (s.extract p.size s.size), .bool true]) ∧ w = w' := by
  have hp2 : ¬ s.size < p.size := by omega
  go_enter Tryz.func24, Tryz.ntmps24
  go_wp2
  go_ret2
  exact ⟨rfl, rfl⟩
end Go.Proofs.YthjbopjclkbhfaaGreatDoor.Given

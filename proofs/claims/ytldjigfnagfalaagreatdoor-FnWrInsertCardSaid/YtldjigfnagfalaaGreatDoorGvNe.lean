/- newEncoderAtOffset, doorOrder; zzTypeOf, zzValueOf, Len and Index of a list. -/
import Derived.Test.YtldjigfnagfalaaGreatDoorGvZv
namespace Go.Proofs.YtldjigfnagfalaaGreatDoor.Given
open Go.RowKit Go.Proofs.YtldjigfnagfalaaGreatDoorW.PrintWords
set_option linter.unusedVariables false
attribute [local go_sem] as_162_5 as_162_105 as_162_106 as_162_115 as_162_4 as_162_64 as_162_131 as_162_21 as_162_36 as_162_2 as_162_23 as_162_132 as_162_9 as_162_135 as_162_111 as_162_113 as_162_178 as_162_156 as_162_76 as_162_24 as_162_162 as_162_186 as_162_158
set_option maxHeartbeats 1000000 in
theorem newEnc (b : Nat) (q : Int) (T : TypeId) (ao : Option Addr) (l c : Nat) (w : World) :
    Calls Tryz.prog 24 #[.iface 71 (.pointer (some ⟨b, 0, none⟩)), .int .i64 q, .iface T (.agg #[]), .slice ao l c] w fun r w' => r = .returned (.pointer (some ⟨w.heap.size, 0, none⟩)) ∧ w' = w.alloc (.cells #[.iface 71 (.pointer (some ⟨b, 0, none⟩)), .slice ao l c, .iface T (.agg #[]), .int .i64 q] 94) := by
  go_enter Tryz.func24, Tryz.ntmps24
  go_wp2
  go_ret
  exact ⟨rfl, rfl⟩
set_option maxHeartbeats 1000000 in
theorem order (big : Bool) (w : World) :
    Calls Tryz.prog 25 #[.bool big] w fun r w' => r = .returned (.iface (if big then 96 else 97) (.agg #[])) ∧ w = w' := by
  cases big
  · go_enter Tryz.func25, Tryz.ntmps25
    go_wp2
    go_ret
    exact ⟨rfl, rfl⟩
  · go_enter Tryz.func25, Tryz.ntmps25
    go_wp2
    go_ret
    exact ⟨rfl, rfl⟩
set_option maxHeartbeats 8000000 in
set_option maxRecDepth 100000 in
theorem typeOf_list (p : Nat) (t : ByteArray) (hs : t.size ≤ 64) (w : World) (c0 : w.cell? ⟨p, 0, none⟩ = some (.string t)) : Calls Tryz.prog 70 #[.iface 162 (.pointer (some ⟨p, 0, none⟩))] w fun e w' => e = .returned (.string (⟨#[91]⟩ ++ t)) ∧ Below w.heap.size w w' := by
  go_enter Tryz.func70, Tryz.ntmps70
  go_wp2
  go_ret
  exact ⟨rfl, Below.refl _ _⟩
end Go.Proofs.YtldjigfnagfalaaGreatDoor.Given

import Derived.Test.YthkmgbfobobpdaaProg
import Derived.Test.YthkmgbfobobpdaaWWords
import Derived.WalkKit
import Derived.Below
import Derived.Outline
namespace Go.Proofs.Ythkmgbfobobpdaa.Given
open Go.RowKit Go.Proofs.YthkmgbfobobpdaaW.PrintWords

def pad (a g : Int) : Int := if a % g = 0 then 0 else wrap64 (Go.bits .and .i64 (a + g - 1) (Go.bits .xor .i64 (-1) (g - 1)) - a)
def DoorPad.f (p o g : Int) : Option Int := if 0 ≤ p ∧ p ≤ 1099511627776 ∧ 0 ≤ o ∧ o ≤ 1099511627776 ∧ 1 ≤ g ∧ g ≤ 1048576 then some (pad (p + o) g) else none
theorem pad_yes {a g r : Int} (H : pad a g = r) (h : (a % g != 0) = true) : wrap64 (Go.bits .and .i64 (a + g - 1) (Go.bits .xor .i64 (-1) (g - 1)) - a) = r := by
  unfold pad at H; rw [if_neg (by simpa using h)] at H; exact H
theorem pad_no {a g r : Int} (H : pad a g = r) (h : (a % g != 0) = false) : 0 = r := by
  unfold pad at H; rw [if_pos (by simpa using h)] at H; exact H

theorem ret_i64' {a b : Int} (h : a = b) : Ending.returned (.int .i64 a) = .returned (.int .i64 b) := by rw [h]
set_option maxHeartbeats 1000000 in
theorem DoorPad.calls (p o g : Int) (r : Int) (w : World) (h : DoorPad.f p o g = some r) :
    Calls Try.prog 31 #[.int .i64 p, .int .i64 o, .int .i64 g] w fun e w' => e = .returned (.int .i64 r) ∧ Below w.heap.size w w' := by
  unfold DoorPad.f at h
  by_cases hc : 0 ≤ p ∧ p ≤ 1099511627776 ∧ 0 ≤ o ∧ o ≤ 1099511627776 ∧ 1 ≤ g ∧ g ≤ 1048576
  case neg => rw [if_neg hc] at h; cases h
  rw [if_pos hc] at h
  have H := Aside0.mk (Option.some.inj h)
  clear h
  obtain ⟨h1, h2, h3, h4, h5, h6⟩ := hc
  go_enter Try.func31, Try.ntmps31
  go_wp2
  · go_ret
    exact ⟨ret_i64' (pad_yes H.out (by assumption)), (Below.refl _ _).alloc (Nat.le_refl _) _⟩
  · go_ret
    exact ⟨ret_i64' (pad_no H.out (by assumption)), (Below.refl _ _).alloc (Nat.le_refl _) _⟩
end Go.Proofs.Ythkmgbfobobpdaa.Given

import Derived.Test.YthkmgbfobobpdaaPFnMsTypex1
import Derived.WalkKit
import Derived.Below
import Derived.KernelRfl
namespace Go.Proofs.Ythkmgbfobobpdaa.MsType
open Go.RowKit Go.Proofs.YthkmgbfobobpdaaW.PrintWords Go.Proofs.Ythkmgbfobobpdaa.PFnMsType

def W1 : ByteArray := ⟨#[109, 101, 116, 104, 111, 100, 32, 99, 97, 108, 108]⟩
def W2 : ByteArray := ⟨#[114, 101, 112, 108, 121]⟩
def W3 : ByteArray := ⟨#[101, 114, 114, 111, 114]⟩
def W4 : ByteArray := ⟨#[115, 105, 103, 110, 97, 108]⟩
theorem drawn_below {w w' : World} (h : Drawn0 w w') : Below w.heap.size w w' := h.below

set_option maxHeartbeats 2000000 in
theorem walk_in (a : Int) (w : World) (h : 1 ≤ a ∧ a ≤ 4) :
    Calls Try.prog 4 #[.int .u8 a] w fun e w' => e = .returned (.bool true) ∧ Below w.heap.size w w' := by
  have k1 : ∀ w : World, (Instr.index 26 (.agg #[.string ⟨#[109, 101, 116, 104, 111, 100, 32, 99, 97, 108, 108]⟩, .string ⟨#[114, 101, 112, 108, 121]⟩, .string ⟨#[101, 114, 114, 111, 114]⟩, .string ⟨#[115, 105, 103, 110, 97, 108]⟩]) (.int .u8 0)).run Try.prog w = .ok (.string ⟨#[109, 101, 116, 104, 111, 100, 32, 99, 97, 108, 108]⟩) w := fun _ => by kernel_rfl
  have k2 : ∀ w : World, (Instr.index 26 (.agg #[.string ⟨#[109, 101, 116, 104, 111, 100, 32, 99, 97, 108, 108]⟩, .string ⟨#[114, 101, 112, 108, 121]⟩, .string ⟨#[101, 114, 114, 111, 114]⟩, .string ⟨#[115, 105, 103, 110, 97, 108]⟩]) (.int .u8 1)).run Try.prog w = .ok (.string ⟨#[114, 101, 112, 108, 121]⟩) w := fun _ => by kernel_rfl
  have k3 : ∀ w : World, (Instr.index 26 (.agg #[.string ⟨#[109, 101, 116, 104, 111, 100, 32, 99, 97, 108, 108]⟩, .string ⟨#[114, 101, 112, 108, 121]⟩, .string ⟨#[101, 114, 114, 111, 114]⟩, .string ⟨#[115, 105, 103, 110, 97, 108]⟩]) (.int .u8 2)).run Try.prog w = .ok (.string ⟨#[101, 114, 114, 111, 114]⟩) w := fun _ => by kernel_rfl
  have k4 : ∀ w : World, (Instr.index 26 (.agg #[.string ⟨#[109, 101, 116, 104, 111, 100, 32, 99, 97, 108, 108]⟩, .string ⟨#[114, 101, 112, 108, 121]⟩, .string ⟨#[101, 114, 114, 111, 114]⟩, .string ⟨#[115, 105, 103, 110, 97, 108]⟩]) (.int .u8 3)).run Try.prog w = .ok (.string ⟨#[115, 105, 103, 110, 97, 108]⟩) w := fun _ => by kernel_rfl
  obtain rfl | rfl | rfl | rfl : a = 1 ∨ a = 2 ∨ a = 3 ∨ a = 4 := by omega
  · go_enter Try.func4, Try.ntmps4
    go_wp2_with (go_at_call 16; refine (impl_MsType.calls 1 _ _ rfl).mono ?_; rintro e w' ⟨rfl, ⟨n, rfl⟩⟩)
    go_ret
    exact ⟨rfl, Drawn0.below ⟨⟨_, rfl⟩⟩⟩
  · go_enter Try.func4, Try.ntmps4
    go_wp2_with (go_at_call 16; refine (impl_MsType.calls 2 _ _ rfl).mono ?_; rintro e w' ⟨rfl, ⟨n, rfl⟩⟩)
    go_ret
    exact ⟨rfl, Drawn0.below ⟨⟨_, rfl⟩⟩⟩
  · go_enter Try.func4, Try.ntmps4
    go_wp2_with (go_at_call 16; refine (impl_MsType.calls 3 _ _ rfl).mono ?_; rintro e w' ⟨rfl, ⟨n, rfl⟩⟩)
    go_ret
    exact ⟨rfl, Drawn0.below ⟨⟨_, rfl⟩⟩⟩
  · go_enter Try.func4, Try.ntmps4
    go_wp2_with (go_at_call 16; refine (impl_MsType.calls 4 _ _ rfl).mono ?_; rintro e w' ⟨rfl, ⟨n, rfl⟩⟩)
    go_ret
    exact ⟨rfl, Drawn0.below ⟨⟨_, rfl⟩⟩⟩

theorem invalid_of (a : Int) (h : a < 1 ∨ 4 < a) : impl_MsType.f a = some ⟨#[105, 110, 118, 97, 108, 105, 100]⟩ := by
  simp only [impl_MsType.f, dbus_Type_String.f]
  rw [if_neg (by omega), if_neg (by omega), if_neg (by omega), if_neg (by omega)]
  rfl

set_option maxHeartbeats 2000000 in
theorem walk_out (a : Int) (w : World) (h : a < 1 ∨ 4 < a) :
    Calls Try.prog 4 #[.int .u8 a] w fun e w' => e = .returned (.bool true) ∧ Below w.heap.size w w' := by
  have hi := Aside0.mk (invalid_of a h)
  rcases h with h | h
  · have h1 : decide (1 ≤ a) = false := decide_eq_false (by omega)
    clear h
    go_enter Try.func4, Try.ntmps4
    go_wp2_with (go_at_call 16; refine (impl_MsType.calls a _ _ hi.out).mono ?_; rintro e w' ⟨rfl, ⟨n, rfl⟩⟩)
    go_ret
    exact ⟨rfl, Drawn0.below ⟨⟨_, rfl⟩⟩⟩
  · have h1 : decide (1 ≤ a) = true := decide_eq_true (by omega)
    have h2 : decide (a ≤ 4) = false := decide_eq_false (by omega)
    clear h
    go_enter Try.func4, Try.ntmps4
    go_wp2_with (go_at_call 16; refine (impl_MsType.calls a _ _ hi.out).mono ?_; rintro e w' ⟨rfl, ⟨n, rfl⟩⟩)
    go_ret
    exact ⟨rfl, Drawn0.below ⟨⟨_, rfl⟩⟩⟩

theorem walk (a : Int) (w : World) : Calls Try.prog 4 #[.int .u8 a] w fun e w' => e = .returned (.bool true) ∧ Below w.heap.size w w' := by
  by_cases h : 1 ≤ a ∧ a ≤ 4
  · exact walk_in a w h
  · exact walk_out a w (by omega)
end Go.Proofs.Ythkmgbfobobpdaa.MsType

import Derived.Test.YthkmgbfobobpdaaProg
import Derived.Test.YthkmgbfobobpdaaWWords
import Derived.WalkKit
import Derived.Below
namespace Go.Proofs.Ythkmgbfobobpdaa.Given
open Go.RowKit Go.Proofs.YthkmgbfobobpdaaW.PrintWords

/-- An error's value: nil, or some value of an interface. -/
def IsErr (v : Value) : Option Int → Prop
  | none => v = .nilIface
  | some _ => ∃ t u, v = .iface t u
def errNew.f (_ : ByteArray) : Option (Option Int) := some (some 0)
set_option maxHeartbeats 1000000 in
theorem errNew.calls (a0 : ByteArray) (r : Option Int) (w : World) (h : errNew.f a0 = some r) :
    Calls Try.prog 60 #[.string a0] w fun e w' => ∃ v, e = .returned v ∧ IsErr v r ∧ Below w.heap.size w w' := by
  have H : some 0 = r := Option.some.inj h
  subst H
  clear h
  go_enter Try.func60, Try.ntmps60
  go_wp2
  go_ret
  exact ⟨_, rfl, ⟨_, _, rfl⟩, (Below.refl _ _).alloc (Nat.le_refl _) _⟩
end Go.Proofs.Ythkmgbfobobpdaa.Given

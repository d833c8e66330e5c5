import Derived.Test.YthkmgbfobobpdaaGvUn
import Derived.BigQuiet
import Derived.Deep.QuietTactic
import Derived.Outline
namespace Go.Proofs.Ythkmgbfobobpdaa.Given
open Go.RowKit Go.Proofs.YthkmgbfobobpdaaW.PrintWords Go.Proofs.Ythkmgbfobobpdaa.PUn

set_option maxHeartbeats 1000000 in
theorem Unescape.calls (k : Nat) (s : ByteArray) (r1 : ByteArray) (r2 : Option Int) (w : World) (h : dbus_zzPathUnescape.f k s = some (r1, r2)) :
    Calls Try.prog 35 #[.string s] w fun e w' => ∃ v : Value, e = .returned (.tuple #[.string r1, v]) ∧ IsErr v r2 ∧ Below w.heap.size w w' := by
  have H := Aside0.mk h
  clear h
  go_enter Try.func35, Try.ntmps35
  go_wp2_with (go_at_call 50; refine (dbus_zzPathUnescape.calls k s r1 r2 _ H.out).mono ?_; rintro e w' ⟨v, rfl, hv, hb⟩)
  go_ret2
  exact ⟨_, rfl, hv, hb⟩

def AdUnescape.f (k : Nat) (s : ByteArray) : Option (ByteArray × Bool) := (dbus_zzPathUnescape.f k s).bind fun t => some (t.1, t.2.isNone)
theorem AdUnescape.mono : ∀ a0 k, LeO (AdUnescape.f k a0) (AdUnescape.f (k + 1) a0) := by
  intro a0 k
  unfold AdUnescape.f
  exact LeO.bind (dbus_zzPathUnescape.mono a0 k) (fun _ => LeO.refl _)
theorem AdUnescape.open {k : Nat} {s r1 : ByteArray} {r2 : Bool} (h : AdUnescape.f k s = some (r1, r2)) : ∃ q, dbus_zzPathUnescape.f k s = some (r1, q) ∧ r2 = q.isNone := by
  unfold AdUnescape.f at h
  obtain ⟨⟨a, b⟩, h1, h2⟩ := Option.bind_eq_some_iff.mp h
  simp only [Option.some.injEq, Prod.mk.injEq] at h2
  obtain ⟨rfl, rfl⟩ := h2
  exact ⟨b, h1, rfl⟩

set_option maxHeartbeats 1000000 in
theorem AdUnescape.calls (k : Nat) (a0 : ByteArray) (r1 : ByteArray) (r2 : Bool) (w : World) (h : AdUnescape.f k a0 = some (r1, r2)) :
    Calls Try.prog 19 #[.string a0] w fun e w' => e = .returned (.tuple #[.string r1, .bool r2]) ∧ Below w.heap.size w w' := by
  obtain ⟨q, h1, rfl⟩ := AdUnescape.open h
  clear h
  have H := Aside0.mk h1
  clear h1
  go_enter Try.func19, Try.ntmps19
  go_wp2_with (go_at_call 35; refine (Unescape.calls k a0 r1 q _ H.out).mono ?_; rintro e w1 ⟨v, rfl, hv, hb⟩)
  have HB := Aside0.mk hb
  clear hb
  cases q with
  | none =>
    obtain rfl : v = .nilIface := hv

    go_quiet (fail)
    go_wp2
    go_ret2
    exact ⟨rfl, pw_below_drewN HB.out _⟩
  | some c =>
    obtain ⟨t, u, rfl⟩ := hv
    go_quiet (fail)
    go_wp2
    go_ret2
    exact ⟨rfl, pw_below_drewN HB.out _⟩
end Go.Proofs.Ythkmgbfobobpdaa.Given

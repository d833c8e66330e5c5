/- The numbers of messages that a connection makes are 1, 2, 3 and so on: the law's plain side, for every number of 16 bits. No condition. -/
import Derived.Test.YthkmgbfobobpdaaPFnMsSerialsx1
import Derived.Test.YthkmgbfobobpdaaPl
namespace Go.Proofs.Ythkmgbfobobpdaa.Pure
open Go.RowKit Go.Proofs.Ythkmgbfobobpdaa.PFnMsSerials Go.Proofs.YthkmgbfobobpdaaW.PrintWords Go.Proofs.YthkmgbfobobpdaaW.PrintLast Go.Proofs.Ythkmgbfobobpdaa.Pl

/-- 1, 2, 3, .., n. -/
def upto (n : Nat) : List Int := (List.range n).map fun (j : Nat) => (j : Int) + 1
theorem upto_length (n : Nat) : (upto n).length = n := by simp [upto]
theorem upto_succ (n : Nat) : upto (n + 1) = upto n ++ [(n : Int) + 1] := by simp [upto, List.range_succ]
theorem upto_at (n i : Nat) (h : i < n) : rd (upto n) (i : Int) = (i : Int) + 1 := by
  simp [rd, upto, List.getD, h]

theorem seq_go (n : Nat) (hn : n ≤ 65535) (d : Nat) : ∀ i : Nat, i ≤ n → n - i = d → Ev (fun k => dbus_DoorSequence.l0 k (n : Int) (upto i) (i : Int) ((i : Int) + 1)) (upto n) := by
  induction d with
  | zero =>
    intro i h hd
    obtain rfl : i = n := by omega
    refine Ev_up ?_
    simp only [dbus_DoorSequence.l0, if_neg (show ¬ (i : Int) < (i : Int) by omega)]
    exact Ev.now _
  | succ d ih =>
    intro i h hd
    have hlt : (i : Int) < (n : Int) := by omega
    have hlen : (upto i).length < 17592186044416 := by rw [upto_length]; omega
    refine Ev_up ?_
    simp only [dbus_DoorSequence.l0, if_pos hlt, dbus_sequenceGenerator_next.f, Option.bind_some, if_pos hlen]
    rw [w64 (by omega) (by omega), wu64 (by omega) (by omega), ← upto_succ]
    have := ih (i + 1) (by omega) (by omega)
    simpa using this

theorem serials (n : Nat) (hn : n ≤ 65535) : Ev (fun k => impl_MsSerials.f k (n : Int)) (upto n) := by
  unfold impl_MsSerials.f dbus_DoorSequence.f dbus_newSequenceGenerator.f
  simp only [Option.bind_some]
  refine Ev.bind (a := upto n) ?_ (Ev.now _)
  exact seq_go n hn n 0 (by omega) (by omega)

theorem law_go (n : Nat) (hn : n ≤ 1000) (one : List Int) (h1 : 0 < (one.length : Int)) (h2 : rd one 0 = 1) (d : Nat) : ∀ i : Nat, i ≤ n → n - i = d → Ev (fun k => laws_FnMsSerials.l0 k (upto n) one (n : Int) (i : Int)) true := by
  induction d with
  | zero =>
    intro i h hd
    obtain rfl : i = n := by omega
    refine Ev_up ?_
    simp only [laws_FnMsSerials.l0, if_neg (show ¬ (i : Int) < (i : Int) by omega), if_pos h1, h2]
    exact Ev_some rfl
  | succ d ih =>
    intro i h hd
    have hlt : (i : Int) < (n : Int) := by omega
    have e := upto_at n i (by omega)
    have e2 : wrap64 ((i : Int) + 1) = (i : Int) + 1 := w64 (by omega) (by omega)
    have e3 : IntKind.u64.wrap ((i : Int) + 1) = (i : Int) + 1 := wu64 (by omega) (by omega)
    refine Ev_up ?_
    simp only [laws_FnMsSerials.l0, if_pos hlt, if_pos (show (0 : Int) ≤ (i : Int) by omega), upto_length, e, e2, e3, if_true]
    exact ih (i + 1) (by omega) (by omega)

theorem FnMsSerials : laws_FnMsSerials.Pure := by
  intro a h
  obtain ⟨h0, h1⟩ := u16_range h
  refine Ev.rounds ?_
  by_cases hb : a > 1000
  · simp only [laws_FnMsSerials.f, if_pos hb]
    exact Ev.now _
  · obtain ⟨n, rfl⟩ : ∃ n : Nat, a = (n : Int) := ⟨a.toNat, by omega⟩
    simp only [laws_FnMsSerials.f, if_neg hb]
    rw [w64 (by omega) (by omega)]
    refine Ev.bind (serials n (by omega)) ?_
    refine Ev.bind (serials 1 (by omega)) ?_
    simp only [upto_length, if_true]
    refine Ev_up ?_
    simp only [laws_FnMsSerials.j0, upto_length, if_neg (show ¬ (((1 : Nat) : Int) != 1) = true by decide)]
    exact law_go n (by omega) (upto 1) (by simp [upto_length]) (upto_at 1 0 (by omega)) n 0 (by omega) (by omega)

end Go.Proofs.Ythkmgbfobobpdaa.Pure

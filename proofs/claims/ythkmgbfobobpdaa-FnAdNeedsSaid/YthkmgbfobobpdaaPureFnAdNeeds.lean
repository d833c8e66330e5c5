/- As many bytes of a text of at most 2^12 bytes are counted as those that are escaped as are no letter of ASCII, digit, '-', '_', '/', '.', backslash or '*'; and the escaped text has two bytes more for each of them. For every text; longer ones are let by, as the law has it. -/
import Derived.Test.YthkmgbfobobpdaaAdEsc
namespace Go.Proofs.Ythkmgbfobobpdaa.Pure
open Go.RowKit Go.Proofs.Ythkmgbfobobpdaa.PAd Go.Proofs.YthkmgbfobobpdaaW.PrintWords Go.Proofs.YthkmgbfobobpdaaW.PrintLast
open Go.Proofs.Ythkmgbfobobpdaa.Pl Go.Proofs.Ythkmgbfobobpdaa.AdPl Go.Proofs.Ythkmgbfobobpdaa.Given

theorem needs_ev (s : ByteArray) (hs : s.size ≤ 4611686018427387904) : Ev (fun k => impl_AdNeeds.f k s) (nEsc s s.size : Int) := by
  have h := needs_go s hs s.size 0 (by omega) (by omega)
  unfold impl_AdNeeds.f dbus_DoorNeeds.f
  refine Ev.bind (a := (nEsc s s.size : Int)) (Ev.bind (a := (nEsc s s.size : Int)) ?_ (Ev.now _)) (Ev.now _)
  simp only [PAe.dbus_strNeedsEscape.f]
  exact h

theorem needs_law (s : ByteArray) (hs : s.size ≤ 4096) (d : Nat) : ∀ i : Nat, i ≤ s.size → s.size - i = d → Ev (fun k => laws_FnAdNeeds.l0 k s (nEsc s i : Int) (i : Int)) true := by
  induction d with
  | zero =>
    intro i hi hd
    obtain rfl : i = s.size := by omega
    have hle := nEsc_le s s.size
    have el := escB_len s s.size
    have e2 : wrap64 (2 * (nEsc s s.size : Int)) = 2 * (nEsc s s.size : Int) := w64 (by omega) (by omega)
    have e3 : wrap64 ((s.size : Int) + 2 * (nEsc s s.size : Int)) = (s.size : Int) + 2 * (nEsc s s.size : Int) := w64 (by omega) (by omega)
    have hz : (((strOfNums (escB s s.size)).size : Nat) : Int) = (s.size : Int) + 2 * (nEsc s s.size : Int) := by rw [strOfNums_size, el]; omega
    refine Ev_up ?_
    simp only [laws_FnAdNeeds.l0, if_neg (show ¬ (s.size : Int) < (s.size : Int) by omega)]
    refine Ev.bind (needs_ev s (by omega)) ?_
    simp only [if_true, escape_bus s (by omega), Option.bind_some, e2, e3, hz]
    refine Ev.bind (a := 1) ?_ (Ev_some rfl)
    have := needs_ev (⟨#[32]⟩ : ByteArray) (by decide)
    exact this
  | succ d ih =>
    intro i hi hd
    have hlt : (i : Int) < (s.size : Int) := by omega
    have h0 : (0 : Int) ≤ (i : Int) := by omega
    have hle := nEsc_le s i
    have e1 : wrap64 ((i : Int) + 1) = ((i + 1 : Nat) : Int) := by rw [w64 (by omega) (by omega)]; omega
    have e2 : wrap64 ((nEsc s i : Int) + 1) = ((nEsc s i + 1 : Nat) : Int) := by rw [w64 (by omega) (by omega)]; omega
    have hz : (((strOfNums (esc1 (bt s (i : Int)))).size : Nat) : Int) = 1 + 2 * (if ne (bt s (i : Int)) = true then 1 else 0) := by
      rw [strOfNums_size, esc1_len]; split <;> rfl
    have := ih (i + 1) (by omega) (by omega)
    rw [nEsc] at this
    refine Ev_up ?_
    simp only [laws_FnAdNeeds.l0, if_pos hlt, if_pos h0, e1, e2, if_pos (show (i : Int) ≤ ((i + 1 : Nat) : Int) by omega), if_pos (show ((i + 1 : Nat) : Int) ≤ (s.size : Int) by omega), Int.toNat_natCast]
    refine Ev.bind (escape_one s i (by omega)) ?_
    simp only [hz]
    by_cases hne : ne (bt s (i : Int)) = true
    · simp only [if_pos hne] at this ⊢
      simp only [if_pos (show (1 : Int) + 2 * 1 = 3 by decide)]; exact this
    · simp only [if_neg hne] at this ⊢
      simp only [if_neg (show ¬ (1 : Int) + 2 * 0 = 3 by decide)]; exact this

theorem FnAdNeeds : laws_FnAdNeeds.Pure := by
  intro s hs
  refine Ev.rounds ?_
  by_cases h1 : (s.size : Int) > 2147483647
  · simp only [laws_FnAdNeeds.f, if_pos h1]; exact Ev.now _
  by_cases h2 : (s.size : Int) > 4096
  · simp only [laws_FnAdNeeds.f, if_neg h1, if_pos h2]; exact Ev.now _
  simp only [laws_FnAdNeeds.f, if_neg h1, if_neg h2]
  exact needs_law s (by omega) s.size 0 (by omega) (by omega)
end Go.Proofs.Ythkmgbfobobpdaa.Pure

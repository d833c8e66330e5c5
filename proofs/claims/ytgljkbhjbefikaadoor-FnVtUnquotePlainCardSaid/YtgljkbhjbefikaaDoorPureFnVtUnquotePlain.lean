/- Of a string in marks without backslashes and the mark in it the characters are what stands between the marks, if that is UTF-8, and there is an error if it is not. -/
import Derived.Test.YtgljkbhjbefikaaDoorPUqx2
import Derived.Test.YtgljkbhjbefikaaDoorUq
namespace Go.Proofs.YtgljkbhjbefikaaDoor.Pure
open Go.RowKit Go.Proofs.YtgljkbhjbefikaaDoor.PUq Go.Proofs.YtgljkbhjbefikaaDoorW.PrintWords Go.Proofs.YtgljkbhjbefikaaDoorW.PrintLast Go.Proofs.YtgljkbhjbefikaaDoor.Pl Go.Proofs.YtgljkbhjbefikaaDoor.By Go.Proofs.YtgljkbhjbefikaaDoor.Uq
set_option linter.unusedSimpArgs false
set_option linter.unusedVariables false

theorem uq_end (a : ByteArray) (m : Int) (ha : a.size ≤ 2147483647) (hno : ∀ i : Nat, i < a.size → bt a (i : Int) ≠ 92) :
    Given.unq.f ((strOfNums [m] ++ a) ++ strOfNums [m]) = some (if vdF a.size a.data.toList = true then (a, true) else (⟨#[]⟩, false)) := by
  have hM : (strOfNums [m]).size = 1 := rfl
  have hz : ((strOfNums [m] ++ a) ++ strOfNums [m]).size = a.size + 2 := by rw [ByteArray.size_append, ByteArray.size_append, hM]; omega
  have hx : ((strOfNums [m] ++ a) ++ strOfNums [m]).extract 1 (((strOfNums [m] ++ a) ++ strOfNums [m]).size - 1) = a := by
    apply bytesOf_inj
    rw [bytesOf_extract, bytesOf_append, bytesOf_append, hz]
    have h1 : (bytesOf (strOfNums [m])).length = 1 := by rw [bytesOf_length, hM]
    have h2 : (bytesOf a).length = a.size := bytesOf_length a
    rw [show a.size + 2 - 1 = (bytesOf (strOfNums [m]) ++ bytesOf a).length by rw [List.length_append, h1, h2]; omega]
    rw [List.take_left, show (1 : Nat) = (bytesOf (strOfNums [m])).length from h1.symm, List.drop_left]
  unfold Given.unq.f
  rw [hx, hz, if_neg (by omega), if_neg (by omega), if_neg]
  · by_cases h : vdF a.size a.data.toList = true
    · rw [if_pos h, if_pos h]
    · rw [if_neg h, if_neg h]
  · intro h
    obtain ⟨c, hc, e⟩ := List.any_eq_true.1 h
    obtain ⟨i, hi, rfl⟩ := List.getElem_of_mem hc
    rw [beq_iff_eq] at e
    have hi' : i < a.size := by rw [Array.length_toList] at hi; exact hi
    apply hno i hi'
    rw [btg, List.getD_eq_getElem?_getD, List.getElem?_eq_getElem hi, Option.getD_some, e]
    rfl

theorem uq_loop (a : ByteArray) (m : Int) (ha : a.size ≤ 2147483647) : ∀ (d i : Nat), i ≤ a.size → a.size - i ≤ d → (∀ j : Nat, j < i → bt a (j : Int) ≠ 92) → Ev (fun k => laws_FnVtUnquotePlain.l0 k a m (i : Int)) true := by
  intro d
  induction d with
  | zero =>
    intro i hi hd hno
    have hie : i = a.size := by omega
    subst hie
    refine Ev_up ?_
    simp only [laws_FnVtUnquotePlain.l0, if_neg (Int.lt_irrefl (a.size : Int)), Option.bind_some]
    by_cases hbig : (a.size : Int) > 4096
    · simp only [if_pos hbig]; exact Ev_some rfl
    have hM : (strOfNums [m]).size = 1 := rfl
    have s1 : (strOfNums [m]).size + a.size ≤ 9223372036854775807 := by rw [hM]; omega
    have s2 : (strOfNums [m] ++ a).size + (strOfNums [m]).size ≤ 9223372036854775807 := by rw [ByteArray.size_append, hM]; omega
    simp only [if_neg hbig, if_pos s1, if_pos s2, uq_end a m ha hno, Option.bind_some]
    have hu := utf8S a (by omega) a.size 0 (by omega) (by omega)
    rw [List.drop_zero] at hu
    refine Ev.bind (a := vdF a.size a.data.toList) (by unfold spec_UTF8.f; exact hu) ?_
    cases hq : vdF a.size a.data.toList with
    | true =>
      simp only [if_true, beq_self_eq_true]
      exact Ev_some rfl
    | false =>
      simp only [if_neg (show ¬ (false = true) by decide), beq_self_eq_true, if_true]
      exact Ev_some rfl
  | succ d ih =>
    intro i hi hd hno
    by_cases hlt : i < a.size
    · refine Ev_up ?_
      have e1 : wrap64 ((i : Int) + 1) = ((i + 1 : Nat) : Int) := by rw [w64 (by omega) (by omega)]; omega
      simp only [laws_FnVtUnquotePlain.l0, if_pos (show (i : Int) < (a.size : Int) by omega), if_pos (show (0 : Int) ≤ (i : Int) by omega), e1]
      by_cases h1 : bt a (i : Int) = 92
      · simp only [if_pos h1]; exact Ev_some rfl
      simp only [if_neg h1]
      by_cases h2 : bt a (i : Int) = m
      · simp only [if_pos h2]; exact Ev_some rfl
      simp only [if_neg h2]
      refine ih (i + 1) (by omega) (by omega) ?_
      intro j hj
      by_cases hji : j = i
      · subst hji; exact h1
      · exact hno j (by omega)
    · exact ih i hi (by omega) hno

theorem FnVtUnquotePlain : laws_FnVtUnquotePlain.Pure := by
  intro a0 b _
  refine Ev.rounds ?_
  unfold laws_FnVtUnquotePlain.f
  by_cases h0 : (a0.size : Int) > 2147483647
  · simp only [if_pos h0]; exact Ev_some rfl
  simp only [if_neg h0]
  have go : ∀ m : Int, Ev (fun k => laws_FnVtUnquotePlain.j0 k a0 m) true := by
    intro m
    refine Ev_up ?_
    simp only [laws_FnVtUnquotePlain.j0]
    exact uq_loop a0 m (by omega) a0.size 0 (by omega) (by omega) (fun j hj => absurd hj (by omega))
  cases b
  · simp only [if_neg (show ¬ (false = true) by decide)]; exact go 39
  · simp only [if_true]; exact go 34
end Go.Proofs.YtgljkbhjbefikaaDoor.Pure

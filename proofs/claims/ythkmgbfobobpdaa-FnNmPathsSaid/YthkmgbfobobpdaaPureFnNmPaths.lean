/- Object paths (at most 2^11 bytes each, neither the root) one behind the other are one; each with a slash behind it, and each without the slash ahead of it, is none, and none with a slash between them. For all texts; others are let by, as the law has it. -/
import Derived.Test.YthkmgbfobobpdaaNmSp
namespace Go.Proofs.Ythkmgbfobobpdaa.Pure
open Go.RowKit Go.Proofs.Ythkmgbfobobpdaa.PNm Go.Proofs.YthkmgbfobobpdaaW.PrintWords Go.Proofs.YthkmgbfobobpdaaW.PrintLast
open Go.Proofs.Ythkmgbfobobpdaa.Pl Go.Proofs.Ythkmgbfobobpdaa.NmPl Go.Proofs.Ythkmgbfobobpdaa.Given

/-- A path that isn't the root: a slash, and a tail that is not empty. -/
theorem path_parts {s : ByteArray} (h : okPath (bytesOf s) = true) (hr : ¬ s.toList = ([47] : List UInt8)) : ∃ t, bytesOf s = 47 :: t ∧ pt true t = true := by
  cases hb : bytesOf s with
  | nil => rw [hb] at h; exact absurd h (by decide)
  | cons c t =>
    rw [hb, okPath_def] at h
    simp only [Bool.and_eq_true, decide_eq_true_eq] at h
    obtain ⟨rfl, h⟩ := h
    refine ⟨t, rfl, ?_⟩
    cases t with
    | nil =>
      exfalso
      apply hr
      have : s = strOfNums [47] := by rw [← str_bytes s, hb]
      rw [this, ByteArray.toList_eq]; decide
    | cons x u => rw [pt_all] at h; simpa using h
theorem slash_bytes : bytesOf (⟨#[47]⟩ : ByteArray) = [47] := rfl

theorem paths_in (a b : ByteArray) (ha : a.size ≤ 2048) (hb : b.size ≤ 2048) (va : okPath (bytesOf a) = true) (vb : okPath (bytesOf b) = true) (ra : ¬ a.toList = ([47] : List UInt8)) (rb : ¬ b.toList = ([47] : List UInt8)) :
    Ev (fun k => laws_FnNmPaths.j1 k a b false) true := by
  obtain ⟨ta, ea, pa⟩ := path_parts va ra
  obtain ⟨tb, eb, pb⟩ := path_parts vb rb
  have hne : ta ≠ [] := by rintro rfl; exact absurd pa (by decide)
  have s1 : (a ++ b).size = a.size + b.size := ByteArray.size_append
  have s2 : (a ++ (⟨#[47]⟩ : ByteArray)).size = a.size + 1 := ByteArray.size_append
  have s3 : ((a ++ (⟨#[47]⟩ : ByteArray)) ++ b).size = a.size + 1 + b.size := by rw [ByteArray.size_append, s2]
  have s4 : (a.extract 1 a.size).size ≤ a.size := by rw [ByteArray.size_extract]; omega
  have apos : 0 < a.size := by rw [← bytesOf_length, ea]; simp
  have p1 : impl_NmPath.f (a ++ b) = some true := by
    rw [path_f _ (by omega), bytes_append, ea, eb, List.cons_append, okPath_pt, pt_join, pa, pb]; simp
  have p2 : impl_NmPath.f (a ++ (⟨#[47]⟩ : ByteArray)) = some false := by
    rw [path_f _ (by omega), bytes_append, ea, slash_bytes, List.cons_append, okPath_pt, pt_join]
    have : (ta ++ [47]).isEmpty = false := by cases ta <;> rfl
    rw [this]; simp [pt]
  have p3 : impl_NmPath.f (a.extract 1 a.size) = some false := by
    rw [path_f _ (by omega)]
    have e := tail_bytes a apos
    rw [ea] at e
    injection e with _ e2
    rw [← e2]
    cases ta with
    | nil => exact absurd rfl hne
    | cons c u =>
      rw [okPath_def]
      rw [pt] at pa
      by_cases hc : c = 47
      · rw [if_pos hc] at pa; simp at pa
      · rw [decide_eq_false hc]; rfl
  have p4 : impl_NmPath.f ((a ++ (⟨#[47]⟩ : ByteArray)) ++ b) = some false := by
    rw [path_f _ (by omega), bytes_append, bytes_append, ea, eb, slash_bytes, List.append_assoc, List.cons_append, okPath_pt]
    have e : ta ++ ([47] ++ 47 :: tb) = ta ++ 47 :: (47 :: tb) := rfl
    rw [e, pt_join]
    have : (ta ++ 47 :: 47 :: tb).isEmpty = false := by cases ta <;> rfl
    rw [this]; simp [pt]
  refine Ev_up ?_
  simp only [laws_FnNmPaths.j1, if_neg ff, p1, p2, p3, p4, Option.bind_some, if_true, if_pos (show a.size + b.size ≤ 9223372036854775807 by omega), if_pos (show a.size + 1 ≤ 9223372036854775807 by omega), if_pos (show (1 : Int) ≤ (a.size : Int) by omega), s2, if_pos (show a.size + 1 + b.size ≤ 9223372036854775807 by omega)]
  exact Ev.now _

theorem FnNmPaths : laws_FnNmPaths.Pure := by
  intro a b ha hb
  refine Ev.rounds ?_
  have out1 : Ev (fun k => laws_FnNmPaths.j1 k a b true) true := by
    refine Ev_up ?_
    simp only [laws_FnNmPaths.j1, if_true]
    exact Ev.now _
  have out0 : Ev (fun k => laws_FnNmPaths.j0 k a b true) true := by
    refine Ev_up ?_
    simp only [laws_FnNmPaths.j0, if_true]
    exact Ev.now _
  by_cases h1 : (a.size : Int) > 2147483647
  · simp only [laws_FnNmPaths.f, if_pos h1]; exact out0
  by_cases h2 : (b.size : Int) > 2147483647
  · simp only [laws_FnNmPaths.f, if_neg h1, decide_eq_true h2]; exact out0
  simp only [laws_FnNmPaths.f, if_neg h1, decide_eq_false h2]
  refine Ev_up ?_
  simp only [laws_FnNmPaths.j0, if_neg ff]
  by_cases h3 : (a.size : Int) > 2048
  · simp only [if_pos h3]; exact out1
  by_cases h4 : (b.size : Int) > 2048
  · simp only [if_neg h3, if_pos h4]; exact out1
  simp only [if_neg h3, if_neg h4]
  refine Ev.bind (vp_sp a (by omega)) ?_
  cases va : okPath (bytesOf a) with
  | false => simp only [if_neg ff]; exact out1
  | true =>
    simp only [if_true]
    refine Ev.bind (vp_sp b (by omega)) ?_
    cases vb : okPath (bytesOf b) with
    | false => simp only [if_neg ff]; exact out1
    | true =>
      simp only [if_true]
      by_cases ra : a.toList = ([47] : List UInt8)
      · simp only [if_pos ra]; exact out1
      · simp only [if_neg ra]
        by_cases rb : b.toList = ([47] : List UInt8)
        · simp only [rb, beq_self_eq_true]; exact out1
        · have e : (b.toList == ([47] : List UInt8)) = false := by rw [beq_eq_false_iff_ne]; exact rb
          simp only [e]
          exact paths_in a b (by omega) (by omega) va vb ra rb
end Go.Proofs.Ythkmgbfobobpdaa.Pure

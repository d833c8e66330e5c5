/- Two names of interfaces with a point between them are one just if they have at most 255 bytes together, the point among them; and so are an interface's and a member's; a member's name with a point ahead or behind is none, and no name of a member is one of an interface, nor the other way. For all texts; others are let by, as the law has it. -/
import Derived.Test.YthkmgbfobobpdaaNmSp
import Derived.Test.YthkmgbfobobpdaaPNmx4
namespace Go.Proofs.Ythkmgbfobobpdaa.Pure
open Go.RowKit Go.Proofs.Ythkmgbfobobpdaa.PNm Go.Proofs.YthkmgbfobobpdaaW.PrintWords Go.Proofs.YthkmgbfobobpdaaW.PrintLast
open Go.Proofs.Ythkmgbfobobpdaa.Pl Go.Proofs.Ythkmgbfobobpdaa.NmPl Go.Proofs.Ythkmgbfobobpdaa.Given

theorem dot_bytes : bytesOf (⟨#[46]⟩ : ByteArray) = [46] := rfl
theorem iface_open {l : List Int} (h : okIface l = true) : l.length ≤ 255 ∧ 2 ≤ (splitL 46 l).length ∧ (splitL 46 l).all elemOk = true := by
  unfold okIface at h
  simp only [Bool.and_eq_true, decide_eq_true_eq] at h
  exact ⟨h.1.1, h.1.2, h.2⟩
theorem member_open {l : List Int} (h : okMember l = true) : l.length ≤ 255 ∧ elemOk l = true ∧ splitL 46 l = [l] := by
  unfold okMember at h
  simp only [Bool.and_eq_true, decide_eq_true_eq] at h
  exact ⟨h.1, h.2, one_part (elem_mc h.2)⟩

theorem join_in (a b m : ByteArray) (va : okIface (bytesOf a) = true) (vb : okIface (bytesOf b) = true) (vm : okMember (bytesOf m) = true) : Ev (fun k => laws_FnNmJoin.j1 k a b m false) true := by
  obtain ⟨la, ca, ea⟩ := iface_open va
  obtain ⟨lb, cb, eb⟩ := iface_open vb
  obtain ⟨lm, em, sm⟩ := member_open vm
  rw [bytesOf_length] at la lb lm
  have s0 : (a ++ (⟨#[46]⟩ : ByteArray)).size = a.size + 1 := ByteArray.size_append
  have s1 : ((a ++ (⟨#[46]⟩ : ByteArray)) ++ b).size = a.size + 1 + b.size := by rw [ByteArray.size_append, s0]
  have s2 : ((a ++ (⟨#[46]⟩ : ByteArray)) ++ m).size = a.size + 1 + m.size := by rw [ByteArray.size_append, s0]
  have s3 : ((⟨#[46]⟩ : ByteArray) ++ m).size = 1 + m.size := ByteArray.size_append
  have s4 : (m ++ (⟨#[46]⟩ : ByteArray)).size = m.size + 1 := ByteArray.size_append
  have b1 : bytesOf ((a ++ (⟨#[46]⟩ : ByteArray)) ++ b) = bytesOf a ++ 46 :: bytesOf b := by rw [bytes_append, bytes_append, dot_bytes, List.append_assoc]; rfl
  have b2 : bytesOf ((a ++ (⟨#[46]⟩ : ByteArray)) ++ m) = bytesOf a ++ 46 :: bytesOf m := by rw [bytes_append, bytes_append, dot_bytes, List.append_assoc]; rfl
  have b3 : bytesOf ((⟨#[46]⟩ : ByteArray) ++ m) = 46 :: bytesOf m := by rw [bytes_append, dot_bytes]; rfl
  have b4 : bytesOf (m ++ (⟨#[46]⟩ : ByteArray)) = bytesOf m ++ 46 :: [] := by rw [bytes_append, dot_bytes]
  have p1 : impl_NmInterface.f ((a ++ (⟨#[46]⟩ : ByteArray)) ++ b) = some (decide ((a.size : Int) + 1 + (b.size : Int) ≤ 255)) := by
    rw [if_f _ (by omega), b1]
    unfold okIface
    rw [splitL_join, List.all_append, ea, eb, List.length_append, List.length_append, List.length_cons, bytesOf_length, bytesOf_length, decide_eq_true (show 2 ≤ (splitL 46 (bytesOf a)).length + (splitL 46 (bytesOf b)).length by omega)]
    simp only [Bool.and_true]
    congr 1
    exact decide_eq_decide.mpr (by omega)
  have p2 : impl_NmInterface.f ((a ++ (⟨#[46]⟩ : ByteArray)) ++ m) = some (decide ((a.size : Int) + 1 + (m.size : Int) ≤ 255)) := by
    rw [if_f _ (by omega), b2]
    unfold okIface
    rw [splitL_join, sm, List.all_append, ea, List.length_append, List.length_append, List.length_cons, bytesOf_length, bytesOf_length, decide_eq_true (show 2 ≤ (splitL 46 (bytesOf a)).length + [bytesOf m].length by simp; omega)]
    simp only [Bool.and_true, List.all_cons, List.all_nil, em]
    congr 1
    exact decide_eq_decide.mpr (by omega)
  have p3 : impl_NmInterface.f m = some false := by
    rw [if_f _ (by omega)]
    congr 1
    unfold okIface
    rw [sm]; simp
  have p4 : impl_NmMember.f a = some false := by
    rw [mem_f _ (by omega), member_bad]
    cases hm : (bytesOf a).all mc with
    | false => rfl
    | true => rw [one_part hm] at ca; simp at ca
  have p5 : impl_NmInterface.f ((⟨#[46]⟩ : ByteArray) ++ m) = some false := by
    rw [if_f _ (by omega), b3]
    congr 1
    unfold okIface
    rw [splitL_cons_eq, List.all_cons, show elemOk [] = false from rfl]; simp
  have p6 : impl_NmInterface.f (m ++ (⟨#[46]⟩ : ByteArray)) = some false := by
    rw [if_f _ (by omega), b4]
    congr 1
    unfold okIface
    rw [splitL_join, List.all_append, show (splitL 46 ([] : List Int)).all elemOk = false from rfl]; simp
  have p7 : impl_NmMember.f m = some true := by rw [mem_f _ (by omega), vm]
  refine Ev_up ?_
  simp only [laws_FnNmJoin.j1, if_neg ff, p1, p2, p3, p4, p5, p6, p7, Option.bind_some, beq_self_eq_true, if_true, s0, if_pos (show a.size + 1 ≤ 9223372036854775807 by omega), if_pos (show a.size + 1 + b.size ≤ 9223372036854775807 by omega), if_pos (show a.size + 1 + m.size ≤ 9223372036854775807 by omega), if_pos (show 1 + m.size ≤ 9223372036854775807 by omega), if_pos (show m.size + 1 ≤ 9223372036854775807 by omega)]
  exact Ev.now _

theorem FnNmJoin : laws_FnNmJoin.Pure := by
  intro a b m ha hb hm
  refine Ev.rounds ?_
  have out1 : Ev (fun k => laws_FnNmJoin.j1 k a b m true) true := by
    refine Ev_up ?_
    simp only [laws_FnNmJoin.j1, if_true]
    exact Ev.now _
  have out0 : Ev (fun k => laws_FnNmJoin.j0 k a b m true) true := by
    refine Ev_up ?_
    simp only [laws_FnNmJoin.j0, if_true]
    exact Ev.now _
  by_cases h1 : (a.size : Int) > 2147483647
  · simp only [laws_FnNmJoin.f, if_pos h1]; exact out0
  by_cases h2 : (b.size : Int) > 2147483647
  · simp only [laws_FnNmJoin.f, if_neg h1, if_pos h2]; exact out0
  by_cases h3 : (m.size : Int) > 2147483647
  · simp only [laws_FnNmJoin.f, if_neg h1, if_neg h2, decide_eq_true h3]; exact out0
  simp only [laws_FnNmJoin.f, if_neg h1, if_neg h2, decide_eq_false h3]
  refine Ev_up ?_
  simp only [laws_FnNmJoin.j0, if_neg ff]
  refine Ev.bind (vi_sp a (by omega)) ?_
  cases va : okIface (bytesOf a) with
  | false => simp only [if_neg ff]; exact out1
  | true =>
    simp only [if_true]
    refine Ev.bind (vi_sp b (by omega)) ?_
    cases vb : okIface (bytesOf b) with
    | false => simp only [if_neg ff]; exact out1
    | true =>
      simp only [if_true]
      refine Ev.bind (vm_sp m (by omega)) ?_
      cases vm : okMember (bytesOf m) with
      | false => simp only [Bool.not_false]; exact out1
      | true => simp only [Bool.not_true]; exact join_in a b m va vb vm
end Go.Proofs.Ythkmgbfobobpdaa.Pure

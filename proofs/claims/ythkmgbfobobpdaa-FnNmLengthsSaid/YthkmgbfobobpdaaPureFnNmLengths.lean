/- A name of a member of so many letters (4 to 1000), and one of an interface of as many bytes (one letter, a point, letters behind it), is one just if it has at most 255 bytes; an object path of as many bytes (a slash and letters) is one. For every number of 16 bits; others than 4 to 1000 are let by, as the law has it. -/
import Derived.Test.YthkmgbfobobpdaaNmSp
import Derived.Test.YthkmgbfobobpdaaPNmx4
namespace Go.Proofs.Ythkmgbfobobpdaa.Pure
open Go.RowKit Go.Proofs.Ythkmgbfobobpdaa.PNm Go.Proofs.YthkmgbfobobpdaaW.PrintWords Go.Proofs.YthkmgbfobobpdaaW.PrintLast
open Go.Proofs.Ythkmgbfobobpdaa.Pl Go.Proofs.Ythkmgbfobobpdaa.NmPl Go.Proofs.Ythkmgbfobobpdaa.Given

def As (n : Nat) : ByteArray := strOfNums (List.replicate n 97)
theorem As_bytes (n : Nat) : bytesOf (As n) = List.replicate n 97 := bytes_back _ (fun x hx => by rw [List.eq_of_mem_replicate hx]; decide)
theorem As_size (n : Nat) : (As n).size = n := by rw [← bytesOf_length, As_bytes, List.length_replicate]
theorem As_next (n : Nat) : As n ++ (⟨#[97]⟩ : ByteArray) = As (n + 1) := by
  apply bytesOf_inj
  rw [bytes_append, As_bytes, As_bytes, List.replicate_succ']; rfl
theorem rep_go (d : Nat) : ∀ n : Nat, d + n ≤ 65535 → Ev (fun k => laws_sgRepeat.l0 k (⟨#[97]⟩ : ByteArray) (d : Int) (As n)) (As (n + d)) := by
  induction d with
  | zero =>
    intro n _
    refine Ev_up ?_
    simp only [laws_sgRepeat.l0, if_neg (show ¬ ((0 : Nat) : Int) > 0 by omega)]
    exact Ev.now _
  | succ d ih =>
    intro n h
    have e1 : wrap64 (((d + 1 : Nat) : Int) - 1) = (d : Int) := by rw [w64 (by omega) (by omega)]; omega
    have hz : (As n).size + (⟨#[97]⟩ : ByteArray).size ≤ 9223372036854775807 := by rw [As_size]; show n + 1 ≤ _; omega
    refine Ev_up ?_
    simp only [laws_sgRepeat.l0, if_pos (show ((d + 1 : Nat) : Int) > 0 by omega), e1, if_pos hz, As_next]
    have := ih (n + 1) (by omega)
    rw [show n + 1 + d = n + (d + 1) by omega] at this
    exact this
theorem all_a (n : Nat) : (List.replicate n (97 : Int)).all mc = true := by
  rw [List.all_eq_true]
  intro x hx
  rw [List.eq_of_mem_replicate hx]; decide
theorem elem_a (n : Nat) (h : 1 ≤ n) : elemOk (List.replicate n 97) = true := by
  obtain ⟨m, rfl⟩ : ∃ m, n = m + 1 := ⟨n - 1, by omega⟩
  unfold elemOk
  rw [all_a]; simp [List.replicate_succ, dig]
theorem As_tail (n j : Nat) (_h : j ≤ n) : bytesOf ((As n).extract j (As n).size) = List.replicate (n - j) 97 := by
  rw [bytesOf_extract, As_bytes, As_size, List.take_of_length_le (by simp), List.drop_replicate]

theorem lengths_in (n : Nat) (h4 : 4 ≤ n) (h : n ≤ 1000) : Ev (fun k => laws_FnNmLengths.j0 k (n : Int) false) true := by
  have e1 : wrap64 (n : Int) = (n : Int) := w64 (by omega) (by omega)
  have t2 := As_tail n 2 (by omega)
  have t1 := As_tail n 1 (by omega)
  have z2 : ((As n).extract 2 (As n).size).size = n - 2 := by rw [← bytesOf_length, t2, List.length_replicate]
  have z1 : ((As n).extract 1 (As n).size).size = n - 1 := by rw [← bytesOf_length, t1, List.length_replicate]
  have s2 : ((⟨#[97, 46]⟩ : ByteArray) ++ ((As n).extract 2 (As n).size)).size = n := by rw [ByteArray.size_append, z2]; show 2 + (n - 2) = n; omega
  have s1 : ((⟨#[47]⟩ : ByteArray) ++ ((As n).extract 1 (As n).size)).size = n := by rw [ByteArray.size_append, z1]; show 1 + (n - 1) = n; omega
  have p1 : impl_NmMember.f (As n) = some (decide ((n : Int) ≤ 255)) := by
    rw [mem_f _ (by rw [As_size]; omega), As_bytes]
    unfold okMember
    rw [elem_a n (by omega), List.length_replicate, Bool.and_true]
    congr 1
    exact decide_eq_decide.mpr (by omega)
  have p2 : impl_NmInterface.f ((⟨#[97, 46]⟩ : ByteArray) ++ ((As n).extract 2 (As n).size)) = some (decide ((n : Int) ≤ 255)) := by
    have hb : bytesOf ((⟨#[97, 46]⟩ : ByteArray) ++ ((As n).extract 2 (As n).size)) = [97] ++ 46 :: List.replicate (n - 2) 97 := by rw [bytes_append, t2]; rfl
    rw [if_f _ (by rw [s2]; omega), hb]
    unfold okIface
    have e2 : (splitL 46 [97]).all elemOk = true := by decide
    have e3 : (splitL 46 [97]).length = 1 := by decide
    have e4 : ([97] ++ 46 :: List.replicate (n - 2) (97 : Int)).length = n := by simp; omega
    rw [e4, splitL_join, one_part (all_a _), List.all_append, List.length_append, e2, e3, List.all_cons, elem_a _ (by omega)]
    simp only [List.length_cons, List.length_nil, List.all_nil, Bool.and_true]
    rw [show decide (2 ≤ 1 + (0 + 1)) = true by decide, Bool.and_true]
    congr 1
    exact decide_eq_decide.mpr (by omega)
  have p3 : impl_NmPath.f ((⟨#[47]⟩ : ByteArray) ++ ((As n).extract 1 (As n).size)) = some true := by
    have hb : bytesOf ((⟨#[47]⟩ : ByteArray) ++ ((As n).extract 1 (As n).size)) = 47 :: List.replicate (n - 1) 97 := by rw [bytes_append, t1]; rfl
    rw [path_f _ (by rw [s1]; omega), hb, okPath_pt]
    have : ∀ (m : Nat) (b : Bool), (b = false ∨ 1 ≤ m) → pt b (List.replicate m 97) = true := by
      intro m
      induction m with
      | zero => intro b hb; rcases hb with rfl | hb
                · rfl
                · omega
      | succ m ih =>
        intro b _
        rw [List.replicate_succ, pt, if_neg (by decide), ih false (.inl rfl)]; decide
    rw [this _ true (.inr (by omega))]; simp
  refine Ev_up ?_
  simp only [laws_FnNmLengths.j0, if_neg ff, e1]
  have hrep := rep_go n 0 (by omega)
  rw [Nat.zero_add] at hrep
  refine Ev.bind (a := As n) (by simp only [laws_sgRepeat.f]; exact hrep) ?_
  have q1 : (2 : Int) ≤ ((As n).size : Int) := by rw [As_size]; omega
  have q2 : (1 : Int) ≤ ((As n).size : Int) := by rw [As_size]; omega
  have q3 : 2 + ((As n).size - 2) ≤ 9223372036854775807 := by rw [As_size]; omega
  have q4 : 1 + ((As n).size - 1) ≤ 9223372036854775807 := by rw [As_size]; omega
  simp only [p1, p2, p3, Option.bind_some, beq_self_eq_true, if_true, if_pos q1, if_pos q2, if_pos q3, if_pos q4]
  exact Ev.now _

theorem FnNmLengths : laws_FnNmLengths.Pure := by
  intro a h
  obtain ⟨h0, h1⟩ := u16_range h
  refine Ev.rounds ?_
  have out0 : Ev (fun k => laws_FnNmLengths.j0 k a true) true := by
    refine Ev_up ?_
    simp only [laws_FnNmLengths.j0, if_true]
    exact Ev.now _
  by_cases h2 : a < 4
  · simp only [laws_FnNmLengths.f, if_pos h2]; exact out0
  by_cases h3 : a > 1000
  · simp only [laws_FnNmLengths.f, if_neg h2, decide_eq_true h3]; exact out0
  simp only [laws_FnNmLengths.f, if_neg h2, decide_eq_false h3]
  obtain ⟨n, rfl⟩ : ∃ n : Nat, a = (n : Int) := ⟨a.toNat, by omega⟩
  exact lengths_in n (by omega) (by omega)
end Go.Proofs.Ythkmgbfobobpdaa.Pure

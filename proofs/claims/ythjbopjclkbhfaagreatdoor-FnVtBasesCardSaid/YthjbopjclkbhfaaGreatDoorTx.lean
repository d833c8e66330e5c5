/- The texts of a number: in digits of ten, of eight behind 0, of sixteen behind 0x, small or great. -/
import Derived.Test.YthjbopjclkbhfaaGreatDoorGvVk
import Derived.Test.YthjbopjclkbhfaaGreatDoorGvUp
namespace Go.Proofs.YthjbopjclkbhfaaGreatDoor.Given
open Go.RowKit Go.Proofs.YthjbopjclkbhfaaGreatDoorW.PrintWords

theorem dch_lo : ∀ d : Fin 16, 1 ≤ d.val → dch d.val ≠ 48 ∧ up (dch d.val) ≠ 48 ∧ dch d.val ≠ 120 := by decide
theorem dch_lo' {d : Nat} (h : d < 16) (h1 : 1 ≤ d) : dch d ≠ 48 ∧ up (dch d) ≠ 48 ∧ dch d ≠ 120 := dch_lo ⟨d, h⟩ h1
theorem no1 (c : UInt8) (r : List UInt8) (h : c ≠ 48) : cutRes ⟨(c :: r).toArray⟩ ⟨#[48]⟩ = (⟨(c :: r).toArray⟩, false) := by
  refine cutRes_no _ [48] ?_
  show ([c] == [48]) = false
  simpa using h
theorem no2 (c : UInt8) (r : List UInt8) (h : c ≠ 48) : cutRes ⟨(c :: r).toArray⟩ ⟨#[48, 120]⟩ = (⟨(c :: r).toArray⟩, false) := by
  refine cutRes_no _ [48, 120] ?_
  show (List.take 2 (c :: r) == [48, 120]) = false
  rw [beq_eq_false_iff_ne]
  intro e
  rw [List.take_succ_cons] at e
  exact h (List.cons.inj e).1
theorem text10 (n : Nat) (h1 : 1 ≤ n) (h : n < 18446744073709551616) : TextOf ⟨(dgs 10 64 n).toArray⟩ n := by
  have hI := is_dgs 10 (by decide) (by decide) n (Nat.lt_of_lt_of_le h (by decide)) h1
  obtain ⟨d, r, a, b, e⟩ := dgs_head 10 (by decide) 64 n (Nat.lt_of_lt_of_le h (by decide)) h1
  rw [e] at hI ⊢
  have hd := (dch_lo' (show d < 16 by omega) a).1
  exact .inl ⟨no2 _ _ hd, no1 _ _ hd, hI⟩
theorem text16 (n : Nat) (h1 : 1 ≤ n) (h : n < 18446744073709551616) : TextOf (⟨#[48, 120]⟩ ++ ⟨(dgs 16 64 n).toArray⟩) n := by
  have hI := is_dgs 16 (by decide) (by decide) n (Nat.lt_of_lt_of_le h (by decide)) h1
  obtain ⟨d, r, a, b, e⟩ := dgs_head 16 (by decide) 64 n (Nat.lt_of_lt_of_le h (by decide)) h1
  rw [e] at hI ⊢
  have hd := (dch_lo' (show d < 16 by omega) a).1
  exact .inr (.inl ⟨_, cutRes_yes [48, 120] _, no1 _ _ hd, hI⟩)
theorem text16u (n : Nat) (h1 : 1 ≤ n) (h : n < 18446744073709551616) : TextOf (⟨#[48, 120]⟩ ++ ⟨((dgs 16 64 n).map up).toArray⟩) n := by
  have hI := is_up n (Nat.lt_of_lt_of_le h (by decide)) h1
  obtain ⟨d, r, a, b, e⟩ := dgs_head 16 (by decide) 64 n (Nat.lt_of_lt_of_le h (by decide)) h1
  rw [e] at hI ⊢
  have hd := (dch_lo' (show d < 16 by omega) a).2.1
  exact .inr (.inl ⟨_, cutRes_yes [48, 120] _, no1 _ _ hd, hI⟩)
theorem text8 (n : Nat) (h1 : 1 ≤ n) (h : n < 18446744073709551616) : TextOf (⟨#[48]⟩ ++ ⟨(dgs 8 64 n).toArray⟩) n := by
  have hI := is_dgs 8 (by decide) (by decide) n (Nat.lt_of_lt_of_le h (by decide)) h1
  obtain ⟨d, r, a, b, e⟩ := dgs_head 8 (by decide) 64 n (Nat.lt_of_lt_of_le h (by decide)) h1
  rw [e] at hI ⊢
  have hd := (dch_lo' (show d < 16 by omega) a).2.2
  refine .inr (.inr ⟨_, ?_, cutRes_yes [48] _, ?_, hI⟩)
  · refine cutRes_no _ [48, 120] ?_
    rw [Joins.data_append]
    show (List.take 2 (48 :: dch d :: r) == [48, 120]) = false
    rw [beq_eq_false_iff_ne]
    intro e
    exact hd (List.cons.inj (List.cons.inj e).2).1
  · rw [ByteArray.size_append]
    show 1 + (dch d :: r).toArray.size ≠ 1
    simp
theorem size_dgs (B n : Nat) : (⟨(dgs B 64 n).toArray⟩ : ByteArray).size ≤ 64 := by
  show (dgs B 64 n).toArray.size ≤ 64
  have := dgs_length B 64 n
  simpa using this
theorem size_up (n : Nat) : (⟨((dgs 16 64 n).map up).toArray⟩ : ByteArray).size ≤ 64 := by
  show ((dgs 16 64 n).map up).toArray.size ≤ 64
  have := dgs_length 16 64 n
  simpa using this
end Go.Proofs.YthjbopjclkbhfaaGreatDoor.Given

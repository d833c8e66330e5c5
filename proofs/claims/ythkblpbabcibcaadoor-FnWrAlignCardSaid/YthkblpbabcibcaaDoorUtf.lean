import Derived.Test.YthkblpbabcibcaaDoorWWords
import Derived.Laws.RangeString
import Derived.Laws.RangeAny
namespace Go.Proofs.YthkblpbabcibcaaDoor.Utf
open Go.RowKit Go.Proofs.YthkblpbabcibcaaDoorW.PrintWords

theorem bt_nat {s : ByteArray} {i : Nat} (h : i < s.size) : bt s (i : Int) = ((s[i]'h).toNat : Int) := by
  simp [bt, h]
theorem get_bt {s : ByteArray} {i : Nat} (h : i < s.size) : ((s.get! i).toNat : Int) = bt s (i : Int) := by
  rw [bt_nat h]
  have := get_at s i h
  rw [Nat.add_zero] at this
  rw [this]
theorem bt_hi {s : ByteArray} {i : Nat} (h : s.size ≤ i) : bt s (i : Int) = 0 := by
  simp [bt, show ¬ i < s.size by omega]
theorem width_pos (s : ByteArray) (pos : Nat) (h : pos < s.size) : 1 ≤ (Utf8.decode s pos).2 := by
  by_cases ha : (s[pos]'h).toNat < 128
  · rw [decode_ascii s pos h ha]
    exact Nat.le_refl _
  · exact (decode_high s pos h (by omega)).2
/-- Behind a byte of 128 or more: a rune of 128 or more, and every byte of it is one of 128 or more. -/
theorem decode_cont (s : ByteArray) (pos : Nat) (h : pos < s.size) (ha : 128 ≤ bt s (pos : Int)) :
    128 ≤ (Utf8.decode s pos).1 ∧ 1 ≤ (Utf8.decode s pos).2 ∧ ∀ j, j < (Utf8.decode s pos).2 → pos + j < s.size ∧ 128 ≤ bt s ((pos + j : Nat) : Int) := by
  have h0 : 128 ≤ (s[pos]'h).toNat := by rw [bt_nat h] at ha; omega
  obtain ⟨a, b⟩ := decode_high s pos h h0
  refine ⟨a, b, ?_⟩
  have hn : ¬ (s[pos]'h).toNat < 128 := by omega
  have g : ∀ j, pos + j < s.size → (s.get! (pos + j)).toNat / 64 = 2 → 128 ≤ bt s ((pos + j : Nat) : Int) := by
    intro j hj hq
    rw [← get_bt hj]; omega
  have one : ∀ j, j < 1 → pos + j < s.size ∧ 128 ≤ bt s ((pos + j : Nat) : Int) := by
    intro j hj
    obtain rfl : j = 0 := by omega
    exact ⟨h, by rw [Nat.add_zero]; exact ha⟩
  simp only [Utf8.decode, get_at s pos h, hn, if_false]
  repeat' split
  all_goals first | exact one | skip
  all_goals
    rename_i hc _
    simp only [Bool.and_eq_true, decide_eq_true_eq, beq_iff_eq] at hc
    intro j hj
    simp only at hj
    rcases j with _ | _ | _ | _ | j
    · exact ⟨h, by rw [Nat.add_zero]; exact ha⟩
    · exact ⟨by omega, g 1 (by omega) (by omega)⟩
    · first | (exact ⟨by omega, g 2 (by omega) (by omega)⟩) | (exfalso; omega)
    · first | (exact ⟨by omega, g 3 (by omega) (by omega)⟩) | (exfalso; omega)
    · exfalso; omega
end Go.Proofs.YthkblpbabcibcaaDoor.Utf

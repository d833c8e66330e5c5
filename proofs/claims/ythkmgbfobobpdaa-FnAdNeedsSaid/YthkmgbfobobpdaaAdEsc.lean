import Derived.Test.YthkmgbfobobpdaaPAdx
import Derived.Test.YthkmgbfobobpdaaAdPl
namespace Go.Proofs.Ythkmgbfobobpdaa.AdPl
open Go.RowKit Go.Proofs.Ythkmgbfobobpdaa.PAd Go.Proofs.YthkmgbfobobpdaaW.PrintWords Go.Proofs.Ythkmgbfobobpdaa.Pl Go.Proofs.Ythkmgbfobobpdaa.Given

theorem plain_nat : ∀ n : Nat, n < 256 → spec_plainByte.f (n : Int) = some (!ne (n : Int)) := by decide +kernel
theorem plain_f (c : Int) (h : 0 ≤ c ∧ c ≤ 255) : spec_plainByte.f c = some (!ne c) := by
  obtain ⟨n, rfl⟩ : ∃ n : Nat, c = (n : Int) := ⟨c.toNat, by omega⟩
  exact plain_nat n (by omega)
theorem andF (x : Int) (h0 : 0 ≤ x) (h1 : x < 256) : Go.bits .and .u8 x 15 = x % 16 := by
  have := bits_mask .u8 8 (by decide) wraps_u8 4 (by decide) x h0 h1
  simpa using this
theorem one_size (s : ByteArray) (i : Nat) (h : i < s.size) : (s.extract i (i + 1)).size = 1 := by
  rw [ByteArray.size_extract]; omega
theorem one_bt (s : ByteArray) (i : Nat) (h : i < s.size) : bt (s.extract i (i + 1)) 0 = bt s (i : Int) := by
  have h1 := one_size s i h
  unfold bt
  rw [dif_pos (show (0 : Int).toNat < (s.extract i (i + 1)).size by rw [h1]; decide), dif_pos (show (i : Int).toNat < s.size by simpa using h)]
  simp [ByteArray.getElem_extract]
/-- The specification's escape of one byte. -/
theorem escape_one (s : ByteArray) (i : Nat) (h : i < s.size) : Ev (fun k => spec_EscapeAddress.f k (s.extract i (i + 1))) (strOfNums (esc1 (bt s (i : Int)))) := by
  have h1 := one_size s i h
  have hb := one_bt s i h
  have hr := bt_range s (i : Int)
  generalize s.extract i (i + 1) = t at *
  have hlt : (0 : Int) < (t.size : Int) := by omega
  have hn : ¬ ((1 : Nat) : Int) < (t.size : Int) := by omega
  have e1 : wrap64 ((0 : Int) + 1) = ((1 : Nat) : Int) := w64 (by omega) (by omega)
  have hand := andF (bt s (i : Int)) hr.1 (by omega)
  unfold spec_EscapeAddress.f
  refine Ev_up ?_
  simp only [spec_EscapeAddress.l0, if_pos hlt, if_pos (show (0 : Int) ≤ 0 by omega), hb, plain_f _ hr, Option.bind_some, e1, hand, List.length_nil, List.nil_append, if_pos (show 0 < 140737488355328 by decide)]
  unfold esc1
  by_cases hne : ne (bt s (i : Int)) = true
  · simp only [hne, Bool.not_true, if_neg (show ¬ (false = true) by decide), if_true, if_pos (show (0 : Int) ≤ bt s (i : Int) / 16 by omega), if_pos (show bt s (i : Int) / 16 < 16 by omega), if_pos (show (0 : Int) ≤ bt s (i : Int) % 16 by omega), if_pos (show bt s (i : Int) % 16 < 16 by omega), List.length_cons, List.length_nil, if_pos (show 0 + (0 + 1 + 1 + 1) < 140737488355328 by decide)]
    refine Ev_up ?_
    simp only [spec_EscapeAddress.l0, if_neg hn]
    exact Ev.now _
  · have hf : ne (bt s (i : Int)) = false := by simpa using hne
    simp only [hf, Bool.not_false, if_true, if_neg (show ¬ (false = true) by decide)]
    refine Ev_up ?_
    simp only [spec_EscapeAddress.l0, if_neg hn]
    exact Ev.now _
theorem escape_bus (s : ByteArray) (hs : s.size ≤ 1099511627776) : impl_AdEscape.f s = some (strOfNums (escB s s.size)) := by
  simp only [impl_AdEscape.f, EscapeBus.f, if_pos hs]; rfl
end Go.Proofs.Ythkmgbfobobpdaa.AdPl

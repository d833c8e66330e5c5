/- Numbers in digits of a base, and read again. -/
import Derived.Test.YthjbopjclkbhfaaGreatDoorGvPu
import Derived.Lib.ItoaNum
namespace Go.Proofs.YthjbopjclkbhfaaGreatDoor.Given
open Go.RowKit Go.Proofs.YthjbopjclkbhfaaGreatDoorW.PrintWords

/-- The letter of a digit. -/
def dch (d : Nat) : UInt8 := UInt8.ofNat (if d < 10 then 48 + d else 87 + d)
/-- The digits of a number (so many at most). -/
def dgs (B : Nat) : Nat → Nat → List UInt8
  | 0, _ => []
  | f + 1, n => if n < B then [dch n] else dgs B f (n / B) ++ [dch (n % B)]
/-- The number that digits stand for, behind another. -/
def val (B : Int) : Int → List UInt8 → Int
  | a, [] => a
  | a, c :: r => val B (a * B + dg c.toNat) r
theorem dg_lo (c : Int) : 0 ≤ dg c := by
  unfold dg; split
  · omega
  · split
    · omega
    · decide
theorem val_append (B : Int) : ∀ (l : List UInt8) (a : Int) (c : UInt8), val B a (l ++ [c]) = val B a l * B + dg c.toNat
  | [], _, _ => rfl
  | _ :: l, _, c => val_append B l _ c
theorem val_mono (B : Int) (hB : 2 ≤ B) : ∀ (l : List UInt8) (a : Int), 0 ≤ a → a ≤ val B a l
  | [], a, _ => Int.le_refl a
  | c :: l, a, h => by
    have h1 := dg_lo c.toNat
    have h2 : a ≤ a * B := by
      have := Int.mul_le_mul_of_nonneg_left (show (1 : Int) ≤ B by omega) h
      omega
    have := val_mono B hB l (a * B + dg c.toNat) (by omega)
    show a ≤ val B (a * B + dg c.toNat) l
    omega
theorem puGo_val (B M : Int) (hB : 2 ≤ B) : ∀ (l : List UInt8) (a : Int), 0 ≤ a → a ≤ M → (∀ c ∈ l, dg c.toNat < B) → puGo B M a l = if val B a l ≤ M then .ok (val B a l) else .rng
  | [], a, _, h1, _ => by
    show PE.ok a = if a ≤ M then .ok a else .rng
    rw [if_pos h1]
  | c :: l, a, h0, h1, hl => by
    have hc := hl c (by simp)
    have hd := dg_lo c.toNat
    have ha : 0 ≤ a * B := Int.mul_nonneg h0 (by omega)
    show (if dg c.toNat ≥ B then PE.syn else if a * B + dg c.toNat > M then .rng else puGo B M (a * B + dg c.toNat) l) = if val B (a * B + dg c.toNat) l ≤ M then .ok (val B (a * B + dg c.toNat) l) else .rng
    rw [if_neg (by omega)]
    by_cases h2 : a * B + dg c.toNat > M
    · have := val_mono B hB l (a * B + dg c.toNat) (by omega)
      rw [if_pos h2, if_neg (by omega)]
    · rw [if_neg h2]
      exact puGo_val B M hB l _ (by omega) (by omega) (fun c' hc' => hl c' (by simp [hc']))
theorem dg_dch : ∀ d : Fin 16, dg (dch d.val).toNat = d.val := by decide
theorem dg_dch' {d : Nat} (h : d < 16) : dg (dch d).toNat = d := dg_dch ⟨d, h⟩
/-- Great letters. -/
def up (c : UInt8) : UInt8 := if 97 ≤ c ∧ c ≤ 122 then c - 32 else c
theorem dg_up : ∀ d : Fin 16, dg (up (dch d.val)).toNat = d.val := by decide
theorem dg_up' {d : Nat} (h : d < 16) : dg (up (dch d)).toNat = d := dg_up ⟨d, h⟩
theorem dgs_mem (B : Nat) (hB : 2 ≤ B) : ∀ (f n : Nat) (c : UInt8), c ∈ dgs B f n → ∃ d, d < B ∧ c = dch d
  | 0, _, _, h => by cases h
  | f + 1, n, c, h => by
    unfold dgs at h
    split at h
    · rename_i hn
      exact ⟨n, hn, by simpa using h⟩
    · rcases List.mem_append.1 h with h | h
      · exact dgs_mem B hB f _ c h
      · exact ⟨n % B, Nat.mod_lt _ (by omega), by simpa using h⟩
theorem dgs_val (B : Nat) (hB : 2 ≤ B) (hB2 : B ≤ 16) : ∀ (f n : Nat), n < B ^ f → val B 0 (dgs B f n) = n
  | 0, n, h => by
    have : n = 0 := by simpa using h
    subst this; rfl
  | f + 1, n, h => by
    unfold dgs
    by_cases hn : n < B
    · rw [if_pos hn]
      show (0 : Int) * B + dg (dch n).toNat = n
      rw [dg_dch' (by omega)]; omega
    · rw [if_neg hn, val_append, dgs_val B hB hB2 f (n / B) (Nat.div_lt_of_lt_mul (by rw [Nat.mul_comm, ← Nat.pow_succ]; exact h)), dg_dch' (Nat.lt_of_lt_of_le (Nat.mod_lt _ (by omega)) hB2)]
      have := Nat.div_add_mod n B
      rw [Nat.mul_comm] at this
      rw [← Int.natCast_mul, ← Int.natCast_add, this]
theorem val_map (B : Int) (g : UInt8 → UInt8) : ∀ (l : List UInt8) (a : Int), (∀ c ∈ l, dg (g c).toNat = dg c.toNat) → val B a (l.map g) = val B a l
  | [], _, _ => rfl
  | c :: l, a, h => by
    show val B (a * B + dg (g c).toNat) (l.map g) = val B (a * B + dg c.toNat) l
    rw [h c (by simp)]
    exact val_map B g l _ (fun c' hc' => h c' (by simp [hc']))
/-- The first digit of a number that is not 0 is not 0. -/
theorem dgs_head (B : Nat) (hB : 2 ≤ B) : ∀ (f n : Nat), n < B ^ f → 1 ≤ n → ∃ d r, 1 ≤ d ∧ d < B ∧ dgs B f n = dch d :: r
  | 0, n, h, h1 => by
    have : n = 0 := by simpa using h
    omega
  | f + 1, n, h, h1 => by
    unfold dgs
    by_cases hn : n < B
    · rw [if_pos hn]; exact ⟨n, [], h1, hn, rfl⟩
    · rw [if_neg hn]
      have hq : 1 ≤ n / B := by
        have := Nat.div_le_div_right (c := B) (Nat.not_lt.1 hn)
        rw [Nat.div_self (by omega)] at this
        exact this
      obtain ⟨d, r, a, b, e⟩ := dgs_head B hB f (n / B) (Nat.div_lt_of_lt_mul (by rw [Nat.mul_comm, ← Nat.pow_succ]; exact h)) hq
      rw [e]
      exact ⟨d, r ++ [dch (n % B)], a, b, rfl⟩
theorem dgs_dec : ∀ (f n : Nat), n < 10 ^ f → 1 ≤ f → dgs 10 f n = Lib.decDigits n
  | 0, _, _, h => by omega
  | f + 1, n, h, _ => by
    unfold dgs
    rw [Lib.decDigits]
    by_cases hn : n < 10
    · rw [if_pos hn, dif_pos hn]; unfold dch; rw [if_pos hn]
    · rw [if_neg hn, dif_neg hn]
      have hf : 1 ≤ f := by
        rcases Nat.eq_zero_or_pos f with h0 | h0
        · subst h0; simp at h; omega
        · exact h0
      rw [dgs_dec f (n / 10) (Nat.div_lt_of_lt_mul (by rw [Nat.mul_comm, ← Nat.pow_succ]; exact h)) hf]
      unfold dch
      rw [if_pos (Nat.mod_lt _ (by omega))]
theorem dgs_length (B : Nat) : ∀ (f n : Nat), (dgs B f n).length ≤ f
  | 0, _ => Nat.le_refl _
  | f + 1, n => by
    unfold dgs
    split
    · simp
    · rw [List.length_append]; have := dgs_length B f (n / B); simp; omega

/-- A text whose digits stand for n. -/
def Is (B : Int) (s : ByteArray) (n : Int) : Prop := s.size ≠ 0 ∧ s.size ≤ 64 ∧ ∀ M, 0 ≤ M → puGo B M 0 s.data.toList = if n ≤ M then .ok n else .rng
theorem is_dgs (B : Nat) (hB : 2 ≤ B) (hB2 : B ≤ 16) (n : Nat) (h : n < B ^ 64) (h1 : 1 ≤ n) : Is B ⟨(dgs B 64 n).toArray⟩ n := by
  obtain ⟨d, r, _, _, e⟩ := dgs_head B hB 64 n h h1
  refine ⟨?_, ?_, fun M hM => ?_⟩
  · show (dgs B 64 n).toArray.size ≠ 0
    rw [e]; simp
  · show (dgs B 64 n).toArray.size ≤ 64
    have := dgs_length B 64 n
    simpa using this
  · show puGo B M 0 (dgs B 64 n).toArray.toList = _
    rw [List.toList_toArray, puGo_val B M (by omega) _ 0 (by omega) hM, dgs_val B hB hB2 64 n h]
    intro c hc
    obtain ⟨d, hd, rfl⟩ := dgs_mem B hB 64 n c hc
    rw [dg_dch' (by omega)]; omega
theorem is_up (n : Nat) (h : n < 16 ^ 64) (h1 : 1 ≤ n) : Is 16 ⟨((dgs 16 64 n).map up).toArray⟩ n := by
  obtain ⟨d, r, _, _, e⟩ := dgs_head 16 (by decide) 64 n h h1
  have hup : ∀ c ∈ dgs 16 64 n, dg (up c).toNat = dg c.toNat ∧ dg (up c).toNat < 16 := by
    intro c hc
    obtain ⟨d, hd, rfl⟩ := dgs_mem 16 (by decide) 64 n c hc
    rw [dg_dch' hd, dg_up' hd]
    exact ⟨rfl, by omega⟩
  refine ⟨?_, ?_, fun M hM => ?_⟩
  · show ((dgs 16 64 n).map up).toArray.size ≠ 0
    rw [e]; simp
  · show ((dgs 16 64 n).map up).toArray.size ≤ 64
    have := dgs_length 16 64 n
    simpa using this
  · show puGo 16 M 0 ((dgs 16 64 n).map up).toArray.toList = _
    have hv := dgs_val 16 (by decide) (by decide) 64 n h
    rw [List.toList_toArray, puGo_val 16 M (by omega) _ 0 (by omega) hM, val_map 16 up _ 0 (fun c hc => (hup c hc).1), show val 16 0 (dgs 16 64 n) = (n : Int) from hv]
    intro c hc
    obtain ⟨c', hc', rfl⟩ := List.mem_map.1 hc
    exact (hup c' hc').2
end Go.Proofs.YthjbopjclkbhfaaGreatDoor.Given

/- Texts of UTF-8, as the library decodes them: the plain function. -/
import Derived.Lib.MapLaws
namespace Go.Proofs.YtgljkbhjbefikaaDoor.Uq
open Go.Lib (decodeN decodeN_shape decode_N decodeL decodeL_N decodeL_drop)
/-- Every rune decodes. -/
def vdF : Nat → List UInt8 → Bool
  | 0, _ => true
  | d + 1, l => if l = [] then true else if (decodeL l).1 = 65533 ∧ (decodeL l).2 = 1 then false else vdF d (l.drop (decodeL l).2)
theorem dec_w (s : ByteArray) (i : Nat) (hi : i < s.size) : 1 ≤ (Utf8.decode s i).2 ∧ i + (Utf8.decode s i).2 ≤ s.size := by
  have hlen : s.data.toList.length = s.size := by rw [Array.length_toList]; rfl
  rw [decode_N, hlen]
  rcases decodeN_shape (s.size - i) (s.data.toList.getD i 0).toNat (s.data.toList.getD (i + 1) 0).toNat (s.data.toList.getD (i + 2) 0).toNat (s.data.toList.getD (i + 3) 0).toNat with ⟨c, e⟩ | ⟨c1, c2, c3, cv, e⟩ | ⟨c1, c2, c3, c4, cv, cs, e⟩ | ⟨c1, c2, c3, c4, c5, cv, cw, e⟩ | e
  all_goals
    rw [e]
    simp only
    omega
/-- A rune of the text without the byte b is not b. -/
theorem dec_ne (l : List UInt8) (hne : l ≠ []) (b : Nat) (hb : b < 128) (h : ∀ c ∈ l, c.toNat ≠ b) : (decodeL l).1 ≠ b ∧ (decodeL l).1 ≤ 1114111 ∧ 1 ≤ (decodeL l).2 ∧ (decodeL l).2 ≤ l.length := by
  have hl : 0 < l.length := List.length_pos_iff.2 hne
  have h0 : (l.getD 0 0).toNat ≠ b := by
    cases l with
    | nil => exact absurd rfl hne
    | cons x t => exact h x (by simp)
  have k0 := (l.getD 0 0).toNat_lt
  rw [decodeL_N]
  rcases decodeN_shape l.length (l.getD 0 0).toNat (l.getD 1 0).toNat (l.getD 2 0).toNat (l.getD 3 0).toNat with ⟨c, e⟩ | ⟨c1, c2, c3, cv, e⟩ | ⟨c1, c2, c3, c4, cv, cs, e⟩ | ⟨c1, c2, c3, c4, c5, cv, cw, e⟩ | e
  all_goals
    rw [e]
    simp only
    omega
end Go.Proofs.YtgljkbhjbefikaaDoor.Uq

/- UTF-8 as the specification has it, and as the library decodes it. -/
import Derived.Test.YtgljkbhjbefikaaDoorPUqx1
import Derived.Test.YtgljkbhjbefikaaDoorUqp
import Derived.Test.YtgljkbhjbefikaaDoorBy
namespace Go.Proofs.YtgljkbhjbefikaaDoor.Uq
open Go.RowKit Go.Proofs.YtgljkbhjbefikaaDoor.PUq Go.Proofs.YtgljkbhjbefikaaDoorW.PrintWords Go.Proofs.YtgljkbhjbefikaaDoorW.PrintLast Go.Proofs.YtgljkbhjbefikaaDoor.Pl Go.Proofs.YtgljkbhjbefikaaDoor.By
open Go.Lib (decodeN decodeN_shape decode_N decodeL decodeL_drop)
set_option linter.unusedSimpArgs false
set_option linter.unusedVariables false
set_option linter.unusedSectionVars false

theorem btg (s : ByteArray) (p : Nat) : bt s (p : Int) = ((s.data.toList.getD p 0).toNat : Int) := by
  unfold bt
  rw [Int.toNat_natCast]
  by_cases h : p < s.size
  · rw [dif_pos h]
    have : s.data.toList.getD p 0 = s[p]'h := by
      rw [List.getD_eq_getElem?_getD, List.getElem?_eq_getElem (by rw [Array.length_toList]; exact h)]
      rfl
    rw [this]
  · rw [dif_neg h, List.getD_eq_getElem?_getD, List.getElem?_eq_none (by rw [Array.length_toList]; exact Nat.not_lt.1 h)]
    rfl
def cres (p : Nat × Nat) : Int × Int × Bool := if p.1 = 65533 ∧ p.2 = 1 then (65533, 1, false) else ((p.1 : Int), (p.2 : Int), true)
section
variable (s : ByteArray) (i : Nat) (hs : s.size ≤ 1099511627776) (hi : i < s.size)
include hs hi
theorem c_ok (x7 x8 x9 : Int) (j : Nat) (b : Nat) (hj : (j : Int) ≤ x8) (hj3 : j ≤ 3) (hlt : i + j < s.size) (hb : Aside0 (bt s ((i + j : Nat) : Int) = (b : Int))) (h1 : 128 ≤ b) (h2 : b ≤ 191) (hx : 0 ≤ x7) (hx2 : x7 ≤ 1114111) {r : Int × Int × Bool}
    (h : Ev (fun k => spec_Character.l0 k s (i : Int) (x7 * 64 + (b : Int) - 128) x8 x9 ((j + 1 : Nat) : Int)) r) : Ev (fun k => spec_Character.l0 k s (i : Int) x7 x8 x9 (j : Int)) r := by
  refine Ev_up ?_
  have e1 : wrap64 ((i : Int) + (j : Int)) = ((i + j : Nat) : Int) := by rw [w64 (by omega) (by omega)]; omega
  have e2 : wrap64 ((b : Nat) : Int) = (b : Int) := w64 (by omega) (by omega)
  have e3 : wrap64 (wrap64 (wrap64 (x7 * 64) + (b : Int)) - 128) = x7 * 64 + (b : Int) - 128 := by
    rw [w64 (x := x7 * 64) (by omega) (by omega), w64 (x := x7 * 64 + (b : Int)) (by omega) (by omega), w64 (by omega) (by omega)]
  have e4 : wrap64 ((j : Int) + 1) = ((j + 1 : Nat) : Int) := by rw [w64 (by omega) (by omega)]; omega
  simp only [spec_Character.l0, if_pos hj, e1, if_pos (show (0 : Int) ≤ ((i + j : Nat) : Int) by omega), if_pos (show ((i + j : Nat) : Int) < (s.size : Int) by omega), hb.out, e2, if_neg (show ¬ (b : Int) < 128 by omega), if_neg (show ¬ (b : Int) > 191 by omega), e3, e4]
  exact h
theorem c_bad (x7 x8 x9 : Int) (j : Nat) (b : Nat) (hj : (j : Int) ≤ x8) (hj3 : j ≤ 3) (hlt : i + j < s.size) (hb : Aside0 (bt s ((i + j : Nat) : Int) = (b : Int))) (hbb : b ≤ 255) (h : b < 128 ∨ 191 < b) :
    Ev (fun k => spec_Character.l0 k s (i : Int) x7 x8 x9 (j : Int)) (65533, 1, false) := by
  refine Ev_up ?_
  have e1 : wrap64 ((i : Int) + (j : Int)) = ((i + j : Nat) : Int) := by rw [w64 (by omega) (by omega)]; omega
  have e2 : wrap64 ((b : Nat) : Int) = (b : Int) := w64 (by omega) (by omega)
  simp only [spec_Character.l0, if_pos hj, e1, if_pos (show (0 : Int) ≤ ((i + j : Nat) : Int) by omega), if_pos (show ((i + j : Nat) : Int) < (s.size : Int) by omega), hb.out, e2]
  by_cases h1 : (b : Int) < 128
  · simp only [if_pos h1]; exact Ev_some rfl
  · simp only [if_neg h1, if_pos (show (b : Int) > 191 by omega)]; exact Ev_some rfl
theorem c_end (x7 x8 x9 : Int) (j : Nat) (hj : x8 < (j : Int)) (h8 : 0 ≤ x8) (h8' : x8 ≤ 3) :
    Ev (fun k => spec_Character.l0 k s (i : Int) x7 x8 x9 (j : Int)) (if x9 ≤ x7 ∧ x7 ≤ 1114111 ∧ (x7 < 55296 ∨ 57344 ≤ x7) then (x7, x8 + 1, true) else (65533, 1, false)) := by
  refine Ev_up ?_
  have e4 : wrap64 (x8 + 1) = x8 + 1 := w64 (by omega) (by omega)
  simp only [spec_Character.l0, if_neg (show ¬ (j : Int) ≤ x8 by omega), e4]
  by_cases h1 : x7 < x9
  · simp only [if_pos h1]; rw [if_neg (by omega)]; exact Ev_some rfl
  simp only [if_neg h1]
  by_cases h2 : x7 > 1114111
  · simp only [if_pos h2]; rw [if_neg (by omega)]; exact Ev_some rfl
  simp only [if_neg h2, spec_high.f, spec_low.f]
  by_cases h3 : 55296 ≤ x7
  · simp only [if_pos h3, Option.bind_some]
    by_cases h4 : x7 ≤ 56319
    · simp only [decide_eq_true h4, if_true]; rw [if_neg (by omega)]; exact Ev_some rfl
    · simp only [decide_eq_false h4, if_neg (show ¬ (false = true) by decide), if_pos (show 56320 ≤ x7 by omega), Option.bind_some]
      by_cases h5 : x7 ≤ 57343
      · simp only [decide_eq_true h5, if_true]; rw [if_neg (by omega)]; exact Ev_some rfl
      · simp only [decide_eq_false h5, if_neg (show ¬ (false = true) by decide)]; rw [if_pos (by omega)]; exact Ev_some rfl
  · simp only [if_neg h3, Option.bind_some, if_neg (show ¬ (false = true) by decide), if_neg (show ¬ 56320 ≤ x7 by omega)]
    rw [if_pos (by omega)]; exact Ev_some rfl
end

set_option maxHeartbeats 4000000 in
theorem charS (s : ByteArray) (i : Nat) (hs : s.size ≤ 1099511627776) (hi : i < s.size) : Ev (fun k => spec_Character.f k s (i : Int)) (cres (Utf8.decode s i)) := by
  rw [decode_N]
  obtain ⟨n, hn⟩ : ∃ n, s.data.toList.length - i = n := ⟨_, rfl⟩
  have hnz : n = s.size - i := by rw [← hn, Array.length_toList]; rfl
  have q0 := Aside0.mk (btg s i); have q1 := Aside0.mk (btg s (i + 1)); have q2 := Aside0.mk (btg s (i + 2)); have q3 := Aside0.mk (btg s (i + 3))
  have k0 := (s.data.toList.getD i 0).toNat_lt
  have k1 := (s.data.toList.getD (i + 1) 0).toNat_lt
  have k2 := (s.data.toList.getD (i + 2) 0).toNat_lt
  have k3 := (s.data.toList.getD (i + 3) 0).toNat_lt
  rw [hn]
  clear hn
  generalize (s.data.toList.getD i 0).toNat = b0 at *
  generalize (s.data.toList.getD (i + 1) 0).toNat = b1 at *
  generalize (s.data.toList.getD (i + 2) 0).toNat = b2 at *
  generalize (s.data.toList.getD (i + 3) 0).toNat = b3 at *
  have bad : (¬ b0 < 128) → (194 ≤ b0 → b0 < 224 → 1 < n → b1 / 64 = 2 → False) → (b0 / 16 = 14 → 2 < n → b1 / 64 = 2 → b2 / 64 = 2 → 2048 ≤ b0 % 16 * 4096 + b1 % 64 * 64 + b2 % 64 → (b0 % 16 * 4096 + b1 % 64 * 64 + b2 % 64 < 55296 ∨ 57344 ≤ b0 % 16 * 4096 + b1 % 64 * 64 + b2 % 64) → False) → (b0 / 8 = 30 → 3 < n → b1 / 64 = 2 → b2 / 64 = 2 → b3 / 64 = 2 → 65536 ≤ b0 % 8 * 262144 + b1 % 64 * 4096 + b2 % 64 * 64 + b3 % 64 → b0 % 8 * 262144 + b1 % 64 * 4096 + b2 % 64 * 64 + b3 % 64 ≤ 1114111 → False) → cres (decodeN n b0 b1 b2 b3) = (65533, 1, false) := by
    intro h1 h2 h3 h4
    have e : decodeN n b0 b1 b2 b3 = (65533, 1) := by
      rcases decodeN_shape n b0 b1 b2 b3 with ⟨c, e⟩ | ⟨c1, c2, c3, cv, e⟩ | ⟨c1, c2, c3, c4, cv, cs, e⟩ | ⟨c1, c2, c3, c4, c5, cv, cw, e⟩ | e
      · exact absurd c h1
      · exact (h2 (by omega) (by omega) c2 c3).elim
      · exact (h3 c1 c2 c3 c4 cv cs).elim
      · exact (h4 c1 c2 c3 c4 c5 cv cw).elim
      · exact e
    rw [e]; rfl
  have e0 : wrap64 (b0 : Int) = (b0 : Int) := w64 (by omega) (by omega)
  have ez : wrap64 ((s.size : Int) - (i : Int)) = (n : Int) := by rw [w64 (by omega) (by omega)]; omega
  unfold spec_Character.f
  simp only [if_pos (show (0 : Int) ≤ (i : Int) by omega), if_pos (show (i : Int) < (s.size : Int) by omega), q0.out, e0]
  by_cases hA : b0 < 128
  · simp only [if_pos (show (b0 : Int) < 128 by omega)]
    have e : decodeN n b0 b1 b2 b3 = (b0, 1) := by unfold decodeN; rw [if_pos hA]
    rw [e]
    refine Ev_some ?_
    unfold cres
    rw [if_neg (by simp only; omega)]
    rfl
  simp only [if_neg (show ¬ (b0 : Int) < 128 by omega)]
  by_cases hB : 194 ≤ b0 ∧ b0 ≤ 223
  · simp only [if_pos (show (194 : Int) ≤ (b0 : Int) by omega), decide_eq_true (show (b0 : Int) ≤ 223 by omega)]
    refine Ev_up ?_
    have e5 : wrap64 ((b0 : Int) - 192) = (b0 : Int) - 192 := w64 (by omega) (by omega)
    simp only [spec_Character.j0, if_true, e5]
    refine Ev_up ?_
    simp only [spec_Character.j2, ez]
    by_cases hn1 : n ≤ 1
    · simp only [if_pos (show (n : Int) ≤ 1 by omega)]
      rw [bad hA (by omega) (by omega) (by omega)]; exact Ev_some rfl
    simp only [if_neg (show ¬ (n : Int) ≤ 1 by omega)]
    by_cases hc : b1 / 64 = 2
    · refine c_ok s i hs hi _ 1 128 1 b1 (by omega) (by omega) (by omega) q1 (by omega) (by omega) (by omega) (by omega) ?_
      have := c_end s i hs hi (((b0 : Int) - 192) * 64 + (b1 : Int) - 128) 1 128 2 (by omega) (by omega) (by omega)
      rw [if_pos (by omega)] at this
      have e : decodeN n b0 b1 b2 b3 = (b0 % 32 * 64 + b1 % 64, 2) := by unfold decodeN; rw [if_neg hA, if_pos (by omega), if_pos (by omega)]
      rw [e]
      unfold cres
      rw [if_neg (by simp only; omega)]
      have e6 : ((b0 : Int) - 192) * 64 + (b1 : Int) - 128 = ((b0 % 32 * 64 + b1 % 64 : Nat) : Int) := by omega
      rw [e6] at this ⊢
      exact this
    · rw [bad hA (by omega) (by omega) (by omega)]
      exact c_bad s i hs hi _ 1 128 1 b1 (by omega) (by omega) (by omega) q1 (by omega) (by omega)
  have j1bad : ∀ v : Bool, (v = true → False) → (¬ (240 ≤ b0 ∧ b0 ≤ 244)) → Ev (fun k => spec_Character.j1 k s (i : Int) (b0 : Int) v) (65533, 1, false) := by
    intro v hv h4
    refine Ev_up ?_
    cases v with
    | true => exact (hv rfl).elim
    | false =>
      simp only [spec_Character.j1, if_neg (show ¬ (false = true) by decide)]
      by_cases h5 : (240 : Int) ≤ (b0 : Int)
      · simp only [if_pos h5, if_neg (show ¬ (b0 : Int) ≤ 244 by omega)]; exact Ev_some rfl
      · simp only [if_neg h5]; exact Ev_some rfl
  have toj0 : ∀ r, Ev (fun k => spec_Character.j0 k s (i : Int) (b0 : Int) false) r → Ev (fun k => if (194 : Int) ≤ (b0 : Int) then spec_Character.j0 k s (i : Int) (b0 : Int) (decide ((b0 : Int) ≤ 223)) else spec_Character.j0 k s (i : Int) (b0 : Int) false) r := by
    intro r h
    by_cases h1 : (194 : Int) ≤ (b0 : Int)
    · simp only [if_pos h1, decide_eq_false (show ¬ (b0 : Int) ≤ 223 by omega)]; exact h
    · simp only [if_neg h1]; exact h
  refine toj0 _ ?_
  refine Ev_up ?_
  simp only [spec_Character.j0, if_neg (show ¬ (false = true) by decide)]
  by_cases hC : 224 ≤ b0 ∧ b0 ≤ 239
  · simp only [if_pos (show (224 : Int) ≤ (b0 : Int) by omega), decide_eq_true (show (b0 : Int) ≤ 239 by omega)]
    refine Ev_up ?_
    have e5 : wrap64 ((b0 : Int) - 224) = (b0 : Int) - 224 := w64 (by omega) (by omega)
    simp only [spec_Character.j1, if_true, e5]
    refine Ev_up ?_
    simp only [spec_Character.j2, ez]
    by_cases hn1 : n ≤ 2
    · simp only [if_pos (show (n : Int) ≤ 2 by omega)]
      rw [bad hA (by omega) (by omega) (by omega)]; exact Ev_some rfl
    simp only [if_neg (show ¬ (n : Int) ≤ 2 by omega)]
    by_cases hc : b1 / 64 = 2
    · refine c_ok s i hs hi _ 2 2048 1 b1 (by omega) (by omega) (by omega) q1 (by omega) (by omega) (by omega) (by omega) ?_
      by_cases hc2 : b2 / 64 = 2
      · refine c_ok s i hs hi _ 2 2048 2 b2 (by omega) (by omega) (by omega) q2 (by omega) (by omega) (by omega) (by omega) ?_
        have := c_end s i hs hi ((((b0 : Int) - 224) * 64 + (b1 : Int) - 128) * 64 + (b2 : Int) - 128) 2 2048 3 (by omega) (by omega) (by omega)
        have e6 : (((b0 : Int) - 224) * 64 + (b1 : Int) - 128) * 64 + (b2 : Int) - 128 = ((b0 % 16 * 4096 + b1 % 64 * 64 + b2 % 64 : Nat) : Int) := by omega
        rw [e6] at this ⊢
        by_cases hv : b0 % 16 * 4096 + b1 % 64 * 64 + b2 % 64 ≥ 2048 ∧ (b0 % 16 * 4096 + b1 % 64 * 64 + b2 % 64 < 55296 ∨ 57344 ≤ b0 % 16 * 4096 + b1 % 64 * 64 + b2 % 64)
        · rw [if_pos (by omega)] at this
          have e : decodeN n b0 b1 b2 b3 = (b0 % 16 * 4096 + b1 % 64 * 64 + b2 % 64, 3) := by unfold decodeN; rw [if_neg hA, if_neg (by omega), if_pos (by omega), if_pos (by omega)]
          rw [e]
          unfold cres
          rw [if_neg (by simp only; omega)]
          exact this
        · rw [if_neg (by omega)] at this
          rw [bad hA (by omega) (by omega) (by omega)]; exact this
      · rw [bad hA (by omega) (by omega) (by omega)]
        exact c_bad s i hs hi _ 2 2048 2 b2 (by omega) (by omega) (by omega) q2 (by omega) (by omega)
    · rw [bad hA (by omega) (by omega) (by omega)]
      exact c_bad s i hs hi _ 2 2048 1 b1 (by omega) (by omega) (by omega) q1 (by omega) (by omega)
  have toj1 : ∀ r, Ev (fun k => spec_Character.j1 k s (i : Int) (b0 : Int) false) r → Ev (fun k => if (224 : Int) ≤ (b0 : Int) then spec_Character.j1 k s (i : Int) (b0 : Int) (decide ((b0 : Int) ≤ 239)) else spec_Character.j1 k s (i : Int) (b0 : Int) false) r := by
    intro r h
    by_cases h1 : (224 : Int) ≤ (b0 : Int)
    · simp only [if_pos h1, decide_eq_false (show ¬ (b0 : Int) ≤ 239 by omega)]; exact h
    · simp only [if_neg h1]; exact h
  refine toj1 _ ?_
  by_cases hD : 240 ≤ b0 ∧ b0 ≤ 244
  · refine Ev_up ?_
    have e5 : wrap64 ((b0 : Int) - 240) = (b0 : Int) - 240 := w64 (by omega) (by omega)
    simp only [spec_Character.j1, if_neg (show ¬ (false = true) by decide), if_pos (show (240 : Int) ≤ (b0 : Int) by omega), if_pos (show (b0 : Int) ≤ 244 by omega), e5]
    refine Ev_up ?_
    simp only [spec_Character.j2, ez]
    by_cases hn1 : n ≤ 3
    · simp only [if_pos (show (n : Int) ≤ 3 by omega)]
      rw [bad hA (by omega) (by omega) (by omega)]; exact Ev_some rfl
    simp only [if_neg (show ¬ (n : Int) ≤ 3 by omega)]
    by_cases hc : b1 / 64 = 2
    · refine c_ok s i hs hi _ 3 65536 1 b1 (by omega) (by omega) (by omega) q1 (by omega) (by omega) (by omega) (by omega) ?_
      by_cases hc2 : b2 / 64 = 2
      · refine c_ok s i hs hi _ 3 65536 2 b2 (by omega) (by omega) (by omega) q2 (by omega) (by omega) (by omega) (by omega) ?_
        by_cases hc3 : b3 / 64 = 2
        · refine c_ok s i hs hi _ 3 65536 3 b3 (by omega) (by omega) (by omega) q3 (by omega) (by omega) (by omega) (by omega) ?_
          have := c_end s i hs hi (((((b0 : Int) - 240) * 64 + (b1 : Int) - 128) * 64 + (b2 : Int) - 128) * 64 + (b3 : Int) - 128) 3 65536 4 (by omega) (by omega) (by omega)
          have e6 : ((((b0 : Int) - 240) * 64 + (b1 : Int) - 128) * 64 + (b2 : Int) - 128) * 64 + (b3 : Int) - 128 = ((b0 % 8 * 262144 + b1 % 64 * 4096 + b2 % 64 * 64 + b3 % 64 : Nat) : Int) := by omega
          rw [e6] at this ⊢
          by_cases hv : b0 % 8 * 262144 + b1 % 64 * 4096 + b2 % 64 * 64 + b3 % 64 ≥ 65536 ∧ b0 % 8 * 262144 + b1 % 64 * 4096 + b2 % 64 * 64 + b3 % 64 ≤ 1114111
          · rw [if_pos (by omega)] at this
            have e : decodeN n b0 b1 b2 b3 = (b0 % 8 * 262144 + b1 % 64 * 4096 + b2 % 64 * 64 + b3 % 64, 4) := by unfold decodeN; rw [if_neg hA, if_neg (by omega), if_neg (by omega), if_pos (by omega), if_pos (by omega)]
            rw [e]
            unfold cres
            rw [if_neg (by simp only; omega)]
            exact this
          · rw [if_neg (by omega)] at this
            rw [bad hA (by omega) (by omega) (by omega)]; exact this
        · rw [bad hA (by omega) (by omega) (by omega)]
          exact c_bad s i hs hi _ 3 65536 3 b3 (by omega) (by omega) (by omega) q3 (by omega) (by omega)
      · rw [bad hA (by omega) (by omega) (by omega)]
        exact c_bad s i hs hi _ 3 65536 2 b2 (by omega) (by omega) (by omega) q2 (by omega) (by omega)
    · rw [bad hA (by omega) (by omega) (by omega)]
      exact c_bad s i hs hi _ 3 65536 1 b1 (by omega) (by omega) (by omega) q1 (by omega) (by omega)
  · rw [bad hA (by omega) (by omega) (by omega)]
    exact j1bad false (fun h => by cases h) hD

theorem utf8S (s : ByteArray) (hs : s.size ≤ 1099511627776) : ∀ (d i : Nat), i ≤ s.size → s.size - i ≤ d → Ev (fun k => spec_UTF8.l0 k s (i : Int)) (vdF d (s.data.toList.drop i)) := by
  have hlen : s.data.toList.length = s.size := by rw [Array.length_toList]; rfl
  intro d
  induction d with
  | zero =>
    intro i hi hd
    refine Ev_up ?_
    simp only [spec_UTF8.l0, if_neg (show ¬ (i : Int) < (s.size : Int) by omega)]
    exact Ev_some rfl
  | succ d ih =>
    intro i hi hd
    refine Ev_up ?_
    by_cases hlt : i < s.size
    · simp only [spec_UTF8.l0, if_pos (show (i : Int) < (s.size : Int) by omega)]
      refine Ev.bind (charS s i hs hlt) ?_
      have hne : s.data.toList.drop i ≠ [] := by
        intro h
        have := List.drop_eq_nil_iff.1 h
        omega
      simp only [vdF, if_neg hne, decodeL_drop]
      by_cases hb : (Utf8.decode s i).1 = 65533 ∧ (Utf8.decode s i).2 = 1
      · simp only [cres, if_pos hb, if_neg (show ¬ (false = true) by decide)]
        exact Ev_some rfl
      · have hw := dec_w s i hlt
        simp only [cres, if_neg hb, if_true]
        have e1 : wrap64 ((i : Int) + ((Utf8.decode s i).2 : Int)) = ((i + (Utf8.decode s i).2 : Nat) : Int) := by rw [w64 (by omega) (by omega)]; omega
        simp only [e1]
        rw [List.drop_drop]
        exact ih _ hw.2 (by omega)
    · simp only [spec_UTF8.l0, if_neg (show ¬ (i : Int) < (s.size : Int) by omega)]
      rw [List.drop_eq_nil_of_le (by omega)]
      exact Ev_some rfl
end Go.Proofs.YtgljkbhjbefikaaDoor.Uq

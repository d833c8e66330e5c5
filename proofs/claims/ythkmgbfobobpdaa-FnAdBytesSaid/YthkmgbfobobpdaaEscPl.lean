import Derived.Test.YthkmgbfobobpdaaPAex1
import Derived.Test.YthkmgbfobobpdaaPl
import Derived.Laws.BytesArg
namespace Go.Proofs.Ythkmgbfobobpdaa.Given
open Go.RowKit Go.Proofs.YthkmgbfobobpdaaW.PrintWords Go.Proofs.Ythkmgbfobobpdaa.PAe Go.Proofs.Ythkmgbfobobpdaa.Pl

/-- Must a byte be escaped? -/
def ne (c : Int) : Bool := !(decide (97 ≤ c ∧ c ≤ 122) || decide (65 ≤ c ∧ c ≤ 90) || decide (48 ≤ c ∧ c ≤ 57) || decide (c = 45 ∨ c = 95 ∨ c = 47 ∨ c = 92 ∨ c = 46 ∨ c = 42))
def hx (c : Int) : Int := bt (⟨#[48, 49, 50, 51, 52, 53, 54, 55, 56, 57, 97, 98, 99, 100, 101, 102]⟩ : ByteArray) c
/-- One byte, escaped. -/
def esc1 (c : Int) : List Int := if ne c = true then [37, hx (c / 16), hx (c % 16)] else [c]
/-- The first bytes of a text, escaped. -/
def escB (s : ByteArray) : Nat → List Int
  | 0 => []
  | i + 1 => escB s i ++ esc1 (bt s (i : Int))
def nEsc (s : ByteArray) : Nat → Nat
  | 0 => 0
  | i + 1 => nEsc s i + (if ne (bt s (i : Int)) = true then 1 else 0)
theorem esc1_len (c : Int) : (esc1 c).length = 1 + 2 * (if ne c = true then 1 else 0) := by
  unfold esc1; split <;> simp
theorem escB_len (s : ByteArray) (i : Nat) : (escB s i).length = i + 2 * nEsc s i := by
  induction i with
  | zero => rfl
  | succ i ih => rw [escB, nEsc, List.length_append, ih, esc1_len]; omega
theorem nEsc_le (s : ByteArray) (i : Nat) : nEsc s i ≤ i := by
  induction i with
  | zero => exact Nat.le_refl _
  | succ i ih => rw [nEsc]; split <;> omega
theorem escB_mono (s : ByteArray) {i j : Nat} (h : i ≤ j) : (escB s i).length ≤ (escB s j).length := by
  induction j with
  | zero => obtain rfl : i = 0 := by omega
            exact Nat.le_refl _
  | succ j ih =>
    by_cases e : i = j + 1
    · subst e; exact Nat.le_refl _
    · have := ih (by omega); rw [escB, List.length_append]; omega

theorem ne_f (k : Nat) (c : Int) : dbus_needsEscape.f (k + 1) c = some (ne c) := by
  have j1 : dbus_needsEscape.j0 (k + 1) c true = some false := by simp [dbus_needsEscape.j0]
  have j0 : dbus_needsEscape.j0 (k + 1) c false = some (!decide (c = 45 ∨ c = 95 ∨ c = 47 ∨ c = 92 ∨ c = 46 ∨ c = 42)) := by
    simp only [dbus_needsEscape.j0]
    by_cases h : c = 45 ∨ c = 95 ∨ c = 47 ∨ c = 92 ∨ c = 46 ∨ c = 42
    · rw [decide_eq_true h]
      rcases h with rfl | rfl | rfl | rfl | rfl | rfl <;> rfl
    · rw [decide_eq_false h, if_neg (show ¬ (false = true) by decide), if_neg (by omega), if_neg (by omega), if_neg (by omega), if_neg (by omega), if_neg (by omega), if_neg (by omega)]
      rfl
  have jd : ∀ b : Bool, dbus_needsEscape.j0 (k + 1) c b = some (!(b || decide (c = 45 ∨ c = 95 ∨ c = 47 ∨ c = 92 ∨ c = 46 ∨ c = 42))) := by
    intro b; cases b
    · rw [j0]; rfl
    · rw [j1]; rfl
  unfold dbus_needsEscape.f
  simp only [jd]
  unfold ne
  by_cases h1 : 97 ≤ c <;> by_cases h2 : c ≤ 122 <;> by_cases h3 : 65 ≤ c <;> by_cases h4 : c ≤ 90 <;> by_cases h5 : 48 ≤ c <;> by_cases h6 : c ≤ 57 <;> simp [h1, h2, h3, h4, h5, h6]

theorem hex_f (c : Int) (h : 0 ≤ c ∧ c < 16) : dbus_hexchar.f c = some (hx c) := by
  unfold dbus_hexchar.f; rw [if_pos h.1, if_pos h.2]; rfl

theorem needs_go (s : ByteArray) (hs : s.size ≤ 4611686018427387904) (d : Nat) : ∀ i : Nat, i ≤ s.size → s.size - i = d → Ev (fun k => dbus_strNeedsEscape.l0 k s (nEsc s i : Int) (i : Int)) (nEsc s s.size : Int) := by
  induction d with
  | zero =>
    intro i h hd
    obtain rfl : i = s.size := by omega
    refine Ev_up ?_
    simp only [dbus_strNeedsEscape.l0, if_neg (show ¬ (s.size : Int) < (s.size : Int) by omega)]
    exact Ev.now _
  | succ d ih =>
    intro i h hd
    have hlt : (i : Int) < (s.size : Int) := by omega
    have hle := nEsc_le s i
    have e1 : wrap64 ((i : Int) + 1) = ((i + 1 : Nat) : Int) := by rw [w64 (by omega) (by omega)]; omega
    have e2 : wrap64 ((nEsc s i : Int) + 1) = ((nEsc s i + 1 : Nat) : Int) := by rw [w64 (by omega) (by omega)]; omega
    have := ih (i + 1) (by omega) (by omega)
    rw [nEsc] at this
    refine Ev_up ?_
    simp only [dbus_strNeedsEscape.l0, if_pos hlt, if_pos (show (0 : Int) ≤ (i : Int) by omega), e1, e2]
    refine Ev.bind (a := ne (bt s (i : Int))) (Ev_up ?_) ?_
    · simp only [ne_f]; exact Ev.now _
    · by_cases hn : ne (bt s (i : Int)) = true
      · simp only [if_pos hn] at this ⊢; exact this
      · simp only [if_neg hn] at this ⊢; exact this

theorem needs_f (s : ByteArray) (hs : s.size ≤ 4611686018427387904) : ∃ k, dbus_strNeedsEscape.f k s = some (nEsc s s.size : Int) := by
  refine Ev.rounds ?_
  simp only [dbus_strNeedsEscape.f]
  exact needs_go s hs s.size 0 (by omega) (by omega)

/-- A text in which nothing is to be escaped. -/
theorem escB_plain (s : ByteArray) : ∀ i : Nat, i ≤ s.size → nEsc s i = 0 → escB s i = (bytesOf s).take i := by
  intro i
  induction i with
  | zero => intro _ _; rfl
  | succ i ih =>
    intro h h0
    rw [nEsc] at h0
    have hn : ¬ ne (bt s (i : Int)) = true := by intro z; rw [if_pos z] at h0; omega
    rw [escB, ih (by omega) (by omega), esc1, if_neg hn, List.take_add_one]
    have hl : i < (bytesOf s).length := by rw [bytesOf_length]; omega
    have := rd_bytesOf s (i : Int)
    rw [List.getElem?_eq_getElem hl]
    simp only [rd, Int.toNat_natCast, List.getD_eq_getElem?_getD, List.getElem?_eq_getElem hl, Option.getD_some] at this
    rw [this]; rfl
theorem str_bytes (s : ByteArray) : strOfNums (bytesOf s) = s := by
  unfold strOfNums bytesOf
  rw [List.map_map]
  have : (fun b : UInt8 => UInt8.ofNat (b.toNat : Int).toNat) = id := by funext b; simp
  rw [show ((fun n : Int => UInt8.ofNat n.toNat) ∘ fun b : UInt8 => (b.toNat : Int)) = id from this]
  simp
theorem esc_plain (s : ByteArray) (h : nEsc s s.size = 0) : strOfNums (escB s s.size) = s := by
  rw [escB_plain s s.size (Nat.le_refl _) h, List.take_of_length_le (by rw [bytesOf_length]; exact Nat.le_refl _), str_bytes]
def EscapeBus.f (s : ByteArray) : Option ByteArray := if s.size ≤ 1099511627776 then some (strOfNums (escB s s.size)) else none
end Go.Proofs.Ythkmgbfobobpdaa.Given

import Derived.Test.YthkblpbabcibcaaDoorGvFm
import Derived.Test.YthkblpbabcibcaaDoorUtf
namespace Go.Proofs.YthkblpbabcibcaaDoor.Bm
open Go.RowKit Go.Proofs.YthkblpbabcibcaaDoorW.PrintWords Go.Proofs.YthkblpbabcibcaaDoor.Given Go.Proofs.YthkblpbabcibcaaDoor.Utf

/-- Byte by byte: where the mark stands that closes the last open one. -/
def bm (s : ByteArray) (L R : Int) : Nat → Nat → Int → Int
  | 0, _, _ => -1
  | d + 1, pos, n => if bt s (pos : Int) = L then bm s L R d (pos + 1) (n + 1) else if bt s (pos : Int) = R then (if n - 1 = 0 then (pos : Int) else bm s L R d (pos + 1) (n - 1)) else bm s L R d (pos + 1) n

theorem bm_skip (s : ByteArray) (L R : Int) (hL : L ≤ 127) (hR : R ≤ 127) (n : Int) : ∀ (w pos : Nat), (∀ j, j < w → pos + j < s.size ∧ 128 ≤ bt s ((pos + j : Nat) : Int)) → bm s L R (s.size - pos) pos n = bm s L R (s.size - (pos + w)) (pos + w) n := by
  intro w
  induction w with
  | zero => intro pos _; rfl
  | succ w ih =>
    intro pos h
    have h0 := h 0 (by omega)
    rw [Nat.add_zero] at h0
    obtain ⟨d, hd⟩ : ∃ d, s.size - pos = d + 1 := ⟨s.size - pos - 1, by omega⟩
    rw [hd, bm, if_neg (by omega), if_neg (by omega)]
    have := ih (pos + 1) (fun j hj => by have := h (j + 1) (by omega); rw [show pos + 1 + j = pos + (j + 1) by omega]; exact this)
    rw [show s.size - (pos + 1) = d by omega] at this
    rw [this, show pos + 1 + w = pos + (w + 1) by omega]

theorem fm_bm (s : ByteArray) (L R : Int) (hL : L ≤ 127) (hR : R ≤ 127) : ∀ (b pos : Nat) (n : Int), 1 ≤ n → s.size ≤ pos + b → fmGo s L R b pos n = bm s L R (s.size - pos) pos n := by
  intro b
  induction b with
  | zero => intro pos n _ h; rw [show s.size - pos = 0 by omega]; rfl
  | succ b ih =>
    intro pos n hn h
    by_cases hp : pos < s.size
    · obtain ⟨d, hd⟩ : ∃ d, s.size - pos = d + 1 := ⟨s.size - pos - 1, by omega⟩
      by_cases ha : 128 ≤ bt s (pos : Int)
      · obtain ⟨h1, h2, h3⟩ := decode_cont s pos hp ha
        rw [fmGo, if_pos hp, if_neg (by omega), if_neg (by omega), if_neg (by omega), ih _ _ hn (by omega)]
        exact (bm_skip s L R hL hR n _ pos h3).symm
      · have e : Utf8.decode s pos = ((s[pos]'hp).toNat, 1) := decode_ascii s pos hp (by rw [bt_nat hp] at ha; omega)
        have e2 : (((s[pos]'hp).toNat : Nat) : Int) = bt s (pos : Int) := (bt_nat hp).symm
        rw [fmGo, if_pos hp, e, hd, bm]
        simp only [e2]
        have hd' : s.size - (pos + 1) = d := by omega
        by_cases c1 : bt s (pos : Int) = L
        · rw [if_pos c1, if_pos c1, if_neg (by omega), ih _ _ (by omega) (by omega), hd']
        · rw [if_neg c1, if_neg c1]
          by_cases c2 : bt s (pos : Int) = R
          · rw [if_pos c2, if_pos c2]
            by_cases c3 : n - 1 = 0
            · rw [if_pos c3, if_pos c3]
            · rw [if_neg c3, if_neg c3, ih _ _ (by omega) (by omega), hd']
          · rw [if_neg c2, if_neg c2, if_neg (by omega), ih _ _ hn (by omega), hd']
    · rw [fmGo_end s L R _ pos n hp, show s.size - pos = 0 by omega]; rfl

/-- The search in a text that begins with the left mark. -/
theorem fm_first (s : ByteArray) (L R : Int) (hL : L ≤ 127) (hR : R ≤ 127) (h0 : 0 < s.size) (hb : bt s 0 = L) : fmGo s L R s.size 0 0 = bm s L R (s.size - 1) 1 1 := by
  obtain ⟨d, hd⟩ : ∃ d, s.size = d + 1 := ⟨s.size - 1, by omega⟩
  have hb' : bt s ((0 : Nat) : Int) = L := hb
  have e : Utf8.decode s 0 = ((s[0]'h0).toNat, 1) := decode_ascii s 0 h0 (by rw [bt_nat h0] at hb'; omega)
  have e2 : (((s[0]'h0).toNat : Nat) : Int) = L := by rw [← bt_nat h0]; exact hb'
  have := fm_bm s L R hL hR d (0 + 1) (0 + 1) (by omega) (by omega)
  rw [hd, fmGo, if_pos h0, e]
  simp only [e2, if_true]
  rw [if_neg (by omega), this, hd]; rfl
end Go.Proofs.YthkblpbabcibcaaDoor.Bm

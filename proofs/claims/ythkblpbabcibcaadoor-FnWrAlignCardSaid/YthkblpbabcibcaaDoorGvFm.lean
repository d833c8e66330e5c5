import Derived.Test.YthkblpbabcibcaaDoorProg
import Derived.Test.YthkblpbabcibcaaDoorWWords
import Derived.WalkKit
import Derived.Below
import Derived.LoopTactic
import Derived.Laws.RangeString
import Derived.Laws.RangeAny

namespace Go.Proofs.YthkblpbabcibcaaDoor.Given
open Go.RowKit Go.Proofs.YthkblpbabcibcaaDoorW.PrintWords

/-- From a place on, with so many marks open: where the mark stands behind which none is open. -/
def fmGo (s : ByteArray) (L R : Int) : Nat → Nat → Int → Int
  | 0, _, _ => -1
  | b + 1, pos, n =>
    if pos < s.size then
      (if ((Utf8.decode s pos).1 : Int) = L then (if n + 1 = 0 then pos else fmGo s L R b (pos + (Utf8.decode s pos).2) (n + 1))
       else if ((Utf8.decode s pos).1 : Int) = R then (if n - 1 = 0 then pos else fmGo s L R b (pos + (Utf8.decode s pos).2) (n - 1))
       else (if n = 0 then pos else fmGo s L R b (pos + (Utf8.decode s pos).2) n))
    else -1

def findMatching.f (s : ByteArray) (L R : Int) : Option Int := if s.size ≤ 4611686018427387904 then some (fmGo s L R s.size 0 0) else none

theorem width_pos (s : ByteArray) (pos : Nat) (h : pos < s.size) : 1 ≤ (Utf8.decode s pos).2 := by
  by_cases ha : (s[pos]'h).toNat < 128
  · rw [decode_ascii s pos h ha]
    exact Nat.le_refl _
  · exact (decode_high s pos h (by omega)).2

theorem fmGo_end (s : ByteArray) (L R : Int) (b pos : Nat) (n : Int) (h : ¬ pos < s.size) : fmGo s L R b pos n = -1 := by
  cases b with
  | zero => rfl
  | succ b => simp [fmGo, h]

section
variable {s : ByteArray} {L R : Int} {b pos : Nat} {n r : Int}
theorem fm_left (hp : pos < s.size) (h1 : (((Utf8.decode s pos).1 : Int) == L) = true) (h : fmGo s L R (b + 1) pos n = r) (h2 : (n + 1 == 0) = true) : (pos : Int) = r := by
  simp only [fmGo, hp, if_true, beq_iff_eq.mp h1, beq_iff_eq.mp h2] at h; exact h
theorem fm_left' (hp : pos < s.size) (h1 : (((Utf8.decode s pos).1 : Int) == L) = true) (h : fmGo s L R (b + 1) pos n = r) (h2 : (n + 1 == 0) = false) : fmGo s L R b (pos + (Utf8.decode s pos).2) (n + 1) = r := by
  simp only [fmGo, hp, if_true, beq_iff_eq.mp h1, beq_eq_false_iff_ne.mp h2, if_false] at h; exact h
theorem fm_right (hp : pos < s.size) (h1 : (((Utf8.decode s pos).1 : Int) == L) = false) (h3 : (((Utf8.decode s pos).1 : Int) == R) = true) (h : fmGo s L R (b + 1) pos n = r) (h2 : (n - 1 == 0) = true) : (pos : Int) = r := by
  simp only [fmGo, hp, if_true, beq_eq_false_iff_ne.mp h1, if_false] at h; rw [if_pos (beq_iff_eq.mp h3), if_pos (beq_iff_eq.mp h2)] at h; exact h
theorem fm_right' (hp : pos < s.size) (h1 : (((Utf8.decode s pos).1 : Int) == L) = false) (h3 : (((Utf8.decode s pos).1 : Int) == R) = true) (h : fmGo s L R (b + 1) pos n = r) (h2 : (n - 1 == 0) = false) : fmGo s L R b (pos + (Utf8.decode s pos).2) (n - 1) = r := by
  simp only [fmGo, hp, if_true, beq_eq_false_iff_ne.mp h1, if_false] at h; rw [if_pos (beq_iff_eq.mp h3), if_neg (beq_eq_false_iff_ne.mp h2)] at h; exact h
theorem fm_other (hp : pos < s.size) (h1 : (((Utf8.decode s pos).1 : Int) == L) = false) (h3 : (((Utf8.decode s pos).1 : Int) == R) = false) (h : fmGo s L R (b + 1) pos n = r) (h2 : (n == 0) = true) : (pos : Int) = r := by
  simp only [fmGo, hp, if_true, beq_eq_false_iff_ne.mp h1, if_false] at h; rw [if_neg (beq_eq_false_iff_ne.mp h3), if_pos (beq_iff_eq.mp h2)] at h; exact h
theorem fm_other' (hp : pos < s.size) (h1 : (((Utf8.decode s pos).1 : Int) == L) = false) (h3 : (((Utf8.decode s pos).1 : Int) == R) = false) (h : fmGo s L R (b + 1) pos n = r) (h2 : (n == 0) = false) : fmGo s L R b (pos + (Utf8.decode s pos).2) n = r := by
  simp only [fmGo, hp, if_true, beq_eq_false_iff_ne.mp h1, if_false] at h; rw [if_neg (beq_eq_false_iff_ne.mp h3), if_neg (beq_eq_false_iff_ne.mp h2)] at h; exact h
end

theorem below_iter (w : World) (s : ByteArray) (pos : Nat) : Below w.heap.size w (w.iter s pos) := (Below.refl _ _).alloc (Nat.le_refl _) _

theorem ret_i64 {a b : Int} (h : a = b) : Ending.returned (.int .i64 a) = .returned (.int .i64 b) := by rw [h]

set_option maxHeartbeats 1000000 in
theorem findMatching.calls (s : ByteArray) (L R : Int) (r : Int) (w : World) (h : findMatching.f s L R = some r) :
    Calls Tryd.prog 23 #[.string s, .int .i32 L, .int .i32 R] w fun e w' => e = .returned (.int .i64 r) ∧ Below w.heap.size w w' := by
  unfold findMatching.f at h
  by_cases hs : s.size ≤ 4611686018427387904
  case neg => rw [if_neg hs] at h; cases h
  rw [if_pos hs] at h
  have H := Aside0.mk (Option.some.inj h)
  clear h
  go_enter Tryd.func23, Tryd.ntmps23
  go_wp2
  go_loopw [7] (fun n w' => ∃ (pos b : Nat) (acc : Int), w' = w.iter s pos ∧ n = .int .i64 acc ∧ Aside0 (fmGo s L R b pos acc = r) ∧ s.size ≤ pos + b ∧ acc ≤ pos ∧ -acc ≤ pos) (fun _ w' => s.size - w'.iterPos w.heap.size)
  case atStart => exact ⟨0, s.size, 0, rfl, rfl, H, by omega, by omega, by omega⟩
  case round =>
    obtain ⟨pos, b, acc, rfl, rfl, hc, hb, ha1, ha2⟩ := hrel
    by_cases hp : pos < s.size
    · have hnx : ∀ ty, (Instr.next (.pointer (some ⟨w.heap.size, 0, none⟩)) true ty).run Tryd.prog (w.iter s pos) = _ := fun ty => run_next_any w s pos ty hp
      have hwd := width_pos s pos hp
      obtain ⟨b, rfl⟩ : ∃ b', b = b' + 1 := ⟨b - 1, by omega⟩
      go_wp2
      · go_ret
        exact ⟨ret_i64 (fm_left hp ‹_› hc.out ‹_›), below_iter w s _⟩
      · go_roundw
        case rel => exact ⟨_, b, _, rfl, rfl, Aside0.mk (fm_left' hp ‹_› hc.out ‹_›), by omega, by omega, by omega⟩
        case measure => simp; omega
      · go_ret
        exact ⟨ret_i64 (fm_right hp (by assumption) (by assumption) hc.out (by assumption)), below_iter w s _⟩
      · go_roundw
        case rel => exact ⟨_, b, _, rfl, rfl, Aside0.mk (fm_right' hp (by assumption) (by assumption) hc.out (by assumption)), by omega, by omega, by omega⟩
        case measure => simp; omega
      · go_ret
        exact ⟨ret_i64 (fm_other hp (by assumption) (by assumption) hc.out (by assumption)), below_iter w s _⟩
      · go_roundw
        case rel => exact ⟨_, b, _, rfl, rfl, Aside0.mk (fm_other' hp (by assumption) (by assumption) hc.out (by assumption)), by omega, by omega, by omega⟩
        case measure => simp; omega
    · have hnx : ∀ ty, (Instr.next (.pointer (some ⟨w.heap.size, 0, none⟩)) true ty).run Tryd.prog (w.iter s pos) = _ := fun ty => run_next_end w s pos ty hp
      go_wp2
      go_ret
      have h1 := hc.out
      rw [fmGo_end s L R b pos acc hp] at h1
      exact ⟨ret_i64 h1, below_iter w s pos⟩
end Go.Proofs.YthkblpbabcibcaaDoor.Given

/- Part of the proof of LawFnSgOfParts. -/
import Derived.Test.YtnojjfklnihmnaaDoorVs
import Derived.Test.YtnojjfklnihmnaaDoorPFnSgOfPartsx4
import Derived.Test.YtnojjfklnihmnaaDoorProg
import Derived.Test.YtnojjfklnihmnaaDoorWWords
import Derived.WalkKit
import Derived.Below
import Derived.LoopTactic
import Derived.Deep.QuietTactic
import Derived.BigQuiet
import Derived.Laws.RangeString
import Derived.Laws.RangeAny
import Derived.Test.YtnojjfklnihmnaaDoorPFnSgOfPartsx1
import Derived.Deep.RegionHeld3
import Derived.Outline
import Derived.Test.YtnojjfklnihmnaaDoorPFnSgOfPartsx2
set_option linter.unusedVariables false
set_option linter.unusedSimpArgs false
section
namespace Go.Proofs.YtnojjfklnihmnaaDoor.Cv
open Go.RowKit Go.Proofs.YtnojjfklnihmnaaDoorW.PrintWords Go.Proofs.YtnojjfklnihmnaaDoor.Pl Go.Proofs.YtnojjfklnihmnaaDoor.PFnSgOfParts Go.Proofs.YtnojjfklnihmnaaDoor.PSp
theorem word_total (c : Int) : ∃ b, spec_word.f c = some b := by
  unfold spec_word.f
  repeat' split
  all_goals exact ⟨_, rfl⟩
theorem path_loop (s : ByteArray) (hs : s.size ≤ 1000000000) : ∀ (d i : Nat), 1 ≤ i → i + d = s.size → ∃ r, Ev (fun k => spec_ValidPath.l0 k s (i : Int)) r := by
  intro d
  induction d with
  | zero =>
    intro i h1 hi
    have q : ¬ (i : Int) < (s.size : Int) := by omega
    refine ⟨true, Ev_up ?_⟩
    simp only [spec_ValidPath.l0, if_neg q]
    exact Ev_some rfl
  | succ d ih =>
    intro i h1 hi
    have q : (i : Int) < (s.size : Int) := by omega
    have q0 : (0 : Int) ≤ (i : Int) := by omega
    have ew : wrap64 ((i : Int) - 1) = ((i - 1 : Nat) : Int) := by rw [w64 (by omega) (by omega)]; omega
    have ep : wrap64 ((i : Int) + 1) = ((i + 1 : Nat) : Int) := by rw [w64 (by omega) (by omega)]; omega
    have q1 : (0 : Int) ≤ ((i - 1 : Nat) : Int) := by omega
    have q2 : ((i - 1 : Nat) : Int) < (s.size : Int) := by omega
    obtain ⟨r, hr⟩ := ih (i + 1) (by omega) (by omega)
    by_cases hb : bt s (i : Int) = 47
    · by_cases hp : bt s ((i - 1 : Nat) : Int) = 47
      · refine ⟨false, Ev_up ?_⟩
        simp only [spec_ValidPath.l0, if_pos q, if_pos q0, if_pos hb, ew, if_pos q1, if_pos q2, if_pos hp]
        exact Ev_some rfl
      · refine ⟨r, Ev_up ?_⟩
        simp only [spec_ValidPath.l0, if_pos q, if_pos q0, if_pos hb, ew, if_pos q1, if_pos q2, if_neg hp, ep]
        exact hr
    · obtain ⟨b, hw⟩ := word_total (bt s (i : Int))
      cases b with
      | false =>
        refine ⟨false, Ev_up ?_⟩
        simp only [spec_ValidPath.l0, if_pos q, if_pos q0, if_neg hb, hw, Option.bind_some, Bool.false_eq_true, if_false]
        exact Ev_some rfl
      | true =>
        refine ⟨r, Ev_up ?_⟩
        simp only [spec_ValidPath.l0, if_pos q, if_pos q0, if_neg hb, hw, Option.bind_some, if_true, ep]
        exact hr
theorem path_total (s : ByteArray) (hs : s.size ≤ 1000000000) : ∃ r, Ev (fun k => spec_ValidPath.f k s) r := by
  unfold spec_ValidPath.f
  by_cases h1 : s.toList = ([47] : List UInt8)
  · exact ⟨true, by simp only [if_pos h1]; exact Ev_some rfl⟩
  by_cases h2 : s.toList = ([] : List UInt8)
  · refine ⟨false, ?_⟩
    simp only [if_neg h1, if_pos h2]
    refine Ev_up ?_
    simp only [spec_ValidPath.j0, if_true]
    exact Ev_some rfl
  have hz : 0 < s.size := by
    refine Nat.pos_of_ne_zero fun e => h2 ?_
    rw [toList_nil]; exact e
  have q : (0 : Int) < (s.size : Int) := by omega
  by_cases h3 : bt s 0 = 47
  · have ew : wrap64 ((s.size : Int) - 1) = ((s.size - 1 : Nat) : Int) := by rw [w64 (by omega) (by omega)]; omega
    have q1 : (0 : Int) ≤ ((s.size - 1 : Nat) : Int) := by omega
    have q2 : ((s.size - 1 : Nat) : Int) < (s.size : Int) := by omega
    obtain ⟨r, hr⟩ := path_loop s hs (s.size - 1) 1 (Nat.le_refl _) (by omega)
    by_cases h4 : (bt s ((s.size - 1 : Nat) : Int) == 47) = true
    · refine ⟨false, ?_⟩
      simp only [if_neg h1, if_neg h2, if_pos q, if_pos h3, ew, if_pos q1, if_pos q2, h4]
      refine Ev_up ?_
      simp only [spec_ValidPath.j0, if_true]
      exact Ev_some rfl
    · refine ⟨r, ?_⟩
      have h5 : (bt s ((s.size - 1 : Nat) : Int) == 47) = false := by simpa using h4
      simp only [if_neg h1, if_neg h2, if_pos q, if_pos h3, ew, if_pos q1, if_pos q2, h5]
      refine Ev_up ?_
      simp only [spec_ValidPath.j0, Bool.false_eq_true, if_false]
      exact hr
  · refine ⟨false, ?_⟩
    simp only [if_neg h1, if_neg h2, if_pos q, if_neg h3]
    refine Ev_up ?_
    simp only [spec_ValidPath.j0, if_true]
    exact Ev_some rfl
end Go.Proofs.YtnojjfklnihmnaaDoor.Cv
end
section
namespace Go.Proofs.YtnojjfklnihmnaaDoor.Given
open Go.RowKit Go.Proofs.YtnojjfklnihmnaaDoorW.PrintWords
structure Dc (w : World) (b : Nat) (a t d : Int) : Prop where
  c0 : w.cell? ⟨b, 0, none⟩ = some (.int .i64 a)
  c1 : w.cell? ⟨b, 1, none⟩ = some (.int .i64 t)
  c2 : w.cell? ⟨b, 2, none⟩ = some (.int .i64 d)
theorem Dc.lt {w : World} {b : Nat} {a t d : Int} (h : Dc w b a t d) : b < w.heap.size := World.block_lt_of_cell? w _ h.c0
theorem Dc.kept {w w' : World} {b : Nat} {a t d : Int} (h : Dc w b a t d) {B : Nat} (hb : Below B w w') (hB : b < B) : Dc w' b a t d :=
  ⟨(hb.cell (p := ⟨b, 0, none⟩) hB).trans h.c0, (hb.cell (p := ⟨b, 1, none⟩) hB).trans h.c1, (hb.cell (p := ⟨b, 2, none⟩) hB).trans h.c2⟩
theorem Valid.calls (b : Nat) (a t d : Int) (v : Bool) (w : World) (h : Dc w b a t d) (hv : (decide (a ≤ 32) && decide (t ≤ 32) && decide (d ≤ 32)) = v) :
    Calls Tryd.prog 33 #[.pointer (some ⟨b, 0, none⟩)] w fun e w' => e = .returned (.bool v) ∧ w' = w := by
  subst hv
  obtain ⟨c0, c1, c2⟩ := h
  cases ha : decide (a ≤ 32) <;> cases ht : decide (t ≤ 32) <;> cases hd : decide (d ≤ 32)
  all_goals
    go_enter Tryd.func33, Tryd.ntmps33
    go_wp2
    go_ret
    exact ⟨rfl, rfl⟩
theorem EnterArray.calls (a t d : Int) (w : World) (ha : -9223372036854775808 ≤ a) (ha2 : a ≤ 32) :
    Calls Tryd.prog 41 #[.agg #[.int .i64 a, .int .i64 t, .int .i64 d]] w fun e w' => e = .returned (.pointer (some ⟨w.heap.size, 0, none⟩)) ∧ w' = w.alloc (.cells #[.int .i64 (a + 1), .int .i64 t, .int .i64 d] 61) := by
  go_enter Tryd.func41, Tryd.ntmps41
  go_wp2
  go_ret
  exact ⟨rfl, rfl⟩
theorem EnterStruct.calls (a t d : Int) (w : World) (ht : -9223372036854775808 ≤ t) (ht2 : t ≤ 32) :
    Calls Tryd.prog 40 #[.agg #[.int .i64 a, .int .i64 t, .int .i64 d]] w fun e w' => e = .returned (.pointer (some ⟨w.heap.size, 0, none⟩)) ∧ w' = w.alloc (.cells #[.int .i64 a, .int .i64 (t + 1), .int .i64 d] 61) := by
  go_enter Tryd.func40, Tryd.ntmps40
  go_wp2
  go_ret
  exact ⟨rfl, rfl⟩
theorem EnterDictEntry.calls (a t d : Int) (w : World) (hd : -9223372036854775808 ≤ d) (hd2 : d ≤ 32) :
    Calls Tryd.prog 44 #[.agg #[.int .i64 a, .int .i64 t, .int .i64 d]] w fun e w' => e = .returned (.pointer (some ⟨w.heap.size, 0, none⟩)) ∧ w' = w.alloc (.cells #[.int .i64 a, .int .i64 t, .int .i64 (d + 1)] 61) := by
  go_enter Tryd.func44, Tryd.ntmps44
  go_wp2
  go_ret
  exact ⟨rfl, rfl⟩
theorem Dc.fresh (w : World) (a t d : Int) (y : TypeId) : Dc (w.alloc (.cells #[.int .i64 a, .int .i64 t, .int .i64 d] y)) w.heap.size a t d := ⟨by simp, by simp, by simp⟩
end Go.Proofs.YtnojjfklnihmnaaDoor.Given
end
section
namespace Go.Proofs.YtnojjfklnihmnaaDoor.Given
open Go.RowKit Go.Proofs.YtnojjfklnihmnaaDoorW.PrintWords
def fmGo (s : ByteArray) (L R : Int) : Nat → Nat → Int → Int
  | 0, _, _ => -1
  | b + 1, pos, n =>
    if pos < s.size then
      (if ((Utf8.decode s pos).1 : Int) = L then (if n + 1 = 0 then pos else fmGo s L R b (pos + (Utf8.decode s pos).2) (n + 1))
       else if ((Utf8.decode s pos).1 : Int) = R then (if n - 1 = 0 then pos else fmGo s L R b (pos + (Utf8.decode s pos).2) (n - 1))
       else (if n = 0 then pos else fmGo s L R b (pos + (Utf8.decode s pos).2) n))
    else -1
def findMatching.f (s : ByteArray) (L R : Int) : Option Int := if s.size ≤ 4611686018427387904 then some (fmGo s L R s.size 0 0) else none
theorem width_pos (s : ByteArray) (pos : Nat) (h : pos < s.size) : 1 ≤ (Utf8.decode s pos).2 := by
  by_cases ha : (s[pos]'h).toNat < 128
  · rw [decode_ascii s pos h ha]
    exact Nat.le_refl _
  · exact (decode_high s pos h (by omega)).2
theorem fmGo_end (s : ByteArray) (L R : Int) (b pos : Nat) (n : Int) (h : ¬ pos < s.size) : fmGo s L R b pos n = -1 := by
  cases b with
  | zero => rfl
  | succ b => simp [fmGo, h]
section
variable {s : ByteArray} {L R : Int} {b pos : Nat} {n r : Int}
theorem fm_left (hp : pos < s.size) (h1 : (((Utf8.decode s pos).1 : Int) == L) = true) (h : fmGo s L R (b + 1) pos n = r) (h2 : (n + 1 == 0) = true) : (pos : Int) = r := by
  simp only [fmGo, hp, if_true, beq_iff_eq.mp h1, beq_iff_eq.mp h2] at h; exact h
theorem fm_left' (hp : pos < s.size) (h1 : (((Utf8.decode s pos).1 : Int) == L) = true) (h : fmGo s L R (b + 1) pos n = r) (h2 : (n + 1 == 0) = false) : fmGo s L R b (pos + (Utf8.decode s pos).2) (n + 1) = r := by
  simp only [fmGo, hp, if_true, beq_iff_eq.mp h1, beq_eq_false_iff_ne.mp h2, if_false] at h; exact h
theorem fm_right (hp : pos < s.size) (h1 : (((Utf8.decode s pos).1 : Int) == L) = false) (h3 : (((Utf8.decode s pos).1 : Int) == R) = true) (h : fmGo s L R (b + 1) pos n = r) (h2 : (n - 1 == 0) = true) : (pos : Int) = r := by
  simp only [fmGo, hp, if_true, beq_eq_false_iff_ne.mp h1, if_false] at h; rw [if_pos (beq_iff_eq.mp h3), if_pos (beq_iff_eq.mp h2)] at h; exact h
theorem fm_right' (hp : pos < s.size) (h1 : (((Utf8.decode s pos).1 : Int) == L) = false) (h3 : (((Utf8.decode s pos).1 : Int) == R) = true) (h : fmGo s L R (b + 1) pos n = r) (h2 : (n - 1 == 0) = false) : fmGo s L R b (pos + (Utf8.decode s pos).2) (n - 1) = r := by
  simp only [fmGo, hp, if_true, beq_eq_false_iff_ne.mp h1, if_false] at h; rw [if_pos (beq_iff_eq.mp h3), if_neg (beq_eq_false_iff_ne.mp h2)] at h; exact h
theorem fm_other (hp : pos < s.size) (h1 : (((Utf8.decode s pos).1 : Int) == L) = false) (h3 : (((Utf8.decode s pos).1 : Int) == R) = false) (h : fmGo s L R (b + 1) pos n = r) (h2 : (n == 0) = true) : (pos : Int) = r := by
  simp only [fmGo, hp, if_true, beq_eq_false_iff_ne.mp h1, if_false] at h; rw [if_neg (beq_eq_false_iff_ne.mp h3), if_pos (beq_iff_eq.mp h2)] at h; exact h
theorem fm_other' (hp : pos < s.size) (h1 : (((Utf8.decode s pos).1 : Int) == L) = false) (h3 : (((Utf8.decode s pos).1 : Int) == R) = false) (h : fmGo s L R (b + 1) pos n = r) (h2 : (n == 0) = false) : fmGo s L R b (pos + (Utf8.decode s pos).2) n = r := by
  simp only [fmGo, hp, if_true, beq_eq_false_iff_ne.mp h1, if_false] at h; rw [if_neg (beq_eq_false_iff_ne.mp h3), if_neg (beq_eq_false_iff_ne.mp h2)] at h; exact h
end
theorem below_iter (w : World) (s : ByteArray) (pos : Nat) : Below w.heap.size w (w.iter s pos) := (Below.refl _ _).alloc (Nat.le_refl _) _
theorem ret_i64 {a b : Int} (h : a = b) : Ending.returned (.int .i64 a) = .returned (.int .i64 b) := by rw [h]
set_option maxHeartbeats 1000000 in
theorem findMatching.calls (s : ByteArray) (L R : Int) (r : Int) (w : World) (h : findMatching.f s L R = some r) :
    Calls Tryd.prog 62 #[.string s, .int .i32 L, .int .i32 R] w fun e w' => e = .returned (.int .i64 r) ∧ Below w.heap.size w w' := by
  unfold findMatching.f at h
  by_cases hs : s.size ≤ 4611686018427387904
  case neg => rw [if_neg hs] at h; cases h
  rw [if_pos hs] at h
  have H := Aside0.mk (Option.some.inj h)
  clear h
  go_enter Tryd.func62, Tryd.ntmps62
  go_wp2
  go_loopw [7] (fun n w' => ∃ (pos b : Nat) (acc : Int), w' = w.iter s pos ∧ n = .int .i64 acc ∧ Aside0 (fmGo s L R b pos acc = r) ∧ s.size ≤ pos + b ∧ acc ≤ pos ∧ -acc ≤ pos) (fun _ w' => s.size - w'.iterPos w.heap.size)
  case atStart => exact ⟨0, s.size, 0, rfl, rfl, H, by omega, by omega, by omega⟩
  case round =>
    obtain ⟨pos, b, acc, rfl, rfl, hc, hb, ha1, ha2⟩ := hrel
    by_cases hp : pos < s.size
    · have hnx : ∀ ty, (Instr.next (.pointer (some ⟨w.heap.size, 0, none⟩)) true ty).run Tryd.prog (w.iter s pos) = _ := fun ty => run_next_any w s pos ty hp
      have hwd := width_pos s pos hp
      obtain ⟨b, rfl⟩ : ∃ b', b = b' + 1 := ⟨b - 1, by omega⟩
      go_wp2
      · go_ret
        exact ⟨ret_i64 (fm_left hp ‹_› hc.out ‹_›), below_iter w s _⟩
      · go_roundw
        case rel => exact ⟨_, b, _, rfl, rfl, Aside0.mk (fm_left' hp ‹_› hc.out ‹_›), by omega, by omega, by omega⟩
        case measure => simp; omega
      · go_ret
        exact ⟨ret_i64 (fm_right hp (by assumption) (by assumption) hc.out (by assumption)), below_iter w s _⟩
      · go_roundw
        case rel => exact ⟨_, b, _, rfl, rfl, Aside0.mk (fm_right' hp (by assumption) (by assumption) hc.out (by assumption)), by omega, by omega, by omega⟩
        case measure => simp; omega
      · go_ret
        exact ⟨ret_i64 (fm_other hp (by assumption) (by assumption) hc.out (by assumption)), below_iter w s _⟩
      · go_roundw
        case rel => exact ⟨_, b, _, rfl, rfl, Aside0.mk (fm_other' hp (by assumption) (by assumption) hc.out (by assumption)), by omega, by omega, by omega⟩
        case measure => simp; omega
    · have hnx : ∀ ty, (Instr.next (.pointer (some ⟨w.heap.size, 0, none⟩)) true ty).run Tryd.prog (w.iter s pos) = _ := fun ty => run_next_end w s pos ty hp
      go_wp2
      go_ret
      have h1 := hc.out
      rw [fmGo_end s L R b pos acc hp] at h1
      exact ⟨ret_i64 h1, below_iter w s pos⟩
end Go.Proofs.YtnojjfklnihmnaaDoor.Given
end
section
namespace Go.Proofs.YtnojjfklnihmnaaDoor.Utf
open Go.RowKit Go.Proofs.YtnojjfklnihmnaaDoorW.PrintWords
theorem bt_nat {s : ByteArray} {i : Nat} (h : i < s.size) : bt s (i : Int) = ((s[i]'h).toNat : Int) := by
  simp [bt, h]
theorem get_bt {s : ByteArray} {i : Nat} (h : i < s.size) : ((s.get! i).toNat : Int) = bt s (i : Int) := by
  rw [bt_nat h]
  have := get_at s i h
  rw [Nat.add_zero] at this
  rw [this]
theorem width_pos (s : ByteArray) (pos : Nat) (h : pos < s.size) : 1 ≤ (Utf8.decode s pos).2 := by
  by_cases ha : (s[pos]'h).toNat < 128
  · rw [decode_ascii s pos h ha]
    exact Nat.le_refl _
  · exact (decode_high s pos h (by omega)).2
theorem decode_cont (s : ByteArray) (pos : Nat) (h : pos < s.size) (ha : 128 ≤ bt s (pos : Int)) :
    128 ≤ (Utf8.decode s pos).1 ∧ 1 ≤ (Utf8.decode s pos).2 ∧ ∀ j, j < (Utf8.decode s pos).2 → pos + j < s.size ∧ 128 ≤ bt s ((pos + j : Nat) : Int) := by
  have h0 : 128 ≤ (s[pos]'h).toNat := by rw [bt_nat h] at ha; omega
  obtain ⟨a, b⟩ := decode_high s pos h h0
  refine ⟨a, b, ?_⟩
  have hn : ¬ (s[pos]'h).toNat < 128 := by omega
  have g : ∀ j, pos + j < s.size → (s.get! (pos + j)).toNat / 64 = 2 → 128 ≤ bt s ((pos + j : Nat) : Int) := by
    intro j hj hq
    rw [← get_bt hj]; omega
  have one : ∀ j, j < 1 → pos + j < s.size ∧ 128 ≤ bt s ((pos + j : Nat) : Int) := by
    intro j hj
    obtain rfl : j = 0 := by omega
    exact ⟨h, by rw [Nat.add_zero]; exact ha⟩
  simp only [Utf8.decode, get_at s pos h, hn, if_false]
  repeat' split
  all_goals first | exact one | skip
  all_goals
    rename_i hc _
    simp only [Bool.and_eq_true, decide_eq_true_eq, beq_iff_eq] at hc
    intro j hj
    simp only at hj
    rcases j with _ | _ | _ | _ | j
    · exact ⟨h, by rw [Nat.add_zero]; exact ha⟩
    · exact ⟨by omega, g 1 (by omega) (by omega)⟩
    · first | (exact ⟨by omega, g 2 (by omega) (by omega)⟩) | (exfalso; omega)
    · first | (exact ⟨by omega, g 3 (by omega) (by omega)⟩) | (exfalso; omega)
    · exfalso; omega
end Go.Proofs.YtnojjfklnihmnaaDoor.Utf
end
section
namespace Go.Proofs.YtnojjfklnihmnaaDoor.Bm
open Go.RowKit Go.Proofs.YtnojjfklnihmnaaDoorW.PrintWords Go.Proofs.YtnojjfklnihmnaaDoor.Given Go.Proofs.YtnojjfklnihmnaaDoor.Utf
def bm (s : ByteArray) (L R : Int) : Nat → Nat → Int → Int
  | 0, _, _ => -1
  | d + 1, pos, n => if bt s (pos : Int) = L then bm s L R d (pos + 1) (n + 1) else if bt s (pos : Int) = R then (if n - 1 = 0 then (pos : Int) else bm s L R d (pos + 1) (n - 1)) else bm s L R d (pos + 1) n
theorem bm_skip (s : ByteArray) (L R : Int) (hL : L ≤ 127) (hR : R ≤ 127) (n : Int) : ∀ (w pos : Nat), (∀ j, j < w → pos + j < s.size ∧ 128 ≤ bt s ((pos + j : Nat) : Int)) → bm s L R (s.size - pos) pos n = bm s L R (s.size - (pos + w)) (pos + w) n := by
  intro w
  induction w with
  | zero => intro pos _; rfl
  | succ w ih =>
    intro pos h
    have h0 := h 0 (by omega)
    rw [Nat.add_zero] at h0
    obtain ⟨d, hd⟩ : ∃ d, s.size - pos = d + 1 := ⟨s.size - pos - 1, by omega⟩
    rw [hd, bm, if_neg (by omega), if_neg (by omega)]
    have := ih (pos + 1) (fun j hj => by have := h (j + 1) (by omega); rw [show pos + 1 + j = pos + (j + 1) by omega]; exact this)
    rw [show s.size - (pos + 1) = d by omega] at this
    rw [this, show pos + 1 + w = pos + (w + 1) by omega]
theorem fm_bm (s : ByteArray) (L R : Int) (hL : L ≤ 127) (hR : R ≤ 127) : ∀ (b pos : Nat) (n : Int), 1 ≤ n → s.size ≤ pos + b → fmGo s L R b pos n = bm s L R (s.size - pos) pos n := by
  intro b
  induction b with
  | zero => intro pos n _ h; rw [show s.size - pos = 0 by omega]; rfl
  | succ b ih =>
    intro pos n hn h
    by_cases hp : pos < s.size
    · obtain ⟨d, hd⟩ : ∃ d, s.size - pos = d + 1 := ⟨s.size - pos - 1, by omega⟩
      by_cases ha : 128 ≤ bt s (pos : Int)
      · obtain ⟨h1, h2, h3⟩ := decode_cont s pos hp ha
        rw [fmGo, if_pos hp, if_neg (by omega), if_neg (by omega), if_neg (by omega), ih _ _ hn (by omega)]
        exact (bm_skip s L R hL hR n _ pos h3).symm
      · have e : Utf8.decode s pos = ((s[pos]'hp).toNat, 1) := decode_ascii s pos hp (by rw [bt_nat hp] at ha; omega)
        have e2 : (((s[pos]'hp).toNat : Nat) : Int) = bt s (pos : Int) := (bt_nat hp).symm
        rw [fmGo, if_pos hp, e, hd, bm]
        simp only [e2]
        have hd' : s.size - (pos + 1) = d := by omega
        by_cases c1 : bt s (pos : Int) = L
        · rw [if_pos c1, if_pos c1, if_neg (by omega), ih _ _ (by omega) (by omega), hd']
        · rw [if_neg c1, if_neg c1]
          by_cases c2 : bt s (pos : Int) = R
          · rw [if_pos c2, if_pos c2]
            by_cases c3 : n - 1 = 0
            · rw [if_pos c3, if_pos c3]
            · rw [if_neg c3, if_neg c3, ih _ _ (by omega) (by omega), hd']
          · rw [if_neg c2, if_neg c2, if_neg (by omega), ih _ _ hn (by omega), hd']
    · rw [fmGo_end s L R _ pos n hp, show s.size - pos = 0 by omega]; rfl
theorem fm_first (s : ByteArray) (L R : Int) (hL : L ≤ 127) (hR : R ≤ 127) (h0 : 0 < s.size) (hb : bt s 0 = L) : fmGo s L R s.size 0 0 = bm s L R (s.size - 1) 1 1 := by
  obtain ⟨d, hd⟩ : ∃ d, s.size = d + 1 := ⟨s.size - 1, by omega⟩
  have hb' : bt s ((0 : Nat) : Int) = L := hb
  have e : Utf8.decode s 0 = ((s[0]'h0).toNat, 1) := decode_ascii s 0 h0 (by rw [bt_nat h0] at hb'; omega)
  have e2 : (((s[0]'h0).toNat : Nat) : Int) = L := by rw [← bt_nat h0]; exact hb'
  have := fm_bm s L R hL hR d (0 + 1) (0 + 1) (by omega) (by omega)
  rw [hd, fmGo, if_pos h0, e]
  simp only [e2, if_true]
  rw [if_neg (by omega), this, hd]; rfl
end Go.Proofs.YtnojjfklnihmnaaDoor.Bm
end
section
namespace Go.Proofs.YtnojjfklnihmnaaDoor.Given
open Go.RowKit Go.Proofs.YtnojjfklnihmnaaDoorW.PrintWords Go.Proofs.YtnojjfklnihmnaaDoor.Pl Go.Proofs.YtnojjfklnihmnaaDoor.Utf Go.Proofs.YtnojjfklnihmnaaDoor.Bm
def lone (c : Int) : Bool := c == 121 || c == 98 || c == 110 || c == 113 || c == 105 || c == 117 || c == 120 || c == 116 || c == 100 || c == 115 || c == 103 || c == 111 || c == 118 || c == 104
def vsAll (g : ByteArray → Option ByteArray) : Nat → ByteArray → Bool
  | 0, s => s.size == 0
  | n + 1, s => if s.size = 0 then true else match g s with
    | none => false
    | some r => vsAll g n r
def vs : Nat → ByteArray → Int → Int → Int → Option ByteArray
  | 0, _, _, _, _ => none
  | k + 1, s, a, t, d =>
    if s.size = 0 then none
    else if (decide (a ≤ 32) && decide (t ≤ 32) && decide (d ≤ 32)) = false then none
    else if lone (bt s 0) = true then some (s.extract 1 s.size)
    else if bt s 0 = 97 then
      (if 1 < s.size ∧ bt s 1 = 123 then
        (let i := bm (s.extract 1 s.size) 123 125 (s.size - 2) 1 1
         if i = -1 then none
         else
          let m := s.extract 2 (i + 1).toNat
          if m.size = 0 then none
          else match vs k (m.extract 0 1) (a + 1) t (d + 1) with
            | none => none
            | some _ => match vs k (m.extract 1 m.size) (a + 1) t (d + 1) with
              | none => none
              | some r => if r.size = 0 then some (s.extract (i + 2).toNat s.size) else none)
       else vs k (s.extract 1 s.size) (a + 1) t d)
    else if bt s 0 = 40 then
      (let i := bm s 40 41 (s.size - 1) 1 1
       if i = -1 then none
       else if vsAll (fun x => vs k x a (t + 1) d) s.size (s.extract 1 i.toNat) = true then some (s.extract (i + 1).toNat s.size) else none)
    else none
def VsOut : Option ByteArray → Value → ByteArray → Prop
  | some r, ev, rem => ev = .nilIface ∧ rem = r
  | none, ev, rem => rem = ⟨#[]⟩ ∧ ∃ t u, ev = .iface t u
def VsGood (k : Nat) : Prop := ∀ (s : ByteArray) (a t d : Int) (b : Nat) (w : World), s.size < k → s.size ≤ 4611686018427387904 → -4611686018427387904 ≤ a → -4611686018427387904 ≤ t → -4611686018427387904 ≤ d → Dc w b a t d →
    Calls Tryd.prog 61 #[.string s, .pointer (some ⟨b, 0, none⟩)] w fun e w' => ∃ ev rem, e = .returned (.tuple #[ev, .string rem]) ∧ VsOut (vs k s a t d) ev rem ∧ Below w.heap.size w w'
theorem no_lone {c : Int} (h : lone c = false) : ((c == 121) = false ∧ (c == 98) = false ∧ (c == 110) = false ∧ (c == 113) = false ∧ (c == 105) = false ∧ (c == 117) = false ∧ (c == 120) = false) ∧ ((c == 116) = false ∧ (c == 100) = false ∧ (c == 115) = false ∧ (c == 103) = false ∧ (c == 111) = false ∧ (c == 118) = false ∧ (c == 104) = false) := by
  simp only [lone, Bool.or_eq_false_iff, and_assoc] at h
  simp only [and_assoc]; exact h
theorem is_lone {c : Int} (h : lone c = true) : (((((((((((((c = 121 ∨ c = 98) ∨ c = 110) ∨ c = 113) ∨ c = 105) ∨ c = 117) ∨ c = 120) ∨ c = 116) ∨ c = 100) ∨ c = 115) ∨ c = 103) ∨ c = 111) ∨ c = 118) ∨ c = 104) := by
  simpa only [lone, Bool.or_eq_true, beq_iff_eq] using h
set_option maxRecDepth 100000 in
set_option maxHeartbeats 4000000 in
theorem vs_lone (s : ByteArray) (b : Nat) (w : World) (a t d : Int) (hc : Dc w b a t d) (hv : (decide (a ≤ 32) && decide (t ≤ 32) && decide (d ≤ 32)) = true) (hpos : 0 < s.size) (hl : lone (bt s 0) = true) :
    Calls Tryd.prog 61 #[.string s, .pointer (some ⟨b, 0, none⟩)] w fun e w' => e = .returned (.tuple #[.nilIface, .string (s.extract 1 s.size)]) ∧ Below w.heap.size w w' := by
  have hne : s.toList.isEmpty = false := by
    cases e : s.toList with
    | nil => exact absurd (toList_nil.mp e) (by omega)
    | cons x l => rfl
  have hx6 : ∀ h : 0 < s.size, ((s[0]'h).toNat : Int) = bt s 0 := bt_at s 0
  have q6 := eq_true hpos
  have qi6 : (0 < (s.size : Int)) = True := eq_true (by omega)
  have q7 : (1 ≤ s.size) = True := eq_true (by omega)
  have qi7 : (1 ≤ (s.size : Int)) = True := eq_true (by omega)
  have q8 : s.size - 0 = s.size := by omega
  rcases is_lone hl with ((((((((((((h | h) | h) | h) | h) | h) | h) | h) | h) | h) | h) | h) | h) | h
  all_goals
    rw [h] at hx6
    have HV := Aside0.mk hv
    clear hv hl
    go_enter Tryd.func61, Tryd.ntmps61
    go_wp2_with (go_at_call 33; refine (Valid.calls b a t d true _ hc HV.out).mono ?_; rintro e w1 ⟨rfl, rfl⟩)
    go_quiet (fail)
    go_wp2
    go_ret2
    exact ⟨rfl, pw_below_drewN (Below.refl _ _) _⟩
end Go.Proofs.YtnojjfklnihmnaaDoor.Given
end
section
namespace Go.Proofs.YtnojjfklnihmnaaDoor.SgT
open Go.Proofs.YtnojjfklnihmnaaDoor.Given
inductive Tr
  | nil
  | cons (x xs : Tr)
  | lone (c : Int)
  | arr (x : Tr)
  | dict (key : Int) (x : Tr)
  | str (xs : Tr)
def word : Tr → List Int
  | .nil => []
  | .cons x xs => word x ++ word xs
  | .lone c => [c]
  | .arr x => 97 :: word x
  | .dict key x => 97 :: 123 :: key :: (word x ++ [125])
  | .str xs => 40 :: (word xs ++ [41])
def basic (c : Int) : Bool := Given.lone c && c != 118
def wf : Tr → Bool → Prop
  | .nil, b => b = false
  | .cons x xs, b => b = false ∧ wf x true ∧ wf xs false
  | .lone c, b => b = true ∧ Given.lone c = true
  | .arr x, b => b = true ∧ wf x true
  | .dict key x, b => b = true ∧ basic key = true ∧ wf x true
  | .str xs, b => b = true ∧ word xs ≠ [] ∧ wf xs false
def ok (a t d : Int) : Bool := decide (a ≤ 32) && decide (t ≤ 32) && decide (d ≤ 32)
def fits : Tr → Int → Int → Int → Bool
  | .nil, _, _, _ => true
  | .cons x xs, a, t, d => fits x a t d && fits xs a t d
  | .lone _, a, t, d => ok a t d
  | .arr x, a, t, d => ok a t d && fits x (a + 1) t d
  | .dict _ x, a, t, d => ok a t d && fits x (a + 1) t (d + 1)
  | .str xs, a, t, d => ok a t d && fits xs a (t + 1) d
theorem lone_ne {c : Int} (h : Given.lone c = true) : c ≠ 97 ∧ c ≠ 40 ∧ c ≠ 41 ∧ c ≠ 123 ∧ c ≠ 125 := by
  rcases is_lone h with ((((((((((((h | h) | h) | h) | h) | h) | h) | h) | h) | h) | h) | h) | h) | h <;> (subst h; decide)
theorem basic_lone {c : Int} (h : basic c = true) : Given.lone c = true := by
  unfold basic at h; rw [Bool.and_eq_true] at h; exact h.1
theorem lone97 : Given.lone 97 = false := by decide
theorem lone40 : Given.lone 40 = false := by decide
theorem head_wf {x : Tr} (h : wf x true) : ∃ c r, word x = c :: r ∧ c ≠ 123 ∧ c ≠ 41 ∧ c ≠ 125 := by
  cases x with
  | nil => cases h
  | cons x xs => cases h.1
  | lone c => exact ⟨c, [], rfl, (lone_ne h.2).2.2.2.1, (lone_ne h.2).2.2.1, (lone_ne h.2).2.2.2.2⟩
  | arr x => exact ⟨97, _, rfl, by decide, by decide, by decide⟩
  | dict key x => exact ⟨97, _, rfl, by decide, by decide, by decide⟩
  | str xs => exact ⟨40, _, rfl, by decide, by decide, by decide⟩
theorem fits_ok {x : Tr} (h : wf x true) {a t d : Int} (hf : fits x a t d = true) : ok a t d = true := by
  cases x with
  | nil => cases h
  | cons x xs => cases h.1
  | lone c => exact hf
  | arr x => rw [fits, Bool.and_eq_true] at hf; exact hf.1
  | dict key x => rw [fits, Bool.and_eq_true] at hf; exact hf.1
  | str xs => rw [fits, Bool.and_eq_true] at hf; exact hf.1
def bmL (L R : Int) : List Int → Int → Option Nat
  | [], _ => none
  | c :: r, n => if c = L then (bmL L R r (n + 1)).map (· + 1) else if c = R then (if n - 1 = 0 then some 0 else (bmL L R r (n - 1)).map (· + 1)) else (bmL L R r n).map (· + 1)
def Marks (L R : Int) : Prop := (L = 40 ∧ R = 41) ∨ (L = 123 ∧ R = 125)
theorem bmL_other {L R c : Int} (h1 : c ≠ L) (h2 : c ≠ R) (r : List Int) (n : Int) : bmL L R (c :: r) n = (bmL L R r n).map (· + 1) := by
  rw [bmL, if_neg h1, if_neg h2]
theorem map_add (o : Option Nat) (i j : Nat) : (o.map (· + i)).map (· + j) = o.map (· + (i + j)) := by
  cases o with
  | none => rfl
  | some x => simp [Nat.add_assoc]
theorem bmL_word {L R : Int} (hm : Marks L R) : ∀ (x : Tr) (b : Bool), wf x b → ∀ (rest : List Int) (n : Int), 1 ≤ n → bmL L R (word x ++ rest) n = (bmL L R rest n).map (· + (word x).length) := by
  intro x
  induction x with
  | nil => intro b h rest n hn; simp [word]
  | cons x xs ih1 ih2 =>
    intro b h rest n hn
    rw [word, List.append_assoc, ih1 true h.2.1 _ n hn, ih2 false h.2.2 _ n hn, map_add, List.length_append, Nat.add_comm]
  | lone c =>
    intro b h rest n hn
    have hc := lone_ne h.2
    have h1 : c ≠ L := by rcases hm with ⟨rfl, rfl⟩ | ⟨rfl, rfl⟩ <;> omega
    have h2 : c ≠ R := by rcases hm with ⟨rfl, rfl⟩ | ⟨rfl, rfl⟩ <;> omega
    rw [word, List.singleton_append, bmL_other h1 h2]; rfl
  | arr x ih =>
    intro b h rest n hn
    have h1 : (97 : Int) ≠ L := by rcases hm with ⟨rfl, rfl⟩ | ⟨rfl, rfl⟩ <;> omega
    have h2 : (97 : Int) ≠ R := by rcases hm with ⟨rfl, rfl⟩ | ⟨rfl, rfl⟩ <;> omega
    rw [word, List.cons_append, bmL_other h1 h2, ih true h.2 _ n hn, map_add, List.length_cons]
  | dict key x ih =>
    intro b h rest n hn
    have hc := lone_ne (basic_lone h.2.1)
    have e : word (.dict key x) ++ rest = 97 :: 123 :: key :: (word x ++ 125 :: rest) := by simp [word]
    have el : (word (.dict key x)).length = (word x).length + 4 := by simp [word]
    rw [e, el]
    rcases hm with ⟨rfl, rfl⟩ | ⟨rfl, rfl⟩
    · rw [bmL_other (by decide) (by decide), bmL_other (by decide) (by decide), bmL_other hc.2.1 hc.2.2.1, ih true h.2.2 _ n hn, bmL_other (by decide) (by decide)]
      simp only [map_add]; congr 1; funext z; omega
    · rw [bmL_other (by decide) (by decide), bmL, if_pos rfl, bmL_other hc.2.2.2.1 hc.2.2.2.2, ih true h.2.2 _ (n + 1) (by omega), bmL, if_neg (by decide), if_pos rfl, if_neg (by omega), show n + 1 - 1 = n by omega]
      simp only [map_add]; congr 1; funext z; omega
  | str xs ih =>
    intro b h rest n hn
    have e : word (.str xs) ++ rest = 40 :: (word xs ++ 41 :: rest) := by simp [word]
    have el : (word (.str xs)).length = (word xs).length + 2 := by simp [word]
    rw [e, el]
    rcases hm with ⟨rfl, rfl⟩ | ⟨rfl, rfl⟩
    · rw [bmL, if_pos rfl, ih false h.2.2 _ (n + 1) (by omega), bmL, if_neg (by decide), if_pos rfl, if_neg (by omega), show n + 1 - 1 = n by omega]
      simp only [map_add]; congr 1; funext z; omega
    · rw [bmL_other (by decide) (by decide), ih false h.2.2 _ n hn, bmL_other (by decide) (by decide)]
      simp only [map_add]; congr 1; funext z; omega
theorem bmL_close {L R : Int} (h : L ≠ R) (r : List Int) : bmL L R (R :: r) 1 = some 0 := by rw [bmL, if_neg (fun e => h e.symm), if_pos rfl, if_pos (by decide)]
theorem bmL_at {L R : Int} : ∀ (l : List Int) (n : Int) (i : Nat), bmL L R l n = some i → l = l.take i ++ R :: l.drop (i + 1) := by
  intro l
  induction l with
  | nil => intro n i h; cases h
  | cons c r ih =>
    intro n i h
    have step : ∀ m j, bmL L R r m = some j → i = j + 1 → c :: r = (c :: r).take i ++ R :: (c :: r).drop (i + 1) := by
      intro m j hj hi
      subst hi
      rw [List.take_succ_cons, List.drop_succ_cons, List.cons_append, ← ih m j hj]
    rw [bmL] at h
    split at h
    · obtain ⟨j, hj, rfl⟩ := Option.map_eq_some_iff.mp h
      exact step _ j hj rfl
    · split at h
      · rename_i hc
        split at h
        · cases h; rw [hc]; rfl
        · obtain ⟨j, hj, rfl⟩ := Option.map_eq_some_iff.mp h
          exact step _ j hj rfl
      · obtain ⟨j, hj, rfl⟩ := Option.map_eq_some_iff.mp h
        exact step _ j hj rfl
def vsAllL (g : List Int → Option (List Int)) : Nat → List Int → Bool
  | 0, l => decide (l = [])
  | n + 1, l => if l = [] then true else match g l with
    | none => false
    | some r => vsAllL g n r
def vsL : Nat → List Int → Int → Int → Int → Option (List Int)
  | 0, _, _, _, _ => none
  | k + 1, l, a, t, d => match l with
    | [] => none
    | c :: r =>
      if ok a t d = false then none
      else if Given.lone c = true then some r
      else if c = 97 then
        (if r.head? = some 123 then
          (match bmL 123 125 r.tail 1 with
          | none => none
          | some i => match r.tail.take i with
            | [] => none
            | key :: v => match vsL k [key] (a + 1) t (d + 1) with
              | none => none
              | some _ => match vsL k v (a + 1) t (d + 1) with
                | none => none
                | some x => if x = [] then some (r.tail.drop (i + 1)) else none)
         else vsL k r (a + 1) t d)
      else if c = 40 then
        (match bmL 40 41 r 1 with
        | none => none
        | some i => if vsAllL (fun x => vsL k x a (t + 1) d) (r.length + 1) (r.take i) = true then some (r.drop (i + 1)) else none)
      else none
theorem word_cons_ne {x : Tr} (h : wf x true) (rest : List Int) : (word x ++ rest).head? ≠ some 123 := by
  obtain ⟨c, r, e, h1, _⟩ := head_wf h
  rw [e]; simp; exact h1
theorem word_len {x : Tr} (h : wf x true) : 1 ≤ (word x).length := by
  obtain ⟨c, r, e, _⟩ := head_wf h
  rw [e]; simp
theorem vsL_word : ∀ (x : Tr), (wf x true → ∀ (k : Nat) (rest : List Int) (a t d : Int), (word x).length < k → vsL k (word x ++ rest) a t d = if fits x a t d = true then some rest else none)
    ∧ (wf x false → ∀ (k n : Nat) (a t d : Int), (word x).length < k → (word x).length ≤ n → vsAllL (fun y => vsL k y a t d) n (word x) = fits x a t d) := by
  intro x
  induction x with
  | nil =>
    refine ⟨fun h => absurd h (by simp [wf]), fun h k n a t d _ _ => ?_⟩
    cases n with
    | zero => simp [word, vsAllL, fits]
    | succ n => simp [word, vsAllL, fits]
  | cons x xs ih1 ih2 =>
    refine ⟨fun h => absurd h.1 (by decide), fun h k n a t d hk hn => ?_⟩
    have hl := word_len h.2.1
    rw [word, List.length_append] at hk hn
    obtain ⟨n, rfl⟩ : ∃ m, n = m + 1 := ⟨n - 1, by omega⟩
    have hne : word x ++ word xs ≠ [] := by
      intro e; have := congrArg List.length e; rw [List.length_append, List.length_nil] at this; omega
    rw [word, vsAllL, if_neg hne, ih1.1 h.2.1 k (word xs) a t d (by omega), fits]
    cases fits x a t d with
    | false => rfl
    | true =>
      simp only [if_true, Bool.true_and]
      exact ih2.2 h.2.2 k n a t d (by omega) (by omega)
  | lone c =>
    refine ⟨fun h k rest a t d hk => ?_, fun h => by cases h.1⟩
    obtain ⟨k, rfl⟩ : ∃ m, k = m + 1 := ⟨k - 1, by omega⟩
    rw [word, List.singleton_append, vsL, fits]
    cases ok a t d with
    | false => rfl
    | true => simp only [if_neg (show ¬ (true = false) by decide), if_pos h.2, if_true]
  | arr x ih =>
    refine ⟨fun h k rest a t d hk => ?_, fun h => by cases h.1⟩
    rw [word, List.length_cons] at hk
    obtain ⟨k, rfl⟩ : ∃ m, k = m + 1 := ⟨k - 1, by omega⟩
    rw [word, List.cons_append, vsL, fits]
    cases ok a t d with
    | false => rfl
    | true =>
      simp only [if_neg (show ¬ (true = false) by decide), lone97, if_neg (show ¬ (false = true) by decide), if_true, if_neg (word_cons_ne h.2 rest), Bool.true_and]
      exact ih.1 h.2 k rest (a + 1) t d (by omega)
  | dict key x ih =>
    refine ⟨fun h k rest a t d hk => ?_, fun h => by cases h.1⟩
    have e : word (.dict key x) ++ rest = 97 :: 123 :: key :: (word x ++ 125 :: rest) := by simp [word]
    have el : (word (.dict key x)).length = (word x).length + 4 := by simp [word]
    rw [el] at hk
    obtain ⟨k, rfl⟩ : ∃ m, k = m + 1 := ⟨k - 1, by omega⟩
    obtain ⟨k, rfl⟩ : ∃ m, k = m + 1 := ⟨k - 1, by omega⟩
    have hc := lone_ne (basic_lone h.2.1)
    have hb : bmL 123 125 (key :: (word x ++ 125 :: rest)) 1 = some ((word x).length + 1) := by
      rw [bmL_other hc.2.2.2.1 hc.2.2.2.2, bmL_word (.inr ⟨rfl, rfl⟩) x true h.2.2 _ 1 (by omega), bmL_close (by decide)]
      simp
    have ht : (key :: (word x ++ 125 :: rest)).take ((word x).length + 1) = key :: word x := by simp
    have hd : (key :: (word x ++ 125 :: rest)).drop ((word x).length + 1 + 1) = rest := by
      rw [List.drop_succ_cons, List.drop_append]; simp
    rw [e, vsL, fits]
    cases ok a t d with
    | false => rfl
    | true =>
      simp only [if_neg (show ¬ (true = false) by decide), lone97, if_neg (show ¬ (false = true) by decide), if_true, List.head?_cons, List.tail_cons, hb, ht, hd, Bool.true_and]
      have hx := ih.1 h.2.2 (k + 1) [] (a + 1) t (d + 1) (by omega)
      rw [List.append_nil] at hx
      rw [hx]
      have hkey : vsL (k + 1) [key] (a + 1) t (d + 1) = if ok (a + 1) t (d + 1) = true then some [] else none := by
        rw [vsL]
        cases ok (a + 1) t (d + 1) with
        | false => rfl
        | true => simp only [if_neg (show ¬ (true = false) by decide), if_pos (basic_lone h.2.1), if_true]
      rw [hkey]
      cases hf : fits x (a + 1) t (d + 1) with
      | true => rw [fits_ok h.2.2 hf]; rfl
      | false => cases ok (a + 1) t (d + 1) <;> rfl
  | str xs ih =>
    refine ⟨fun h k rest a t d hk => ?_, fun h => by cases h.1⟩
    have e : word (.str xs) ++ rest = 40 :: (word xs ++ 41 :: rest) := by simp [word]
    have el : (word (.str xs)).length = (word xs).length + 2 := by simp [word]
    rw [el] at hk
    obtain ⟨k, rfl⟩ : ∃ m, k = m + 1 := ⟨k - 1, by omega⟩
    have hb : bmL 40 41 (word xs ++ 41 :: rest) 1 = some (word xs).length := by
      rw [bmL_word (.inl ⟨rfl, rfl⟩) xs false h.2.2 _ 1 (by omega), bmL_close (by decide)]; simp
    have ht : (word xs ++ 41 :: rest).take (word xs).length = word xs := by simp
    have hd : (word xs ++ 41 :: rest).drop ((word xs).length + 1) = rest := by
      rw [List.drop_append]; simp
    rw [e, vsL, fits]
    cases ok a t d with
    | false => rfl
    | true =>
      simp only [if_neg (show ¬ (true = false) by decide), lone40, if_neg (show ¬ (false = true) by decide), if_neg (show ¬ ((40 : Int) = 97) by decide), if_true, hb, ht, hd, Bool.true_and]
      rw [ih.2 h.2.2 k _ a (t + 1) d (by omega) (by simp; omega)]
def NoBad (l : List Int) : Prop := ∀ p q, l ≠ p ++ 40 :: 41 :: q ∧ l ≠ p ++ 123 :: 118 :: q
theorem NoBad.mid {u v w : List Int} (h : NoBad (u ++ (v ++ w))) : NoBad v := by
  intro p q
  refine ⟨fun e => (h (u ++ p) (q ++ w)).1 ?_, fun e => (h (u ++ p) (q ++ w)).2 ?_⟩
  · rw [e]; simp
  · rw [e]; simp
theorem NoBad.tail {c : Int} {l : List Int} (h : NoBad (c :: l)) : NoBad l := by
  have := NoBad.mid (u := [c]) (v := l) (w := []) (by simpa using h)
  exact this
end Go.Proofs.YtnojjfklnihmnaaDoor.SgT
end
section
namespace Go.Proofs.YtnojjfklnihmnaaDoor.SgT
open Go.RowKit Go.Proofs.YtnojjfklnihmnaaDoor.PFnSgOfParts Go.Proofs.YtnojjfklnihmnaaDoorW.PrintWords
theorem basic_f (c : Int) : spec_Basic.f c = some (basic c) := by
  unfold spec_Basic.f
  by_cases h0 : c = 121
  · subst h0; decide
  rw [if_neg h0]
  by_cases h1 : c = 98
  · subst h1; decide
  rw [if_neg h1]
  by_cases h2 : c = 110
  · subst h2; decide
  rw [if_neg h2]
  by_cases h3 : c = 113
  · subst h3; decide
  rw [if_neg h3]
  by_cases h4 : c = 105
  · subst h4; decide
  rw [if_neg h4]
  by_cases h5 : c = 117
  · subst h5; decide
  rw [if_neg h5]
  by_cases h6 : c = 120
  · subst h6; decide
  rw [if_neg h6]
  by_cases h7 : c = 116
  · subst h7; decide
  rw [if_neg h7]
  by_cases h8 : c = 100
  · subst h8; decide
  rw [if_neg h8]
  by_cases h9 : c = 115
  · subst h9; decide
  rw [if_neg h9]
  by_cases h10 : c = 111
  · subst h10; decide
  rw [if_neg h10]
  by_cases h11 : c = 103
  · subst h11; decide
  rw [if_neg h11]
  by_cases h12 : c = 104
  · subst h12; decide
  rw [if_neg h12]
  have e : Given.lone c = (c == 118) := by
    unfold Given.lone
    simp only [beq_eq_false_iff_ne.mpr h0, beq_eq_false_iff_ne.mpr h1, beq_eq_false_iff_ne.mpr h2, beq_eq_false_iff_ne.mpr h3, beq_eq_false_iff_ne.mpr h4, beq_eq_false_iff_ne.mpr h5, beq_eq_false_iff_ne.mpr h6, beq_eq_false_iff_ne.mpr h7, beq_eq_false_iff_ne.mpr h8, beq_eq_false_iff_ne.mpr h9, beq_eq_false_iff_ne.mpr h10, beq_eq_false_iff_ne.mpr h11, beq_eq_false_iff_ne.mpr h12, Bool.false_or, Bool.or_false]
  unfold basic
  rw [e]
  cases h : (c == 118)
  · rfl
  · rw [beq_iff_eq.mp h]; rfl
theorem bytesOf_strOfNums (l : List Int) (h : ∀ x ∈ l, 0 ≤ x ∧ x ≤ 255) : bytesOf (strOfNums l) = l := by
  unfold bytesOf strOfNums
  simp only [List.map_map]
  have : ∀ x, x ∈ l → ((fun b : UInt8 => (b.toNat : Int)) ∘ fun n : Int => UInt8.ofNat n.toNat) x = x := by
    intro x hx
    obtain ⟨h0, h1⟩ := h x hx
    simp only [Function.comp, UInt8.toNat_ofNat']
    omega
  exact (List.map_congr_left this).trans (List.map_id' l)
end Go.Proofs.YtnojjfklnihmnaaDoor.SgT
end

-- Written by a program of this session (wip/tools/myprint.py) for this claim.
import Derived.Test.YtgljkbhjbefikaaDoorPVbx0
import Derived.Test.YtgljkbhjbefikaaDoorPVbx2
namespace Go.Proofs.YtgljkbhjbefikaaDoor.PVb
open Go.RowKit Go.Proofs.YtgljkbhjbefikaaDoorW.PrintWords Go.Proofs.YtgljkbhjbefikaaDoorW.PrintLast Go.Proofs.YtgljkbhjbefikaaDoorW.PrintMore
attribute [local go_sem] max2_int min2_int max_two min_two max_three min_three max_four min_four   -- for this text's walks alone
set_option linter.unusedVariables false
set_option linter.unusedSimpArgs false

/-! ### spec_BytesOf: function 8 -/
mutual
def spec_BytesOf.l0 : Nat → ByteArray → List Int → Int → Int → Option (ByteArray × Bool)
  | 0, _, _, _, _ => none
  | k + 1, x0, x4, x5, x6 => if x6 < x5 then (if 0 ≤ x6 then (if x6 < (x0.size : Int) then (if (bt x0 x6) = 92 then (if 0 ≤ (wrap64 (x6 + 1)) then (if (wrap64 (x6 + 1)) < (x0.size : Int) then (if (bt x0 (wrap64 (x6 + 1))) = 120 then (spec_BytesOf.j1 k x0 x4 x5 (wrap64 (x6 + 1)) (bt x0 (wrap64 (x6 + 1))) ((bt x0 (wrap64 (x6 + 1))) == 120)) else (spec_BytesOf.j1 k x0 x4 x5 (wrap64 (x6 + 1)) (bt x0 (wrap64 (x6 + 1))) ((bt x0 (wrap64 (x6 + 1))) == 48))) else (none)) else (none)) else (if x4.length < 140737488355328 then (spec_BytesOf.l0 k x0 (x4 ++ [bt x0 x6]) x5 (wrap64 (x6 + 1))) else (none))) else (none)) else (none)) else (if x4.length < 140737488355328 then (some (strOfNums (x4 ++ [0]), true)) else (none))
def spec_BytesOf.j1 : Nat → ByteArray → List Int → Int → Int → Int → Bool → Option (ByteArray × Bool)
  | 0, _, _, _, _, _, _ => none
  | k + 1, x0, x4, x5, x6, x7, x43 => if x43 = true then (if x7 = 48 then (spec_BytesOf.j2 k x0 x4 x5 x6 0 3 8) else (spec_BytesOf.j2 k x0 x4 x5 x6 0 2 16)) else ((spec_escapedAs.f k x7).bind fun t163 => (if x4.length < 140737488355328 then (spec_BytesOf.l0 k x0 (x4 ++ [t163]) x5 (wrap64 (x6 + 1))) else (none)))
def spec_BytesOf.j2 : Nat → ByteArray → List Int → Int → Int → Int → Int → Int → Option (ByteArray × Bool)
  | 0, _, _, _, _, _, _, _ => none
  | k + 1, x0, x4, x5, x6, x8, x9, x10 => spec_BytesOf.l1 k x0 x4 x5 x6 x8 x9 x10 0
def spec_BytesOf.l1 : Nat → ByteArray → List Int → Int → Int → Int → Int → Int → Int → Option (ByteArray × Bool)
  | 0, _, _, _, _, _, _, _, _ => none
  | k + 1, x0, x4, x5, x6, x8, x9, x10, x11 => if x11 < x9 then (if (wrap64 (x6 + 1)) < x5 then (if 0 ≤ (wrap64 (x6 + 1)) then (if (wrap64 (x6 + 1)) < (x0.size : Int) then ((spec_hexDigit.f k (bt x0 (wrap64 (x6 + 1)))).bind fun bt161 => (if bt161.2 = true then (if (wrap64 (bt161.1)) ≥ x10 then (some ((⟨#[]⟩ : ByteArray), false)) else (spec_BytesOf.l1 k x0 x4 x5 (wrap64 (x6 + 1)) (wrap64 ((wrap64 (x8 * x10)) + (wrap64 (bt161.1)))) x9 x10 (wrap64 (x11 + 1)))) else (some ((⟨#[]⟩ : ByteArray), false)))) else (none)) else (none)) else (some ((⟨#[]⟩ : ByteArray), false))) else (if x8 > 255 then (some ((⟨#[]⟩ : ByteArray), false)) else (if x4.length < 140737488355328 then (spec_BytesOf.l0 k x0 (x4 ++ [(x8) % 256]) x5 (wrap64 (x6 + 1))) else (none)))
end
def spec_BytesOf.f (k : Nat) (a0 : ByteArray) : Option (ByteArray × Bool) := spec_BytesOf.l0 k a0 ([] : List Int) (wrap64 ((a0.size : Int) - 1)) 2
theorem spec_BytesOf.mono_l : ∀ k, (∀ y0 y1 y2 y3, LeO (spec_BytesOf.l0 k y0 y1 y2 y3) (spec_BytesOf.l0 (k + 1) y0 y1 y2 y3)) ∧ (∀ y0 y1 y2 y3 y4 y5, LeO (spec_BytesOf.j1 k y0 y1 y2 y3 y4 y5) (spec_BytesOf.j1 (k + 1) y0 y1 y2 y3 y4 y5)) ∧ (∀ y0 y1 y2 y3 y4 y5 y6, LeO (spec_BytesOf.j2 k y0 y1 y2 y3 y4 y5 y6) (spec_BytesOf.j2 (k + 1) y0 y1 y2 y3 y4 y5 y6)) ∧ (∀ y0 y1 y2 y3 y4 y5 y6 y7, LeO (spec_BytesOf.l1 k y0 y1 y2 y3 y4 y5 y6 y7) (spec_BytesOf.l1 (k + 1) y0 y1 y2 y3 y4 y5 y6 y7))
  | 0 => ⟨fun _ _ _ _ r h => by simp [spec_BytesOf.l0] at h, fun _ _ _ _ _ _ r h => by simp [spec_BytesOf.j1] at h, fun _ _ _ _ _ _ _ r h => by simp [spec_BytesOf.j2] at h, fun _ _ _ _ _ _ _ _ r h => by simp [spec_BytesOf.l1] at h⟩
  | k + 1 => by
    obtain ⟨ih0, ih1, ih2, ih3⟩ := spec_BytesOf.mono_l k
    refine ⟨?_, ?_, ?_, ?_⟩
    · intro y0 y1 y2 y3
      unfold spec_BytesOf.l0
      repeat' first
      | (with_reducible exact ih0 _ _ _ _)
      | (with_reducible exact ih1 _ _ _ _ _ _)
      | (with_reducible exact ih2 _ _ _ _ _ _ _)
      | (with_reducible exact ih3 _ _ _ _ _ _ _ _)
      | (with_reducible exact spec_escapedAs.mono _ _)
      | (with_reducible exact spec_hexDigit.mono _ _)
      | (with_reducible exact LeO.refl _)
      | (with_reducible exact LeO.none _)
      | (with_reducible refine LeO.ite ?_ ?_)
      | (with_reducible refine LeO.bind ?_ (fun _ => ?_))
      | exact ih0 _ _ _ _
      | exact ih1 _ _ _ _ _ _
      | exact ih2 _ _ _ _ _ _ _
      | exact ih3 _ _ _ _ _ _ _ _
      | exact spec_escapedAs.mono _ _
      | exact spec_hexDigit.mono _ _
      | exact LeO.none _
      | refine LeO.ite ?_ ?_
      | refine LeO.bind ?_ (fun _ => ?_)
    · intro y0 y1 y2 y3 y4 y5
      unfold spec_BytesOf.j1
      repeat' first
      | (with_reducible exact ih0 _ _ _ _)
      | (with_reducible exact ih1 _ _ _ _ _ _)
      | (with_reducible exact ih2 _ _ _ _ _ _ _)
      | (with_reducible exact ih3 _ _ _ _ _ _ _ _)
      | (with_reducible exact spec_escapedAs.mono _ _)
      | (with_reducible exact spec_hexDigit.mono _ _)
      | (with_reducible exact LeO.refl _)
      | (with_reducible exact LeO.none _)
      | (with_reducible refine LeO.ite ?_ ?_)
      | (with_reducible refine LeO.bind ?_ (fun _ => ?_))
      | exact ih0 _ _ _ _
      | exact ih1 _ _ _ _ _ _
      | exact ih2 _ _ _ _ _ _ _
      | exact ih3 _ _ _ _ _ _ _ _
      | exact spec_escapedAs.mono _ _
      | exact spec_hexDigit.mono _ _
      | exact LeO.none _
      | refine LeO.ite ?_ ?_
      | refine LeO.bind ?_ (fun _ => ?_)
    · intro y0 y1 y2 y3 y4 y5 y6
      unfold spec_BytesOf.j2
      repeat' first
      | (with_reducible exact ih0 _ _ _ _)
      | (with_reducible exact ih1 _ _ _ _ _ _)
      | (with_reducible exact ih2 _ _ _ _ _ _ _)
      | (with_reducible exact ih3 _ _ _ _ _ _ _ _)
      | (with_reducible exact spec_escapedAs.mono _ _)
      | (with_reducible exact spec_hexDigit.mono _ _)
      | (with_reducible exact LeO.refl _)
      | (with_reducible exact LeO.none _)
      | (with_reducible refine LeO.ite ?_ ?_)
      | (with_reducible refine LeO.bind ?_ (fun _ => ?_))
      | exact ih0 _ _ _ _
      | exact ih1 _ _ _ _ _ _
      | exact ih2 _ _ _ _ _ _ _
      | exact ih3 _ _ _ _ _ _ _ _
      | exact spec_escapedAs.mono _ _
      | exact spec_hexDigit.mono _ _
      | exact LeO.none _
      | refine LeO.ite ?_ ?_
      | refine LeO.bind ?_ (fun _ => ?_)
    · intro y0 y1 y2 y3 y4 y5 y6 y7
      unfold spec_BytesOf.l1
      repeat' first
      | (with_reducible exact ih0 _ _ _ _)
      | (with_reducible exact ih1 _ _ _ _ _ _)
      | (with_reducible exact ih2 _ _ _ _ _ _ _)
      | (with_reducible exact ih3 _ _ _ _ _ _ _ _)
      | (with_reducible exact spec_escapedAs.mono _ _)
      | (with_reducible exact spec_hexDigit.mono _ _)
      | (with_reducible exact LeO.refl _)
      | (with_reducible exact LeO.none _)
      | (with_reducible refine LeO.ite ?_ ?_)
      | (with_reducible refine LeO.bind ?_ (fun _ => ?_))
      | exact ih0 _ _ _ _
      | exact ih1 _ _ _ _ _ _
      | exact ih2 _ _ _ _ _ _ _
      | exact ih3 _ _ _ _ _ _ _ _
      | exact spec_escapedAs.mono _ _
      | exact spec_hexDigit.mono _ _
      | exact LeO.none _
      | refine LeO.ite ?_ ?_
      | refine LeO.bind ?_ (fun _ => ?_)
theorem spec_BytesOf.mono : ∀ a0 k, LeO (spec_BytesOf.f k a0) (spec_BytesOf.f (k + 1) a0) := by
  intro a0 k
  obtain ⟨ih0, ih1, ih2, ih3⟩ := spec_BytesOf.mono_l k
  unfold spec_BytesOf.f
  repeat' first
      | (with_reducible exact ih0 _ _ _ _)
      | (with_reducible exact ih1 _ _ _ _ _ _)
      | (with_reducible exact ih2 _ _ _ _ _ _ _)
      | (with_reducible exact ih3 _ _ _ _ _ _ _ _)
      | (with_reducible exact spec_escapedAs.mono _ _)
      | (with_reducible exact spec_hexDigit.mono _ _)
      | (with_reducible exact LeO.refl _)
      | (with_reducible exact LeO.none _)
      | (with_reducible refine LeO.ite ?_ ?_)
      | (with_reducible refine LeO.bind ?_ (fun _ => ?_))
      | exact ih0 _ _ _ _
      | exact ih1 _ _ _ _ _ _
      | exact ih2 _ _ _ _ _ _ _
      | exact ih3 _ _ _ _ _ _ _ _
      | exact spec_escapedAs.mono _ _
      | exact spec_hexDigit.mono _ _
      | exact LeO.none _
      | refine LeO.ite ?_ ?_
      | refine LeO.bind ?_ (fun _ => ?_)
set_option maxHeartbeats 8000000 in
set_option maxRecDepth 100000 in
theorem spec_BytesOf.calls (k : Nat) (a0 : ByteArray) (r1 : ByteArray) (r2 : Bool) (w : World) (h : spec_BytesOf.f k a0 = some (r1, r2)) :
    Calls Tryd.prog 8 #[.string a0] w fun e w' => e = .returned (.tuple #[.string r1, .bool r2]) ∧ Below w.heap.size w w' := by
  have HB := Aside0.mk (Below.refl w.heap.size w)
  have H : (spec_BytesOf.l0 k a0 ([] : List Int) (wrap64 ((a0.size : Int) - 1)) 2) = some (r1, r2) := h
  clear h
  have H' := Aside0.mk H
  clear H
  go_enter Tryd.func8, Tryd.ntmps8
  go_wp2
  go_loopg [4, 6] k (fun kq v4 v6 w' => ∃ (x4_1 : List Int) (x6_1 : Int), v6 = .int .i64 x6_1 ∧ Aside0 (spec_BytesOf.l0 kq a0 x4_1 (wrap64 ((a0.size : Int) - 1)) x6_1 = some (r1, r2)) ∧ Aside0 (kq ≤ k) ∧ Aside0 (Kd.R (Kd.int .u8) 5 w' w.heap.size (fun _ => True) v4 x4_1) ∧ Aside0 (Below w.heap.size w w'))
  case atStart => exact ⟨(([] : List Int)), (2), (by first | rfl | (simp; done) | (simp [*]; done)), H', ⟨Nat.le_refl _⟩, ⟨by first | exact Kd.R_nil _ _ _ _ _ | exact Kd.N_nil _ _ _ _ _ | exact Kd.V_nil _ _ _ _ _ | exact Kd.Q_nil _ _ _ _ _ | exact Kd.S_nil _ _ _ _ _⟩, ⟨by repeat (first | (with_reducible first | exact HB.out | apply below_alloc | apply pw_below_drewN | apply below_drew1) | exact HB.out)⟩⟩
  case round =>
    clear H'
    obtain ⟨x4_1, x6_1, rfl, HA, HK1, HO_4, HB⟩ := hrel
    cases gk with
    | zero => exact absurd HA.out (by simp [spec_BytesOf.l0])
    | succ k1 =>
      have H := HA.out
      clear HA
      simp only [spec_BytesOf.l0] at H
      by_cases c2 : x6_1 < (wrap64 ((a0.size : Int) - 1))
      · rw [if_pos c2] at H
        have c2b0 : decide (x6_1 < (wrap64 ((a0.size : Int) - 1))) = true := decide_eq_true c2
        clear c2
        by_cases c3 : 0 ≤ x6_1
        · rw [if_pos c3] at H
          have c3b0 : decide (0 ≤ x6_1) = true := decide_eq_true c3
          clear c3
          by_cases c4 : x6_1 < (a0.size : Int)
          · rw [if_pos c4] at H
            have c4b0 : decide (x6_1 < (a0.size : Int)) = true := decide_eq_true c4
            clear c4
            by_cases c6 : (bt a0 x6_1) = 92
            · rw [if_pos c6] at H
              have c6b0 : ((bt a0 x6_1) == 92) = true := beq_iff_eq.mpr c6
              have c6b1 : ((bt a0 x6_1) != 92) = false := bne_eq_false_iff_eq.mpr c6
              clear c6
              obtain ⟨ji7, hji7⟩ : ∃ j_ : Int, (wrap64 (x6_1 + 1)) = j_ := ⟨_, rfl⟩
              replace H : (if 0 ≤ (ji7) then (if (ji7) < (a0.size : Int) then (if (bt a0 (ji7)) = 120 then (spec_BytesOf.j1 k1 a0 x4_1 (wrap64 ((a0.size : Int) - 1)) ji7 (bt a0 (ji7)) ((bt a0 (ji7)) == 120)) else (spec_BytesOf.j1 k1 a0 x4_1 (wrap64 ((a0.size : Int) - 1)) ji7 (bt a0 (ji7)) ((bt a0 (ji7)) == 48))) else (none)) else (none)) = some (r1, r2) := by first | (rw [hji7] at H; exact H) | (simp only [hji7] at H ⊢; exact H)
              have hji7w : (IntKind.i64.wrap (x6_1 + 1)) = ji7 := (i64_w _).trans hji7
              by_cases c8 : 0 ≤ (ji7)
              · rw [if_pos c8] at H
                have c8b0 : decide (0 ≤ (ji7)) = true := decide_eq_true c8
                clear c8
                by_cases c9 : (ji7) < (a0.size : Int)
                · rw [if_pos c9] at H
                  have c9b0 : decide ((ji7) < (a0.size : Int)) = true := decide_eq_true c9
                  clear c9
                  have HC11 := Aside0.mk H
                  clear H
                  have p5 : 0 ≤ (x6_1 : Int) := of_decide_eq_true (by first | (with_reducible assumption) | assumption)
                  have q5 : x6_1 < (a0.size : Int) := of_decide_eq_true (by first | (with_reducible assumption) | assumption)
                  have hx5 := bt_at a0 x6_1
                  replace p5 := eq_true p5
                  replace q5 := eq_true q5
                  have p10 : 0 ≤ ((ji7) : Int) := of_decide_eq_true (by first | (with_reducible assumption) | assumption)
                  have q10 : (ji7) < (a0.size : Int) := of_decide_eq_true (by first | (with_reducible assumption) | assumption)
                  have hx10 := bt_at a0 (ji7)
                  replace p10 := eq_true p10
                  replace q10 := eq_true q10
                  go_upto_if 43 with (fail)
                  go_cut [43] (fun v43 wc => ∃ (kq : Nat) (x43_10 : Bool), v43 = .bool x43_10 ∧ Aside0 (spec_BytesOf.j1 kq a0 x4_1 (wrap64 ((a0.size : Int) - 1)) ji7 (bt a0 (ji7)) x43_10 = some (r1, r2)) ∧ Aside0 (kq ≤ k1) ∧ Aside0 (Kd.R (Kd.int .u8) 5 wc w.heap.size (fun _ => True) u4 x4_1) ∧ Aside0 (Below w.heap.size w wc))
                  case first =>
                    have H := HC11.out
                    clear HC11
                    by_cases c12 : (bt a0 (ji7)) = 120
                    · rw [if_pos c12] at H
                      have c12b0 : ((bt a0 (ji7)) == 120) = true := beq_iff_eq.mpr c12
                      have c12b1 : ((bt a0 (ji7)) != 120) = false := bne_eq_false_iff_eq.mpr c12
                      clear c12
                      (first | rw [c12b0] | (simp only [i64_w, i32_w]; rw [c12b0]) | skip)
                      have H' := Aside0.mk H
                      clear H
                      go_wp2
                      go_meet
                      case rel => exact ⟨_, (((bt a0 (ji7)) == 120)), (by first | rfl | (rw [c12b0]; done) | (simp; done) | (simp only [← hji7] <;> (first | rfl | simp)) | (simp [*]; done)), H', ⟨by have := HK1.out; first | omega | exact Nat.le_refl _⟩, ⟨by (with_reducible repeat (first | apply Kd.R_alloc | apply Kd.R_drewN | apply Kd.R_drew)); exact HO_4.out⟩, ⟨by repeat (first | (with_reducible first | exact HB.out | apply below_alloc | apply pw_below_drewN | apply below_drew1) | exact HB.out)⟩⟩
                    · rw [if_neg c12] at H
                      have c12b0 : ((bt a0 (ji7)) == 120) = false := beq_eq_false_iff_ne.mpr c12
                      have c12b1 : ((bt a0 (ji7)) != 120) = true := bne_iff_ne.mpr c12
                      (first | rw [c12b0] | (simp only [i64_w, i32_w]; rw [c12b0]) | skip)
                      have H' := Aside0.mk H
                      clear H
                      go_wp2
                      go_meet
                      case rel => exact ⟨_, (((bt a0 (ji7)) == 48)), (by first | rfl | (simp; done) | (simp only [← hji7] <;> (first | rfl | simp)) | (simp [*]; done)), H', ⟨by have := HK1.out; first | omega | exact Nat.le_refl _⟩, ⟨by (with_reducible repeat (first | apply Kd.R_alloc | apply Kd.R_drewN | apply Kd.R_drew)); exact HO_4.out⟩, ⟨by repeat (first | (with_reducible first | exact HB.out | apply below_alloc | apply pw_below_drewN | apply below_drew1) | exact HB.out)⟩⟩
                  case rest =>
                    clear HC11
                    try clear c1
                    try clear p1
                    try clear q1
                    try clear hx1
                    try clear c2
                    try clear c2b0
                    try clear p2
                    try clear c3
                    try clear c3b0
                    try clear c4
                    try clear c4b0
                    try clear p5
                    try clear q5
                    try clear hx5
                    try clear c6
                    try clear c6b0
                    try clear c6b1
                    try clear p6
                    try clear c8
                    try clear c8b0
                    try clear c9
                    try clear c9b0
                    try clear p10
                    try clear q10
                    try clear hx10
                    try clear c12
                    try clear c12b0
                    try clear c12b1
                    try clear p10
                    try clear p5
                    try clear q10
                    try clear q5
                    obtain ⟨kq, x43_10, rfl, HA, HJ10, HO_4, HB⟩ := hcut
                    cases kq with
                    | zero => exact absurd HA.out (by simp [spec_BytesOf.j1])
                    | succ kj10 =>
                      have H := HA.out
                      clear HA
                      simp only [spec_BytesOf.j1] at H
                      by_cases c13 : x43_10 = true
                      · subst c13
                        have H1 : (if (bt a0 (ji7)) = 48 then (spec_BytesOf.j2 kj10 a0 x4_1 (wrap64 ((a0.size : Int) - 1)) ji7 0 3 8) else (spec_BytesOf.j2 kj10 a0 x4_1 (wrap64 ((a0.size : Int) - 1)) ji7 0 2 16)) = some (r1, r2) := by rw [if_pos rfl] at H; exact H
                        clear H
                        have H := H1
                        clear H1
                        have HC14 := Aside0.mk H
                        clear H
                        go_upto_if 47 with (fail)
                        go_cut [9, 10] (fun v9 v10 wc => ∃ (kq : Nat) (x9_13 : Int) (x10_13 : Int), v9 = .int .i64 x9_13 ∧ v10 = .int .i64 x10_13 ∧ Aside0 (spec_BytesOf.j2 kq a0 x4_1 (wrap64 ((a0.size : Int) - 1)) ji7 0 x9_13 x10_13 = some (r1, r2)) ∧ Aside0 (kq ≤ kj10) ∧ Aside0 (Kd.R (Kd.int .u8) 5 wc w.heap.size (fun _ => True) u4 x4_1) ∧ Aside0 (Below w.heap.size w wc))
                        case first =>
                          have H := HC14.out
                          clear HC14
                          by_cases c15 : (bt a0 (ji7)) = 48
                          · rw [if_pos c15] at H
                            have c15b0 : ((bt a0 (ji7)) == 48) = true := beq_iff_eq.mpr c15
                            have c15b1 : ((bt a0 (ji7)) != 48) = false := bne_eq_false_iff_eq.mpr c15
                            clear c15
                            (first | rw [c15b0] | (simp only [i64_w, i32_w]; rw [c15b0]) | skip)
                            have H' := Aside0.mk H
                            clear H
                            go_wp2
                            go_meet
                            case rel => exact ⟨_, (3), (8), (by first | rfl | (simp; done) | (simp [*]; done)), (by first | rfl | (simp; done) | (simp [*]; done)), H', ⟨by have := HK1.out; have := HJ10.out; first | omega | exact Nat.le_refl _⟩, ⟨by (with_reducible repeat (first | apply Kd.R_alloc | apply Kd.R_drewN | apply Kd.R_drew)); exact HO_4.out⟩, ⟨by repeat (first | (with_reducible first | exact HB.out | apply below_alloc | apply pw_below_drewN | apply below_drew1) | exact HB.out)⟩⟩
                          · rw [if_neg c15] at H
                            have c15b0 : ((bt a0 (ji7)) == 48) = false := beq_eq_false_iff_ne.mpr c15
                            have c15b1 : ((bt a0 (ji7)) != 48) = true := bne_iff_ne.mpr c15
                            (first | rw [c15b0] | (simp only [i64_w, i32_w]; rw [c15b0]) | skip)
                            have H' := Aside0.mk H
                            clear H
                            go_wp2
                            go_meet
                            case rel => exact ⟨_, (2), (16), (by first | rfl | (simp; done) | (simp [*]; done)), (by first | rfl | (simp; done) | (simp [*]; done)), H', ⟨by have := HK1.out; have := HJ10.out; first | omega | exact Nat.le_refl _⟩, ⟨by (with_reducible repeat (first | apply Kd.R_alloc | apply Kd.R_drewN | apply Kd.R_drew)); exact HO_4.out⟩, ⟨by repeat (first | (with_reducible first | exact HB.out | apply below_alloc | apply pw_below_drewN | apply below_drew1) | exact HB.out)⟩⟩
                        case rest =>
                          clear HC14
                          try clear c1
                          try clear p1
                          try clear q1
                          try clear hx1
                          try clear c2
                          try clear c2b0
                          try clear p2
                          try clear c3
                          try clear c3b0
                          try clear c4
                          try clear c4b0
                          try clear p5
                          try clear q5
                          try clear hx5
                          try clear c6
                          try clear c6b0
                          try clear c6b1
                          try clear p6
                          try clear c8
                          try clear c8b0
                          try clear c9
                          try clear c9b0
                          try clear p10
                          try clear q10
                          try clear hx10
                          try clear c12
                          try clear c12b0
                          try clear c12b1
                          try clear c13
                          try clear c15
                          try clear c15b0
                          try clear c15b1
                          try clear p1
                          try clear p10
                          try clear p2
                          try clear p5
                          try clear p6
                          try clear q1
                          try clear q10
                          try clear q5
                          obtain ⟨kq, x9_13, x10_13, rfl, rfl, HA, HJ13, HO_4, HB⟩ := hcut
                          cases kq with
                          | zero => exact absurd HA.out (by simp [spec_BytesOf.j2])
                          | succ kj13 =>
                            have H := HA.out
                            clear HA
                            simp only [spec_BytesOf.j2] at H
                            have H' := Aside0.mk H
                            clear H
                            go_wp2
                            go_loopg [6, 8, 11] kj13 (fun kq v6 v8 v11 w' => ∃ (x6_4 : Int) (x8_4 : Int) (x11_4 : Int), v6 = .int .i64 x6_4 ∧ v8 = .int .i64 x8_4 ∧ v11 = .int .i64 x11_4 ∧ Aside0 (spec_BytesOf.l1 kq a0 x4_1 (wrap64 ((a0.size : Int) - 1)) x6_4 x8_4 x9_13 x10_13 x11_4 = some (r1, r2)) ∧ Aside0 (kq ≤ kj13) ∧ Aside0 (Kd.R (Kd.int .u8) 5 w' w.heap.size (fun _ => True) u4 x4_1) ∧ Aside0 (Below w.heap.size w w'))
                            case atStart => exact ⟨(ji7), (0), (0), (by first | rfl | (simp; done) | (simp only [← hji7] <;> (first | rfl | simp)) | (simp [*]; done)), (by first | rfl | (simp; done) | (simp [*]; done)), (by first | rfl | (simp; done) | (simp [*]; done)), H', ⟨Nat.le_refl _⟩, ⟨by (with_reducible repeat (first | apply Kd.R_alloc | apply Kd.R_drewN | apply Kd.R_drew)); exact HO_4.out⟩, ⟨by repeat (first | (with_reducible first | exact HB.out | apply below_alloc | apply pw_below_drewN | apply below_drew1) | exact HB.out)⟩⟩
                            case round =>
                              clear H'
                              try clear c1
                              try clear p1
                              try clear q1
                              try clear hx1
                              try clear c2
                              try clear c2b0
                              try clear p2
                              try clear c3
                              try clear c3b0
                              try clear c4
                              try clear c4b0
                              try clear p5
                              try clear q5
                              try clear hx5
                              try clear c6
                              try clear c6b0
                              try clear c6b1
                              try clear p6
                              try clear c8
                              try clear c8b0
                              try clear c9
                              try clear c9b0
                              try clear p10
                              try clear q10
                              try clear hx10
                              try clear c12
                              try clear c12b0
                              try clear c12b1
                              try clear c13
                              try clear c15
                              try clear c15b0
                              try clear c15b1
                              try clear p1
                              try clear p10
                              try clear p2
                              try clear p5
                              try clear p6
                              try clear q1
                              try clear q10
                              try clear q5
                              obtain ⟨x6_4, x8_4, x11_4, rfl, rfl, rfl, HA, HK4, HO_4, HB⟩ := hrel
                              cases gk with
                              | zero => exact absurd HA.out (by simp [spec_BytesOf.l1])
                              | succ k4 =>
                                have H := HA.out
                                clear HA
                                simp only [spec_BytesOf.l1] at H
                                by_cases c16 : x11_4 < x9_13
                                · rw [if_pos c16] at H
                                  have c16b0 : decide (x11_4 < x9_13) = true := decide_eq_true c16
                                  clear c16
                                  by_cases c17 : (wrap64 (x6_4 + 1)) < (wrap64 ((a0.size : Int) - 1))
                                  · rw [if_pos c17] at H
                                    have c17b0 : decide ((wrap64 (x6_4 + 1)) < (wrap64 ((a0.size : Int) - 1))) = true := decide_eq_true c17
                                    clear c17
                                    obtain ⟨ji18, hji18⟩ : ∃ j_ : Int, (wrap64 (x6_4 + 1)) = j_ := ⟨_, rfl⟩
                                    replace H : (if 0 ≤ (ji18) then (if (ji18) < (a0.size : Int) then ((spec_hexDigit.f k4 (bt a0 (ji18))).bind fun bt161 => (if bt161.2 = true then (if (wrap64 (bt161.1)) ≥ x10_13 then (some ((⟨#[]⟩ : ByteArray), false)) else (spec_BytesOf.l1 k4 a0 x4_1 (wrap64 ((a0.size : Int) - 1)) ji18 (wrap64 ((wrap64 (x8_4 * x10_13)) + (wrap64 (bt161.1)))) x9_13 x10_13 (wrap64 (x11_4 + 1)))) else (some ((⟨#[]⟩ : ByteArray), false)))) else (none)) else (none)) = some (r1, r2) := by first | (rw [hji18] at H; exact H) | (simp only [hji18] at H ⊢; exact H)
                                    (try rw [hji18] at c17b0)
                                    have hji18w : (IntKind.i64.wrap (x6_4 + 1)) = ji18 := (i64_w _).trans hji18
                                    by_cases c19 : 0 ≤ (ji18)
                                    · rw [if_pos c19] at H
                                      have c19b0 : decide (0 ≤ (ji18)) = true := decide_eq_true c19
                                      clear c19
                                      by_cases c20 : (ji18) < (a0.size : Int)
                                      · rw [if_pos c20] at H
                                        have c20b0 : decide ((ji18) < (a0.size : Int)) = true := decide_eq_true c20
                                        clear c20
                                        replace H := Option.bind_eq_some_iff.mp H
                                        obtain ⟨⟨t161, t162⟩, A220, H⟩ := H
                                        replace H : (if t162 = true then (if (wrap64 (t161)) ≥ x10_13 then (some ((⟨#[]⟩ : ByteArray), false)) else (spec_BytesOf.l1 k4 a0 x4_1 (wrap64 ((a0.size : Int) - 1)) ji18 (wrap64 ((wrap64 (x8_4 * x10_13)) + (wrap64 (t161)))) x9_13 x10_13 (wrap64 (x11_4 + 1)))) else (some ((⟨#[]⟩ : ByteArray), false))) = some (r1, r2) := H
                                        have A22 := Aside0.mk A220
                                        clear A220
                                        by_cases c23 : t162 = true
                                        · subst c23
                                          have H1 : (if (wrap64 (t161)) ≥ x10_13 then (some ((⟨#[]⟩ : ByteArray), false)) else (spec_BytesOf.l1 k4 a0 x4_1 (wrap64 ((a0.size : Int) - 1)) ji18 (wrap64 ((wrap64 (x8_4 * x10_13)) + (wrap64 (t161)))) x9_13 x10_13 (wrap64 (x11_4 + 1)))) = some (r1, r2) := by rw [if_pos rfl] at H; exact H
                                          clear H
                                          have H := H1
                                          clear H1
                                          by_cases c24 : (wrap64 (t161)) ≥ x10_13
                                          · rw [if_pos c24] at H
                                            have c24b0 : decide (x10_13 ≤ (wrap64 (t161))) = true := decide_eq_true c24
                                            clear c24
                                            simp only [Option.some.injEq, Prod.mk.injEq] at H
                                            obtain ⟨rfl, rfl⟩ := H
                                            have p21 : 0 ≤ ((ji18) : Int) := of_decide_eq_true (by first | (with_reducible assumption) | assumption)
                                            have q21 : (ji18) < (a0.size : Int) := of_decide_eq_true (by first | (with_reducible assumption) | assumption)
                                            have hx21 := bt_at a0 (ji18)
                                            replace p21 := eq_true p21
                                            replace q21 := eq_true q21
                                            go_wp2_with (first | ((with_reducible refine gate_callee (f := 15) rfl ?_); refine goesL_ (some 62) rfl rfl Tryd.func15 (by kernel_rfl) rfl #[.int .u8 (bt a0 (ji18))] rfl (by (try simp only [List.map_toArray, List.map_cons, List.map_nil]); first | done | (simp only [hji18]; rfl) | rfl | (simp only [List.length_drop, List.length_take]; rfl)) ?_; (with_reducible refine (spec_hexDigit.calls k4 (bt a0 (ji18)) t161 true _ A22.out).mono ?_); rintro e w' ⟨rfl, ⟨nd, rfl⟩⟩; refine ⟨_, rfl, ?_⟩))
                                            go_ret2
                                            exact ⟨by first | rfl | (simp [errW_none, errW_some] <;> rfl) | (simp only [← hji7, ← hji18]; first | rfl | (simp [errW_none, errW_some] <;> rfl)) | (simp [*, errW_none, errW_some] <;> rfl), by repeat (first | (with_reducible first | exact HB.out | apply below_alloc | apply pw_below_drewN | apply below_drew1) | exact HB.out)⟩
                                          · rw [if_neg c24] at H
                                            have c24b0 : decide (x10_13 ≤ (wrap64 (t161))) = false := decide_eq_false c24
                                            clear c24
                                            have H' := Aside0.mk H
                                            clear H
                                            have p21 : 0 ≤ ((ji18) : Int) := of_decide_eq_true (by first | (with_reducible assumption) | assumption)
                                            have q21 : (ji18) < (a0.size : Int) := of_decide_eq_true (by first | (with_reducible assumption) | assumption)
                                            have hx21 := bt_at a0 (ji18)
                                            replace p21 := eq_true p21
                                            replace q21 := eq_true q21
                                            go_wp2_with (first | ((with_reducible refine gate_callee (f := 15) rfl ?_); refine goesL_ (some 62) rfl rfl Tryd.func15 (by kernel_rfl) rfl #[.int .u8 (bt a0 (ji18))] rfl (by (try simp only [List.map_toArray, List.map_cons, List.map_nil]); first | done | (simp only [hji18]; rfl) | rfl | (simp only [List.length_drop, List.length_take]; rfl)) ?_; (with_reducible refine (spec_hexDigit.calls k4 (bt a0 (ji18)) t161 true _ A22.out).mono ?_); rintro e w' ⟨rfl, ⟨nd, rfl⟩⟩; refine ⟨_, rfl, ?_⟩))
                                            go_roundg k4
                                            case measure => have := HK1.out; have := HJ10.out; have := HJ13.out; have := HK4.out; omega
                                            case rel => exact ⟨(ji18), (wrap64 ((wrap64 (x8_4 * x10_13)) + (wrap64 (t161)))), (wrap64 (x11_4 + 1)), (by first | rfl | (simp; done) | (simp only [← hji18] <;> (first | rfl | simp)) | (simp [*]; done)), (by first | rfl | (simp; done) | (simp [*]; done)), (by first | rfl | (simp; done) | (simp [*]; done)), H', ⟨by have := HK1.out; have := HJ10.out; have := HJ13.out; have := HK4.out; omega⟩, ⟨by (with_reducible repeat (first | apply Kd.R_alloc | apply Kd.R_drewN | apply Kd.R_drew)); exact HO_4.out⟩, ⟨by repeat (first | (with_reducible first | exact HB.out | apply below_alloc | apply pw_below_drewN | apply below_drew1) | exact HB.out)⟩⟩
                                        · replace c23 := Bool.eq_false_iff.mpr c23
                                          subst c23
                                          have H1 : (some ((⟨#[]⟩ : ByteArray), false)) = some (r1, r2) := by rw [if_neg (show ¬ (false = true) by decide)] at H; exact H
                                          clear H
                                          have H := H1
                                          clear H1
                                          simp only [Option.some.injEq, Prod.mk.injEq] at H
                                          obtain ⟨rfl, rfl⟩ := H
                                          have p21 : 0 ≤ ((ji18) : Int) := of_decide_eq_true (by first | (with_reducible assumption) | assumption)
                                          have q21 : (ji18) < (a0.size : Int) := of_decide_eq_true (by first | (with_reducible assumption) | assumption)
                                          have hx21 := bt_at a0 (ji18)
                                          replace p21 := eq_true p21
                                          replace q21 := eq_true q21
                                          go_wp2_with (first | ((with_reducible refine gate_callee (f := 15) rfl ?_); refine goesL_ (some 62) rfl rfl Tryd.func15 (by kernel_rfl) rfl #[.int .u8 (bt a0 (ji18))] rfl (by (try simp only [List.map_toArray, List.map_cons, List.map_nil]); first | done | (simp only [hji18]; rfl) | rfl | (simp only [List.length_drop, List.length_take]; rfl)) ?_; (with_reducible refine (spec_hexDigit.calls k4 (bt a0 (ji18)) t161 false _ A22.out).mono ?_); rintro e w' ⟨rfl, ⟨nd, rfl⟩⟩; refine ⟨_, rfl, ?_⟩))
                                          go_ret2
                                          exact ⟨by first | rfl | (simp [errW_none, errW_some] <;> rfl) | (simp only [← hji7, ← hji18]; first | rfl | (simp [errW_none, errW_some] <;> rfl)) | (simp [*, errW_none, errW_some] <;> rfl), by repeat (first | (with_reducible first | exact HB.out | apply below_alloc | apply pw_below_drewN | apply below_drew1) | exact HB.out)⟩
                                      · rw [if_neg c20] at H
                                        exact absurd H (by simp)
                                    · rw [if_neg c19] at H
                                      exact absurd H (by simp)
                                  · rw [if_neg c17] at H
                                    have c17b0 : decide ((wrap64 (x6_4 + 1)) < (wrap64 ((a0.size : Int) - 1))) = false := decide_eq_false c17
                                    clear c17
                                    simp only [Option.some.injEq, Prod.mk.injEq] at H
                                    obtain ⟨rfl, rfl⟩ := H
                                    go_wp2
                                    go_ret2
                                    exact ⟨by first | rfl | (simp [errW_none, errW_some] <;> rfl) | (simp only [← hji7]; first | rfl | (simp [errW_none, errW_some] <;> rfl)) | (simp [*, errW_none, errW_some] <;> rfl), by repeat (first | (with_reducible first | exact HB.out | apply below_alloc | apply pw_below_drewN | apply below_drew1) | exact HB.out)⟩
                                · rw [if_neg c16] at H
                                  have c16b0 : decide (x11_4 < x9_13) = false := decide_eq_false c16
                                  clear c16
                                  by_cases c25 : x8_4 > 255
                                  · rw [if_pos c25] at H
                                    have c25b0 : decide (255 < x8_4) = true := decide_eq_true c25
                                    clear c25
                                    simp only [Option.some.injEq, Prod.mk.injEq] at H
                                    obtain ⟨rfl, rfl⟩ := H
                                    go_wp2
                                    go_ret2
                                    exact ⟨by first | rfl | (simp [errW_none, errW_some] <;> rfl) | (simp only [← hji7]; first | rfl | (simp [errW_none, errW_some] <;> rfl)) | (simp [*, errW_none, errW_some] <;> rfl), by repeat (first | (with_reducible first | exact HB.out | apply below_alloc | apply pw_below_drewN | apply below_drew1) | exact HB.out)⟩
                                  · rw [if_neg c25] at H
                                    have c25b0 : decide (255 < x8_4) = false := decide_eq_false c25
                                    clear c25
                                    by_cases c26 : x4_1.length < 140737488355328
                                    · rw [if_pos c26] at H
                                      have LMc26 := Aside0.mk c26
                                      clear c26
                                      obtain ⟨y158, hy158⟩ : ∃ y_ : List Int, y_ = (x4_1 ++ [(x8_4) % 256]) := ⟨_, rfl⟩
                                      replace H : (spec_BytesOf.l0 k4 a0 y158 (wrap64 ((a0.size : Int) - 1)) (wrap64 (x6_4 + 1))) = some (r1, r2) := by first | (rw [hy158]; with_reducible exact H) | (have H2_ := (Option.bind_some _ _).symm.trans H; rw [hy158]; with_reducible exact H2_) | (have H2_ := (Option.bind_some _ _).symm.trans H; with_reducible exact H2_) | with_reducible exact H | (rw [hy158]; exact H) | exact H
                                      have Ny158 := Aside0.mk hy158
                                      clear hy158
                                      have H' := Aside0.mk H
                                      clear H
                                      go_wp2_with (first | ((with_reducible refine gate_builtin (b := .append) (xs := #[.tmp 81, .tmp 84]) rfl ?_); at_builtin; refine Kd.R_append (Kd.int .u8) (w0 := w) w.heap.size rfl (.tmp 81) (.tmp 84) 26 5 (.int .u8 0) 1 rfl Tryd.underlying26 info5 rfl (by decide) (by omega) u4 x4_1 ((x8_4) % 256) [.int .u8 ((x8_4) % 256)] (fun _ => True) (fun _ => False) rfl rfl ?aP (fun _ hk => hk.elim) ?aF ?aO ?aB ?aS ?aL ?_; (case aP => exact rfl); (case aB => exact (by repeat (first | (with_reducible first | exact HB.out | apply below_alloc | apply pw_below_drewN | apply below_drew1) | exact HB.out))); (case aF => exact (fun _ _ => trivial)); (case aO => exact (by (with_reducible repeat (first | apply Kd.R_alloc | apply Kd.R_drewN | apply Kd.R_drew)); exact HO_4.out)); (case aS => exact (below_size (by repeat (first | (with_reducible first | exact HB.out | apply below_alloc | apply pw_below_drewN | apply below_drew1) | exact HB.out)))); (case aL => have := LMc26.out; omega); intro v159 w27 ho hb hg hat; rw [← Ny158.out] at ho; have n0_ := Aside0.mk (hb); have n1_ := Aside0.mk (ho); clear HB; clear HO_4; have HB := n0_; have HO160 := n1_; clear n0_ n1_; clear ho hb hg hat))
                                      go_roundg k4
                                      case measure => have := HK1.out; have := HJ10.out; have := HJ13.out; have := HK4.out; omega
                                      case rel => exact ⟨(y158), (wrap64 (x6_4 + 1)), (by first | rfl | (simp; done) | (simp [*]; done)), H', ⟨by have := HK1.out; have := HJ10.out; have := HJ13.out; have := HK4.out; omega⟩, ⟨by (with_reducible repeat (first | apply Kd.R_alloc | apply Kd.R_drewN | apply Kd.R_drew)); exact HO160.out⟩, ⟨by repeat (first | (with_reducible first | exact HB.out | apply below_alloc | apply pw_below_drewN | apply below_drew1) | exact HB.out)⟩⟩
                                    · rw [if_neg c26] at H
                                      exact absurd H (by simp)
                      · replace c13 := Bool.eq_false_iff.mpr c13
                        subst c13
                        have H1 : ((spec_escapedAs.f kj10 (bt a0 (ji7))).bind fun t163 => (if x4_1.length < 140737488355328 then (spec_BytesOf.l0 kj10 a0 (x4_1 ++ [t163]) (wrap64 ((a0.size : Int) - 1)) (wrap64 (ji7 + 1))) else (none))) = some (r1, r2) := by rw [if_neg (show ¬ (false = true) by decide)] at H; exact H
                        clear H
                        have H := H1
                        clear H1
                        replace H := Option.bind_eq_some_iff.mp H
                        obtain ⟨t163, A280, H⟩ := H
                        replace H : (if x4_1.length < 140737488355328 then (spec_BytesOf.l0 kj10 a0 (x4_1 ++ [t163]) (wrap64 ((a0.size : Int) - 1)) (wrap64 (ji7 + 1))) else (none)) = some (r1, r2) := H
                        have A28 := Aside0.mk A280
                        clear A280
                        by_cases c29 : x4_1.length < 140737488355328
                        · rw [if_pos c29] at H
                          have LMc29 := Aside0.mk c29
                          clear c29
                          obtain ⟨y164, hy164⟩ : ∃ y_ : List Int, y_ = (x4_1 ++ [t163]) := ⟨_, rfl⟩
                          replace H : (spec_BytesOf.l0 kj10 a0 y164 (wrap64 ((a0.size : Int) - 1)) (wrap64 (ji7 + 1))) = some (r1, r2) := by first | (rw [hy164]; with_reducible exact H) | (have H2_ := (Option.bind_some _ _).symm.trans H; rw [hy164]; with_reducible exact H2_) | (have H2_ := (Option.bind_some _ _).symm.trans H; with_reducible exact H2_) | with_reducible exact H | (rw [hy164]; exact H) | exact H
                          have Ny164 := Aside0.mk hy164
                          clear hy164
                          have H' := Aside0.mk H
                          clear H
                          go_wp2_with (first | ((with_reducible refine gate_callee (f := 16) rfl ?_); refine goesL_ (some 40) rfl rfl Tryd.func16 (by kernel_rfl) rfl #[.int .u8 (bt a0 (ji7))] rfl (by (try simp only [List.map_toArray, List.map_cons, List.map_nil]); first | done | (simp only [hji7]; rfl) | rfl | (simp only [List.length_drop, List.length_take]; rfl)) ?_; (with_reducible refine (spec_escapedAs.calls kj10 (bt a0 (ji7)) t163 _ A28.out).mono ?_); rintro e w' ⟨rfl, ⟨nd, rfl⟩⟩; refine ⟨_, rfl, ?_⟩) | ((with_reducible refine gate_builtin (b := .append) (xs := #[.tmp 38, .tmp 41]) rfl ?_); at_builtin; refine Kd.R_append (Kd.int .u8) (w0 := w) w.heap.size rfl (.tmp 38) (.tmp 41) 26 5 (.int .u8 0) 1 rfl Tryd.underlying26 info5 rfl (by decide) (by omega) u4 x4_1 t163 [.int .u8 t163] (fun _ => True) (fun _ => False) rfl rfl ?aP (fun _ hk => hk.elim) ?aF ?aO ?aB ?aS ?aL ?_; (case aP => exact rfl); (case aB => exact (by repeat (first | (with_reducible first | exact HB.out | apply below_alloc | apply pw_below_drewN | apply below_drew1) | exact HB.out))); (case aF => exact (fun _ _ => trivial)); (case aO => exact (by (with_reducible repeat (first | apply Kd.R_alloc | apply Kd.R_drewN | apply Kd.R_drew)); exact HO_4.out)); (case aS => exact (below_size (by repeat (first | (with_reducible first | exact HB.out | apply below_alloc | apply pw_below_drewN | apply below_drew1) | exact HB.out)))); (case aL => have := LMc29.out; omega); intro v165 w30 ho hb hg hat; rw [← Ny164.out] at ho; have n0_ := Aside0.mk (hb); have n1_ := Aside0.mk (ho); clear HB; clear HO_4; have HB := n0_; have HO166 := n1_; clear n0_ n1_; clear ho hb hg hat))
                          go_roundg kj10
                          case measure => have := HK1.out; have := HJ10.out; omega
                          case rel => exact ⟨(y164), (wrap64 (ji7 + 1)), (by first | rfl | (simp; done) | (simp only [← hji7] <;> (first | rfl | simp)) | (simp [*]; done)), H', ⟨by have := HK1.out; have := HJ10.out; omega⟩, ⟨by (with_reducible repeat (first | apply Kd.R_alloc | apply Kd.R_drewN | apply Kd.R_drew)); exact HO166.out⟩, ⟨by repeat (first | (with_reducible first | exact HB.out | apply below_alloc | apply pw_below_drewN | apply below_drew1) | exact HB.out)⟩⟩
                        · rw [if_neg c29] at H
                          exact absurd H (by simp)
                · rw [if_neg c9] at H
                  exact absurd H (by simp)
              · rw [if_neg c8] at H
                exact absurd H (by simp)
            · rw [if_neg c6] at H
              have c6b0 : ((bt a0 x6_1) == 92) = false := beq_eq_false_iff_ne.mpr c6
              have c6b1 : ((bt a0 x6_1) != 92) = true := bne_iff_ne.mpr c6
              by_cases c32 : x4_1.length < 140737488355328
              · rw [if_pos c32] at H
                have LMc32 := Aside0.mk c32
                clear c32
                obtain ⟨y155, hy155⟩ : ∃ y_ : List Int, y_ = (x4_1 ++ [bt a0 x6_1]) := ⟨_, rfl⟩
                replace H : (spec_BytesOf.l0 k1 a0 y155 (wrap64 ((a0.size : Int) - 1)) (wrap64 (x6_1 + 1))) = some (r1, r2) := by first | (rw [hy155]; with_reducible exact H) | (have H2_ := (Option.bind_some _ _).symm.trans H; rw [hy155]; with_reducible exact H2_) | (have H2_ := (Option.bind_some _ _).symm.trans H; with_reducible exact H2_) | with_reducible exact H | (rw [hy155]; exact H) | exact H
                have Ny155 := Aside0.mk hy155
                clear hy155
                have H' := Aside0.mk H
                clear H
                have p5 : 0 ≤ (x6_1 : Int) := of_decide_eq_true (by first | (with_reducible assumption) | assumption)
                have q5 : x6_1 < (a0.size : Int) := of_decide_eq_true (by first | (with_reducible assumption) | assumption)
                have hx5 := bt_at a0 x6_1
                replace p5 := eq_true p5
                replace q5 := eq_true q5
                have p31 : 0 ≤ (x6_1 : Int) := of_decide_eq_true (by first | (with_reducible assumption) | assumption)
                have q31 : x6_1 < (a0.size : Int) := of_decide_eq_true (by first | (with_reducible assumption) | assumption)
                have hx31 := bt_at a0 x6_1
                replace p31 := eq_true p31
                replace q31 := eq_true q31
                go_wp2_with (first | ((with_reducible refine gate_builtin (b := .append) (xs := #[.tmp 26, .tmp 30]) rfl ?_); at_builtin; refine Kd.R_append (Kd.int .u8) (w0 := w) w.heap.size rfl (.tmp 26) (.tmp 30) 26 5 (.int .u8 0) 1 rfl Tryd.underlying26 info5 rfl (by decide) (by omega) u4 x4_1 (bt a0 x6_1) [.int .u8 (bt a0 x6_1)] (fun _ => True) (fun _ => False) rfl rfl ?aP (fun _ hk => hk.elim) ?aF ?aO ?aB ?aS ?aL ?_; (case aP => exact rfl); (case aB => exact (by repeat (first | (with_reducible first | exact HB.out | apply below_alloc | apply pw_below_drewN | apply below_drew1) | exact HB.out))); (case aF => exact (fun _ _ => trivial)); (case aO => exact (by (with_reducible repeat (first | apply Kd.R_alloc | apply Kd.R_drewN | apply Kd.R_drew)); exact HO_4.out)); (case aS => exact (below_size (by repeat (first | (with_reducible first | exact HB.out | apply below_alloc | apply pw_below_drewN | apply below_drew1) | exact HB.out)))); (case aL => have := LMc32.out; omega); intro v156 w33 ho hb hg hat; rw [← Ny155.out] at ho; have n0_ := Aside0.mk (hb); have n1_ := Aside0.mk (ho); clear HB; clear HO_4; have HB := n0_; have HO157 := n1_; clear n0_ n1_; clear ho hb hg hat))
                go_roundg k1
                case measure => have := HK1.out; omega
                case rel => exact ⟨(y155), (wrap64 (x6_1 + 1)), (by first | rfl | (simp; done) | (simp [*]; done)), H', ⟨by have := HK1.out; omega⟩, ⟨by (with_reducible repeat (first | apply Kd.R_alloc | apply Kd.R_drewN | apply Kd.R_drew)); exact HO157.out⟩, ⟨by repeat (first | (with_reducible first | exact HB.out | apply below_alloc | apply pw_below_drewN | apply below_drew1) | exact HB.out)⟩⟩
              · rw [if_neg c32] at H
                exact absurd H (by simp)
          · rw [if_neg c4] at H
            exact absurd H (by simp)
        · rw [if_neg c3] at H
          exact absurd H (by simp)
      · rw [if_neg c2] at H
        have c2b0 : decide (x6_1 < (wrap64 ((a0.size : Int) - 1))) = false := decide_eq_false c2
        clear c2
        by_cases c34 : x4_1.length < 140737488355328
        · rw [if_pos c34] at H
          have LMc34 := Aside0.mk c34
          clear c34
          obtain ⟨y152, hy152⟩ : ∃ y_ : List Int, y_ = (x4_1 ++ [0]) := ⟨_, rfl⟩
          replace H : (some (strOfNums y152, true)) = some (r1, r2) := by first | (rw [hy152]; with_reducible exact H) | (have H2_ := (Option.bind_some _ _).symm.trans H; rw [hy152]; with_reducible exact H2_) | (have H2_ := (Option.bind_some _ _).symm.trans H; with_reducible exact H2_) | with_reducible exact H | (rw [hy152]; exact H) | exact H
          have Ny152 := Aside0.mk hy152
          clear hy152
          simp only [Option.some.injEq, Prod.mk.injEq] at H
          obtain ⟨rfl, rfl⟩ := H
          go_wp2_with (first | ((with_reducible refine gate_builtin (b := .append) (xs := #[.tmp 86, .tmp 87]) rfl ?_); at_builtin; refine Kd.R_append (Kd.int .u8) (w0 := w) w.heap.size rfl (.tmp 86) (.tmp 87) 26 5 (.int .u8 0) 1 rfl Tryd.underlying26 info5 rfl (by decide) (by omega) u4 x4_1 0 [.int .u8 0] (fun _ => True) (fun _ => False) rfl rfl ?aP (fun _ hk => hk.elim) ?aF ?aO ?aB ?aS ?aL ?_; (case aP => exact rfl); (case aB => exact (by repeat (first | (with_reducible first | exact HB.out | apply below_alloc | apply pw_below_drewN | apply below_drew1) | exact HB.out))); (case aF => exact (fun _ _ => trivial)); (case aO => exact (by (with_reducible repeat (first | apply Kd.R_alloc | apply Kd.R_drewN | apply Kd.R_drew)); exact HO_4.out)); (case aS => exact (below_size (by repeat (first | (with_reducible first | exact HB.out | apply below_alloc | apply pw_below_drewN | apply below_drew1) | exact HB.out)))); (case aL => have := LMc34.out; omega); intro v153 w35 ho hb hg hat; rw [← Ny152.out] at ho; have n0_ := Aside0.mk (hb); have n1_ := Aside0.mk (ho); clear HB; clear HO_4; have HB := n0_; have HO154 := n1_; clear n0_ n1_; clear ho hb hg hat; have hcv36 := own_string (P := Tryd.prog) Tryd.underlying26 Tryd.underlying5 Tryd.underlying9 (Kd.own_of_R HO154.out)))
          go_ret2
          exact ⟨by first | rfl | (simp [errW_none, errW_some] <;> rfl) | (simp [*, errW_none, errW_some] <;> rfl), by repeat (first | (with_reducible first | exact HB.out | apply below_alloc | apply pw_below_drewN | apply below_drew1) | exact HB.out)⟩
        · rw [if_neg c34] at H
          exact absurd H (by simp)

end Go.Proofs.YtgljkbhjbefikaaDoor.PVb

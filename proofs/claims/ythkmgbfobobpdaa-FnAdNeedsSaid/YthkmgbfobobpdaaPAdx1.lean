-- Written by a program of this session (wip/tools/myprint.py) for this claim.
import Derived.Test.YthkmgbfobobpdaaPAdx0
namespace Go.Proofs.Ythkmgbfobobpdaa.PAd
open Go.RowKit Go.Proofs.YthkmgbfobobpdaaW.PrintWords Go.Proofs.YthkmgbfobobpdaaW.PrintLast Go.Proofs.YthkmgbfobobpdaaW.PrintMore
attribute [local go_sem] max2_int min2_int max_two min_two max_three min_three max_four min_four   -- for this text's walks alone
set_option linter.unusedVariables false
set_option linter.unusedSimpArgs false

/-! ### laws_FnAdEvery: function 7 -/
mutual
def laws_FnAdEvery.j0 : Nat → ByteArray → List Int → Bool → Option (Bool)
  | 0, _, _, _ => none
  | k + 1, x0, x1, x18 => if x18 = true then (some true) else (if (x0.size : Int) > 1024 then (laws_FnAdEvery.j1 k x0 x1 true) else (if (x1.length : Int) = 0 then (laws_FnAdEvery.j1 k x0 x1 true) else (laws_FnAdEvery.j1 k x0 x1 (decide ((x1.length : Int) > 1024)))))
def laws_FnAdEvery.j1 : Nat → ByteArray → List Int → Bool → Option (Bool)
  | 0, _, _, _ => none
  | k + 1, x0, x1, x31 => if x31 = true then (some true) else (laws_FnAdEvery.l0 k x0 x1 ([] : List Int) 0)
def laws_FnAdEvery.l0 : Nat → ByteArray → List Int → List Int → Int → Option (Bool)
  | 0, _, _, _, _ => none
  | k + 1, x0, x1, x5, x6 => if x6 < (x0.size : Int) then (if (x1.length : Int) = 0 then (none) else (if 0 ≤ (Int.tmod x6 (x1.length : Int)) then (if (Int.tmod x6 (x1.length : Int)) < (x1.length : Int) then (if (Int.tmod (rd x1 (Int.tmod x6 (x1.length : Int))) 3) = 0 then (if 0 ≤ x6 then (laws_FnAdEvery.j3 k x0 x1 x5 x6 (Int.tmod (rd x1 (Int.tmod x6 (x1.length : Int))) 3) ((bt x0 x6) != 37)) else (none)) else (laws_FnAdEvery.j3 k x0 x1 x5 x6 (Int.tmod (rd x1 (Int.tmod x6 (x1.length : Int))) 3) false)) else (none)) else (none))) else ((Given.AdUnescape.f k (strOfNums x5)).bind fun bt101 => (if bt101.2 = true then (some (bt101.1.toList == x0.toList)) else (some false)))
def laws_FnAdEvery.j3 : Nat → ByteArray → List Int → List Int → Int → Int → Bool → Option (Bool)
  | 0, _, _, _, _, _, _ => none
  | k + 1, x0, x1, x5, x6, x7, x53 => if x53 = true then (if 0 ≤ x6 then (if x6 < (x0.size : Int) then (if x5.length < 140737488355328 then (laws_FnAdEvery.l0 k x0 x1 (x5 ++ [bt x0 x6]) (wrap64 (x6 + 1))) else (none)) else (none)) else (none)) else (if x7 = 1 then (if 0 ≤ x6 then (if x6 < (x0.size : Int) then (if 0 ≤ ((bt x0 x6) / 16) then (if ((bt x0 x6) / 16) < 16 then (if 0 ≤ (Go.bits .and .u8 (bt x0 x6) 15) then (if (Go.bits .and .u8 (bt x0 x6) 15) < 16 then ((some (([37, bt (⟨#[48, 49, 50, 51, 52, 53, 54, 55, 56, 57, 65, 66, 67, 68, 69, 70]⟩ : ByteArray) ((bt x0 x6) / 16), bt (⟨#[48, 49, 50, 51, 52, 53, 54, 55, 56, 57, 65, 66, 67, 68, 69, 70]⟩ : ByteArray) (Go.bits .and .u8 (bt x0 x6) 15)] : List Int) : List Int)).bind fun y107 => (if x5.length + y107.length < 140737488355328 then (laws_FnAdEvery.l0 k x0 x1 (x5 ++ y107) (wrap64 (x6 + 1))) else (none))) else (none)) else (none)) else (none)) else (none)) else (none)) else (none)) else (if 0 ≤ x6 then (if x6 < (x0.size : Int) then (if 0 ≤ ((bt x0 x6) / 16) then (if ((bt x0 x6) / 16) < 16 then (if 0 ≤ (Go.bits .and .u8 (bt x0 x6) 15) then (if (Go.bits .and .u8 (bt x0 x6) 15) < 16 then ((some (([37, bt (⟨#[48, 49, 50, 51, 52, 53, 54, 55, 56, 57, 97, 98, 99, 100, 101, 102]⟩ : ByteArray) ((bt x0 x6) / 16), bt (⟨#[48, 49, 50, 51, 52, 53, 54, 55, 56, 57, 97, 98, 99, 100, 101, 102]⟩ : ByteArray) (Go.bits .and .u8 (bt x0 x6) 15)] : List Int) : List Int)).bind fun y113 => (if x5.length + y113.length < 140737488355328 then (laws_FnAdEvery.l0 k x0 x1 (x5 ++ y113) (wrap64 (x6 + 1))) else (none))) else (none)) else (none)) else (none)) else (none)) else (none)) else (none)))
end
def laws_FnAdEvery.f (k : Nat) (a0 : ByteArray) (l1 : List Int) : Option (Bool) := if (a0.size : Int) > 2147483647 then (laws_FnAdEvery.j0 k a0 l1 true) else (laws_FnAdEvery.j0 k a0 l1 (decide ((l1.length : Int) > 2147483647)))
theorem laws_FnAdEvery.mono_l : ∀ k, (∀ y0 y1 y2, LeO (laws_FnAdEvery.j0 k y0 y1 y2) (laws_FnAdEvery.j0 (k + 1) y0 y1 y2)) ∧ (∀ y0 y1 y2, LeO (laws_FnAdEvery.j1 k y0 y1 y2) (laws_FnAdEvery.j1 (k + 1) y0 y1 y2)) ∧ (∀ y0 y1 y2 y3, LeO (laws_FnAdEvery.l0 k y0 y1 y2 y3) (laws_FnAdEvery.l0 (k + 1) y0 y1 y2 y3)) ∧ (∀ y0 y1 y2 y3 y4 y5, LeO (laws_FnAdEvery.j3 k y0 y1 y2 y3 y4 y5) (laws_FnAdEvery.j3 (k + 1) y0 y1 y2 y3 y4 y5))
  | 0 => ⟨fun _ _ _ r h => by simp [laws_FnAdEvery.j0] at h, fun _ _ _ r h => by simp [laws_FnAdEvery.j1] at h, fun _ _ _ _ r h => by simp [laws_FnAdEvery.l0] at h, fun _ _ _ _ _ _ r h => by simp [laws_FnAdEvery.j3] at h⟩
  | k + 1 => by
    obtain ⟨ih0, ih1, ih2, ih3⟩ := laws_FnAdEvery.mono_l k
    refine ⟨?_, ?_, ?_, ?_⟩
    · intro y0 y1 y2
      unfold laws_FnAdEvery.j0
      repeat' first
      | (with_reducible exact ih0 _ _ _)
      | (with_reducible exact ih1 _ _ _)
      | (with_reducible exact ih2 _ _ _ _)
      | (with_reducible exact ih3 _ _ _ _ _ _)
      | (with_reducible exact Given.AdUnescape.mono _ _)
      | (with_reducible exact LeO.refl _)
      | (with_reducible exact LeO.none _)
      | (with_reducible refine LeO.ite ?_ ?_)
      | (with_reducible refine LeO.bind ?_ (fun _ => ?_))
      | exact ih0 _ _ _
      | exact ih1 _ _ _
      | exact ih2 _ _ _ _
      | exact ih3 _ _ _ _ _ _
      | exact Given.AdUnescape.mono _ _
      | exact LeO.none _
      | refine LeO.ite ?_ ?_
      | refine LeO.bind ?_ (fun _ => ?_)
    · intro y0 y1 y2
      unfold laws_FnAdEvery.j1
      repeat' first
      | (with_reducible exact ih0 _ _ _)
      | (with_reducible exact ih1 _ _ _)
      | (with_reducible exact ih2 _ _ _ _)
      | (with_reducible exact ih3 _ _ _ _ _ _)
      | (with_reducible exact Given.AdUnescape.mono _ _)
      | (with_reducible exact LeO.refl _)
      | (with_reducible exact LeO.none _)
      | (with_reducible refine LeO.ite ?_ ?_)
      | (with_reducible refine LeO.bind ?_ (fun _ => ?_))
      | exact ih0 _ _ _
      | exact ih1 _ _ _
      | exact ih2 _ _ _ _
      | exact ih3 _ _ _ _ _ _
      | exact Given.AdUnescape.mono _ _
      | exact LeO.none _
      | refine LeO.ite ?_ ?_
      | refine LeO.bind ?_ (fun _ => ?_)
    · intro y0 y1 y2 y3
      unfold laws_FnAdEvery.l0
      repeat' first
      | (with_reducible exact ih0 _ _ _)
      | (with_reducible exact ih1 _ _ _)
      | (with_reducible exact ih2 _ _ _ _)
      | (with_reducible exact ih3 _ _ _ _ _ _)
      | (with_reducible exact Given.AdUnescape.mono _ _)
      | (with_reducible exact LeO.refl _)
      | (with_reducible exact LeO.none _)
      | (with_reducible refine LeO.ite ?_ ?_)
      | (with_reducible refine LeO.bind ?_ (fun _ => ?_))
      | exact ih0 _ _ _
      | exact ih1 _ _ _
      | exact ih2 _ _ _ _
      | exact ih3 _ _ _ _ _ _
      | exact Given.AdUnescape.mono _ _
      | exact LeO.none _
      | refine LeO.ite ?_ ?_
      | refine LeO.bind ?_ (fun _ => ?_)
    · intro y0 y1 y2 y3 y4 y5
      unfold laws_FnAdEvery.j3
      repeat' first
      | (with_reducible exact ih0 _ _ _)
      | (with_reducible exact ih1 _ _ _)
      | (with_reducible exact ih2 _ _ _ _)
      | (with_reducible exact ih3 _ _ _ _ _ _)
      | (with_reducible exact Given.AdUnescape.mono _ _)
      | (with_reducible exact LeO.refl _)
      | (with_reducible exact LeO.none _)
      | (with_reducible refine LeO.ite ?_ ?_)
      | (with_reducible refine LeO.bind ?_ (fun _ => ?_))
      | exact ih0 _ _ _
      | exact ih1 _ _ _
      | exact ih2 _ _ _ _
      | exact ih3 _ _ _ _ _ _
      | exact Given.AdUnescape.mono _ _
      | exact LeO.none _
      | refine LeO.ite ?_ ?_
      | refine LeO.bind ?_ (fun _ => ?_)
theorem laws_FnAdEvery.mono : ∀ a0 a1 k, LeO (laws_FnAdEvery.f k a0 a1) (laws_FnAdEvery.f (k + 1) a0 a1) := by
  intro a0 a1 k
  obtain ⟨ih0, ih1, ih2, ih3⟩ := laws_FnAdEvery.mono_l k
  unfold laws_FnAdEvery.f
  repeat' first
      | (with_reducible exact ih0 _ _ _)
      | (with_reducible exact ih1 _ _ _)
      | (with_reducible exact ih2 _ _ _ _)
      | (with_reducible exact ih3 _ _ _ _ _ _)
      | (with_reducible exact Given.AdUnescape.mono _ _)
      | (with_reducible exact LeO.refl _)
      | (with_reducible exact LeO.none _)
      | (with_reducible refine LeO.ite ?_ ?_)
      | (with_reducible refine LeO.bind ?_ (fun _ => ?_))
      | exact ih0 _ _ _
      | exact ih1 _ _ _
      | exact ih2 _ _ _ _
      | exact ih3 _ _ _ _ _ _
      | exact Given.AdUnescape.mono _ _
      | exact LeO.none _
      | refine LeO.ite ?_ ?_
      | refine LeO.bind ?_ (fun _ => ?_)
def laws_FnAdEvery.T15 : Bool × List (List Nat × List Nat) := (true, [([], []), ([], []), ([], []), ([], []), ([2, 3], [2, 3]), ([4], [4]), ([1, 5], [1, 5]), ([], []), ([], []), ([], []), ([8, 9], [8, 9]), ([10], [10]), ([7, 11], [7, 11]), ([6, 12], [6, 12]), ([0, 13], [0, 13]), ([14, 14, 0, 1, 2, 3, 4, 5, 6, 7, 8, 9, 10, 11, 12, 13, 14], [0, 14])])
def laws_FnAdEvery.B15 : List Nat := [0, 0, 0, 0, 12, 28, 62, 0, 0, 0, 768, 1792, 3968, 8190, 16383, 32767]
theorem laws_FnAdEvery.tab15 : rtab .any (opsOf Try.f7 15) = laws_FnAdEvery.T15 := by kernel_rfl
theorem laws_FnAdEvery.bits15 : waitsOk laws_FnAdEvery.T15.2 laws_FnAdEvery.B15 = true := by kernel_rfl
set_option maxHeartbeats 8000000 in
set_option maxRecDepth 100000 in
theorem laws_FnAdEvery.calls (k : Nat) (a0 : ByteArray) (A1 : Option Addr) (c1 : Nat) (l1 : List Int) (r : Bool) (w : World) (hr1 : Kd.C (Kd.int .u8) w A1 l1.length l1) (hc1 : l1.length ≤ c1) (h : laws_FnAdEvery.f k a0 l1 = some r) :
    Calls Try.prog 7 #[.string a0, .slice A1 l1.length c1] w fun e w' => e = .returned (.bool r) ∧ Below w.heap.size w w' := by
  have HR1 := Aside0.mk hr1
  have HC1 := Aside0.mk hc1
  clear hr1 hc1
  have HB := Aside0.mk (Below.refl w.heap.size w)
  have H : (if (a0.size : Int) > 2147483647 then (laws_FnAdEvery.j0 k a0 l1 true) else (laws_FnAdEvery.j0 k a0 l1 (decide ((l1.length : Int) > 2147483647)))) = some r := h
  clear h
  have HC3 := Aside0.mk H
  clear H
  go_enter Try.func7, Try.ntmps7
  go_upto_region 1 with (fail)
  go_cut [18] (fun v18 wc => ∃ (kq : Nat) (x18_2 : Bool), v18 = .bool x18_2 ∧ Aside0 (laws_FnAdEvery.j0 kq a0 l1 x18_2 = some r) ∧ Aside0 (kq ≤ k) ∧ Aside0 (Below w.heap.size w wc))
  case first =>
    have H := HC3.out
    clear HC3
    by_cases c4 : (a0.size : Int) > 2147483647
    · rw [if_pos c4] at H
      have c4b0 : decide (2147483647 < (a0.size : Int)) = true := decide_eq_true c4
      have c4b1 : decide (2147483647 < a0.size) = true := decide_eq_true (by omega)
      clear c4
      (first | rw [c4b0] | (simp only [i64_w, i32_w]; rw [c4b0]) | skip)
      have H' := Aside0.mk H
      clear H
      go_wp2
      go_meet
      case rel => exact ⟨_, (true), (by first | rfl | (simp; done) | (simp [*]; done)), H', ⟨by first | omega | exact Nat.le_refl _⟩, ⟨by repeat (first | (with_reducible first | exact HB.out | apply below_alloc | apply pw_below_drewN | apply below_drew1) | exact HB.out)⟩⟩
    · rw [if_neg c4] at H
      have c4b0 : decide (2147483647 < (a0.size : Int)) = false := decide_eq_false c4
      have c4b1 : decide (2147483647 < a0.size) = false := decide_eq_false (by omega)
      clear c4
      (first | rw [c4b0] | (simp only [i64_w, i32_w]; rw [c4b0]) | skip)
      have H' := Aside0.mk H
      clear H
      go_wp2
      go_meet
      case rel => exact ⟨_, (decide ((l1.length : Int) > 2147483647)), (by first | rfl | (simp; done) | (simp [*]; done)), H', ⟨by first | omega | exact Nat.le_refl _⟩, ⟨by repeat (first | (with_reducible first | exact HB.out | apply below_alloc | apply pw_below_drewN | apply below_drew1) | exact HB.out)⟩⟩
  case rest =>
    clear HC3
    try clear c1
    try clear p2
    try clear c4
    try clear c4b0
    try clear c4b1
    obtain ⟨kq, x18_2, rfl, HA, HJ2, HB⟩ := hcut
    cases kq with
    | zero => exact absurd HA.out (by simp [laws_FnAdEvery.j0])
    | succ kj2 =>
      have H := HA.out
      clear HA
      simp only [laws_FnAdEvery.j0] at H
      by_cases c5 : x18_2 = true
      · subst c5
        have H1 : (some true) = some r := by rw [if_pos rfl] at H; exact H
        clear H
        have H := H1
        clear H1
        obtain rfl := Option.some.inj H
        go_wp2
        go_ret
        exact ⟨by first | rfl | (simp [errW_none, errW_some] <;> rfl) | (simp [*, errW_none, errW_some] <;> rfl), by repeat (first | (with_reducible first | exact HB.out | apply below_alloc | apply pw_below_drewN | apply below_drew1) | exact HB.out)⟩
      · replace c5 := Bool.eq_false_iff.mpr c5
        subst c5
        have H1 : (if (a0.size : Int) > 1024 then (laws_FnAdEvery.j1 kj2 a0 l1 true) else (if (l1.length : Int) = 0 then (laws_FnAdEvery.j1 kj2 a0 l1 true) else (laws_FnAdEvery.j1 kj2 a0 l1 (decide ((l1.length : Int) > 1024))))) = some r := by rw [if_neg (show ¬ (false = true) by decide)] at H; exact H
        clear H
        have H := H1
        clear H1
        have HC6 := Aside0.mk H
        clear H
        go_upto_region 3 with (fail)
        go_cut [31] (fun v31 wc => ∃ (kq : Nat) (x31_5 : Bool), v31 = .bool x31_5 ∧ Aside0 (laws_FnAdEvery.j1 kq a0 l1 x31_5 = some r) ∧ Aside0 (kq ≤ kj2) ∧ Aside0 (Below w.heap.size w wc))
        case first =>
          have H := HC6.out
          clear HC6
          by_cases c7 : (a0.size : Int) > 1024
          · rw [if_pos c7] at H
            have c7b0 : decide (1024 < (a0.size : Int)) = true := decide_eq_true c7
            have c7b1 : decide (1024 < a0.size) = true := decide_eq_true (by omega)
            clear c7
            (first | rw [c7b0] | (simp only [i64_w, i32_w]; rw [c7b0]) | skip)
            have H' := Aside0.mk H
            clear H
            go_wp2
            go_meet
            case rel => exact ⟨_, (true), (by first | rfl | (simp; done) | (simp [*]; done)), H', ⟨by have := HJ2.out; first | omega | exact Nat.le_refl _⟩, ⟨by repeat (first | (with_reducible first | exact HB.out | apply below_alloc | apply pw_below_drewN | apply below_drew1) | exact HB.out)⟩⟩
          · rw [if_neg c7] at H
            have c7b0 : decide (1024 < (a0.size : Int)) = false := decide_eq_false c7
            have c7b1 : decide (1024 < a0.size) = false := decide_eq_false (by omega)
            clear c7
            (first | rw [c7b0] | (simp only [i64_w, i32_w]; rw [c7b0]) | skip)
            by_cases c8 : (l1.length : Int) = 0
            · rw [if_pos c8] at H
              have c8b0 : ((l1.length : Int) == 0) = true := beq_iff_eq.mpr c8
              have c8b1 : ((l1.length : Int) != 0) = false := bne_eq_false_iff_eq.mpr c8
              clear c8
              have H' := Aside0.mk H
              clear H
              go_wp2
              go_meet
              case rel => exact ⟨_, (true), (by first | rfl | (simp; done) | (simp [*]; done)), H', ⟨by have := HJ2.out; first | omega | exact Nat.le_refl _⟩, ⟨by repeat (first | (with_reducible first | exact HB.out | apply below_alloc | apply pw_below_drewN | apply below_drew1) | exact HB.out)⟩⟩
            · rw [if_neg c8] at H
              have c8b0 : ((l1.length : Int) == 0) = false := beq_eq_false_iff_ne.mpr c8
              have c8b1 : ((l1.length : Int) != 0) = true := bne_iff_ne.mpr c8
              have c8b2 : ¬ (l1 = []) := fun h_ => c8 (by rw [h_]; rfl)
              have H' := Aside0.mk H
              clear H
              go_wp2
              go_meet
              case rel => exact ⟨_, (decide ((l1.length : Int) > 1024)), (by first | rfl | (simp; done) | (simp [*]; done)), H', ⟨by have := HJ2.out; first | omega | exact Nat.le_refl _⟩, ⟨by repeat (first | (with_reducible first | exact HB.out | apply below_alloc | apply pw_below_drewN | apply below_drew1) | exact HB.out)⟩⟩
        case rest =>
          clear HC6
          try clear c1
          try clear p2
          try clear c4
          try clear c4b0
          try clear c4b1
          try clear c5
          try clear c7
          try clear c7b0
          try clear c7b1
          try clear c8
          try clear c8b0
          try clear c8b1
          try clear c8b2
          try clear p2
          obtain ⟨kq, x31_5, rfl, HA, HJ5, HB⟩ := hcut
          cases kq with
          | zero => exact absurd HA.out (by simp [laws_FnAdEvery.j1])
          | succ kj5 =>
            have H := HA.out
            clear HA
            simp only [laws_FnAdEvery.j1] at H
            by_cases c9 : x31_5 = true
            · subst c9
              have H1 : (some true) = some r := by rw [if_pos rfl] at H; exact H
              clear H
              have H := H1
              clear H1
              obtain rfl := Option.some.inj H
              go_wp2
              go_ret
              exact ⟨by first | rfl | (simp [errW_none, errW_some] <;> rfl) | (simp [*, errW_none, errW_some] <;> rfl), by repeat (first | (with_reducible first | exact HB.out | apply below_alloc | apply pw_below_drewN | apply below_drew1) | exact HB.out)⟩
            · replace c9 := Bool.eq_false_iff.mpr c9
              subst c9
              have H1 : (laws_FnAdEvery.l0 kj5 a0 l1 ([] : List Int) 0) = some r := by rw [if_neg (show ¬ (false = true) by decide)] at H; exact H
              clear H
              have H := H1
              clear H1
              have H' := Aside0.mk H
              clear H
              go_wp2
              go_loopg [5, 6] kj5 (fun kq v5 v6 w' => ∃ (x5_3 : List Int) (x6_3 : Int), v6 = .int .i64 x6_3 ∧ Aside0 (laws_FnAdEvery.l0 kq a0 l1 x5_3 x6_3 = some r) ∧ Aside0 (kq ≤ kj5) ∧ Aside0 (Kd.R (Kd.int .u8) 5 w' w.heap.size (fun _ => True) v5 x5_3) ∧ Aside0 (Below w.heap.size w w'))
              case atStart => exact ⟨(([] : List Int)), (0), (by first | rfl | (simp; done) | (simp [*]; done)), H', ⟨Nat.le_refl _⟩, ⟨by first | exact Kd.R_nil _ _ _ _ _ | exact Kd.N_nil _ _ _ _ _ | exact Kd.V_nil _ _ _ _ _ | exact Kd.Q_nil _ _ _ _ _ | exact Kd.S_nil _ _ _ _ _⟩, ⟨by repeat (first | (with_reducible first | exact HB.out | apply below_alloc | apply pw_below_drewN | apply below_drew1) | exact HB.out)⟩⟩
              case round =>
                clear H'
                try clear c1
                try clear p2
                try clear c4
                try clear c4b0
                try clear c4b1
                try clear c5
                try clear c7
                try clear c7b0
                try clear c7b1
                try clear c8
                try clear c8b0
                try clear c8b1
                try clear c8b2
                try clear c9
                try clear p2
                obtain ⟨x5_3, x6_3, rfl, HA, HK3, HO_5, HB⟩ := hrel
                cases gk with
                | zero => exact absurd HA.out (by simp [laws_FnAdEvery.l0])
                | succ k3 =>
                  have H := HA.out
                  clear HA
                  simp only [laws_FnAdEvery.l0] at H
                  by_cases c10 : x6_3 < (a0.size : Int)
                  · rw [if_pos c10] at H
                    have c10b0 : decide (x6_3 < (a0.size : Int)) = true := decide_eq_true c10
                    clear c10
                    by_cases c11 : (l1.length : Int) = 0
                    · rw [if_pos c11] at H
                      exact absurd H (by simp)
                    · rw [if_neg c11] at H
                      have c11b0 : ((l1.length : Int) == 0) = false := beq_eq_false_iff_ne.mpr c11
                      have c11b1 : ((l1.length : Int) != 0) = true := bne_iff_ne.mpr c11
                      have c11b2 : ¬ (l1 = []) := fun h_ => c11 (by rw [h_]; rfl)
                      obtain ⟨ji12, hji12⟩ : ∃ j_ : Int, (Int.tmod x6_3 (l1.length : Int)) = j_ := ⟨_, rfl⟩
                      replace H : (if 0 ≤ (ji12) then (if (ji12) < (l1.length : Int) then (if (Int.tmod (rd l1 (ji12)) 3) = 0 then (if 0 ≤ x6_3 then (laws_FnAdEvery.j3 k3 a0 l1 x5_3 x6_3 (Int.tmod (rd l1 (ji12)) 3) ((bt a0 x6_3) != 37)) else (none)) else (laws_FnAdEvery.j3 k3 a0 l1 x5_3 x6_3 (Int.tmod (rd l1 (ji12)) 3) false)) else (none)) else (none)) = some r := by first | (rw [hji12] at H; exact H) | (simp only [hji12] at H ⊢; exact H)
                      by_cases c13 : 0 ≤ (ji12)
                      · rw [if_pos c13] at H
                        have c13b0 : decide (0 ≤ (ji12)) = true := decide_eq_true c13
                        clear c13
                        by_cases c14 : (ji12) < (l1.length : Int)
                        · rw [if_pos c14] at H
                          have c14b0 : decide ((ji12) < (l1.length : Int)) = true := decide_eq_true c14
                          clear c14
                          have HC15 := Aside0.mk H
                          clear H
                          have p103 : 0 ≤ ((ji12) : Int) := of_decide_eq_true (by first | (with_reducible assumption) | assumption)
                          have q103 : (ji12) < (l1.length : Int) := of_decide_eq_true (by first | (with_reducible assumption) | assumption)
                          obtain ⟨ad103, e103, hx103_0⟩ := Kd.at_int HR1.out (ji12) p103 q103
                          cases e103
                          replace hx103_0 := (HB.out.cell (World.block_lt_of_cell? w _ hx103_0)).trans hx103_0
                          replace p103 := eq_true p103
                          replace q103 := eq_true q103
                          go_upto_region 10 with (fail)
                          go_cut [53] (fun v53 wc => ∃ (kq : Nat) (x53_14 : Bool), v53 = .bool x53_14 ∧ Aside0 (laws_FnAdEvery.j3 kq a0 l1 x5_3 x6_3 (Int.tmod (rd l1 (ji12)) 3) x53_14 = some r) ∧ Aside0 (kq ≤ k3) ∧ Aside0 (Kd.R (Kd.int .u8) 5 wc w.heap.size (fun _ => True) u5 x5_3) ∧ Aside0 (Below w.heap.size w wc))
                          case first =>
                            have H := HC15.out
                            clear HC15
                            by_cases c16 : (Int.tmod (rd l1 (ji12)) 3) = 0
                            · rw [if_pos c16] at H
                              have c16b0 : ((Int.tmod (rd l1 (ji12)) 3) == 0) = true := beq_iff_eq.mpr c16
                              have c16b1 : ((Int.tmod (rd l1 (ji12)) 3) != 0) = false := bne_eq_false_iff_eq.mpr c16
                              clear c16
                              (first | rw [c16b0] | (simp only [i64_w, i32_w]; rw [c16b0]) | skip)
                              by_cases c17 : 0 ≤ x6_3
                              · rw [if_pos c17] at H
                                have c17b0 : decide (0 ≤ x6_3) = true := decide_eq_true c17
                                clear c17
                                have H' := Aside0.mk H
                                clear H
                                have p18 : 0 ≤ (x6_3 : Int) := of_decide_eq_true (by first | (with_reducible assumption) | assumption)
                                have q18 : x6_3 < (a0.size : Int) := of_decide_eq_true (by first | (with_reducible assumption) | assumption)
                                have hx18 := bt_at a0 x6_3
                                replace p18 := eq_true p18
                                replace q18 := eq_true q18
                                go_wp2
                                go_meet
                                case rel => exact ⟨_, (((bt a0 x6_3) != 37)), (by first | rfl | (simp; done) | (simp [*]; done)), H', ⟨by have := HJ2.out; have := HJ5.out; have := HK3.out; first | omega | exact Nat.le_refl _⟩, ⟨by (with_reducible repeat (first | apply Kd.R_alloc | apply Kd.R_drewN | apply Kd.R_drew)); exact HO_5.out⟩, ⟨by repeat (first | (with_reducible first | exact HB.out | apply below_alloc | apply pw_below_drewN | apply below_drew1) | exact HB.out)⟩⟩
                              · rw [if_neg c17] at H
                                exact absurd H (by simp)
                            · rw [if_neg c16] at H
                              have c16b0 : ((Int.tmod (rd l1 (ji12)) 3) == 0) = false := beq_eq_false_iff_ne.mpr c16
                              have c16b1 : ((Int.tmod (rd l1 (ji12)) 3) != 0) = true := bne_iff_ne.mpr c16
                              (first | rw [c16b0] | (simp only [i64_w, i32_w]; rw [c16b0]) | skip)
                              have H' := Aside0.mk H
                              clear H
                              go_wp2
                              go_meet
                              case rel => exact ⟨_, (false), (by first | rfl | (simp; done) | (simp [*]; done)), H', ⟨by have := HJ2.out; have := HJ5.out; have := HK3.out; first | omega | exact Nat.le_refl _⟩, ⟨by (with_reducible repeat (first | apply Kd.R_alloc | apply Kd.R_drewN | apply Kd.R_drew)); exact HO_5.out⟩, ⟨by repeat (first | (with_reducible first | exact HB.out | apply below_alloc | apply pw_below_drewN | apply below_drew1) | exact HB.out)⟩⟩
                          case rest =>
                            clear HC15
                            try clear c1
                            try clear p1
                            try clear q1
                            try clear hx1
                            try clear p2
                            try clear c4
                            try clear c4b0
                            try clear c4b1
                            try clear c5
                            try clear c7
                            try clear c7b0
                            try clear c7b1
                            try clear c8
                            try clear c8b0
                            try clear c8b1
                            try clear c8b2
                            try clear c9
                            try clear c10
                            try clear c10b0
                            try clear p10
                            try clear q10
                            try clear hx10
                            try clear c11
                            try clear c11b0
                            try clear c11b1
                            try clear c11b2
                            try clear c13
                            try clear c13b0
                            try clear c14
                            try clear c14b0
                            try clear c16
                            try clear c16b0
                            try clear c16b1
                            try clear c17
                            try clear c17b0
                            try clear p18
                            try clear q18
                            try clear hx18
                            try clear hx103_0
                            try clear p103
                            try clear p18
                            try clear p2
                            try clear q103
                            try clear q18
                            obtain ⟨kq, x53_14, rfl, HA, HJ14, HO_5, HB⟩ := hcut
                            cases kq with
                            | zero => exact absurd HA.out (by simp [laws_FnAdEvery.j3])
                            | succ kj14 =>
                              have H := HA.out
                              clear HA
                              simp only [laws_FnAdEvery.j3] at H
                              by_cases c19 : x53_14 = true
                              · subst c19
                                have H1 : (if 0 ≤ x6_3 then (if x6_3 < (a0.size : Int) then (if x5_3.length < 140737488355328 then (laws_FnAdEvery.l0 kj14 a0 l1 (x5_3 ++ [bt a0 x6_3]) (wrap64 (x6_3 + 1))) else (none)) else (none)) else (none)) = some r := by rw [if_pos rfl] at H; exact H
                                clear H
                                have H := H1
                                clear H1
                                by_cases c20 : 0 ≤ x6_3
                                · rw [if_pos c20] at H
                                  have c20b0 : decide (0 ≤ x6_3) = true := decide_eq_true c20
                                  clear c20
                                  by_cases c21 : x6_3 < (a0.size : Int)
                                  · rw [if_pos c21] at H
                                    have c21b0 : decide (x6_3 < (a0.size : Int)) = true := decide_eq_true c21
                                    clear c21
                                    by_cases c23 : x5_3.length < 140737488355328
                                    · rw [if_pos c23] at H
                                      have LMc23 := Aside0.mk c23
                                      clear c23
                                      obtain ⟨y104, hy104⟩ : ∃ y_ : List Int, y_ = (x5_3 ++ [bt a0 x6_3]) := ⟨_, rfl⟩
                                      replace H : (laws_FnAdEvery.l0 kj14 a0 l1 y104 (wrap64 (x6_3 + 1))) = some r := by first | (rw [hy104]; with_reducible exact H) | (have H2_ := (Option.bind_some _ _).symm.trans H; rw [hy104]; with_reducible exact H2_) | (have H2_ := (Option.bind_some _ _).symm.trans H; with_reducible exact H2_) | with_reducible exact H | (rw [hy104]; exact H) | exact H
                                      have Ny104 := Aside0.mk hy104
                                      clear hy104
                                      have H' := Aside0.mk H
                                      clear H
                                      have p22 : 0 ≤ (x6_3 : Int) := of_decide_eq_true (by first | (with_reducible assumption) | assumption)
                                      have q22 : x6_3 < (a0.size : Int) := of_decide_eq_true (by first | (with_reducible assumption) | assumption)
                                      have hx22 := bt_at a0 x6_3
                                      replace p22 := eq_true p22
                                      replace q22 := eq_true q22
                                      go_wp2_with (first | ((with_reducible refine gate_builtin (b := .append) (xs := #[.tmp 54, .tmp 58]) rfl ?_); (try (refine gate_guard (by rfl) ?_; dsimp only)); at_builtin; refine Kd.R_append (Kd.int .u8) (w0 := w) w.heap.size rfl (.tmp 54) (.tmp 58) 35 5 (.int .u8 0) 1 rfl Try.underlying35 info5 rfl (by decide) (by omega) u5 x5_3 (bt a0 x6_3) [.int .u8 (bt a0 x6_3)] (fun _ => True) (fun _ => False) rfl rfl ?aP (fun _ hk => hk.elim) ?aF ?aO ?aB ?aS ?aL ?_; (case aP => exact rfl); (case aB => exact (by repeat (first | (with_reducible first | exact HB.out | apply below_alloc | apply pw_below_drewN | apply below_drew1) | exact HB.out))); (case aF => exact (fun _ _ => trivial)); (case aO => exact (by (with_reducible repeat (first | apply Kd.R_alloc | apply Kd.R_drewN | apply Kd.R_drew)); exact HO_5.out)); (case aS => exact (below_size (by repeat (first | (with_reducible first | exact HB.out | apply below_alloc | apply pw_below_drewN | apply below_drew1) | exact HB.out)))); (case aL => have := LMc23.out; omega); intro v105 w24 ho hb hg hat; rw [← Ny104.out] at ho; have n0_ := Aside0.mk (hb); have n1_ := Aside0.mk (ho); clear HB; clear HO_5; have HB := n0_; have HO106 := n1_; clear n0_ n1_; clear ho hb hg hat))
                                      go_roundg kj14
                                      case measure => have := HJ2.out; have := HJ5.out; have := HK3.out; have := HJ14.out; omega
                                      case rel => exact ⟨(y104), (wrap64 (x6_3 + 1)), (by first | rfl | (simp; done) | (simp [*]; done)), H', ⟨by have := HJ2.out; have := HJ5.out; have := HK3.out; have := HJ14.out; omega⟩, ⟨by (with_reducible repeat (first | apply Kd.R_alloc | apply Kd.R_drewN | apply Kd.R_drew)); exact HO106.out⟩, ⟨by repeat (first | (with_reducible first | exact HB.out | apply below_alloc | apply pw_below_drewN | apply below_drew1) | exact HB.out)⟩⟩
                                    · rw [if_neg c23] at H
                                      exact absurd H (by simp)
                                  · rw [if_neg c21] at H
                                    exact absurd H (by simp)
                                · rw [if_neg c20] at H
                                  exact absurd H (by simp)
                              · replace c19 := Bool.eq_false_iff.mpr c19
                                subst c19
                                have H1 : (if (Int.tmod (rd l1 (ji12)) 3) = 1 then (if 0 ≤ x6_3 then (if x6_3 < (a0.size : Int) then (if 0 ≤ ((bt a0 x6_3) / 16) then (if ((bt a0 x6_3) / 16) < 16 then (if 0 ≤ (Go.bits .and .u8 (bt a0 x6_3) 15) then (if (Go.bits .and .u8 (bt a0 x6_3) 15) < 16 then ((some (([37, bt (⟨#[48, 49, 50, 51, 52, 53, 54, 55, 56, 57, 65, 66, 67, 68, 69, 70]⟩ : ByteArray) ((bt a0 x6_3) / 16), bt (⟨#[48, 49, 50, 51, 52, 53, 54, 55, 56, 57, 65, 66, 67, 68, 69, 70]⟩ : ByteArray) (Go.bits .and .u8 (bt a0 x6_3) 15)] : List Int) : List Int)).bind fun y107 => (if x5_3.length + y107.length < 140737488355328 then (laws_FnAdEvery.l0 kj14 a0 l1 (x5_3 ++ y107) (wrap64 (x6_3 + 1))) else (none))) else (none)) else (none)) else (none)) else (none)) else (none)) else (none)) else (if 0 ≤ x6_3 then (if x6_3 < (a0.size : Int) then (if 0 ≤ ((bt a0 x6_3) / 16) then (if ((bt a0 x6_3) / 16) < 16 then (if 0 ≤ (Go.bits .and .u8 (bt a0 x6_3) 15) then (if (Go.bits .and .u8 (bt a0 x6_3) 15) < 16 then ((some (([37, bt (⟨#[48, 49, 50, 51, 52, 53, 54, 55, 56, 57, 97, 98, 99, 100, 101, 102]⟩ : ByteArray) ((bt a0 x6_3) / 16), bt (⟨#[48, 49, 50, 51, 52, 53, 54, 55, 56, 57, 97, 98, 99, 100, 101, 102]⟩ : ByteArray) (Go.bits .and .u8 (bt a0 x6_3) 15)] : List Int) : List Int)).bind fun y113 => (if x5_3.length + y113.length < 140737488355328 then (laws_FnAdEvery.l0 kj14 a0 l1 (x5_3 ++ y113) (wrap64 (x6_3 + 1))) else (none))) else (none)) else (none)) else (none)) else (none)) else (none)) else (none))) = some r := by rw [if_neg (show ¬ (false = true) by decide)] at H; exact H
                                clear H
                                have H := H1
                                clear H1
                                by_cases c25 : (Int.tmod (rd l1 (ji12)) 3) = 1
                                · rw [if_pos c25] at H
                                  have c25b0 : ((Int.tmod (rd l1 (ji12)) 3) == 1) = true := beq_iff_eq.mpr c25
                                  have c25b1 : ((Int.tmod (rd l1 (ji12)) 3) != 1) = false := bne_eq_false_iff_eq.mpr c25
                                  clear c25
                                  by_cases c26 : 0 ≤ x6_3
                                  · rw [if_pos c26] at H
                                    have c26b0 : decide (0 ≤ x6_3) = true := decide_eq_true c26
                                    clear c26
                                    by_cases c27 : x6_3 < (a0.size : Int)
                                    · rw [if_pos c27] at H
                                      have c27b0 : decide (x6_3 < (a0.size : Int)) = true := decide_eq_true c27
                                      clear c27
                                      obtain ⟨ji29, hji29⟩ : ∃ j_ : Int, ((bt a0 x6_3) / 16) = j_ := ⟨_, rfl⟩
                                      replace H : (if 0 ≤ (ji29) then (if (ji29) < 16 then (if 0 ≤ (Go.bits .and .u8 (bt a0 x6_3) 15) then (if (Go.bits .and .u8 (bt a0 x6_3) 15) < 16 then ((some (([37, bt (⟨#[48, 49, 50, 51, 52, 53, 54, 55, 56, 57, 65, 66, 67, 68, 69, 70]⟩ : ByteArray) (ji29), bt (⟨#[48, 49, 50, 51, 52, 53, 54, 55, 56, 57, 65, 66, 67, 68, 69, 70]⟩ : ByteArray) (Go.bits .and .u8 (bt a0 x6_3) 15)] : List Int) : List Int)).bind fun y107 => (if x5_3.length + y107.length < 140737488355328 then (laws_FnAdEvery.l0 kj14 a0 l1 (x5_3 ++ y107) (wrap64 (x6_3 + 1))) else (none))) else (none)) else (none)) else (none)) else (none)) = some r := by first | (rw [hji29] at H; exact H) | (simp only [hji29] at H ⊢; exact H)
                                      by_cases c30 : 0 ≤ (ji29)
                                      · rw [if_pos c30] at H
                                        have c30b0 : decide (0 ≤ (ji29)) = true := decide_eq_true c30
                                        clear c30
                                        by_cases c31 : (ji29) < 16
                                        · rw [if_pos c31] at H
                                          have c31b0 : decide ((ji29) < 16) = true := decide_eq_true c31
                                          clear c31
                                          by_cases c34 : 0 ≤ (Go.bits .and .u8 (bt a0 x6_3) 15)
                                          · rw [if_pos c34] at H
                                            have c34b0 : decide (0 ≤ (Go.bits .and .u8 (bt a0 x6_3) 15)) = true := decide_eq_true c34
                                            clear c34
                                            by_cases c35 : (Go.bits .and .u8 (bt a0 x6_3) 15) < 16
                                            · rw [if_pos c35] at H
                                              have c35b0 : decide ((Go.bits .and .u8 (bt a0 x6_3) 15) < 16) = true := decide_eq_true c35
                                              clear c35
                                              obtain ⟨y107, hy107⟩ : ∃ y_ : List Int, y_ = (([37, bt (⟨#[48, 49, 50, 51, 52, 53, 54, 55, 56, 57, 65, 66, 67, 68, 69, 70]⟩ : ByteArray) (ji29), bt (⟨#[48, 49, 50, 51, 52, 53, 54, 55, 56, 57, 65, 66, 67, 68, 69, 70]⟩ : ByteArray) (Go.bits .and .u8 (bt a0 x6_3) 15)] : List Int)) := ⟨_, rfl⟩
                                              replace H : (if x5_3.length + y107.length < 140737488355328 then (laws_FnAdEvery.l0 kj14 a0 l1 (x5_3 ++ y107) (wrap64 (x6_3 + 1))) else (none)) = some r := by first | (rw [hy107]; with_reducible exact H) | (have H2_ := (Option.bind_some _ _).symm.trans H; rw [hy107]; with_reducible exact H2_) | (have H2_ := (Option.bind_some _ _).symm.trans H; with_reducible exact H2_) | with_reducible exact H | (rw [hy107]; exact H) | exact H
                                              have Ny107 := Aside0.mk hy107
                                              clear hy107
                                              by_cases c37 : x5_3.length + y107.length < 140737488355328
                                              · rw [if_pos c37] at H
                                                have LMc37 := Aside0.mk c37
                                                clear c37
                                                obtain ⟨y110, hy110⟩ : ∃ y_ : List Int, y_ = (x5_3 ++ y107) := ⟨_, rfl⟩
                                                replace H : (laws_FnAdEvery.l0 kj14 a0 l1 y110 (wrap64 (x6_3 + 1))) = some r := by first | (rw [hy110]; with_reducible exact H) | (have H2_ := (Option.bind_some _ _).symm.trans H; rw [hy110]; with_reducible exact H2_) | (have H2_ := (Option.bind_some _ _).symm.trans H; with_reducible exact H2_) | with_reducible exact H | (rw [hy110]; exact H) | exact H
                                                have Ny110 := Aside0.mk hy110
                                                clear hy110
                                                have H' := Aside0.mk H
                                                clear H
                                                try go_wp2
                                                have n0_ := Aside0.mk (Kd.R_drew HO_5.out)
                                                have n1_ := Aside0.mk (below_drew1 HB.out)
                                                clear HO_5
                                                clear HB
                                                have HO_5 := n0_
                                                have HB := n1_
                                                clear n0_ n1_
                                                have p28 : 0 ≤ (x6_3 : Int) := of_decide_eq_true (by first | (with_reducible assumption) | assumption)
                                                have q28 : x6_3 < (a0.size : Int) := of_decide_eq_true (by first | (with_reducible assumption) | assumption)
                                                have hx28 := bt_at a0 x6_3
                                                replace p28 := eq_true p28
                                                replace q28 := eq_true q28
                                                have p32 : 0 ≤ ((ji29) : Int) := of_decide_eq_true (by first | (with_reducible assumption) | assumption)
                                                have q32 : (ji29) < (16 : Int) := of_decide_eq_true (by first | (with_reducible assumption) | assumption)
                                                have hx32 := bt_at (⟨#[48, 49, 50, 51, 52, 53, 54, 55, 56, 57, 65, 66, 67, 68, 69, 70]⟩ : ByteArray) (ji29)
                                                replace p32 := eq_true p32
                                                replace q32 := eq_true q32
                                                have p33 : 0 ≤ (x6_3 : Int) := of_decide_eq_true (by first | (with_reducible assumption) | assumption)
                                                have q33 : x6_3 < (a0.size : Int) := of_decide_eq_true (by first | (with_reducible assumption) | assumption)
                                                have hx33 := bt_at a0 x6_3
                                                replace p33 := eq_true p33
                                                replace q33 := eq_true q33
                                                have p36 : 0 ≤ ((Go.bits .and .u8 (bt a0 x6_3) 15) : Int) := of_decide_eq_true (by first | (with_reducible assumption) | assumption)
                                                have q36 : (Go.bits .and .u8 (bt a0 x6_3) 15) < (16 : Int) := of_decide_eq_true (by first | (with_reducible assumption) | assumption)
                                                have hx36 := bt_at (⟨#[48, 49, 50, 51, 52, 53, 54, 55, 56, 57, 65, 66, 67, 68, 69, 70]⟩ : ByteArray) (Go.bits .and .u8 (bt a0 x6_3) 15)
                                                replace p36 := eq_true p36
                                                replace q36 := eq_true q36
                                                refine start_ (n := 16) (S := fun w' => True) (ds := []) #[false, false, false, false, false, false, false, false, false, false, false, false, false, false, false, false] (by kernel_rfl) rfl rfl trivial (fun hHeld => ?_); refine with_tabW laws_FnAdEvery.tab15 laws_FnAdEvery.bits15 (fun HT_ HW_ => ?_)
                                                generalize wc.drew = w38 at HO_5 HB hHeld ⊢
                                                refine pure_ (i := 0) (N := some 62) (v := ?_) (a' := ?_) #[true, false, false, false, false, false, false, false, false, false, false, false, false, false, false, false] rfl rfl (any_of HT_.out (by kernel_rfl)) (fun _ _ _ h => h) (Or.inl ⟨by rfl, ?_⟩) ?_ ?_
                                                rotate_left
                                                · intro w'
                                                  go_simp
                                                  with_reducible rfl
                                                rotate_left
                                                · simp only [Act.put, List.setIfInBounds_toArray, List.set_cons_zero, List.set_cons_succ, i64_w, i32_w]
                                                  rfl
                                                refine pure_ (i := 1) (N := some 63) (v := ?_) (a' := ?_) #[true, true, false, false, false, false, false, false, false, false, false, false, false, false, false, false] rfl rfl (any_of HT_.out (by kernel_rfl)) (fun _ _ _ h => h) (Or.inl ⟨by rfl, ?_⟩) ?_ ?_
                                                rotate_left
                                                · intro w'
                                                  go_simp
                                                  with_reducible rfl
                                                rotate_left
                                                · simp only [Act.put, List.setIfInBounds_toArray, List.set_cons_zero, List.set_cons_succ, i64_w, i32_w]
                                                  rfl
                                                refine pure_ (i := 2) (N := some 64) (v := ?_) (a' := ?_) #[true, true, true, false, false, false, false, false, false, false, false, false, false, false, false, false] rfl rfl (any_of HT_.out (by kernel_rfl)) (fun _ _ _ h => h) (Or.inl ⟨by rfl, ?_⟩) ?_ ?_
                                                rotate_left
                                                · intro w'
                                                  go_simp
                                                  with_reducible rfl
                                                rotate_left
                                                · simp only [Act.put, List.setIfInBounds_toArray, List.set_cons_zero, List.set_cons_succ, i64_w, i32_w]
                                                  rfl
                                                refine pure_ (i := 3) (N := some 65) (v := ?_) (a' := ?_) #[true, true, true, true, false, false, false, false, false, false, false, false, false, false, false, false] rfl rfl (any_of HT_.out (by kernel_rfl)) (fun _ _ _ h => h) (Or.inl ⟨by rfl, ?_⟩) ?_ ?_
                                                rotate_left
                                                · intro w'
                                                  go_simp
                                                  with_reducible rfl
                                                rotate_left
                                                · simp only [Act.put, List.setIfInBounds_toArray, List.set_cons_zero, List.set_cons_succ, i64_w, i32_w]
                                                  rfl
                                                refine pure_ (i := 7) (N := some 69) (v := ?_) (a' := ?_) #[true, true, true, true, false, false, false, true, false, false, false, false, false, false, false, false] rfl rfl (any_of HT_.out (by kernel_rfl)) (fun _ _ _ h => h) (Or.inl ⟨by rfl, ?_⟩) ?_ ?_
                                                rotate_left
                                                · intro w'
                                                  go_simp
                                                  with_reducible rfl
                                                rotate_left
                                                · simp only [Act.put, List.setIfInBounds_toArray, List.set_cons_zero, List.set_cons_succ, i64_w, i32_w]
                                                  rfl
                                                refine pure_ (i := 8) (N := some 70) (v := ?_) (a' := ?_) #[true, true, true, true, false, false, false, true, true, false, false, false, false, false, false, false] rfl rfl (any_of HT_.out (by kernel_rfl)) (fun _ _ _ h => h) (Or.inl ⟨by rfl, ?_⟩) ?_ ?_
                                                rotate_left
                                                · intro w'
                                                  go_simp
                                                  with_reducible rfl
                                                rotate_left
                                                · simp only [Act.put, List.setIfInBounds_toArray, List.set_cons_zero, List.set_cons_succ, i64_w, i32_w]
                                                  rfl
                                                refine pure_ (i := 9) (N := some 71) (v := ?_) (a' := ?_) #[true, true, true, true, false, false, false, true, true, true, false, false, false, false, false, false] rfl rfl (any_of HT_.out (by kernel_rfl)) (fun _ _ _ h => h) (Or.inl ⟨by rfl, ?_⟩) ?_ ?_
                                                rotate_left
                                                · intro w'
                                                  go_simp
                                                  with_reducible rfl
                                                rotate_left
                                                · simp only [Act.put, List.setIfInBounds_toArray, List.set_cons_zero, List.set_cons_succ, i64_w, i32_w]
                                                  rfl
                                                refine take_ (i := 4) (N := some 66) (v := ?_) (a' := ?_) #[true, true, true, true, true, false, false, true, true, true, false, false, false, false, false, false] rfl rfl (take_ofW HT_.out HW_.out (by kernel_rfl)) (fun _ _ _ h => h) (Or.inl ⟨by rfl, ?_⟩) hHeld ?_ ?_
                                                rotate_left
                                                · intro w' _
                                                  go_simp
                                                  with_reducible rfl
                                                rotate_left
                                                · simp only [Act.put, List.setIfInBounds_toArray, List.set_cons_zero, List.set_cons_succ, i64_w, i32_w]
                                                  rfl
                                                refine pure_ (i := 5) (N := some 67) (v := ?_) (a' := ?_) #[true, true, true, true, true, true, false, true, true, true, false, false, false, false, false, false] rfl rfl (any_of HT_.out (by kernel_rfl)) (fun _ _ _ h => h) (Or.inl ⟨by rfl, ?_⟩) ?_ ?_
                                                rotate_left
                                                · intro w'
                                                  go_simp
                                                  with_reducible rfl
                                                rotate_left
                                                · simp only [Act.put, List.setIfInBounds_toArray, List.set_cons_zero, List.set_cons_succ, i64_w, i32_w]
                                                  rfl
                                                refine take_ (i := 6) (N := some 68) (v := ?_) (a' := ?_) #[true, true, true, true, true, true, true, true, true, true, false, false, false, false, false, false] rfl rfl (take_ofW HT_.out HW_.out (by kernel_rfl)) (fun _ _ _ h => h) (Or.inl ⟨by rfl, ?_⟩) hHeld ?_ ?_
                                                rotate_left
                                                · intro w' _
                                                  go_simp
                                                  with_reducible rfl
                                                rotate_left
                                                · simp only [Act.put, List.setIfInBounds_toArray, List.set_cons_zero, List.set_cons_succ, i64_w, i32_w]
                                                  rfl
                                                refine take_ (i := 10) (N := some 72) (v := ?_) (a' := ?_) #[true, true, true, true, true, true, true, true, true, true, true, false, false, false, false, false] rfl rfl (take_ofW HT_.out HW_.out (by kernel_rfl)) (fun _ _ _ h => h) (Or.inl ⟨by rfl, ?_⟩) hHeld ?_ ?_
                                                rotate_left
                                                · intro w' _
                                                  go_simp
                                                  with_reducible rfl
                                                rotate_left
                                                · simp only [Act.put, List.setIfInBounds_toArray, List.set_cons_zero, List.set_cons_succ, i64_w, i32_w]
                                                  rfl
                                                refine pure_ (i := 11) (N := some 73) (v := ?_) (a' := ?_) #[true, true, true, true, true, true, true, true, true, true, true, true, false, false, false, false] rfl rfl (any_of HT_.out (by kernel_rfl)) (fun _ _ _ h => h) (Or.inl ⟨by rfl, ?_⟩) ?_ ?_
                                                rotate_left
                                                · intro w'
                                                  go_simp
                                                  with_reducible rfl
                                                rotate_left
                                                · simp only [Act.put, List.setIfInBounds_toArray, List.set_cons_zero, List.set_cons_succ, i64_w, i32_w]
                                                  rfl
                                                refine take_ (i := 12) (N := some 74) (v := ?_) (a' := ?_) #[true, true, true, true, true, true, true, true, true, true, true, true, true, false, false, false] rfl rfl (take_ofW HT_.out HW_.out (by kernel_rfl)) (fun _ _ _ h => h) (Or.inl ⟨by rfl, ?_⟩) hHeld ?_ ?_
                                                rotate_left
                                                · intro w' _
                                                  go_simp
                                                  with_reducible rfl
                                                rotate_left
                                                · simp only [Act.put, List.setIfInBounds_toArray, List.set_cons_zero, List.set_cons_succ, i64_w, i32_w]
                                                  rfl
                                                refine one_ (i := 13) (N := some 75) #[true, true, true, true, true, true, true, true, true, true, true, true, true, true, false, false] rfl rfl (one_of HT_.out (by kernel_rfl)) (by decide) (fun K hK => ?_)
                                                refine Kd.R_lit_step (Kd.int .u8) _ 5 ?hg (N := 75) ?hd (xs := ([37, bt (⟨#[48, 49, 50, 51, 52, 53, 54, 55, 56, 57, 65, 66, 67, 68, 69, 70]⟩ : ByteArray) (ji29), bt (⟨#[48, 49, 50, 51, 52, 53, 54, 55, 56, 57, 65, 66, 67, 68, 69, 70]⟩ : ByteArray) (Go.bits .and .u8 (bt a0 x6_3) 15)] : List Int)) (inner := [.int .u8 37, .int .u8 (bt (⟨#[48, 49, 50, 51, 52, 53, 54, 55, 56, 57, 65, 66, 67, 68, 69, 70]⟩ : ByteArray) (ji29)), .int .u8 (bt (⟨#[48, 49, 50, 51, 52, 53, 54, 55, 56, 57, 65, 66, 67, 68, 69, 70]⟩ : ByteArray) (Go.bits .and .u8 (bt a0 x6_3) 15))]) (ok := fun _ => True) (okp := fun _ => True) ?hr ?hp (fun _ hk => hk) trivial (Below.refl _ _) (Nat.le_refl _) (by simp) ?_; (case hd => rfl); (case hg => rfl); (case hr => first | (go_simp; done) | (go_simp; rfl)); (case hp => exact (Reps.one (show Kd.M (Kd.int .u8) _ _ _ 37 [.int .u8 37] from rfl) (Reps.one (show Kd.M (Kd.int .u8) _ _ _ (bt (⟨#[48, 49, 50, 51, 52, 53, 54, 55, 56, 57, 65, 66, 67, 68, 69, 70]⟩ : ByteArray) (ji29)) [.int .u8 (bt (⟨#[48, 49, 50, 51, 52, 53, 54, 55, 56, 57, 65, 66, 67, 68, 69, 70]⟩ : ByteArray) (ji29))] from rfl) (Reps.one (show Kd.M (Kd.int .u8) _ _ _ (bt (⟨#[48, 49, 50, 51, 52, 53, 54, 55, 56, 57, 65, 66, 67, 68, 69, 70]⟩ : ByteArray) (Go.bits .and .u8 (bt a0 x6_3) 15)) [.int .u8 (bt (⟨#[48, 49, 50, 51, 52, 53, 54, 55, 56, 57, 65, 66, 67, 68, 69, 70]⟩ : ByteArray) (Go.bits .and .u8 (bt a0 x6_3) 15))] from rfl) (Reps.none _ _)))))
                                                intro v108 w39 ho40 hb hg_ hnew_
                                                clear hg_ hnew_
                                                (first | rw [← Ny107.out] at ho40 | (simp only [Int.reduceToNat] at ho40; rw [← Ny107.out] at ho40))
                                                have n0_ := Aside0.mk (Kd.R_elder' (by (with_reducible repeat (first | apply Kd.R_alloc | apply Kd.R_drewN | apply Kd.R_drew)); exact HO_5.out) (Kd.R_base ho40) hb)
                                                have n1_ := Aside0.mk (Kd.R_lower (Kd.R_new' ho40 (Kd.R_lt (by (with_reducible repeat (first | apply Kd.R_alloc | apply Kd.R_drewN | apply Kd.R_drew)); exact HO_5.out))) (below_size (by repeat (first | (with_reducible first | exact HB.out | apply below_alloc | apply pw_below_drewN | apply below_drew1) | exact HB.out))))
                                                have n2_ := Aside0.mk (below_step (by repeat (first | (with_reducible first | exact HB.out | apply below_alloc | apply pw_below_drewN | apply below_drew1) | exact HB.out)) hb)
                                                clear HO_5
                                                clear HB
                                                have HO_5 := n0_
                                                have HO109 := n1_
                                                have HB := n2_
                                                clear n0_ n1_ n2_
                                                clear hb ho40
                                                obtain ⟨Ao42, co42, eo42⟩ := Kd.R_slice HO109.out
                                                (first | subst eo42 | (injection eo42 with f1_ f2_ f3_; have f4_ := f1_.symm; have f5_ := f3_.symm; clear f1_ f2_ f3_; subst f4_; subst f5_))
                                                refine hK.out _ _ trivial (fun hHeld => ?_)
                                                clear hK K
                                                refine norm_ (a' := ?_) ?_ ?_
                                                rotate_left
                                                · show Act.put _ (some 75) _ = _
                                                  simp only [Act.put, List.setIfInBounds_toArray, List.set_cons_zero, List.set_cons_succ, i64_w, i32_w]
                                                  rfl
                                                refine one_ (i := 14) (N := some 76) #[true, true, true, true, true, true, true, true, true, true, true, true, true, true, true, false] rfl rfl (one_of HT_.out (by kernel_rfl)) (by decide) (fun K hK => ?_)
                                                refine Kd.R_append_rows_step (Kd.int .u8) (w0 := w) w.heap.size (by rfl) (.tmp 62) (.tmp 75) 35 5 (.int .u8 0) 1 rfl Try.underlying35 info5 rfl (by decide) (by omega) u5 x5_3 y107 _ _ _ (fun k_ => some k_ ≠ (.slice Ao42 y107.length co42 : Value).ownBlock) (fun _ => False) rfl rfl ?aO ?aR (fun _ _ h => h) (fun _ h => h.elim) ?aF ?aB ?aS ?aL ?_
                                                (case aR => repeat (first | exact (Kd.R_reads' HO109.out).2.2 | (with_reducible refine Kd.C_alloc ?_ _) | (with_reducible refine Kd.C_drewN ?_ _) | (with_reducible refine Kd.C_drew ?_)))
                                                (case aB => exact (by repeat (first | (with_reducible first | exact HB.out | apply below_alloc | apply pw_below_drewN | apply below_drew1) | exact HB.out)))
                                                (case aF => exact (fun k_ hk => Kd.fresh' (Kd.R_lt (by (with_reducible repeat (first | apply Kd.R_alloc | apply Kd.R_drewN | apply Kd.R_drew)); exact HO109.out)) k_ hk))
                                                (case aO => exact (by (with_reducible repeat (first | apply Kd.R_alloc | apply Kd.R_drewN | apply Kd.R_drew)); exact Kd.R_mono HO_5.out (fun _ hk => hk.2)))
                                                (case aS => exact (below_size (by repeat (first | (with_reducible first | exact HB.out | apply below_alloc | apply pw_below_drewN | apply below_drew1) | exact HB.out))))
                                                (case aL => have := LMc37.out; omega)
                                                intro v111 w41 ho hb hg hat
                                                rw [← Ny110.out] at ho
                                                have n0_ := Aside0.mk (Kd.R_after (ok := (fun _ => True)) (by (with_reducible repeat (first | apply Kd.R_alloc | apply Kd.R_drewN | apply Kd.R_drew)); exact HO109.out) hg hat)
                                                have n1_ := Aside0.mk (hb)
                                                have n2_ := Aside0.mk (ho)
                                                clear HO109
                                                clear HB
                                                clear HO_5
                                                have HO109 := n0_
                                                have HB := n1_
                                                have HO112 := n2_
                                                clear n0_ n1_ n2_
                                                clear ho hb hg hat
                                                refine hK.out _ _ trivial (fun hHeld => ?_)
                                                clear hK K
                                                refine norm_ (a' := ?_) ?_ ?_
                                                rotate_left
                                                · show Act.put _ (some 76) _ = _
                                                  simp only [Act.put, List.setIfInBounds_toArray, List.set_cons_zero, List.set_cons_succ, i64_w, i32_w]
                                                  rfl
                                                refine pure_ (i := 15) (N := some 5) (v := ?_) (a' := ?_) #[true, true, true, true, true, true, true, true, true, true, true, true, true, true, true, true] rfl rfl (any_of HT_.out (by kernel_rfl)) (fun _ _ _ h => h) (Or.inl ⟨by rfl, ?_⟩) ?_ ?_
                                                rotate_left
                                                · intro w'
                                                  go_simp
                                                  with_reducible rfl
                                                rotate_left
                                                · simp only [Act.put, List.setIfInBounds_toArray, List.set_cons_zero, List.set_cons_succ, i64_w, i32_w]
                                                  rfl
                                                refine done_ (done_of HT_.out (by kernel_rfl)) ?_
                                                try go_wp2
                                                go_roundg kj14
                                                case measure => have := HJ2.out; have := HJ5.out; have := HK3.out; have := HJ14.out; omega
                                                case rel => exact ⟨(y110), (wrap64 (x6_3 + 1)), (by first | rfl | (simp; done) | (simp [*]; done)), H', ⟨by have := HJ2.out; have := HJ5.out; have := HK3.out; have := HJ14.out; omega⟩, ⟨by (with_reducible repeat (first | apply Kd.R_alloc | apply Kd.R_drewN | apply Kd.R_drew)); exact Kd.R_mono HO112.out (fun _ hk => trivial)⟩, ⟨by repeat (first | (with_reducible first | exact HB.out | apply below_alloc | apply pw_below_drewN | apply below_drew1) | exact HB.out)⟩⟩
                                              · rw [if_neg c37] at H
                                                exact absurd H (by simp)
                                            · rw [if_neg c35] at H
                                              exact absurd H (by simp)
                                          · rw [if_neg c34] at H
                                            exact absurd H (by simp)
                                        · rw [if_neg c31] at H
                                          exact absurd H (by simp)
                                      · rw [if_neg c30] at H
                                        exact absurd H (by simp)
                                    · rw [if_neg c27] at H
                                      exact absurd H (by simp)
                                  · rw [if_neg c26] at H
                                    exact absurd H (by simp)
                                · rw [if_neg c25] at H
                                  have c25b0 : ((Int.tmod (rd l1 (ji12)) 3) == 1) = false := beq_eq_false_iff_ne.mpr c25
                                  have c25b1 : ((Int.tmod (rd l1 (ji12)) 3) != 1) = true := bne_iff_ne.mpr c25
                                  by_cases c43 : 0 ≤ x6_3
                                  · rw [if_pos c43] at H
                                    have c43b0 : decide (0 ≤ x6_3) = true := decide_eq_true c43
                                    clear c43
                                    by_cases c44 : x6_3 < (a0.size : Int)
                                    · rw [if_pos c44] at H
                                      have c44b0 : decide (x6_3 < (a0.size : Int)) = true := decide_eq_true c44
                                      clear c44
                                      obtain ⟨ji46, hji46⟩ : ∃ j_ : Int, ((bt a0 x6_3) / 16) = j_ := ⟨_, rfl⟩
                                      replace H : (if 0 ≤ (ji46) then (if (ji46) < 16 then (if 0 ≤ (Go.bits .and .u8 (bt a0 x6_3) 15) then (if (Go.bits .and .u8 (bt a0 x6_3) 15) < 16 then ((some (([37, bt (⟨#[48, 49, 50, 51, 52, 53, 54, 55, 56, 57, 97, 98, 99, 100, 101, 102]⟩ : ByteArray) (ji46), bt (⟨#[48, 49, 50, 51, 52, 53, 54, 55, 56, 57, 97, 98, 99, 100, 101, 102]⟩ : ByteArray) (Go.bits .and .u8 (bt a0 x6_3) 15)] : List Int) : List Int)).bind fun y113 => (if x5_3.length + y113.length < 140737488355328 then (laws_FnAdEvery.l0 kj14 a0 l1 (x5_3 ++ y113) (wrap64 (x6_3 + 1))) else (none))) else (none)) else (none)) else (none)) else (none)) = some r := by first | (rw [hji46] at H; exact H) | (simp only [hji46] at H ⊢; exact H)
                                      by_cases c47 : 0 ≤ (ji46)
                                      · rw [if_pos c47] at H
                                        have c47b0 : decide (0 ≤ (ji46)) = true := decide_eq_true c47
                                        clear c47
                                        by_cases c48 : (ji46) < 16
                                        · rw [if_pos c48] at H
                                          have c48b0 : decide ((ji46) < 16) = true := decide_eq_true c48
                                          clear c48
                                          by_cases c51 : 0 ≤ (Go.bits .and .u8 (bt a0 x6_3) 15)
                                          · rw [if_pos c51] at H
                                            have c51b0 : decide (0 ≤ (Go.bits .and .u8 (bt a0 x6_3) 15)) = true := decide_eq_true c51
                                            clear c51
                                            by_cases c52 : (Go.bits .and .u8 (bt a0 x6_3) 15) < 16
                                            · rw [if_pos c52] at H
                                              have c52b0 : decide ((Go.bits .and .u8 (bt a0 x6_3) 15) < 16) = true := decide_eq_true c52
                                              clear c52
                                              obtain ⟨y113, hy113⟩ : ∃ y_ : List Int, y_ = (([37, bt (⟨#[48, 49, 50, 51, 52, 53, 54, 55, 56, 57, 97, 98, 99, 100, 101, 102]⟩ : ByteArray) (ji46), bt (⟨#[48, 49, 50, 51, 52, 53, 54, 55, 56, 57, 97, 98, 99, 100, 101, 102]⟩ : ByteArray) (Go.bits .and .u8 (bt a0 x6_3) 15)] : List Int)) := ⟨_, rfl⟩
                                              replace H : (if x5_3.length + y113.length < 140737488355328 then (laws_FnAdEvery.l0 kj14 a0 l1 (x5_3 ++ y113) (wrap64 (x6_3 + 1))) else (none)) = some r := by first | (rw [hy113]; with_reducible exact H) | (have H2_ := (Option.bind_some _ _).symm.trans H; rw [hy113]; with_reducible exact H2_) | (have H2_ := (Option.bind_some _ _).symm.trans H; with_reducible exact H2_) | with_reducible exact H | (rw [hy113]; exact H) | exact H
                                              have Ny113 := Aside0.mk hy113
                                              clear hy113
                                              by_cases c54 : x5_3.length + y113.length < 140737488355328
                                              · rw [if_pos c54] at H
                                                have LMc54 := Aside0.mk c54
                                                clear c54
                                                obtain ⟨y116, hy116⟩ : ∃ y_ : List Int, y_ = (x5_3 ++ y113) := ⟨_, rfl⟩
                                                replace H : (laws_FnAdEvery.l0 kj14 a0 l1 y116 (wrap64 (x6_3 + 1))) = some r := by first | (rw [hy116]; with_reducible exact H) | (have H2_ := (Option.bind_some _ _).symm.trans H; rw [hy116]; with_reducible exact H2_) | (have H2_ := (Option.bind_some _ _).symm.trans H; with_reducible exact H2_) | with_reducible exact H | (rw [hy116]; exact H) | exact H
                                                have Ny116 := Aside0.mk hy116
                                                clear hy116
                                                have H' := Aside0.mk H
                                                clear H
                                                try go_wp2
                                                have n0_ := Aside0.mk (Kd.R_drew HO_5.out)
                                                have n1_ := Aside0.mk (below_drew1 HB.out)
                                                clear HO_5
                                                clear HB
                                                have HO_5 := n0_
                                                have HB := n1_
                                                clear n0_ n1_
                                                have p45 : 0 ≤ (x6_3 : Int) := of_decide_eq_true (by first | (with_reducible assumption) | assumption)
                                                have q45 : x6_3 < (a0.size : Int) := of_decide_eq_true (by first | (with_reducible assumption) | assumption)
                                                have hx45 := bt_at a0 x6_3
                                                replace p45 := eq_true p45
                                                replace q45 := eq_true q45
                                                have p49 : 0 ≤ ((ji46) : Int) := of_decide_eq_true (by first | (with_reducible assumption) | assumption)
                                                have q49 : (ji46) < (16 : Int) := of_decide_eq_true (by first | (with_reducible assumption) | assumption)
                                                have hx49 := bt_at (⟨#[48, 49, 50, 51, 52, 53, 54, 55, 56, 57, 97, 98, 99, 100, 101, 102]⟩ : ByteArray) (ji46)
                                                replace p49 := eq_true p49
                                                replace q49 := eq_true q49
                                                have p50 : 0 ≤ (x6_3 : Int) := of_decide_eq_true (by first | (with_reducible assumption) | assumption)
                                                have q50 : x6_3 < (a0.size : Int) := of_decide_eq_true (by first | (with_reducible assumption) | assumption)
                                                have hx50 := bt_at a0 x6_3
                                                replace p50 := eq_true p50
                                                replace q50 := eq_true q50
                                                have p53 : 0 ≤ ((Go.bits .and .u8 (bt a0 x6_3) 15) : Int) := of_decide_eq_true (by first | (with_reducible assumption) | assumption)
                                                have q53 : (Go.bits .and .u8 (bt a0 x6_3) 15) < (16 : Int) := of_decide_eq_true (by first | (with_reducible assumption) | assumption)
                                                have hx53 := bt_at (⟨#[48, 49, 50, 51, 52, 53, 54, 55, 56, 57, 97, 98, 99, 100, 101, 102]⟩ : ByteArray) (Go.bits .and .u8 (bt a0 x6_3) 15)
                                                replace p53 := eq_true p53
                                                replace q53 := eq_true q53
                                                refine start_ (n := 16) (S := fun w' => True) (ds := []) #[false, false, false, false, false, false, false, false, false, false, false, false, false, false, false, false] (by kernel_rfl) rfl rfl trivial (fun hHeld => ?_); refine with_tabW laws_FnAdEvery.tab15 laws_FnAdEvery.bits15 (fun HT_ HW_ => ?_)
                                                generalize wc.drew = w55 at HO_5 HB hHeld ⊢
                                                refine pure_ (i := 0) (N := some 62) (v := ?_) (a' := ?_) #[true, false, false, false, false, false, false, false, false, false, false, false, false, false, false, false] rfl rfl (any_of HT_.out (by kernel_rfl)) (fun _ _ _ h => h) (Or.inl ⟨by rfl, ?_⟩) ?_ ?_
                                                rotate_left
                                                · intro w'
                                                  go_simp
                                                  with_reducible rfl
                                                rotate_left
                                                · simp only [Act.put, List.setIfInBounds_toArray, List.set_cons_zero, List.set_cons_succ, i64_w, i32_w]
                                                  rfl
                                                refine pure_ (i := 1) (N := some 63) (v := ?_) (a' := ?_) #[true, true, false, false, false, false, false, false, false, false, false, false, false, false, false, false] rfl rfl (any_of HT_.out (by kernel_rfl)) (fun _ _ _ h => h) (Or.inl ⟨by rfl, ?_⟩) ?_ ?_
                                                rotate_left
                                                · intro w'
                                                  go_simp
                                                  with_reducible rfl
                                                rotate_left
                                                · simp only [Act.put, List.setIfInBounds_toArray, List.set_cons_zero, List.set_cons_succ, i64_w, i32_w]
                                                  rfl
                                                refine pure_ (i := 2) (N := some 64) (v := ?_) (a' := ?_) #[true, true, true, false, false, false, false, false, false, false, false, false, false, false, false, false] rfl rfl (any_of HT_.out (by kernel_rfl)) (fun _ _ _ h => h) (Or.inl ⟨by rfl, ?_⟩) ?_ ?_
                                                rotate_left
                                                · intro w'
                                                  go_simp
                                                  with_reducible rfl
                                                rotate_left
                                                · simp only [Act.put, List.setIfInBounds_toArray, List.set_cons_zero, List.set_cons_succ, i64_w, i32_w]
                                                  rfl
                                                refine pure_ (i := 3) (N := some 65) (v := ?_) (a' := ?_) #[true, true, true, true, false, false, false, false, false, false, false, false, false, false, false, false] rfl rfl (any_of HT_.out (by kernel_rfl)) (fun _ _ _ h => h) (Or.inl ⟨by rfl, ?_⟩) ?_ ?_
                                                rotate_left
                                                · intro w'
                                                  go_simp
                                                  with_reducible rfl
                                                rotate_left
                                                · simp only [Act.put, List.setIfInBounds_toArray, List.set_cons_zero, List.set_cons_succ, i64_w, i32_w]
                                                  rfl
                                                refine pure_ (i := 7) (N := some 69) (v := ?_) (a' := ?_) #[true, true, true, true, false, false, false, true, false, false, false, false, false, false, false, false] rfl rfl (any_of HT_.out (by kernel_rfl)) (fun _ _ _ h => h) (Or.inl ⟨by rfl, ?_⟩) ?_ ?_
                                                rotate_left
                                                · intro w'
                                                  go_simp
                                                  with_reducible rfl
                                                rotate_left
                                                · simp only [Act.put, List.setIfInBounds_toArray, List.set_cons_zero, List.set_cons_succ, i64_w, i32_w]
                                                  rfl
                                                refine pure_ (i := 8) (N := some 70) (v := ?_) (a' := ?_) #[true, true, true, true, false, false, false, true, true, false, false, false, false, false, false, false] rfl rfl (any_of HT_.out (by kernel_rfl)) (fun _ _ _ h => h) (Or.inl ⟨by rfl, ?_⟩) ?_ ?_
                                                rotate_left
                                                · intro w'
                                                  go_simp
                                                  with_reducible rfl
                                                rotate_left
                                                · simp only [Act.put, List.setIfInBounds_toArray, List.set_cons_zero, List.set_cons_succ, i64_w, i32_w]
                                                  rfl
                                                refine pure_ (i := 9) (N := some 71) (v := ?_) (a' := ?_) #[true, true, true, true, false, false, false, true, true, true, false, false, false, false, false, false] rfl rfl (any_of HT_.out (by kernel_rfl)) (fun _ _ _ h => h) (Or.inl ⟨by rfl, ?_⟩) ?_ ?_
                                                rotate_left
                                                · intro w'
                                                  go_simp
                                                  with_reducible rfl
                                                rotate_left
                                                · simp only [Act.put, List.setIfInBounds_toArray, List.set_cons_zero, List.set_cons_succ, i64_w, i32_w]
                                                  rfl
                                                refine take_ (i := 4) (N := some 66) (v := ?_) (a' := ?_) #[true, true, true, true, true, false, false, true, true, true, false, false, false, false, false, false] rfl rfl (take_ofW HT_.out HW_.out (by kernel_rfl)) (fun _ _ _ h => h) (Or.inl ⟨by rfl, ?_⟩) hHeld ?_ ?_
                                                rotate_left
                                                · intro w' _
                                                  go_simp
                                                  with_reducible rfl
                                                rotate_left
                                                · simp only [Act.put, List.setIfInBounds_toArray, List.set_cons_zero, List.set_cons_succ, i64_w, i32_w]
                                                  rfl
                                                refine pure_ (i := 5) (N := some 67) (v := ?_) (a' := ?_) #[true, true, true, true, true, true, false, true, true, true, false, false, false, false, false, false] rfl rfl (any_of HT_.out (by kernel_rfl)) (fun _ _ _ h => h) (Or.inl ⟨by rfl, ?_⟩) ?_ ?_
                                                rotate_left
                                                · intro w'
                                                  go_simp
                                                  with_reducible rfl
                                                rotate_left
                                                · simp only [Act.put, List.setIfInBounds_toArray, List.set_cons_zero, List.set_cons_succ, i64_w, i32_w]
                                                  rfl
                                                refine take_ (i := 6) (N := some 68) (v := ?_) (a' := ?_) #[true, true, true, true, true, true, true, true, true, true, false, false, false, false, false, false] rfl rfl (take_ofW HT_.out HW_.out (by kernel_rfl)) (fun _ _ _ h => h) (Or.inl ⟨by rfl, ?_⟩) hHeld ?_ ?_
                                                rotate_left
                                                · intro w' _
                                                  go_simp
                                                  with_reducible rfl
                                                rotate_left
                                                · simp only [Act.put, List.setIfInBounds_toArray, List.set_cons_zero, List.set_cons_succ, i64_w, i32_w]
                                                  rfl
                                                refine take_ (i := 10) (N := some 72) (v := ?_) (a' := ?_) #[true, true, true, true, true, true, true, true, true, true, true, false, false, false, false, false] rfl rfl (take_ofW HT_.out HW_.out (by kernel_rfl)) (fun _ _ _ h => h) (Or.inl ⟨by rfl, ?_⟩) hHeld ?_ ?_
                                                rotate_left
                                                · intro w' _
                                                  go_simp
                                                  with_reducible rfl
                                                rotate_left
                                                · simp only [Act.put, List.setIfInBounds_toArray, List.set_cons_zero, List.set_cons_succ, i64_w, i32_w]
                                                  rfl
                                                refine pure_ (i := 11) (N := some 73) (v := ?_) (a' := ?_) #[true, true, true, true, true, true, true, true, true, true, true, true, false, false, false, false] rfl rfl (any_of HT_.out (by kernel_rfl)) (fun _ _ _ h => h) (Or.inl ⟨by rfl, ?_⟩) ?_ ?_
                                                rotate_left
                                                · intro w'
                                                  go_simp
                                                  with_reducible rfl
                                                rotate_left
                                                · simp only [Act.put, List.setIfInBounds_toArray, List.set_cons_zero, List.set_cons_succ, i64_w, i32_w]
                                                  rfl
                                                refine take_ (i := 12) (N := some 74) (v := ?_) (a' := ?_) #[true, true, true, true, true, true, true, true, true, true, true, true, true, false, false, false] rfl rfl (take_ofW HT_.out HW_.out (by kernel_rfl)) (fun _ _ _ h => h) (Or.inl ⟨by rfl, ?_⟩) hHeld ?_ ?_
                                                rotate_left
                                                · intro w' _
                                                  go_simp
                                                  with_reducible rfl
                                                rotate_left
                                                · simp only [Act.put, List.setIfInBounds_toArray, List.set_cons_zero, List.set_cons_succ, i64_w, i32_w]
                                                  rfl
                                                refine one_ (i := 13) (N := some 75) #[true, true, true, true, true, true, true, true, true, true, true, true, true, true, false, false] rfl rfl (one_of HT_.out (by kernel_rfl)) (by decide) (fun K hK => ?_)
                                                refine Kd.R_lit_step (Kd.int .u8) _ 5 ?hg (N := 75) ?hd (xs := ([37, bt (⟨#[48, 49, 50, 51, 52, 53, 54, 55, 56, 57, 97, 98, 99, 100, 101, 102]⟩ : ByteArray) (ji46), bt (⟨#[48, 49, 50, 51, 52, 53, 54, 55, 56, 57, 97, 98, 99, 100, 101, 102]⟩ : ByteArray) (Go.bits .and .u8 (bt a0 x6_3) 15)] : List Int)) (inner := [.int .u8 37, .int .u8 (bt (⟨#[48, 49, 50, 51, 52, 53, 54, 55, 56, 57, 97, 98, 99, 100, 101, 102]⟩ : ByteArray) (ji46)), .int .u8 (bt (⟨#[48, 49, 50, 51, 52, 53, 54, 55, 56, 57, 97, 98, 99, 100, 101, 102]⟩ : ByteArray) (Go.bits .and .u8 (bt a0 x6_3) 15))]) (ok := fun _ => True) (okp := fun _ => True) ?hr ?hp (fun _ hk => hk) trivial (Below.refl _ _) (Nat.le_refl _) (by simp) ?_; (case hd => rfl); (case hg => rfl); (case hr => first | (go_simp; done) | (go_simp; rfl)); (case hp => exact (Reps.one (show Kd.M (Kd.int .u8) _ _ _ 37 [.int .u8 37] from rfl) (Reps.one (show Kd.M (Kd.int .u8) _ _ _ (bt (⟨#[48, 49, 50, 51, 52, 53, 54, 55, 56, 57, 97, 98, 99, 100, 101, 102]⟩ : ByteArray) (ji46)) [.int .u8 (bt (⟨#[48, 49, 50, 51, 52, 53, 54, 55, 56, 57, 97, 98, 99, 100, 101, 102]⟩ : ByteArray) (ji46))] from rfl) (Reps.one (show Kd.M (Kd.int .u8) _ _ _ (bt (⟨#[48, 49, 50, 51, 52, 53, 54, 55, 56, 57, 97, 98, 99, 100, 101, 102]⟩ : ByteArray) (Go.bits .and .u8 (bt a0 x6_3) 15)) [.int .u8 (bt (⟨#[48, 49, 50, 51, 52, 53, 54, 55, 56, 57, 97, 98, 99, 100, 101, 102]⟩ : ByteArray) (Go.bits .and .u8 (bt a0 x6_3) 15))] from rfl) (Reps.none _ _)))))
                                                intro v114 w56 ho57 hb hg_ hnew_
                                                clear hg_ hnew_
                                                (first | rw [← Ny113.out] at ho57 | (simp only [Int.reduceToNat] at ho57; rw [← Ny113.out] at ho57))
                                                have n0_ := Aside0.mk (Kd.R_elder' (by (with_reducible repeat (first | apply Kd.R_alloc | apply Kd.R_drewN | apply Kd.R_drew)); exact HO_5.out) (Kd.R_base ho57) hb)
                                                have n1_ := Aside0.mk (Kd.R_lower (Kd.R_new' ho57 (Kd.R_lt (by (with_reducible repeat (first | apply Kd.R_alloc | apply Kd.R_drewN | apply Kd.R_drew)); exact HO_5.out))) (below_size (by repeat (first | (with_reducible first | exact HB.out | apply below_alloc | apply pw_below_drewN | apply below_drew1) | exact HB.out))))
                                                have n2_ := Aside0.mk (below_step (by repeat (first | (with_reducible first | exact HB.out | apply below_alloc | apply pw_below_drewN | apply below_drew1) | exact HB.out)) hb)
                                                clear HO_5
                                                clear HB
                                                have HO_5 := n0_
                                                have HO115 := n1_
                                                have HB := n2_
                                                clear n0_ n1_ n2_
                                                clear hb ho57
                                                obtain ⟨Ao59, co59, eo59⟩ := Kd.R_slice HO115.out
                                                (first | subst eo59 | (injection eo59 with f1_ f2_ f3_; have f4_ := f1_.symm; have f5_ := f3_.symm; clear f1_ f2_ f3_; subst f4_; subst f5_))
                                                refine hK.out _ _ trivial (fun hHeld => ?_)
                                                clear hK K
                                                refine norm_ (a' := ?_) ?_ ?_
                                                rotate_left
                                                · show Act.put _ (some 75) _ = _
                                                  simp only [Act.put, List.setIfInBounds_toArray, List.set_cons_zero, List.set_cons_succ, i64_w, i32_w]
                                                  rfl
                                                refine one_ (i := 14) (N := some 76) #[true, true, true, true, true, true, true, true, true, true, true, true, true, true, true, false] rfl rfl (one_of HT_.out (by kernel_rfl)) (by decide) (fun K hK => ?_)
                                                refine Kd.R_append_rows_step (Kd.int .u8) (w0 := w) w.heap.size (by rfl) (.tmp 62) (.tmp 75) 35 5 (.int .u8 0) 1 rfl Try.underlying35 info5 rfl (by decide) (by omega) u5 x5_3 y113 _ _ _ (fun k_ => some k_ ≠ (.slice Ao59 y113.length co59 : Value).ownBlock) (fun _ => False) rfl rfl ?aO ?aR (fun _ _ h => h) (fun _ h => h.elim) ?aF ?aB ?aS ?aL ?_
                                                (case aR => repeat (first | exact (Kd.R_reads' HO115.out).2.2 | (with_reducible refine Kd.C_alloc ?_ _) | (with_reducible refine Kd.C_drewN ?_ _) | (with_reducible refine Kd.C_drew ?_)))
                                                (case aB => exact (by repeat (first | (with_reducible first | exact HB.out | apply below_alloc | apply pw_below_drewN | apply below_drew1) | exact HB.out)))
                                                (case aF => exact (fun k_ hk => Kd.fresh' (Kd.R_lt (by (with_reducible repeat (first | apply Kd.R_alloc | apply Kd.R_drewN | apply Kd.R_drew)); exact HO115.out)) k_ hk))
                                                (case aO => exact (by (with_reducible repeat (first | apply Kd.R_alloc | apply Kd.R_drewN | apply Kd.R_drew)); exact Kd.R_mono HO_5.out (fun _ hk => hk.2)))
                                                (case aS => exact (below_size (by repeat (first | (with_reducible first | exact HB.out | apply below_alloc | apply pw_below_drewN | apply below_drew1) | exact HB.out))))
                                                (case aL => have := LMc54.out; omega)
                                                intro v117 w58 ho hb hg hat
                                                rw [← Ny116.out] at ho
                                                have n0_ := Aside0.mk (Kd.R_after (ok := (fun _ => True)) (by (with_reducible repeat (first | apply Kd.R_alloc | apply Kd.R_drewN | apply Kd.R_drew)); exact HO115.out) hg hat)
                                                have n1_ := Aside0.mk (hb)
                                                have n2_ := Aside0.mk (ho)
                                                clear HO115
                                                clear HB
                                                clear HO_5
                                                have HO115 := n0_
                                                have HB := n1_
                                                have HO118 := n2_
                                                clear n0_ n1_ n2_
                                                clear ho hb hg hat
                                                refine hK.out _ _ trivial (fun hHeld => ?_)
                                                clear hK K
                                                refine norm_ (a' := ?_) ?_ ?_
                                                rotate_left
                                                · show Act.put _ (some 76) _ = _
                                                  simp only [Act.put, List.setIfInBounds_toArray, List.set_cons_zero, List.set_cons_succ, i64_w, i32_w]
                                                  rfl
                                                refine pure_ (i := 15) (N := some 5) (v := ?_) (a' := ?_) #[true, true, true, true, true, true, true, true, true, true, true, true, true, true, true, true] rfl rfl (any_of HT_.out (by kernel_rfl)) (fun _ _ _ h => h) (Or.inl ⟨by rfl, ?_⟩) ?_ ?_
                                                rotate_left
                                                · intro w'
                                                  go_simp
                                                  with_reducible rfl
                                                rotate_left
                                                · simp only [Act.put, List.setIfInBounds_toArray, List.set_cons_zero, List.set_cons_succ, i64_w, i32_w]
                                                  rfl
                                                refine done_ (done_of HT_.out (by kernel_rfl)) ?_
                                                try go_wp2
                                                go_roundg kj14
                                                case measure => have := HJ2.out; have := HJ5.out; have := HK3.out; have := HJ14.out; omega
                                                case rel => exact ⟨(y116), (wrap64 (x6_3 + 1)), (by first | rfl | (simp; done) | (simp [*]; done)), H', ⟨by have := HJ2.out; have := HJ5.out; have := HK3.out; have := HJ14.out; omega⟩, ⟨by (with_reducible repeat (first | apply Kd.R_alloc | apply Kd.R_drewN | apply Kd.R_drew)); exact Kd.R_mono HO118.out (fun _ hk => trivial)⟩, ⟨by repeat (first | (with_reducible first | exact HB.out | apply below_alloc | apply pw_below_drewN | apply below_drew1) | exact HB.out)⟩⟩
                                              · rw [if_neg c54] at H
                                                exact absurd H (by simp)
                                            · rw [if_neg c52] at H
                                              exact absurd H (by simp)
                                          · rw [if_neg c51] at H
                                            exact absurd H (by simp)
                                        · rw [if_neg c48] at H
                                          exact absurd H (by simp)
                                      · rw [if_neg c47] at H
                                        exact absurd H (by simp)
                                    · rw [if_neg c44] at H
                                      exact absurd H (by simp)
                                  · rw [if_neg c43] at H
                                    exact absurd H (by simp)
                        · rw [if_neg c14] at H
                          exact absurd H (by simp)
                      · rw [if_neg c13] at H
                        exact absurd H (by simp)
                  · rw [if_neg c10] at H
                    have c10b0 : decide (x6_3 < (a0.size : Int)) = false := decide_eq_false c10
                    clear c10
                    replace H := Option.bind_eq_some_iff.mp H
                    obtain ⟨⟨t101, t102⟩, A600, H⟩ := H
                    replace H : (if t102 = true then (some (t101.toList == a0.toList)) else (some false)) = some r := H
                    have A60 := Aside0.mk A600
                    clear A600
                    by_cases c61 : t102 = true
                    · subst c61
                      have H1 : (some (t101.toList == a0.toList)) = some r := by rw [if_pos rfl] at H; exact H
                      clear H
                      have H := H1
                      clear H1
                      obtain rfl := Option.some.inj H
                      have hcv62 := own_string (P := Try.prog) Try.underlying35 Try.underlying5 Try.underlying9 (Kd.own_of_R HO_5.out)
                      go_wp2_with (first | ((with_reducible refine gate_callee (f := 19) rfl ?_); refine goesL_ (some 80) rfl rfl Try.func19 (by kernel_rfl) rfl #[.string (strOfNums x5_3)] rfl (by (try simp only [List.map_toArray, List.map_cons, List.map_nil]); first | done | rfl | (simp only [List.length_drop, List.length_take]; rfl)) ?_; (with_reducible refine (Given.AdUnescape.calls k3 (strOfNums x5_3) t101 true _ A60.out).mono ?_); rintro e w63 ⟨rfl, hb⟩; refine ⟨_, rfl, ?_⟩; have n0_ := Aside0.mk (Kd.R_below (by (with_reducible repeat (first | apply Kd.R_alloc | apply Kd.R_drewN | apply Kd.R_drew)); exact HO_5.out) hb); have n1_ := Aside0.mk (below_step (by repeat (first | (with_reducible first | exact HB.out | apply below_alloc | apply pw_below_drewN | apply below_drew1) | exact HB.out)) hb); clear HO_5; clear HB; have HO_5 := n0_; have HB := n1_; clear n0_ n1_; (try clear hb); (try clear hb2); (try clear hk); (try clear hi)))
                      go_ret
                      exact ⟨by first | rfl | (simp [errW_none, errW_some] <;> rfl) | (simp [*, errW_none, errW_some] <;> rfl), by repeat (first | (with_reducible first | exact HB.out | apply below_alloc | apply pw_below_drewN | apply below_drew1) | exact HB.out)⟩
                    · replace c61 := Bool.eq_false_iff.mpr c61
                      subst c61
                      have H1 : (some false) = some r := by rw [if_neg (show ¬ (false = true) by decide)] at H; exact H
                      clear H
                      have H := H1
                      clear H1
                      obtain rfl := Option.some.inj H
                      have hcv64 := own_string (P := Try.prog) Try.underlying35 Try.underlying5 Try.underlying9 (Kd.own_of_R HO_5.out)
                      go_wp2_with (first | ((with_reducible refine gate_callee (f := 19) rfl ?_); refine goesL_ (some 80) rfl rfl Try.func19 (by kernel_rfl) rfl #[.string (strOfNums x5_3)] rfl (by (try simp only [List.map_toArray, List.map_cons, List.map_nil]); first | done | rfl | (simp only [List.length_drop, List.length_take]; rfl)) ?_; (with_reducible refine (Given.AdUnescape.calls k3 (strOfNums x5_3) t101 false _ A60.out).mono ?_); rintro e w65 ⟨rfl, hb⟩; refine ⟨_, rfl, ?_⟩; have n0_ := Aside0.mk (Kd.R_below (by (with_reducible repeat (first | apply Kd.R_alloc | apply Kd.R_drewN | apply Kd.R_drew)); exact HO_5.out) hb); have n1_ := Aside0.mk (below_step (by repeat (first | (with_reducible first | exact HB.out | apply below_alloc | apply pw_below_drewN | apply below_drew1) | exact HB.out)) hb); clear HO_5; clear HB; have HO_5 := n0_; have HB := n1_; clear n0_ n1_; (try clear hb); (try clear hb2); (try clear hk); (try clear hi)))
                      go_ret
                      exact ⟨by first | rfl | (simp [errW_none, errW_some] <;> rfl) | (simp [*, errW_none, errW_some] <;> rfl), by repeat (first | (with_reducible first | exact HB.out | apply below_alloc | apply pw_below_drewN | apply below_drew1) | exact HB.out)⟩

/-- THE ONE PURE STATEMENT of laws_FnAdEvery: yours. -/
def laws_FnAdEvery.Pure : Prop := ∀ (a0 : ByteArray) (l1 : List Int), a0.size ≤ 140737488351232 → l1.length ≤ maxLen → l1.length * 1 ≤ 140737488351232 → (∀ x ∈ l1, (Lit.int .u8 x).wf = true) → ∃ k, laws_FnAdEvery.f k a0 l1 = some true
theorem laws_FnAdEvery.walk (P : laws_FnAdEvery.Pure) (a0 : ByteArray) (a1 : Option Addr) (len1 cap1 : Nat) (z1 : List Int) (w : World) (w0 : a0.size ≤ 140737488351232) (w1 : (a1 = none ∧ len1 = 0 ∧ cap1 = 0 ∧ z1 = []) ∨ ∃ x, a1 = some x ∧ len1 ≤ cap1 ∧ cap1 ≤ maxLen ∧ z1.length = cap1 ∧ (∀ i, i < z1.length → w.cell? (x.add i) = some (.int .u8 (z1.getD i 0))) ∧ ∀ n ∈ z1, (Lit.int .u8 n).wf = true) (y1 : len1 * 1 ≤ 140737488351232) :
    Calls Try.prog 7 #[.string a0, .slice a1 len1 cap1] w fun e w' => e = .returned (.bool true) ∧ Below w.heap.size w w' := by
  obtain ⟨l1, rfl, hr1, hm1, hw1, hc1⟩ := ReadsInt.ofRowC w1
  obtain ⟨k, h⟩ := P a0 l1 w0 hm1 y1 hw1
  refine (laws_FnAdEvery.calls k a0 _ _ l1 true w (Kd.C_of_reads (d := (0 : Int)) (h1 := fun _ => rfl) hr1) hc1 h).mono ?_
  rintro e w' ⟨rfl, hd⟩
  exact ⟨rfl, hd⟩

end Go.Proofs.Ythkmgbfobobpdaa.PAd
